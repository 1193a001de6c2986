import PyProof.Rows.All
import Wide.All
import OpenK.AllK
import Wide.FinOn
import PySem.Challenge.RW_pk0043_01
set_option Elab.async false
set_option rowWalk.seconds 0
namespace Mine
section
open PySem PySem.W PyProof.Rows
set_option maxRecDepth 100000 in
set_option maxHeartbeats 8000000 in
open_top hd for PySem.Challenge.rw_pk0043_01
end
section
open PySem PySem.W PyProof.Rows PySem.Calls PySem.SeqAt
theorem canLayAll0_strs : ∀ ns : List Str, (∀ x ∈ ns, PyData.strOk x = true) → PyData.canLayAll0 (ns.map PyData.str) = true
  | [], _ => by simp [PyData.canLayAll0]
  | n :: r, h => by simp [PyData.canLayAll0, PyData.canLay0, canLayAll0_strs r (fun x hx => h x (.tail _ hx)), h n (.head _)]
theorem depthAll_strs : ∀ ns : List Str, PyData.depthAll (ns.map PyData.str) ≤ 1
  | [] => by simp [PyData.depthAll]
  | n :: r => by
    have := depthAll_strs r
    simp only [List.map_cons, PyData.depthAll, PyData.depth]
    omega
theorem shaped_strs (ns : List Str) (hok : ∀ x ∈ ns, PyData.strOk x = true) : shaped (.list (ns.map PyData.str)) = true := by
  have h1 := depthAll_strs ns
  have h2 : PyData.depth (.list (ns.map PyData.str)) ≤ 64 := by simp only [PyData.depth]; omega
  show (PyData.canLay0 (.list (ns.map PyData.str)) && decide (PyData.depth (.list (ns.map PyData.str)) ≤ 64)) = true
  rw [Bool.and_eq_true]
  exact ⟨by simp only [PyData.canLay0]; exact canLayAll0_strs ns hok, decide_eq_true h2⟩
theorem noMix_strs : ∀ ns ms : List Str, noMixAll (ns.map PyData.str) (ms.map PyData.str) = true
  | [], [] => by simp [noMixAll]
  | [], _ :: _ => by simp [noMixAll]
  | _ :: _, [] => by simp [noMixAll]
  | _ :: r, _ :: q => by simp [noMixAll, noMix, noMix_strs r q]
theorem same_strs : ∀ ns ms : List Str, PySem.Spec.sameAll (ns.map PyData.str) (ms.map PyData.str) = decide (ns = ms)
  | [], [] => by simp [PySem.Spec.sameAll]
  | [], _ :: _ => by simp [PySem.Spec.sameAll]
  | _ :: _, [] => by simp [PySem.Spec.sameAll]
  | n :: r, k :: q => by
    simp only [List.map_cons, PySem.Spec.sameAll, PySem.Spec.same, same_strs r q]
    by_cases h : n = k <;> simp [h]
theorem reads_of_strs {h : Heap} {a : Addr} {vs : List Value} {ns : List Str} (hl : h.IsList a vs.toArray) (hi : StrsAre vs ns) : Reads h (.ref a) (.list (ns.map PyData.str)) [a] := by
  obtain ⟨o, ho, hc, n, hd⟩ := hl
  exact Reads.list ho hc hd (by simpa using hi.reads h)
/-- a short list of short words -/
structure Words (vs : List Value) (ws : List Str) : Prop where
  are : StrsAre vs ws
  few : ws.length < 30
  ok : ∀ x ∈ ws, PyData.strOk x = true ∧ x.length < 100
theorem Words.getD {vs : List Value} {ws : List Str} (h : Words vs ws) (i : Nat) : (ws.getD i (PySem.Str.ofString "")).length < 100 := by
  by_cases hi : i < ws.length
  · have e : ws.getD i (PySem.Str.ofString "") = ws[i] := by simp [List.getD, hi]
    rw [e]; exact (h.ok _ (List.getElem_mem hi)).2
  · have e : ws.getD i (PySem.Str.ofString "") = PySem.Str.ofString "" := by simp [List.getD, hi]
    rw [e]; decide
section
variable {prog : Program} {w : World} {A : Around} {E : Value → Shared → Prop} {s : Shared} {h₀ : Heap} {L l : Addr} {m : Str → Option Value} {news : List (Addr × Obj)} {value slice : PySem.Expr} {vs us : List Value} {ws zs : List Str}
theorem eq_strsK {a b : Addr} {Q : Value → Shared → Prop} (hl : s.heap.IsList a vs.toArray) (hi : Words vs ws) (hl' : s.heap.IsList b us.toArray) (hi' : Words us zs) (hu : A.units + 64 < cLine)
    (h : Q (.bool (decide (ws = zs))) s) : wpAny (model prog w) A (compareOp .Eq (.ref a) (.ref b)) Q E s :=
  eq_dataH_same (reads_of_strs hl hi.are) (reads_of_strs hl' hi'.are) (shaped_strs ws fun x hx => (hi.ok x hx).1) (shaped_strs zs fun x hx => (hi'.ok x hx).1) hu (by simp only [noMix]; exact noMix_strs ws zs) (by simp only [PySem.Spec.same]; rw [same_strs]; exact h)
theorem truthy_strsK {Q : Bool → Shared → Prop} (hl : s.heap.IsList l vs.toArray) (hi₀ : Words vs ws)
    (h : Q (decide (0 < ws.length)) { s with toks := s.toks + 1 + 1 }) : wpAny (model prog w) A (truthy (.ref l)) Q E s :=
  have hi := hi₀.are
  have hfit := hi₀.few
  wpAny_truthy_list hl (by have := hi.length; simp only [List.size_toArray]; omega) (by
    have e : (!vs.toArray.isEmpty) = decide (0 < ws.length) := by
      cases hi with
      | nil => rfl
      | cons _ _ _ => simp
    rw [e]; exact h)
theorem len_strsK {Q : Value → Shared → Prop} (hl : s.heap.IsList l vs.toArray) (hi₀ : Words vs ws)
    (h : Q (.int (ws.length : Nat) (s.toks + 1)) { s with toks := s.toks + 1 + 1 }) : wpAny (model prog w) A (call (.builtin "len") [.ref l]) Q E s := by
    have hi := hi₀.are
    have hfit := hi₀.few
    have e : vs.toArray.size = ws.length := by simp [hi.length]
    refine Calls.call_len_list hl (by omega) ?_
    rw [e]
    exact h
/-- what xs[lo:hi] picks -/
def pickS (ws : List Str) (lo hi : Option Int) : List Str := (ws.drop (kms_lo lo ws.length)).take (kms_hi hi ws.length - kms_lo lo ws.length)
theorem strs_pick {lo hi : Option Int} (h : Words vs ws) : Words (kms_pick vs lo hi) (pickS ws lo hi) := by
  refine ⟨?_, ?_, fun x hx => h.ok x ?_⟩
  · unfold kms_pick pickS
    rw [h.are.length]
    exact StrsAre.take' (StrsAre.drop' h.are _) _
  · have := h.few
    unfold pickS
    simp only [List.length_take, List.length_drop]
    omega
  · unfold pickS at hx
    exact List.mem_of_mem_drop (List.mem_of_mem_take hx)
theorem slice_strsK {vl vu : Value} {lo hi : Option Int} {Q : Value → Shared → Prop} (F : Fr h₀ L s.heap m) (N : News h₀ L s.heap news) (hl : s.heap.IsList l vs.toArray) (hi' : Words vs ws) (pl : IsPart vl lo) (pu : IsPart vu hi)
    (h : ∀ (D : Addr) (us : List Value) (h' : Heap), Fr h₀ L h' m → News h₀ L h' ((D, listOf us.toArray 0) :: news) → (∀ p ∈ news, p.1 < D) → Words us (pickS ws lo hi) → Q (.ref D) { s with heap := h' })
    (hs : subscripted slice false (.ref l) (.ref s.heap.objs.size) = operate [.ref s.heap.objs.size, .ref l] (getItem (.ref l) (.ref s.heap.objs.size))) (ht : ∀ r, letTemporaryGo value (.ref l) r = pure ()) :
    wpAny (model prog w) A (subscriptTail value slice (.ref l) (.ref s.heap.objs.size)) Q E { s with heap := s.heap.push { cls := .type "slice", data := .fields #[vl, vu, .none] } } :=
  kms_slice_lit F N hl pl pu rfl (fun D h' F' N' l1 => h D _ h' F' N' l1 (by simpa using strs_pick hi')) hs ht (by have := hi'.are.length; have := hi'.few; simp only [List.size_toArray, sizeLine_eq]; omega)
theorem item_strsK {k : Int} {u : Tok} {Q : Value → Shared → Prop} (hl : s.heap.IsList l vs.toArray) (hi₀ : Words vs ws) (h0 : 0 ≤ k) (h1 : k < ws.length)
    (h : ∀ t, Q (.str (ws.getD k.toNat (PySem.Str.ofString "")) t) s)
    (hs : subscripted slice false (.ref l) (.int k u) = operate [.ref l, .int k u] (getItem (.ref l) (.int k u)) := by with_unfolding_all rfl) (hg : ∀ r, letTemporaryGo value (.ref l) r = pure () := by intro _; with_unfolding_all rfl) :
    wpAny (model prog w) A (subscriptTail value slice (.ref l) (.int k u)) Q E s := by
  have hi := hi₀.are
  have hfit := hi₀.few
  have hk : k.toNat < ws.length := by omega
  have e : ws[k.toNat]? = some (ws.getD k.toNat (PySem.Str.ofString "")) := by simp [List.getD, hk]
  obtain ⟨t, ht⟩ := hi.get _ _ e
  exact item_listL hl h0 (by omega) ht (h t) hs hg
theorem item_strsB {k : Int} {u : Tok} {Q : Value → Shared → Prop} (hl : s.heap.IsList l vs.toArray) (hi₀ : Words vs ws) (h0 : k < 0) (h1 : -(ws.length : Int) ≤ k)
    (h : ∀ t, Q (.str (ws.getD (k + (ws.length : Int)).toNat (PySem.Str.ofString "")) t) s)
    (hs : subscripted slice false (.ref l) (.int k u) = operate [.ref l, .int k u] (getItem (.ref l) (.int k u)) := by with_unfolding_all rfl) (hg : ∀ r, letTemporaryGo value (.ref l) r = pure () := by intro _; with_unfolding_all rfl) :
    wpAny (model prog w) A (subscriptTail value slice (.ref l) (.int k u)) Q E s := by
  have hi := hi₀.are
  have hfit := hi₀.few
  have hlen := hi.length
  have hk : (k + (ws.length : Int)).toNat < ws.length := by omega
  have e : ws[(k + (ws.length : Int)).toNat]? = some (ws.getD (k + (ws.length : Int)).toNat (PySem.Str.ofString "")) := by simp [List.getD, hk]
  obtain ⟨t, ht⟩ := hi.get _ _ e
  exact subscriptTail_builtin hl.typeIs slot_list_getitem.lookup (wpAny_getItem_list_neg hl h0 (by rw [List.size_toArray, hlen]; exact h1) (by omega) (by rw [List.size_toArray, hlen]; simpa using ht) (h t)) hs hg
end
theorem gen_E {prog : Program} {w : World} {A : Around} {E : Value → Shared → Prop} {s : Shared} {body : List Stmt} {env : Env} {Q : Flow → Shared → Prop} (hPE : PassesOwn (model prog w) A env E)
    (h : ∀ E', PassesOwn (model prog w) A env E' → wpAny (model prog w) A (execs body env) Q E' s) : wpAny (model prog w) A (execs body env) Q E s := h E hPE
section
variable {prog : Program} {w : World} {A₀ A : Around} {s : Shared} {base h₀ : Heap} {outer : List Env} {L : Addr} {m mg mb : Str → Option Value} {env : Env} {K : Frag} {p : Program} {loose : List Str} {mean : ExcName → Option Value}
  {Q E : Value → Shared → Prop} {name qual : Str} {params : Arguments} {body : List Stmt} {scope : Scope} {dV kV doc pm cdv ct oc : Value} {an od : Option Addr} {osl : Array (Option Value)} {f : Addr} {args : List Value} {binds : List (Str × Value)}
/-- a call of a def that changes nothing that was there: the whole heap at hand is its ground -/
theorem pure_plain (B : Below A₀ base outer h₀) (F : Fr h₀ L s.heap m) (X : K.In h₀) (T : Top p loose mean mg mb h₀) (hA : A.frames = some (env :: outer)) (hf : env.frame = some L) (hke : env.scope.kind = .function)
    (ho : K.lookup f = some ⟨oc, od, .func (fnOf name qual params body scope dV kV doc pm an cdv ct), osl⟩) (hcd : codeIn K cdv qual = true) (hroom : A.depth < recursionLimit)
    (hbind : BindsTo s (fnOf name qual params body scope dV kV doc pm an cdv ct) ⟨args, []⟩ binds) (hloc : ∀ y ∈ binds, scope.names.lookup y.1 = some .local)
    (h : ∀ L' h₁ tk (QQ : Flow → Shared → Prop) (EE : Value → Shared → Prop), PassesOwn (model prog w) (A.deeper (envOf qual scope L' f cdv)) (envOf qual scope L' f cdv) EE → (∀ v s', Q v s' → QQ (.ret v) s') → Fr s.heap L' h₁ (fun y => binds.reverse.lookup y) → News s.heap L' h₁ [] →
      Below A base (env :: outer) s.heap → K.In s.heap → Top p loose mean mg mb s.heap →
      wpAny (model prog w) (A.deeper (envOf qual scope L' f cdv)) (execs body (envOf qual scope L' f cdv)) QQ EE { s with heap := h₁, toks := tk })
    (hcell : ∀ x ∈ scope.names, x.2 ≠ .cell) (hco : scope.isCoroutine = false := by rfl) (hgen : scope.isGenerator = false := by rfl) (hk : scope.kind = .function := by rfl) :
    wpAny (model prog w) A (call (.ref f) args) Q E s := by
  refine wpAny_call ?_
  have X' := X.keeps F.keep
  have T' : Top p loose mean mg mb s.heap := T.keeps F.keep
  refine codeAny_call_def (fd := fnOf name qual params body scope dV kV doc pm an cdv ct) (body := body) (binds := binds) hroom (X' _ _ ho) rfl T'.nolimit (codeRec_of X' hcd) rfl hbind hcell hloc (fun h₁ hns hk₁ => ?_) hco hgen hk
  refine wpAny_mono (h s.heap.objs.size h₁ _ (fun fl s' => match fl with | .ret v => Q v s' | _ => Q .none s') _ (by passes_own) (fun v s' q => q) ⟨hns, hk₁, Nat.le_refl _⟩ News.nil ⟨hA, (pushX B F hf hke).stays, (pushX B F hf hke).frames⟩ X' T') ?_ fun _ _ y => y
  intro fl s' q
  cases fl <;> exact q
end
section
variable {prog : Program} {w : World} {A : Around} {E : Value → Shared → Prop} {s : Shared} {env : Env} {h₀ : Heap} {L : Addr} {Q : Flow → Shared → Prop}
/-- a while by what holds between its turns (J at a measure), its body leaving by its end alone -/
theorem my_while {test : Expr} {body : List Stmt} {pos : Pos} {m : Str → Option Value} {news : List (Addr × Obj)} (J : Nat → (Str → Option Value) → List (Addr × Obj) → Prop) {n₀ : Nat} (hE : PassesOwn (model prog w) A env E)
    (F : Fr h₀ L s.heap m) (N : News h₀ L s.heap news) (hJ : J n₀ m news)
    (turn : ∀ n m₁ news₁ h₁ tk₁ (R : Flow → Shared → Prop), Fr h₀ L h₁ m₁ → News h₀ L h₁ news₁ → J n m₁ news₁ →
      (∀ n' m' news' h' tk', Fr h₀ L h' m' → News h₀ L h' news' → n' < n → J n' m' news' → R .next { s with heap := h', toks := tk' }) →
      wpAny (model prog w) A (PySem.isTrue test env (eval test env)) (fun b s₂ => if b = true then wpAny (model prog w) A (execs body env) R E s₂ else Q .next s₂) E { s with heap := h₁, toks := tk₁ }) :
    wpAny (model prog w) A (exec (.While test body [] pos) env) Q E s := by
  refine While_inv2 J F N hJ (fun n m₁ news₁ h₁ tk₁ F₁ N₁ hJ₁ => ?_) hE
  refine wpAny_mono (turn n m₁ news₁ h₁ tk₁ (WhileStep2 h₀ L s J Q n) F₁ N₁ hJ₁ fun n' m' news' h' tk' F' N' hn hJ' => ?_) (fun _ _ x => x) fun _ _ x => x
  exact ⟨h', tk', m', news', n', rfl, F', N', hn, hJ'⟩
end
section
variable {prog : Program} {w : World} {A : Around} {E : Value → Shared → Prop} {s : Shared} {env : Env} {h₀ : Heap} {x : Str} {body : List Stmt} {Q : Flow → Shared → Prop}
/-- a for over a range by what holds between its turns -/
theorem my_range {r : Addr} {b₀ : Int} {t₀ u₀ v₀ : Tok} {n : Nat} {m₀ : Str → Option Value} {news : List (Addr × Obj)} (J : Nat → (Str → Option Value) → List (Addr × Obj) → Prop)
    (hh : A.handled = none) (hr : IsRange s.heap r 0 b₀ 1 t₀ u₀ v₀) (hn : b₀ = (n : Int)) (hs : n < 1000) (F : Fr h₀ env.locals s.heap m₀) (N : News h₀ env.locals s.heap news) (hJ : J 0 m₀ news)
    (turn : ∀ i t m₁ nx h tk own (R : Flow → Shared → Prop), i < n → OwnOff own (news.map (·.1)) → nx.map (·.1) = news.map (·.1) → J i m₁ nx → Fr h₀ env.locals h (fun y => if y = x then some (.int (i : Int) t) else m₁ y) → News h₀ env.locals h (nx ++ own) →
      (∀ m' nx' news' h' tk', Fr h₀ env.locals h' m' → News h₀ env.locals h' news' → (∀ p ∈ nx', p ∈ news') → (∀ p ∈ own, p ∈ news') → nx'.map (·.1) = news.map (·.1) → J (i + 1) m' nx' → R .next { s with heap := h', toks := tk' }) →
      (∀ v s₂, Q (.ret v) s₂ → R (.ret v) s₂) →
      wpAny (model prog w) A (execs body env) R E { s with heap := h, toks := tk })
    (done : ∀ m₁ nx h tk, J n m₁ nx → Fr h₀ env.locals h m₁ → News h₀ env.locals h nx → Q .next { s with heap := h, toks := tk }) :
    wpAny (model prog w) A (pyIter (.ref r)) (fun it s₂ => LoopAtV prog w A h₀ env x body Q E it s₂) E s := by
  have hn' : Builtin.Range.rangeSize 0 b₀ 1 = (n : Int) := by
    subst hn
    simp only [Builtin.Range.rangeSize]
    rw [if_pos (by decide)]
    by_cases h0 : (0 : Int) < (n : Int)
    · rw [if_pos h0]; omega
    · rw [if_neg h0]; omega
  have hsmall : Builtin.Range.small 0 b₀ 1 = true := by
    subst hn
    exact small_one (by decide) (by decide) (by omega) (by omega)
  refine wpAny_pyIter_range hr hsmall ?_
  have W : Walks prog w A s.heap.objs.size [s.heap.objs.size] [s.heap.objs.size] n (fun i v => i < n ∧ ∃ t, v = .int (0 + i * 1) t)
      (fun i h => IsRangeIter h s.heap.objs.size (0 + (i : Nat) * 1) ((n : Int) - (i : Nat)) 1) := (Walks.range hh _ 0 1 n).bound
  refine loop_invN J W ?_ ?_ ?_ ?_ (by show IsRangeIter _ _ _ _ _; rw [hn']; simpa using Heap.get?_push_size _ rfl) (F.push _) (fun p hp => ⟨Heap.get?_push_of_some _ (N p hp).1, (N p hp).2⟩) hJ ?_ ?_
  · intro hm
    exact absurd F.ns.lt ((List.mem_singleton.mp hm) ▸ Nat.lt_irrefl _)
  · intro b hb
    rw [List.mem_singleton.mp hb]
    exact next_is_new F
  · intro p hp hI
    exact absurd (Heap.lt_size (N p hp).1) ((List.mem_singleton.mp hI) ▸ Nat.lt_irrefl _)
  · intro p hp hI
    exact absurd (Heap.lt_size (N p hp).1) ((List.mem_singleton.mp hI) ▸ Nat.lt_irrefl _)
  · rintro i v m₁ nx h tk own hi ⟨_, t, rfl⟩ hadr hoff hJ₁ F₁ N₁
    have e1 : (0 : Int) + (i : Int) * 1 = (i : Int) := by omega
    rw [e1] at F₁
    exact turn i t m₁ nx h tk own _ hi hoff hadr hJ₁ F₁ N₁ (fun m' nx' news' h' tk' F' N' h1 h2 h3 hJ' => InvEndN.intro F' N' hJ' h3 h1 h2) (fun v s₂ q => q)
  · exact fun m₁ nx h tk a b c => done m₁ nx h tk a b c
end
theorem cutQ {α : Type} {M : Model} {A : Around} {t : Sem α} {Q : α → Shared → Prop} {E : Value → Shared → Prop} {s : Shared} (MID : α → Shared → Prop) (h1 : ∀ R : α → Shared → Prop, (∀ a s', MID a s' → R a s') → wpAny M A t R E s)
    (h2 : ∀ a s', MID a s' → Q a s') : wpAny M A t Q E s := h1 Q h2
theorem lookup_if {v : Value} {k y : Str} {r : List (Str × Value)} : List.lookup y ((k, v) :: r) = if y = k then some v else List.lookup y r := by
  rw [List.lookup_cons]
  by_cases h : y = k
  · subst h; simp
  · rw [if_neg h]
    have : (y == k) = false := by simpa using h
    rw [this]
theorem fr_eq {h₀ h : Heap} {L : Addr} {m m' : Str → Option Value} (F : Fr h₀ L h m) (e : ∀ y, m y = m' y) : Fr h₀ L h m' := by
  have : m = m' := funext e
  rw [← this]; exact F
theorem known {m m2 : Str → Option Value} {k : Str} {v : Value} (hm : m2 = m) (e : m k = some v) : (fun y => if y = k then some v else m2 y) = m := by
  subst hm
  funext y
  by_cases hy : y = k
  · subst hy; simp [e]
  · simp [hy]
theorem fr_as {h₀ h : Heap} {L : Addr} {m m2 : Str → Option Value} (F : Fr h₀ L h m) (e : m2 = m) : Fr h₀ L h m2 := e ▸ F
theorem fr_known {h₀ h : Heap} {L : Addr} {m : Str → Option Value} {k : Str} {v : Value} (F : Fr h₀ L h m) (e : m k = some v) : Fr h₀ L h (fun y => if y = k then some v else m y) := by
  have : (fun y => if y = k then some v else m y) = m := by
    funext y
    by_cases hy : y = k
    · subst hy; simp [e]
    · simp [hy]
  rw [this]; exact F
end
section
open PySem PySem.W PyProof.Rows
/-- what _substitution_cost answers -/
def cost (x y : Str) : Int := if (x == y) = true then 0 else if (Txt.lower x == Txt.lower y) = true then 1 else 2
theorem cost_0 {x y : Str} (h : (x == y) = true) : cost x y = 0 := by unfold cost; rw [if_pos h]
theorem cost_1 {x y : Str} (h : (x == y) = false) (h' : (Txt.lower x == Txt.lower y) = true) : cost x y = 1 := by unfold cost; rw [if_neg (by rw [h]; decide), if_pos h']
theorem cost_2 {x y : Str} (h : (x == y) = false) (h' : (Txt.lower x == Txt.lower y) = false) : cost x y = 2 := by unfold cost; rw [if_neg (by rw [h]; decide), if_neg (by rw [h']; decide)]
set_option maxRecDepth 100000 in
set_option maxHeartbeats 400000 in
theorem sub_cost {prog : Program} {w : World} {mean : ExcName → Option Value} {mg mb : Str → Option Value} {dp un : Nat} {gd : Option (List Code)} {cn : Str} {cs : Scope} {a : Addr} {ccd : Value} {cl : List (Str × Addr)} {outer : List Env} {A₀ : Around} {base h₀ : Heap} {L : Addr} {m : Str → Option Value} {s : Shared} {Q E : Value → Shared → Prop} {x y : Str} {tx ty : Tok}
    (B : Below A₀ base outer h₀) (F : Fr h₀ L s.heap m) (X : (Mine.hd.heap_39 w.params).In h₀) (T : Top Mine.hd.view_39 (looseW Mine.hd.view_39 []) mean mg mb h₀) (hk : cs.kind = .function)
    (hd : dp + 1 < recursionLimit) (hx : x.length < 100) (hy : y.length < 100)
    (hret : ∀ t h' tk', s.heap.StaysIn h' → Q (.int (cost x y) t) { s with heap := h', toks := tk' }) :
    wpAny (model prog w) (ktrTop dp un gd cn cs L a ccd cl outer) (call (.ref 21) [.str x tx, .str y ty]) Q E s := by
  have dummy : (PySem.Challenge.rw_pk0043_01 = PySem.Challenge.rw_pk0043_01) ∧ Mine.hd.heap_39 = Mine.hd.heap_39 := by k_fill; exact ⟨rfl, rfl⟩
  clear dummy; w_top off
  k_dflt (refine' pure_plain (binds := [(PySem.Str.ofString "ch_a", Value.str x tx), (PySem.Str.ofString "ch_b", Value.str y ty)]) B F X T rfl rfl hk ?k6 ?k7 ?k8 ?k9 ?kB ?_ ?c5 ?c2 ?c3 ?c4; (case k6 => k_is); (case k7 => k_is); (case k8 => ktr_room); (case k9 => exact BindsTo.of_eq rfl); (case c5 => decide); (case kB => exact locs rfl); (case c2 => exact rfl); (case c3 => exact rfl); (case c4 => exact rfl))
  intro L1 h1 tk1 QQ EE hPE hQ F1 N1 B1 X1 T1
  replace F1 := fr_eq (m' := fun y' => if y' = PySem.Str.ofString "ch_b" then some (Value.str y ty) else if y' = PySem.Str.ofString "ch_a" then some (Value.str x tx) else none) F1 (fun y' => by
    show List.lookup y' [(PySem.Str.ofString "ch_b", Value.str y ty), (PySem.Str.ofString "ch_a", Value.str x tx)] = _
    rw [lookup_if, lookup_if]; rfl)
  clear B F X T
  k_steps
  · have e := cost_0 (x := x) (y := y) (by assumption)
    rw [e] at hret
    exact hQ _ _ (hret _ _ _ F1.keep)
  · have e := cost_1 (x := x) (y := y) (by assumption) (by assumption)
    rw [e] at hret
    exact hQ _ _ (hret _ _ _ F1.keep)
  · have e := cost_2 (x := x) (y := y) (by assumption) (by assumption)
    rw [e] at hret
    exact hQ _ _ (hret _ _ _ F1.keep)
end
section
open PySem PySem.W PyProof.Rows PySem.Calls PyProof.V
section
variable {prog : Program} {w : World} {A : Around} {E : Value → Shared → Prop} {s : Shared} {h₀ : Heap} {L : Addr} {m : Str → Option Value} {news : List (Addr × Obj)}
set_option maxRecDepth 100000 in
theorem list_row {r : Addr} {n : Nat} {t u v : Tok} {Q : Value → Shared → Prop} (hh : A.handled = none) (F : Fr h₀ L s.heap m) (N : News h₀ L s.heap news) (hr : IsRange s.heap r 2 (2 * ((n : Int) + 1)) 2 t u v) (hn : n < 1000)
    (h : ∀ (D : Addr) (c : Nat) (ys : List Value) (h' : Heap) (tk : Nat), Fr h₀ L h' m → News h₀ L h' ((D, listOf ys.toArray c) :: news) → (∀ p ∈ news, p.1 < D) → IntsAre ys (rangeInts 2 2 n) → Q (.ref D) { s with heap := h', toks := tk }) :
    wpAny (model prog w) A (call (.type "list") [.ref r]) Q E s := by
  have hsz : Builtin.Range.rangeSize 2 (2 * ((n : Int) + 1)) 2 = (n : Int) := by
    unfold Builtin.Range.rangeSize
    simp only [show (2 : Int) > 0 by decide, if_true]
    split <;> omega
  have hsm : Builtin.Range.small 2 (2 * ((n : Int) + 1)) 2 = true := by
    have q1 : (2 : Int) * ((n : Int) + 1) < 2 ^ 60 := by omega
    have q0 : 0 ≤ (2 : Int) * ((n : Int) + 1) := by omega
    generalize (2 : Int) * ((n : Int) + 1) = b at hsz q1 q0
    unfold Builtin.Range.small
    rw [hsz]
    have z : ∀ i : Int, -1000000 < i → i < 2 ^ 62 → Builtin.Range.rangeFitsLong i = true := by
      intro i h1 h2
      unfold Builtin.Range.rangeFitsLong
      rw [Bool.and_eq_true]
      exact ⟨decide_eq_true (by omega), decide_eq_true (by omega)⟩
    rw [z 2 (by decide) (by decide), z b (by omega) (by omega), z (n : Int) (by omega) (by omega), if_pos (by decide), z (b + (2 - 1)) (by omega) (by omega)]
    simp
  refine list_rangeD hh F N hr hsm hsz (by omega) fun h' tk ys F' N' hk hnone hl hp hc => ?_
  obtain ⟨c, N2⟩ := made_enters hp F' N' hnone
  have hi : IntsAre ys (rangeInts 2 2 n) := by
    have := CarriedAll.intsOf (f := fun x => x) hc
    simpa using this
  exact h _ c ys h' tk F' N2 (fun p hp' => Heap.lt_size (N p hp').1) hi
end
theorem fr_as1 {h₀ h : Heap} {L : Addr} {m m2 : Str → Option Value} {x : Str} {v : Option Value} (F : Fr h₀ L h (fun y => if y = x then v else m y)) (e : m2 = m) : Fr h₀ L h (fun y => if y = x then v else m2 y) := by
  subst e; exact F
/-- one turn of the inner loop on the row, the distance, the result, the least -/
def innerStep (bc : Str) (a : List Str) (i : Nat) (st : List Int × Int × Int × Int) : List Int × Int × Int × Int :=
  let u := st.2.1 + cost bc (a.getD i (PySem.Str.ofString ""))
  let v := (if st.1.getD i 0 < st.2.2.1 then st.1.getD i 0 else st.2.2.1) + 2
  let r' := if u < v then u else v
  (st.1.set i r', st.1.getD i 0, r', if r' < st.2.2.2 then r' else st.2.2.2)
def innerN (bc : Str) (a : List Str) (rs0 : List Int) (d0 : Int) : Nat → List Int × Int × Int × Int
  | 0 => (rs0, d0, d0, 9223372036854775807)
  | i + 1 => innerStep bc a i (innerN bc a rs0 d0 i)
theorem innerN_len (bc : Str) (a : List Str) (rs0 : List Int) (d0 : Int) : ∀ i, (innerN bc a rs0 d0 i).1.length = rs0.length
  | 0 => rfl
  | i + 1 => by simp only [innerN, innerStep, List.length_set]; exact innerN_len bc a rs0 d0 i
/-- the outer loop, i turns; none: it has returned -/
def outerN (a b : List Str) (mc : Int) : Nat → Option (List Int × Int)
  | 0 => some (rangeInts 2 2 a.length, 0)
  | i + 1 => match outerN a b mc i with
    | none => none
    | some st => if mc < (innerN (b.getD i (PySem.Str.ofString "")) a st.1 ((i : Int) * 2) a.length).2.2.2 then none
        else some ((innerN (b.getD i (PySem.Str.ofString "")) a st.1 ((i : Int) * 2) a.length).1, (innerN (b.getD i (PySem.Str.ofString "")) a st.1 ((i : Int) * 2) a.length).2.2.1)
theorem outerN_none {a b : List Str} {mc : Int} {i : Nat} (h : outerN a b mc i = none) : ∀ j, i ≤ j → outerN a b mc j = none := by
  intro j hj
  induction j with
  | zero => have : i = 0 := by omega
            subst this; exact h
  | succ j ih =>
    by_cases hij : i = j + 1
    · subst hij; exact h
    · have := ih (by omega)
      simp only [outerN, this]
def levEnd (mc : Int) : Option (List Int × Int) → Int
  | none => mc + 1
  | some st => st.2
def levCore (a b : List Str) (mc : Int) : Int :=
  if mc < ((b.length : Int) - (a.length : Int)) * 2 then mc + 1 else levEnd mc (outerN a b mc b.length)
end
section
open PySem PySem.W PyProof.Rows

/-- how many words two rows begin with alike -/
def preLen : List Str → List Str → Nat
  | a :: as, b :: bs => if (a == b) = true then preLen as bs + 1 else 0
  | _, _ => 0
theorem preLen_nil_l (b : List Str) : preLen [] b = 0 := by cases b <;> rfl
theorem preLen_nil_r (a : List Str) : preLen a [] = 0 := by cases a <;> rfl
theorem drop_cons {ws : List Str} {k : Nat} (h : k < ws.length) : ws.drop k = ws.getD k (PySem.Str.ofString "") :: ws.drop (k + 1) := by
  rw [List.drop_eq_getElem_cons h]; simp [List.getD, h]
theorem preLen_step {a b : List Str} {k : Nat} (ha : k < a.length) (hb : k < b.length) (e : (a.getD k (PySem.Str.ofString "") == b.getD k (PySem.Str.ofString "")) = true) :
    preLen (a.drop k) (b.drop k) = preLen (a.drop (k + 1)) (b.drop (k + 1)) + 1 := by
  rw [drop_cons ha, drop_cons hb]; simp only [preLen]; rw [if_pos e]
theorem preLen_stop {a b : List Str} {k : Nat} (ha : k < a.length) (hb : k < b.length) (e : (a.getD k (PySem.Str.ofString "") == b.getD k (PySem.Str.ofString "")) = false) :
    preLen (a.drop k) (b.drop k) = 0 := by
  rw [drop_cons ha, drop_cons hb]; simp only [preLen]; rw [if_neg (by rw [e]; decide)]
theorem preLen_end_l {a b : List Str} {k : Nat} (ha : a.length ≤ k) : preLen (a.drop k) (b.drop k) = 0 := by
  rw [List.drop_eq_nil_of_le ha]; exact preLen_nil_l _
theorem preLen_end_r {a b : List Str} {k : Nat} (hb : b.length ≤ k) : preLen (a.drop k) (b.drop k) = 0 := by
  rw [List.drop_eq_nil_of_le hb]; exact preLen_nil_r _
theorem pickS_from (ws : List Str) (k : Nat) : pickS ws (some (k : Int)) none = ws.drop k := by
  unfold pickS kms_lo kms_hi
  have h : ¬ ((k : Int) < 0) := by omega
  simp only [if_neg h, Int.toNat_natCast]
  by_cases hk : k ≤ ws.length
  · rw [Nat.min_eq_left hk]
    exact List.take_of_length_le (by simp)
  · rw [Nat.min_eq_right (by omega)]
    simp; omega
theorem pickS_all (ws : List Str) : pickS ws none none = ws := by
  unfold pickS kms_lo kms_hi
  simp
theorem pickS_neg {ws : List Str} {j : Nat} (h : -(j : Int) ≠ 0) : pickS ws none (some (-(j : Int))) = ws.take (ws.length - j) := by
  unfold pickS kms_lo kms_hi
  have h' : -(j : Int) < 0 := by omega
  simp only [if_pos h']
  have e : (-(-(j : Int))).toNat = j := by omega
  rw [e]; simp
/-- what _levenshtein_distance answers -/
def levAll (wa wb : List Str) (mc : Int) : Int :=
  if wa = wb then 0 else
    let a1 := wa.drop (preLen wa wb)
    let b1 := wb.drop (preLen wa wb)
    let a2 := a1.take (a1.length - preLen a1.reverse b1.reverse)
    let b2 := b1.take (b1.length - preLen a1.reverse b1.reverse)
    if a2.length = 0 ∨ b2.length = 0 then 2 * ((a2.length : Int) + (b2.length : Int))
    else if b2.length < a2.length then levCore b2 a2 mc else levCore a2 b2 mc
theorem item_strsR {prog : Program} {w : World} {A : Around} {E : Value → Shared → Prop} {s : Shared} {l : Addr} {value slice : PySem.Expr} {vs : List Value} {ws : List Str} {j : Nat} {u : Tok} {Q : Value → Shared → Prop} (hl : s.heap.IsList l vs.toArray) (hi₀ : Words vs ws) (h1 : j < ws.length)
    (h : ∀ t, Q (.str (ws.reverse.getD j (PySem.Str.ofString "")) t) s)
    (hs : subscripted slice false (.ref l) (.int (-(j : Int) - 1) u) = operate [.ref l, .int (-(j : Int) - 1) u] (getItem (.ref l) (.int (-(j : Int) - 1) u)) := by with_unfolding_all rfl) (hg : ∀ r, letTemporaryGo value (.ref l) r = pure () := by intro _; with_unfolding_all rfl) :
    wpAny (model prog w) A (subscriptTail value slice (.ref l) (.int (-(j : Int) - 1) u)) Q E s := by
  refine item_strsB hl hi₀ (by omega) (by omega) (fun t => ?_) hs hg
  have e : (-(j : Int) - 1 + (ws.length : Int)).toNat = ws.length - 1 - j := by omega
  have e2 : ws.reverse.getD j (PySem.Str.ofString "") = ws.getD (ws.length - 1 - j) (PySem.Str.ofString "") := by
    simp [List.getD, List.getElem?_reverse h1]
  rw [e, ← e2]; exact h t
local macro_rules | `(tactic| walk_at "subscriptTail Name BinOp ref int") => `(tactic| (k_here; (with_reducible show wpAny _ _ (subscriptTail _ _ (Value.ref _) (Value.int _ _)) _ _ _); (with_unfolding_all refine' item_strsR ?k1 ?k2 ?k3 ?_ ?k5 ?k6; (case k1 => kmk_list); (case k2 => with_reducible assumption); (case k3 => omega); (case k5 => with_unfolding_all rfl); (case k6 => (intro _; with_unfolding_all rfl)); k_whole); intro _))
local macro_rules | `(tactic| walk_at "compareOp Eq ref ref") => `(tactic| (k_here; (with_reducible show wpAny _ _ (compareOp CmpOp.Eq (Value.ref _) (Value.ref _)) _ _ _); (with_unfolding_all refine' eq_strsK ?k1 ?k2 ?k3 ?k4 ?k5 ?_; (case k1 => kmk_list); (case k2 => with_reducible assumption); (case k3 => kmk_list); (case k4 => with_reducible assumption); (case k5 => units_room); k_whole)))
local macro_rules | `(tactic| walk_at "truthy ref") => `(tactic| (k_here; (with_reducible show wpAny _ _ (truthy (Value.ref _)) _ _ _); (with_unfolding_all refine' truthy_strsK ?k1 ?k2 ?_; (case k1 => kmk_list); (case k2 => with_reducible assumption); k_whole); (try simp only [List.length_drop, List.length_take])))
local macro_rules | `(tactic| walk_at "call builtin:len") => `(tactic| (k_here; (with_reducible show wpAny _ _ (call (Value.builtin "len") [Value.ref _]) _ _ _); (with_unfolding_all refine' len_strsK ?k1 ?k2 ?_; (case k1 => kmk_list); (case k2 => with_reducible assumption); k_whole)))
local macro_rules | `(tactic| walk_at "subscriptTail Name Slice ref ref") => `(tactic| (k_here; (with_reducible show wpAny _ _ (subscriptTail _ (PySem.Expr.Slice _ _ none _) (Value.ref _) (Value.ref _)) _ _ _); k_dflt (refine' slice_strsK ?F ?N ?l ?w ?p ?q ?_ ?s ?t; (case F => k_asm); (case N => k_asm); (case l => kmk_list); (case w => with_reducible assumption); (case p => kmk_part); (case q => kmk_part); (case s => with_unfolding_all rfl); (case t => kmk_pure)); intro D' us' h' F' N' l1 hW'; (try k_lt l1); (try simp only [pickS_from, pickS_all] at hW'); (try rw [pickS_neg (by omega)] at hW'); (try k_sweep)))
local macro_rules | `(tactic| walk_at "subscriptTail Name Name ref int") => `(tactic| (k_here; (with_reducible show wpAny _ _ (subscriptTail _ _ (Value.ref _) (Value.int _ _)) _ _ _); (with_unfolding_all refine' item_strsK ?k1 ?k2 ?k3 ?k4 ?_ ?k5 ?k6; (case k1 => kmk_list); (case k2 => with_reducible assumption); (case k3 => omega); (case k4 => omega); (case k5 => with_unfolding_all rfl); (case k6 => (intro _; with_unfolding_all rfl)); k_whole); intro _; (try simp only [Int.toNat_natCast])))
local macro_rules | `(tactic| tb_rel) => `(tactic| repeat' ((fail_if_success (with_reducible show wpAny _ _ (exec (Stmt.If (PySem.Expr.Compare _ [CmpOp.Lt] _ _) _ _ _) _) _ _ _)); (fail_if_success (with_reducible show wpAny _ _ (exec (Stmt.For _ _ _ _ _) _) _ _ _)); (fail_if_success (with_reducible show wpAny _ _ (pyIter _) _ _ _)); (first | (k_unfold; (try dsimp only)) | (k_end; wrow_close) | walk1 | (dsimp only; walk1) | (leave1; walk_say "STEP leave1"; try dsimp only) | fail "no step")))
local macro_rules | `(tactic| walk_at "call type:list cons nil") => `(tactic| (k_here; (with_reducible show wpAny _ _ (call (Value.type "list") [Value.ref _]) _ _ _); k_dflt (refine' list_row ?k0 ?k1 ?k2 ?k3 ?k4 ?_; (case k0 => rfl); (case k1 => k_asm); (case k2 => k_asm); (case k3 => k_asm); (case k4 => omega)); intro D' c' ys' h' tk' F' N' l1 hI'; (try k_lt l1); (try k_sweep)))
local macro_rules | `(tactic| walk_at "call ref") => `(tactic| (k_here; (with_reducible show wpAny _ _ (call (Value.ref 21) [Value.str _ _, Value.str _ _]) _ _ _); k_dflt (refine' sub_cost ?k1 ?k2 ?k3 ?k4 ?kK ?kd ?kx ?ky ?_; (case k1 => k_asm); (case k2 => k_asm); (case k3 => k_asm); (case k4 => k_asm); (case kK => exact rfl); (case kd => ktr_room); (case kx => exact Words.getD (by assumption) _); (case ky => exact Words.getD (by assumption) _)); intro t9 h9 tk9 hs9; (rename Fr _ _ _ _ => lF'); (rename News _ _ _ _ => lN'); (have F' := Fr.keeps lF' hs9); (have N' := News.grown lN' hs9); clear hs9 lF' lN'; (try dsimp only)))
local macro_rules | `(tactic| k_mem) => `(tactic| (refine' List.Mem.tail _ ?_; assumption))
local macro_rules | `(tactic| k_all) => `(tactic| assumption)
local macro_rules | `(tactic| tb_start) => `(tactic| repeat' ((fail_if_success (with_reducible show wpAny _ _ (exec (Stmt.While _ _ _ _) _) _ _ _)); (fail_if_success (with_reducible show wpAny _ _ (exec (Stmt.For _ _ _ _ _) _) _ _ _)); (fail_if_success (with_reducible show wpAny _ _ (pyIter _) _ _ _)); (first | (k_unfold; (try dsimp only)) | (k_end; wrow_close) | walk1 | (dsimp only; walk1) | (leave1; walk_say "STEP leave1"; try dsimp only) | fail "no step")))
set_option maxRecDepth 100000 in
set_option maxHeartbeats 400000 in
theorem lev {prog : Program} {w : World} {mean : ExcName → Option Value} {mg mb : Str → Option Value} {dp un : Nat} {gd : Option (List Code)} {cn : Str} {cs : Scope} {a : Addr} {ccd : Value} {cl : List (Str × Addr)} {outer : List Env} {A₀ : Around} {base h₀ : Heap} {L : Addr} {m : Str → Option Value} {s : Shared} {Q E : Value → Shared → Prop} {la lb : Addr} {va vb : List Value} {wa wb : List Str} {mc : Int} {tm : Tok}
    (B : Below A₀ base outer h₀) (F : Fr h₀ L s.heap m) (X : (Mine.hd.heap_39 w.params).In h₀) (T : Top Mine.hd.view_39 (looseW Mine.hd.view_39 []) mean mg mb h₀) (hk : cs.kind = .function)
    (hd : dp + 2 < recursionLimit) (hu : un + 100 < cLine) (hva : Words va wa) (hvb : Words vb wb) (hla : s.heap.IsList la va.toArray) (hlb : s.heap.IsList lb vb.toArray)
    (hret : ∀ t h' tk', s.heap.StaysIn h' → Q (.int (levAll wa wb mc) t) { s with heap := h', toks := tk' }) :
    wpAny (model prog w) (ktrTop dp un gd cn cs L a ccd cl outer) (call (.ref 28) [.ref la, .ref lb, .int mc tm]) Q E s := by
  have dummy : (PySem.Challenge.rw_pk0043_01 = PySem.Challenge.rw_pk0043_01) ∧ Mine.hd.heap_39 = Mine.hd.heap_39 := by k_fill; exact ⟨rfl, rfl⟩
  clear dummy; w_top off
  k_dflt (refine' pure_plain (binds := [(PySem.Str.ofString "a", Value.ref la), (PySem.Str.ofString "b", Value.ref lb), (PySem.Str.ofString "max_cost", Value.int mc tm)]) B F X T rfl rfl hk ?k6 ?k7 ?k8 ?k9 ?kB ?_ ?c5 ?c2 ?c3 ?c4; (case k6 => k_is); (case k7 => k_is); (case k8 => ktr_room); (case k9 => exact BindsTo.of_eq rfl); (case c5 => decide); (case kB => exact locs rfl); (case c2 => exact rfl); (case c3 => exact rfl); (case c4 => exact rfl))
  intro L1 h1 tk1 QQ EE hPE hQ F1 N1 B1 X1 T1
  replace F1 := fr_eq (m' := fun y => if y = PySem.Str.ofString "max_cost" then some (Value.int mc tm) else if y = PySem.Str.ofString "b" then some (Value.ref lb) else if y = PySem.Str.ofString "a" then some (Value.ref la) else none) F1 (fun y => by
    show List.lookup y [(PySem.Str.ofString "max_cost", Value.int mc tm), (PySem.Str.ofString "b", Value.ref lb), (PySem.Str.ofString "a", Value.ref la)] = _
    rw [lookup_if, lookup_if, lookup_if]; rfl)
  clear B F X T
  generalize hg : s.heap = g at *
  tb_start
  · have e : levAll wa wb mc = 0 := by unfold levAll; rw [if_pos (by assumption)]
    rw [e] at hret
    rename Fr _ _ _ _ => F2
    exact hQ _ _ (hret _ _ _ F2.keep)
  -- the first while
  rename Fr _ _ _ _ => F2
  rename News _ _ _ _ => N2
  refine cutQ (fun f s' => f = Flow.next ∧ ∃ h' tk m' t, s' = { s with heap := h', toks := tk } ∧ Fr g L1 h' m' ∧ m' (PySem.Str.ofString "a") = some (Value.ref la) ∧ m' (PySem.Str.ofString "b") = some (Value.ref lb) ∧ m' (PySem.Str.ofString "max_cost") = some (Value.int mc tm) ∧ m' (PySem.Str.ofString "pre") = some (Value.int (preLen wa wb : Nat) t)) ?_ ?_
  · intro R hR
    refine my_while (fun n m' _ => ∃ k t, n = wa.length - k ∧ m' (PySem.Str.ofString "a") = some (Value.ref la) ∧ m' (PySem.Str.ofString "b") = some (Value.ref lb) ∧ m' (PySem.Str.ofString "max_cost") = some (Value.int mc tm) ∧ m' (PySem.Str.ofString "pre") = some (Value.int (k : Nat) t) ∧ k ≤ wa.length ∧ k ≤ wb.length ∧ preLen wa wb = k + preLen (wa.drop k) (wb.drop k)) hPE F2 N2 ⟨0, _, rfl, rfl, rfl, rfl, rfl, Nat.zero_le _, Nat.zero_le _, by simp⟩ ?_
    rintro n m' news' h' tk' R2 F3 N3 ⟨k, t, rfl, e1, e2, e3, e4, h1, h2, h3⟩ hR2
    replace F3 := fr_as F3 (known (known (known (known rfl e1) e2) e3) e4)
    clear F2 N2 e1 e2 e3 e4
    replace N3 : News g L1 h' [] := News.nil
    tb_start
    · rename Fr _ _ _ _ => F9
      rename News _ _ _ _ => N9
      have e := preLen_step (a := wa) (b := wb) (k := k) (by omega) (by omega) (by assumption)
      exact hR2 (wa.length - (k + 1)) _ _ _ _ F9 N9 (by omega) ⟨k + 1, _, rfl, rfl, rfl, rfl, rfl, by omega, by omega, by omega⟩
    · rename Fr _ _ _ _ => F9
      have e := preLen_stop (a := wa) (b := wb) (k := k) (by omega) (by omega) (by assumption)
      have e' : preLen wa wb = k := by omega
      exact hR _ _ ⟨rfl, _, _, _, t, rfl, F9, rfl, rfl, rfl, by rw [e']; rfl⟩
    · rename Fr _ _ _ _ => F9
      have e := preLen_end_r (a := wa) (b := wb) (k := k) (by omega)
      have e' : preLen wa wb = k := by omega
      exact hR _ _ ⟨rfl, _, _, _, t, rfl, F9, rfl, rfl, rfl, by rw [e']; rfl⟩
    · rename Fr _ _ _ _ => F9
      have e := preLen_end_l (a := wa) (b := wb) (k := k) (by omega)
      have e' : preLen wa wb = k := by omega
      exact hR _ _ ⟨rfl, _, _, _, t, rfl, F9, rfl, rfl, rfl, by rw [e']; rfl⟩
  rintro f s' ⟨rfl, h3, tk3, m3, t3, rfl, F3, e1, e2, e3, e4⟩
  replace F3 := fr_as F3 (known (known (known (known rfl e1) e2) e3) e4)
  have N3 : News g L1 h3 [] := News.nil
  clear F2 N2 e1 e2 e3 e4
  dsimp only
  tb_start
  rename_i hne u0 D1 U1 h4 l4 W1 h5 D2 U2 h6 l6 W2 h7 h8 F8 N8
  generalize ha1 : List.drop (preLen wa wb) wa = a1 at W1
  generalize hb1 : List.drop (preLen wa wb) wb = b1 at W2
  -- the second while
  refine cutQ (fun f s' => f = Flow.next ∧ ∃ h' tk m' t, s' = { s with heap := h', toks := tk } ∧ Fr g L1 h' m' ∧ News g L1 h' [(D2, listOf U2.toArray 0), (D1, listOf U1.toArray 0)] ∧ m' (PySem.Str.ofString "a") = some (Value.ref D1) ∧ m' (PySem.Str.ofString "b") = some (Value.ref D2) ∧ m' (PySem.Str.ofString "max_cost") = some (Value.int mc tm) ∧ m' (PySem.Str.ofString "post") = some (Value.int (-(preLen a1.reverse b1.reverse : Nat)) t)) ?_ ?_
  · intro R hR
    refine my_while (fun n m' nx => nx = [(D2, listOf U2.toArray 0), (D1, listOf U1.toArray 0)] ∧ ∃ k t, n = a1.length - k ∧ m' (PySem.Str.ofString "a") = some (Value.ref D1) ∧ m' (PySem.Str.ofString "b") = some (Value.ref D2) ∧ m' (PySem.Str.ofString "max_cost") = some (Value.int mc tm) ∧ m' (PySem.Str.ofString "post") = some (Value.int (-(k : Nat)) t) ∧ k ≤ a1.length ∧ k ≤ b1.length ∧ preLen a1.reverse b1.reverse = k + preLen (a1.reverse.drop k) (b1.reverse.drop k)) hPE F8 N8 ⟨rfl, 0, _, rfl, rfl, rfl, rfl, rfl, Nat.zero_le _, Nat.zero_le _, by simp⟩ ?_
    rintro n m' news' h' tk' R2 F3 N3 ⟨rfl, k, t, rfl, e1, e2, e3, e4, h1, h2, h3⟩ hR2
    replace F3 := fr_as F3 (known (known (known (known rfl e1) e2) e3) e4)
    clear F8 N8 e1 e2 e3 e4
    have hra : a1.reverse.length = a1.length := List.length_reverse
    have hrb : b1.reverse.length = b1.length := List.length_reverse
    tb_start
    all_goals first
      | (exfalso; omega)
      | (rename Fr _ _ _ _ => F9
         rename News _ _ _ _ => N9
         have e := preLen_step (a := a1.reverse) (b := b1.reverse) (k := k) (by omega) (by omega) (by assumption)
         exact hR2 (a1.length - (k + 1)) _ _ _ _ F9 (fun p hp => N9 p (.tail _ (.tail _ hp))) (by omega) ⟨rfl, k + 1, _, rfl, rfl, rfl, rfl, congrArg (fun z => some (Value.int z _)) (by omega), by omega, by omega, by omega⟩)
      | (rename Fr _ _ _ _ => F9
         rename News _ _ _ _ => N9
         have e := preLen_stop (a := a1.reverse) (b := b1.reverse) (k := k) (by omega) (by omega) (by assumption)
         have e' : preLen a1.reverse b1.reverse = k := by omega
         exact hR _ _ ⟨rfl, _, _, _, t, rfl, F9, (fun p hp => N9 p (.tail _ (.tail _ hp))), rfl, rfl, rfl, by rw [e']; rfl⟩)
      | (rename Fr _ _ _ _ => F9
         rename News _ _ _ _ => N9
         have e := preLen_end_r (a := a1.reverse) (b := b1.reverse) (k := k) (by omega)
         have e' : preLen a1.reverse b1.reverse = k := by omega
         exact hR _ _ ⟨rfl, _, _, _, t, rfl, F9, (fun p hp => N9 p (.tail _ (.tail _ hp))), rfl, rfl, rfl, by rw [e']; rfl⟩)
      | (rename Fr _ _ _ _ => F9
         rename News _ _ _ _ => N9
         have e := preLen_end_l (a := a1.reverse) (b := b1.reverse) (k := k) (by omega)
         have e' : preLen a1.reverse b1.reverse = k := by omega
         exact hR _ _ ⟨rfl, _, _, _, t, rfl, F9, (fun p hp => N9 p (.tail _ hp)), rfl, rfl, rfl, by rw [e']; rfl⟩)
  rintro f s' ⟨rfl, h3, tk3, m3, t3, rfl, F3, N3, e1, e2, e3, e4⟩
  replace F3 := fr_as F3 (known (known (known (known rfl e1) e2) e3) e4)
  clear F8 N8 e1 e2 e3 e4
  generalize hk9 : preLen a1.reverse b1.reverse = k at *
  dsimp only
  refine wpAny_execs_cons ?_
  refine cutQ (fun f s' => f = Flow.next ∧ ∃ h' tk m' D3 U3, s' = { s with heap := h', toks := tk } ∧ Fr g L1 h' m' ∧ News g L1 h' [(D3, listOf (U3 : List Value).toArray 0), (D2, listOf U2.toArray 0)] ∧ Words U3 (a1.take (a1.length - k)) ∧ m' (PySem.Str.ofString "a") = some (Value.ref D3) ∧ m' (PySem.Str.ofString "b") = some (Value.ref D2) ∧ m' (PySem.Str.ofString "max_cost") = some (Value.int mc tm) ∧ m' (PySem.Str.ofString "post") = some (Value.int (-(k : Nat)) t3)) ?_ ?_
  · intro R hR
    tb_start
    · rename Fr _ _ _ _ => F9
      rename News _ _ _ _ => N9
      exact hR _ _ ⟨rfl, _, _, _, _, _, rfl, F9, kst_newsOf N9 (by k_allIn), by assumption, rfl, rfl, rfl, rfl⟩
    · rename Fr _ _ _ _ => F9
      rename News _ _ _ _ => N9
      exact hR _ _ ⟨rfl, _, _, _, _, _, rfl, F9, kst_newsOf N9 (by k_allIn), by rw [List.take_of_length_le (by omega)]; assumption, rfl, rfl, rfl, rfl⟩
  clear F3 N3
  rintro f s' ⟨rfl, h3, tk3, m3, D3, U3, rfl, F3, N3, W3, e1, e2, e3, e4⟩
  replace F3 := fr_as F3 (known (known (known (known rfl e1) e2) e3) e4)
  clear e1 e2 e3 e4
  dsimp only
  refine wpAny_execs_cons ?_
  refine cutQ (fun f s' => f = Flow.next ∧ ∃ h' tk m' D4 U4, s' = { s with heap := h', toks := tk } ∧ Fr g L1 h' m' ∧ News g L1 h' [(D4, listOf (U4 : List Value).toArray 0), (D3, listOf U3.toArray 0)] ∧ Words U4 (b1.take (b1.length - k)) ∧ m' (PySem.Str.ofString "a") = some (Value.ref D3) ∧ m' (PySem.Str.ofString "b") = some (Value.ref D4) ∧ m' (PySem.Str.ofString "max_cost") = some (Value.int mc tm)) ?_ ?_
  · intro R hR
    tb_start
    · rename Fr _ _ _ _ => F9
      rename News _ _ _ _ => N9
      exact hR _ _ ⟨rfl, _, _, _, _, _, rfl, F9, kst_newsOf N9 (by k_allIn), by assumption, rfl, rfl, rfl⟩
    · rename Fr _ _ _ _ => F9
      rename News _ _ _ _ => N9
      exact hR _ _ ⟨rfl, _, _, _, _, _, rfl, F9, kst_newsOf N9 (by k_allIn), by rw [List.take_of_length_le (by omega)]; assumption, rfl, rfl, rfl⟩
  clear F3 N3
  rintro f s' ⟨rfl, h3, tk3, m3, D4, U4, rfl, F3, N3, W4, e1, e2, e3⟩
  replace F3 := fr_as F3 (known (known (known rfl e1) e2) e3)
  clear e1 e2 e3
  clear l6 l4 W1 W2
  generalize ha2 : a1.take (a1.length - k) = a2 at W3
  generalize hb2 : b1.take (b1.length - k) = b2 at W4
  have la2 := W3.few
  have lb2 := W4.few
  have hA : levAll wa wb mc = if a2.length = 0 ∨ b2.length = 0 then 2 * ((a2.length : Int) + (b2.length : Int)) else if b2.length < a2.length then levCore b2 a2 mc else levCore a2 b2 mc := by
    unfold levAll
    rw [if_neg hne]
    dsimp only
    rw [ha1, hb1, hk9, ha2, hb2]
  clear hk9 ha1 hb1 ha2 hb2
  dsimp only
  refine wpAny_execs_cons ?_
  tb_rel
  · refine cutQ (fun f s' => f = Flow.next ∧ ∃ h' tk m' Da Ua Db Ub a3 b3, s' = { s with heap := h', toks := tk } ∧ Fr g L1 h' m' ∧ News g L1 h' [(Db, listOf (Ub : List Value).toArray 0), (Da, listOf (Ua : List Value).toArray 0)] ∧ Words Ua a3 ∧ Words Ub b3 ∧ 0 < a3.length ∧ a3.length ≤ b3.length ∧ levAll wa wb mc = levCore a3 b3 mc ∧ m' (PySem.Str.ofString "a") = some (Value.ref Da) ∧ m' (PySem.Str.ofString "b") = some (Value.ref Db) ∧ m' (PySem.Str.ofString "max_cost") = some (Value.int mc tm)) ?_ ?_
    · intro R hR
      tb_start
      · rename Fr _ _ _ _ => F9
        rename News _ _ _ _ => N9
        exact hR _ _ ⟨rfl, _, _, _, _, _, _, _, b2, a2, rfl, F9, kst_newsOf (l' := [(D3, listOf U3.toArray 0), (D4, listOf U4.toArray 0)]) N9 (by k_allIn), W4, W3, by omega, by omega, by rw [hA, if_neg (by omega), if_pos (by omega)], rfl, rfl, rfl⟩
      · rename Fr _ _ _ _ => F9
        rename News _ _ _ _ => N9
        exact hR _ _ ⟨rfl, _, _, _, _, _, _, _, a2, b2, rfl, F9, kst_newsOf (l' := [(D4, listOf U4.toArray 0), (D3, listOf U3.toArray 0)]) N9 (by k_allIn), W3, W4, by omega, by omega, by rw [hA, if_neg (by omega), if_neg (by omega)], rfl, rfl, rfl⟩
    clear F3 N3 W3 W4 hA la2 lb2
    rintro f s' ⟨rfl, h3, tk3, m3, Da, Ua, Db, Ub, a3, b3, rfl, F3, N3, W3, W4, q1, q2, hA, e1, e2, e3⟩
    replace F3 := fr_as F3 (known (known (known rfl e1) e2) e3)
    clear e1 e2 e3
    have la2 := W3.few
    have lb2 := W4.few
    dsimp only
    tb_start
    · have e : levAll wa wb mc = mc + 1 := by rw [hA]; unfold levCore; rw [if_pos (by assumption)]
      rw [e] at hret
      exact hQ _ _ (hret _ _ _ F3.keep)
    rename Fr _ _ _ _ => F4
    rename News _ _ _ _ => N4
    rename IntsAre _ _ => hI4
    rename_i _ _ _ _ _ _ D4 c4 ys4 _ _ l4 _ _
    have hA2 : levAll wa wb mc = levEnd mc (outerN a3 b3 mc b3.length) := by
      rw [hA]; unfold levCore; rw [if_neg (by assumption)]
    refine cutQ (fun f s' => (f = Flow.next ∧ ∃ h' tk m' rs r t, s' = { s with heap := h', toks := tk } ∧ Fr g L1 h' m' ∧ outerN a3 b3 mc b3.length = some (rs, r) ∧ m' (PySem.Str.ofString "result") = some (Value.int r t)) ∨ (∃ h' tk t, f = Flow.ret (Value.int (mc + 1) t) ∧ s' = { s with heap := h', toks := tk } ∧ g.StaysIn h' ∧ outerN a3 b3 mc b3.length = none)) ?_ ?_
    · intro R hR
      refine For_invVF F4 (by rfl) (by rfl) ?_ (by intro _; rfl) hPE
      tb_start
      rename_i N4 F4 _ _ _ _ _ _ _ _ _
      rename Fr _ _ _ _ => F5
      rename News _ _ _ _ => N5
      rename IsRange _ _ _ _ _ _ _ _ => hr5
      refine my_range (fun i m' nx => ∃ rs vs r t, outerN a3 b3 mc i = some (rs, r) ∧ IntsAre vs rs ∧ rs.length = a3.length ∧ nx = [(D4, listOf vs.toArray c4), (Db, listOf Ub.toArray 0), (Da, listOf Ua.toArray 0)] ∧ m' (PySem.Str.ofString "row") = some (Value.ref D4) ∧ m' (PySem.Str.ofString "a") = some (Value.ref Da) ∧ m' (PySem.Str.ofString "b") = some (Value.ref Db) ∧ m' (PySem.Str.ofString "max_cost") = some (Value.int mc tm) ∧ m' (PySem.Str.ofString "result") = some (Value.int r t)) rfl hr5 rfl (by omega) F5 N5 ⟨_, _, _, _, rfl, hI4, rangeInts_length _ _ _, rfl, rfl, rfl, rfl, rfl, rfl⟩ ?_ ?_
      · rintro i t m₁ nx h tk own RR hi hoff - ⟨rs, vs, r, t', ho, hI, hl, rfl, e1, e2, e3, e4, e5⟩ F6 N6 hnext hback
        replace F6 := fr_as1 F6 (known (known (known (known (known rfl e1) e2) e3) e4) e5)
        clear F5 N5 hr5 hI4 e1 e2 e3 e4 e5
        have hoffR : ∀ p ∈ (Db, listOf Ub.toArray 0) :: (Da, listOf Ua.toArray 0) :: own, p.1 ≠ D4 := by
          intro p hp
          rcases List.mem_cons.mp hp with rfl | hp
          · show Db ≠ D4; exact Nat.ne_of_lt l4.1
          · rcases List.mem_cons.mp hp with rfl | hp
            · show Da ≠ D4; exact Nat.ne_of_lt l4.2
            · exact hoff p hp D4 (by simp)
        replace N6 : News g L1 h ((D4, listOf vs.toArray c4) :: (Db, listOf Ub.toArray 0) :: (Da, listOf Ua.toArray 0) :: own) := N6
        have hDb : (Db, listOf Ub.toArray 0) ∈ (Db, listOf Ub.toArray 0) :: (Da, listOf Ua.toArray 0) :: own := .head _
        have hDa : (Da, listOf Ua.toArray 0) ∈ (Db, listOf Ub.toArray 0) :: (Da, listOf Ua.toArray 0) :: own := .tail _ (.head _)
        generalize hrest : (Db, listOf Ub.toArray 0) :: (Da, listOf Ua.toArray 0) :: own = rest at N6 hoffR hDb hDa
        replace F6 : Fr g L1 h _ := F6
        clear N4 F4
        tb_start
        rename Fr _ _ _ _ => F7
        rename News _ _ _ _ => N7
        refine cutQ (fun f s' => f = Flow.next ∧ ∃ h' tk m' vs' tr tn, s' = { s with heap := h', toks := tk } ∧ Fr g L1 h' m' ∧ News g L1 h' ((D4, listOf (vs' : List Value).toArray c4) :: rest) ∧ IntsAre vs' (innerN (b3.getD i (PySem.Str.ofString "")) a3 rs ((i : Int) * 2) a3.length).1 ∧ m' (PySem.Str.ofString "row") = some (Value.ref D4) ∧ m' (PySem.Str.ofString "a") = some (Value.ref Da) ∧ m' (PySem.Str.ofString "b") = some (Value.ref Db) ∧ m' (PySem.Str.ofString "max_cost") = some (Value.int mc tm) ∧ m' (PySem.Str.ofString "result") = some (Value.int (innerN (b3.getD i (PySem.Str.ofString "")) a3 rs ((i : Int) * 2) a3.length).2.2.1 tr) ∧ m' (PySem.Str.ofString "minimum") = some (Value.int (innerN (b3.getD i (PySem.Str.ofString "")) a3 rs ((i : Int) * 2) a3.length).2.2.2 tn)) ?_ ?_
        · intro R2 hR2
          refine For_invVF F7 (by rfl) (by rfl) ?_ (by intro _; rfl) hPE
          tb_start
          rename_i N8 F8 _ _ _ _ _ _ _ _ _
          rename Fr _ _ _ _ => F9
          rename News _ _ _ _ => N9
          rename IsRange _ _ _ _ _ _ _ _ => hr9
          refine my_range (fun j m' nx => ∃ vs' td tr tn tb, nx = (D4, listOf (vs' : List Value).toArray c4) :: rest ∧ IntsAre vs' (innerN (b3.getD i (PySem.Str.ofString "")) a3 rs ((i : Int) * 2) j).1 ∧ m' (PySem.Str.ofString "row") = some (Value.ref D4) ∧ m' (PySem.Str.ofString "a") = some (Value.ref Da) ∧ m' (PySem.Str.ofString "b") = some (Value.ref Db) ∧ m' (PySem.Str.ofString "max_cost") = some (Value.int mc tm) ∧ m' (PySem.Str.ofString "bchar") = some (Value.str (b3.getD i (PySem.Str.ofString "")) tb) ∧ m' (PySem.Str.ofString "distance") = some (Value.int (innerN (b3.getD i (PySem.Str.ofString "")) a3 rs ((i : Int) * 2) j).2.1 td) ∧ m' (PySem.Str.ofString "result") = some (Value.int (innerN (b3.getD i (PySem.Str.ofString "")) a3 rs ((i : Int) * 2) j).2.2.1 tr) ∧ m' (PySem.Str.ofString "minimum") = some (Value.int (innerN (b3.getD i (PySem.Str.ofString "")) a3 rs ((i : Int) * 2) j).2.2.2 tn)) rfl hr9 rfl (by omega) F9 N9 ⟨_, _, _, _, _, rfl, hI, rfl, rfl, rfl, rfl, rfl, rfl, rfl, rfl⟩ ?_ ?_
          · rintro j tj m₂ nx₂ h₂ tk₂ own₂ RR₂ hj hoff₂ - ⟨vs', td, tr, tn, tb, rfl, hI', e1, e2, e3, e4, e5, e6, e7, e8⟩ F10 N10 hnext₂ -
            replace F10 : Fr g L1 h₂ _ := fr_as1 F10 (known (known (known (known (known (known (known (known rfl e1) e2) e3) e4) e5) e6) e7) e8)
            have hlen : (innerN (b3.getD i (PySem.Str.ofString "")) a3 rs ((i : Int) * 2) j).1.length = a3.length := by rw [innerN_len]; exact hl
            have hstep : innerN (b3.getD i (PySem.Str.ofString "")) a3 rs ((i : Int) * 2) (j + 1) = innerStep (b3.getD i (PySem.Str.ofString "")) a3 j (innerN (b3.getD i (PySem.Str.ofString "")) a3 rs ((i : Int) * 2) j) := rfl
            generalize innerN (b3.getD i (PySem.Str.ofString "")) a3 rs ((i : Int) * 2) j = st at *
            clear F9 N9 hr9 e1 e2 e3 e4 e5 e6 e7 e8 N8 F8
            have hoffR₂ : ∀ p ∈ rest ++ own₂, p.1 ≠ D4 := by
              intro p hp
              rcases List.mem_append.mp hp with hp | hp
              · exact hoffR p hp
              · exact hoff₂ p hp D4 (.head _)
            replace N10 : News g L1 h₂ ((D4, listOf vs'.toArray c4) :: (rest ++ own₂)) := N10
            have hDa₂ : (Da, listOf Ua.toArray 0) ∈ rest ++ own₂ := List.mem_append_left _ hDa
            generalize hrest₂ : rest ++ own₂ = rest₂ at N10 hoffR₂ hDa₂
            tb_start
            · rename Fr _ _ _ _ => F12
              rename News _ _ _ _ => N12
              rename IntsAre _ _ => hI12
              have hI13 := (congrArg (fun z => IntsAre _ z.1) hstep).mpr hI12
              exact hnext₂ _ _ _ _ _ F12 N12 (fun p hp => by rw [← hrest₂]; exact List.mem_cons.mpr ((List.mem_cons.mp hp).imp id (List.mem_append_left _))) (fun p hp => by rw [← hrest₂]; exact .tail _ (List.mem_append_right _ hp)) (by rfl) ⟨_, _, _, _, _, rfl, hI13, rfl, rfl, rfl, rfl, rfl, Eq.trans rfl (congrArg (fun z => some (Value.int z _)) (by rw [hstep] <;> rfl)), Eq.trans rfl (congrArg (fun z => some (Value.int z _)) (by rw [hstep] <;> rfl)), Eq.trans rfl (congrArg (fun z => some (Value.int z _)) (by rw [hstep]; exact (if_pos (by assumption)).symm))⟩
            · rename Fr _ _ _ _ => F12
              rename News _ _ _ _ => N12
              rename IntsAre _ _ => hI12
              have hI13 := (congrArg (fun z => IntsAre _ z.1) hstep).mpr hI12
              exact hnext₂ _ _ _ _ _ F12 N12 (fun p hp => by rw [← hrest₂]; exact List.mem_cons.mpr ((List.mem_cons.mp hp).imp id (List.mem_append_left _))) (fun p hp => by rw [← hrest₂]; exact .tail _ (List.mem_append_right _ hp)) (by rfl) ⟨_, _, _, _, _, rfl, hI13, rfl, rfl, rfl, rfl, rfl, Eq.trans rfl (congrArg (fun z => some (Value.int z _)) (by rw [hstep] <;> rfl)), Eq.trans rfl (congrArg (fun z => some (Value.int z _)) (by rw [hstep] <;> rfl)), Eq.trans rfl (congrArg (fun z => some (Value.int z _)) (by rw [hstep]; exact (if_neg (by assumption)).symm))⟩
          · rintro m₂ nx₂ h₂ tk₂ ⟨vs', td, tr, tn, tb, rfl, hI', e1, e2, e3, e4, e5, e6, e7, e8⟩ F10 N10
            exact hR2 _ _ ⟨rfl, _, _, _, _, _, _, rfl, F10, N10, hI', e1, e2, e3, e4, e7, e8⟩
        rintro f s' ⟨rfl, h7, tk7, m7, vs7, tr, tn, rfl, F8, N8, hI8, e1, e2, e3, e4, e5, e6⟩
        replace F8 := fr_as F8 (known (known (known (known (known (known rfl e1) e2) e3) e4) e5) e6)
        clear F7 N7 e1 e2 e3 e4 e5 e6
        have hout : outerN a3 b3 mc (i + 1) = if mc < (innerN (b3.getD i (PySem.Str.ofString "")) a3 rs ((i : Int) * 2) a3.length).2.2.2 then none else some ((innerN (b3.getD i (PySem.Str.ofString "")) a3 rs ((i : Int) * 2) a3.length).1, (innerN (b3.getD i (PySem.Str.ofString "")) a3 rs ((i : Int) * 2) a3.length).2.2.1) := by
          simp only [outerN, ho]
        have hlen : (innerN (b3.getD i (PySem.Str.ofString "")) a3 rs ((i : Int) * 2) a3.length).1.length = a3.length := by rw [innerN_len]; exact hl
        generalize innerN (b3.getD i (PySem.Str.ofString "")) a3 rs ((i : Int) * 2) a3.length = st at *
        dsimp only
        tb_start
        · have hnone : outerN a3 b3 mc b3.length = none := outerN_none (i := i + 1) (by rw [hout, if_pos (by assumption)]) _ (by omega)
          exact hback _ _ (hR _ _ (Or.inr ⟨_, _, _, rfl, rfl, F8.keep, hnone⟩))
        · have hsome : outerN a3 b3 mc (i + 1) = some (st.1, st.2.2.1) := by rw [hout, if_neg (by assumption)]
          subst hrest
          exact hnext _ [(D4, listOf vs7.toArray c4), (Db, listOf Ub.toArray 0), (Da, listOf Ua.toArray 0)] _ _ _ F8 N8 (fun p hp => List.mem_append_left (as := [(D4, listOf vs7.toArray c4), (Db, listOf Ub.toArray 0), (Da, listOf Ua.toArray 0)]) own hp) (fun p hp => .tail _ (.tail _ (.tail _ hp))) (by rfl) ⟨_, _, _, _, hsome, hI8, hlen, rfl, rfl, rfl, rfl, rfl, rfl⟩
      · rintro m₂ nx₂ h₂ tk₂ ⟨rs, vs, r, t, ho, hI, hl, rfl, e1, e2, e3, e4, e5⟩ F10 N10
        exact hR _ _ (Or.inl ⟨rfl, _, _, _, _, _, _, rfl, F10, ho, e5⟩)
    rintro f s' (⟨rfl, h5, tk5, m5, rs, r, t5, rfl, F5, ho, e1⟩ | ⟨h5, tk5, t5, rfl, rfl, hst, ho⟩)
    · replace F5 := fr_as F5 (known rfl e1)
      have N5 : News g L1 h5 [] := News.nil
      clear F4 N4 e1
      have e : levAll wa wb mc = r := by rw [hA2, ho]; rfl
      rw [e] at hret
      dsimp only
      tb_start
      exact hQ _ _ (hret _ _ _ F5.keep)
    · have e : levAll wa wb mc = mc + 1 := by rw [hA2, ho]; rfl
      rw [e] at hret
      exact hQ _ _ (hret _ _ _ hst)
  · have e : levAll wa wb mc = 2 * ((a2.length : Int) + (b2.length : Int)) := by rw [hA, if_pos (by omega)]
    rw [e] at hret
    rename Fr _ _ _ _ => F9
    exact hQ _ _ (hret _ _ _ F9.keep)
  · have e : levAll wa wb mc = 2 * ((a2.length : Int) + (b2.length : Int)) := by rw [hA, if_pos (by omega)]
    rw [e] at hret
    rename Fr _ _ _ _ => F9
    exact hQ _ _ (hret _ _ _ F9.keep)
end
section
open PySem PySem.W PyProof.Rows
local macro_rules | `(tactic| tb_start) => `(tactic| repeat' ((fail_if_success (with_reducible show wpAny _ _ (exec (Stmt.While _ _ _ _) _) _ _ _)); (fail_if_success (with_reducible show wpAny _ _ (exec (Stmt.For _ _ _ _ _) _) _ _ _)); (fail_if_success (with_reducible show wpAny _ _ (pyIter _) _ _ _)); (first | (k_unfold; (try dsimp only)) | (k_end; wrow_close) | walk1 | (dsimp only; walk1) | (leave1; walk_say "STEP leave1"; try dsimp only) | fail "no step")))
/-- the letters of a number to the base 16 -/
def apL (n : Nat) : List UInt8 := if _h : n = 0 then [] else apL (n / 16) ++ [UInt8.ofNat (65 + n % 16)]
termination_by n
decreasing_by omega
theorem apL_0 : apL 0 = [] := by rw [apL]; rfl
theorem apL_step {n : Nat} (h : n ≠ 0) : apL n = apL (n / 16) ++ [UInt8.ofNat (65 + n % 16)] := by rw [apL, dif_neg h]
theorem apL_len : ∀ (k n : Nat), n < 16 ^ k → (apL n).length ≤ k
  | 0, n, h => by have : n = 0 := by simpa using h
                  subst this; rw [apL_0]; exact Nat.zero_le _
  | k + 1, n, h => by
    by_cases h0 : n = 0
    · subst h0; rw [apL_0]; exact Nat.zero_le _
    · rw [apL_step h0, List.length_append]
      have := apL_len k (n / 16) (by rw [Nat.div_lt_iff_lt_mul (by decide)]; rw [Nat.pow_succ] at h; exact h)
      simp only [List.length_cons, List.length_nil]; omega
theorem apTab : ∀ k : Nat, k < 16 → KBy.whole #[65, 66, 67, 68, 69, 70, 71, 72, 73, 74, 75, 76, 77, 78, 79, 80] (some (k : Int)) (some ((k : Int) + 1)) = false ∧ KBy.picked #[65, 66, 67, 68, 69, 70, 71, 72, 73, 74, 75, 76, 77, 78, 79, 80] (some (k : Int)) (some ((k : Int) + 1)) = [UInt8.ofNat (65 + k)].toArray := by decide +kernel
theorem fmod16 (n : Nat) : (n : Int).fmod 16 = ((n % 16 : Nat) : Int) := by
  rw [Int.fmod_eq_emod_of_nonneg _ (by decide)]; simp
theorem fdiv16 (n : Nat) : (n : Int).fdiv 16 = ((n / 16 : Nat) : Int) := by
  rw [Int.fdiv_eq_ediv_of_nonneg _ (by decide)]; simp
theorem slice_ap {prog : Program} {w : World} {A : Around} {E : Value → Shared → Prop} {s : Shared} {value slice : PySem.Expr} {t ta tb : Tok} {h₀ : Heap} {L : Addr} {m : PySem.Str → Option Value} {news : List (Addr × Obj)} {Q : Value → Shared → Prop} {n : Nat}
    (hF : Fr h₀ L s.heap m) (hN : News h₀ L s.heap news)
    (h : ∀ h' t' k, Fr h₀ L h' m → News h₀ L h' news → Q (.bytes [UInt8.ofNat (65 + n % 16)].toArray t') { s with heap := h', toks := k })
    (hs : subscripted slice false (.bytes #[65, 66, 67, 68, 69, 70, 71, 72, 73, 74, 75, 76, 77, 78, 79, 80] t) (.ref s.heap.objs.size) = operate [.ref s.heap.objs.size, .bytes #[65, 66, 67, 68, 69, 70, 71, 72, 73, 74, 75, 76, 77, 78, 79, 80] t] (getItem (.bytes #[65, 66, 67, 68, 69, 70, 71, 72, 73, 74, 75, 76, 77, 78, 79, 80] t) (.ref s.heap.objs.size)) := by with_unfolding_all rfl)
    (ht : ∀ r, letTemporaryGo value (.bytes #[65, 66, 67, 68, 69, 70, 71, 72, 73, 74, 75, 76, 77, 78, 79, 80] t) r = pure () := by intro _; with_unfolding_all rfl) :
    wpAny (model prog w) A (subscriptTail value slice (.bytes #[65, 66, 67, 68, 69, 70, 71, 72, 73, 74, 75, 76, 77, 78, 79, 80] t) (.ref s.heap.objs.size)) Q E { s with heap := s.heap.push { cls := .type "slice", data := .fields #[.int ((n : Int).fmod 16) ta, .int ((n : Int).fmod 16 + 1) tb, .none] } } := by
  rw [fmod16]
  obtain ⟨h1, h2⟩ := apTab (n % 16) (Nat.mod_lt _ (by decide))
  refine KBy.slice_N hF hN (.int _ _) (.int _ _) h1 (by rw [h2]; simp) ?_ hs ht
  rw [h2]
  exact h
local macro_rules | `(tactic| walk_at "subscriptTail") => `(tactic| (k_here; (with_reducible show wpAny _ _ (subscriptTail _ (PySem.Expr.Slice _ _ none _) (Value.bytes _ _) (Value.ref _)) _ _ _); k_dflt (refine' slice_ap ?k1 ?k2 ?_ ?k3 ?k4; (case k1 => k_asm); (case k2 => k_asm); (case k3 => with_unfolding_all rfl); (case k4 => (intro _; with_unfolding_all rfl))); intro h' t' tk' F' N'; (try k_sweep)))
local macro_rules | `(tactic| walk_at "binaryOp Add bytes bytes") => `(tactic| (k_here; (with_reducible show wpAny _ _ (binaryOp Operator.Add (Value.bytes _ _) (Value.bytes _ _)) _ _ _); (refine KBy.add_bytes (by (simp only [List.size_toArray, List.length_cons, List.length_nil]; omega)) ?_); intro _ _))
set_option maxRecDepth 100000 in
set_option maxHeartbeats 400000 in
theorem int2ap {prog : Program} {w : World} {mean : ExcName → Option Value} {mg mb : Str → Option Value} {dp un : Nat} {gd : Option (List Code)} {cn : Str} {cs : Scope} {a : Addr} {ccd : Value} {cl : List (Str × Addr)} {outer : List Env} {A₀ : Around} {base h₀ : Heap} {L : Addr} {m : Str → Option Value} {s : Shared} {Q E : Value → Shared → Prop} {x : Int} {tx : Tok}
    (B : Below A₀ base outer h₀) (F : Fr h₀ L s.heap m) (X : (Mine.hd.heap_39 w.params).In h₀) (T : Top Mine.hd.view_39 (looseW Mine.hd.view_39 []) mean mg mb h₀) (hk : cs.kind = .function)
    (hd : dp + 1 < recursionLimit) (hx : x.natAbs < 16 ^ 10)
    (hret : ∀ t h' tk', s.heap.StaysIn h' → Q (.bytes (apL x.natAbs).toArray t) { s with heap := h', toks := tk' }) :
    wpAny (model prog w) (ktrTop dp un gd cn cs L a ccd cl outer) (call (.ref 35) [.int x tx]) Q E s := by
  have dummy : (PySem.Challenge.rw_pk0043_01 = PySem.Challenge.rw_pk0043_01) ∧ Mine.hd.heap_39 = Mine.hd.heap_39 := by k_fill; exact ⟨rfl, rfl⟩
  clear dummy; w_top off
  k_dflt (refine' pure_plain (binds := [(PySem.Str.ofString "num", Value.int x tx)]) B F X T rfl rfl hk ?k6 ?k7 ?k8 ?k9 ?kB ?_ ?c5 ?c2 ?c3 ?c4; (case k6 => k_is); (case k7 => k_is); (case k8 => ktr_room); (case k9 => exact BindsTo.of_eq rfl); (case c5 => decide); (case kB => exact locs rfl); (case c2 => exact rfl); (case c3 => exact rfl); (case c4 => exact rfl))
  intro L1 h1 tk1 QQ EE hPE hQ F1 N1 B1 X1 T1
  replace F1 := fr_eq (m' := fun y' => if y' = PySem.Str.ofString "num" then some (Value.int x tx) else none) F1 (fun y' => by
    show List.lookup y' [(PySem.Str.ofString "num", Value.int x tx)] = _
    rw [lookup_if]; rfl)
  clear B F X T
  generalize hg : s.heap = g at *
  tb_start
  rename Fr _ _ _ _ => F2
  rename News _ _ _ _ => N2
  refine cutQ (fun f s' => f = Flow.next ∧ ∃ h' tk m' t, s' = { s with heap := h', toks := tk } ∧ Fr g L1 h' m' ∧ m' (PySem.Str.ofString "val") = some (Value.bytes (apL x.natAbs).toArray t)) ?_ ?_
  · intro R hR
    refine my_while (fun n m' _ => ∃ (v : List UInt8) (tn tv ta : Tok), m' (PySem.Str.ofString "num") = some (Value.int (n : Int) tn) ∧ m' (PySem.Str.ofString "val") = some (Value.bytes v.toArray tv) ∧ m' (PySem.Str.ofString "AP") = some (Value.bytes #[65, 66, 67, 68, 69, 70, 71, 72, 73, 74, 75, 76, 77, 78, 79, 80] ta) ∧ apL x.natAbs = apL n ++ v ∧ n < 16 ^ 10 ∧ v.length + (apL n).length ≤ 1000) (n₀ := x.natAbs) hPE F2 N2 ⟨[], _, _, _, congrArg (fun z => some (Value.int z _)) (by split <;> omega), rfl, rfl, by simp, hx, by have := apL_len 10 _ hx; simp only [List.length_nil]; omega⟩ ?_
    rintro n m' news' h' tk' R2 F3 N3 ⟨v, tn, tv, ta, e1, e2, e3, h1, h2, h3⟩ hR2
    replace F3 := fr_as F3 (known (known (known rfl e1) e2) e3)
    clear F2 N2 e1 e2 e3
    replace N3 : News g L1 h' [] := News.nil
    tb_start
    · rename Fr _ _ _ _ => F9
      rename News _ _ _ _ => N9
      have hn : n ≠ 0 := by omega
      have e := apL_step hn
      have el : (apL n).length = (apL (n / 16)).length + 1 := by rw [e]; simp
      exact hR2 (n / 16) _ _ _ _ F9 N9 (by omega) ⟨UInt8.ofNat (65 + n % 16) :: v, _, _, _, Eq.trans rfl (congrArg (fun z => some (Value.int z _)) (fdiv16 n)), Eq.trans rfl (congrArg (fun z => some (Value.bytes z _)) (by simp)), rfl, by rw [h1, e]; simp, by omega, by simp only [List.length_cons]; omega⟩
    · have hn : n = 0 := by omega
      subst hn
      rw [apL_0, List.nil_append] at h1
      exact hR _ _ ⟨rfl, _, _, _, tv, rfl, F3, by rw [h1]; rfl⟩
  rintro f s' ⟨rfl, h3, tk3, m3, t3, rfl, F3, e1⟩
  replace F3 := fr_as F3 (known rfl e1)
  have N3 : News g L1 h3 [] := News.nil
  clear F2 N2 e1
  dsimp only
  tb_start
  exact hQ _ _ (hret _ _ _ F3.keep)
end
section
open PySem PySem.W PyProof.Rows PySem.Calls PySem.Spec PyProof.Rows.LCg
set_option maxRecDepth 100000
section
variable {prog : Program} {w : World} {A : Around} {h₀ : Heap} {L : Addr} {m : Str → Option Value} {env : Env} {ct elt : Expr} {x : Str} {scope : Scope} {cl : List (Str × Addr)} {s : Shared} {S : List (Addr × Obj) → Prop} {P : Nat → Value → Prop} {Fin : List Value → List (Addr × Obj) → Prop} {news : List (Addr × Obj)}
/-- a comprehension's turns, by a word on what is made; the element changes nothing that was there -/
theorem rest_U {n : Nat} (Y : Nat → List Value → Prop) (h0 : Y 0 []) (hS : S news)
    (turn : ∀ i ys v I oI C oC D m₂ h tk (E' : Value → Shared → Prop) (R : Value → Shared → Prop), i < n → Y i ys → P i v → NsObj oC m₂ → m₂ x = some v → Fr h₀ L h m → News h₀ L h ((I, oI) :: (C, oC) :: (D, lst ys) :: news) → Off3 I C D news → ((@Ne Nat I C) ∧ (@Ne Nat I D) ∧ (@Ne Nat C D)) →
      (∀ y h' tk', Fr h₀ L h' m → News h₀ L h' ((I, oI) :: (C, oC) :: (D, lst ys) :: news) → Y (i + 1) (ys ++ [y]) → R y { s with heap := h', toks := tk' }) →
      wpAny (model prog w) A (eval elt (compEnvC scope cl C env)) R E' { s with heap := h, toks := tk })
    (fin : ∀ ys, Y n ys → Fin ys news) : CompRest prog w A h₀ L m env elt x scope cl s S P Fin n 0 [] news := by
  have key : ∀ (j i : Nat) (ys : List Value), i + j = n → Y i ys → CompRest prog w A h₀ L m env elt x scope cl s S P Fin j i ys news := by
    intro j
    induction j with
    | zero =>
      intro i ys hi hy
      have e : i = n := by omega
      subst e
      exact CompRest.zero (fin ys hy)
    | succ j ih =>
      intro i ys hi hy
      refine CompRest.succ ?_
      intro v I oI C oC D m₂ h tk E' hv hC hx F N off ne
      exact turn i ys v I oI C oC D m₂ h tk E' _ (by omega) hy hv hC hx F N off ne fun y h' tk' F' N' hy' => ⟨h', tk', news, rfl, F', N', off, hS, ih (i + 1) _ (by omega) hy'⟩
  exact key n 0 [] (by omega) h0
theorem rest_T {n : Nat} (Y : Nat → List Value → Prop) (h0 : Y 0 []) (hS : S news)
    (turn : ∀ i ys v I oI C oC D m₂ h tk (E' : Value → Shared → Prop) (R : Value → Shared → Prop) (R0 : Shared → Prop), i < n → Y i ys → P i v → NsObj oC m₂ → m₂ x = some v → Fr h₀ L h m → News h₀ L h ((I, oI) :: (C, oC) :: (D, lst ys) :: news) → Off3 I C D news → ((@Ne Nat I C) ∧ (@Ne Nat I D) ∧ (@Ne Nat C D)) →
      (∀ y h' tk', Fr h₀ L h' m → News h₀ L h' ((I, oI) :: (C, oC) :: (D, lst ys) :: news) → Y (i + 1) (ys ++ [y]) → R y { s with heap := h', toks := tk' }) → (∀ h' tk', Fr h₀ L h' m → News h₀ L h' ((I, oI) :: (C, oC) :: (D, lst ys) :: news) → Y (i + 1) ys → R0 { s with heap := h', toks := tk' }) →
      wpAny (model prog w) A (PySem.isTrue ct (compEnvC scope cl C env) (eval ct (compEnvC scope cl C env))) (fun ok s' => if ok = true then wpAny (model prog w) A (eval elt (compEnvC scope cl C env)) R E' s' else R0 s') E' { s with heap := h, toks := tk })
    (fin : ∀ ys, Y n ys → Fin ys news) : LCt.CompRestT prog w A h₀ L m env ct elt x scope cl s S P Fin n 0 [] news := by
  have key : ∀ (j i : Nat) (ys : List Value), i + j = n → Y i ys → LCt.CompRestT prog w A h₀ L m env ct elt x scope cl s S P Fin j i ys news := by
    intro j
    induction j with
    | zero =>
      intro i ys hi hy
      have e : i = n := by omega
      subst e
      exact LCt.CompRestT.zero (fin ys hy)
    | succ j ih =>
      intro i ys hi hy
      refine LCt.CompRestT.succ ?_
      intro v I oI C oC D m₂ h tk E' hv hC hx F N off ne
      exact turn i ys v I oI C oC D m₂ h tk E' _ _ (by omega) hy hv hC hx F N off ne (fun y h' tk' F' N' hy' => ⟨h', tk', news, rfl, F', N', off, hS, ih (i + 1) _ (by omega) hy'⟩)
        (fun h' tk' F' N' hy' => ⟨h', tk', news, rfl, F', N', off, hS, ih (i + 1) _ (by omega) hy'⟩)
  exact key n 0 [] (by omega) h0
end
section
variable {prog : Program} {w : World} {A : Around} {E : Value → Shared → Prop} {s : Shared} {h₀ : Heap} {L : Addr} {m : Str → Option Value} {env : Env}
/-- a list comprehension over a bytes -/
theorem ListComp_B {elt iter : Expr} {x : Str} {px : Pos} {scope : Scope} {cl : List (Str × Addr)} {pos : Pos} {Q : Value → Shared → Prop} (_F₀ : Fr h₀ L s.heap m)
    (hclos : closureFor scope env = pure cl) (hcell : ∀ y ∈ scope.names, y.2 ≠ .cell) (hkind : scope.kind = .function)
    (hnames : ∀ y ∈ scope.names, y.2 = .local → scope.names.lookup y.1 = some .local) (hx : scope.names.lookup x = some .local)
    (h : ∀ R : Value → Shared → Prop, (∀ (b : Array UInt8) (t : Tok) (news : List (Addr × Obj)) (s₁ : Shared), A.handled = none → Fr h₀ L s₁.heap m → News h₀ L s₁.heap news → b.size ≤ sizeLine →
      (∀ g, CompRest prog w A h₀ L m env elt x scope cl { s₁ with heap := g } (fun _ => True) (fun i v => ∃ c u, b[i]? = some c ∧ v = .int (c.toNat : Int) u) (FinE h₀ L m { s₁ with heap := g } Q) b.size 0 [] news) → R (.bytes b t) s₁) → wpAny (model prog w) A (eval iter env) R E s)
    (hs : ∀ x, foldedSetIterable iter env x = pure x := by intro _; rfl) :
    wpAny (model prog w) A (eval (.ListComp elt [⟨.Name x px, iter, [], 0⟩] scope pos) env) Q E s := by
  rw [eval_ListComp]
  refine wpAny_comprehension_free (use := none) rfl hs hclos hkind hnames (h _ fun b t news s₁ hh F N hsz R => ?_)
  refine KBw.pyIter_bytes ?_
  refine block_U (KBw.walks hh s₁.heap.objs.size b t) hsz (fun i h st => by obtain ⟨o, e, _⟩ := st; exact ⟨o, e⟩) (fun i h h' o nw st e e' _ _ _ => by obtain ⟨o', q, r⟩ := st; rw [e] at q; cases q; exact ⟨o, e', r⟩) hcell hkind hx ⟨_, Heap.get?_push_size _ rfl, rfl, rfl⟩ (fun b hb => ?_)
    (F.keeps fun _ _ e => Heap.get?_push_of_some _ e) (N.grown fun _ _ e => Heap.get?_push_of_some _ e) (Nat.ne_of_lt F.ns.lt) (next_is_new F) (fun p hp => Nat.ne_of_lt (Heap.lt_size (N p hp).1)) trivial (R _) ?_
  · rw [List.mem_singleton.mp hb]
    show s₁.heap.objs.size < (s₁.heap.push _).objs.size
    rw [Heap.size_push]; exact Nat.lt_succ_self _
  · intro D C h tk m' ys news' F' N' o1 hn hC₀ hD₀ hCL hDL hCD offC fin
    refine ⟨m', hn, fun h'' hs'' => fin D h'' tk (F'.change hs'' hCL hC₀) (fun p hp => ⟨hs''.extBut _ _ ?_ (N' p hp).1, (N' p hp).2⟩) o1⟩
    rcases List.mem_cons.mp hp with rfl | hp
    · exact Ne.symm hCD
    · exact offC p hp
/-- a name bound to a list comprehension with a test, over a range of any step -/
theorem Assign_LC_D {ct elt iter : Expr} {x y : Str} {px py : Pos} {scope : Scope} {cl : List (Str × Addr)} {pos spos : Pos} {Q : Flow → Shared → Prop} (_F₀ : Fr h₀ L s.heap m) (hLe : env.locals = L)
    (hsw : swapsWith (.ListComp elt [⟨.Name x px, iter, [ct], 0⟩] scope pos) (some (.Name y py)) spos.line env = pure true)
    (hclos : closureFor scope env = pure cl) (hcell : ∀ z ∈ scope.names, z.2 ≠ .cell) (hkind : scope.kind = .function)
    (hnames : ∀ z ∈ scope.names, z.2 = .local → scope.names.lookup z.1 = some .local) (hx : scope.names.lookup x = some .local)
    (hy : env.kindOf y = some .local) (hp : (env.scope.kind == .class || (env.scope.kind == .module && env.locals != env.globals)) = false)
    (h : ∀ R : Value → Shared → Prop, (∀ (r : Addr) (a b c : Int) (t u v : Tok) (n : Nat) (news : List (Addr × Obj)) (s₁ : Shared), A.handled = none → Fr h₀ L s₁.heap m → News h₀ L s₁.heap news → IsRange s₁.heap r a b c t u v → Builtin.Range.small a b c = true → Builtin.Range.rangeSize a b c = ((n : Nat) : Int) → n ≤ sizeLine →
      (∀ g, LCt.CompRestT prog w A h₀ L m env ct elt x scope cl { s₁ with heap := g } (fun _ => True) (fun i v => ∃ t, v = .int (a + (i : Int) * c) t) (FinA h₀ L m { s₁ with heap := g } y Q) n 0 [] news) → R (.ref r) s₁) → wpAny (model prog w) A (eval iter env) R E s)
    (hs : ∀ x, foldedSetIterable iter env x = pure x := by intro _; rfl) :
    wpAny (model prog w) A (exec (.Assign [.Name y py] (.ListComp elt [⟨.Name x px, iter, [ct], 0⟩] scope pos) spos) env) Q E s := by
  subst hLe
  rw [exec_Assign_Name_used _ _ _ _ hsw]
  refine wpAny_bind (wpAny_standAt (wpAny_bind ?_))
  show wpAny _ A (do let _ ← comprehension (.ListComp elt [⟨.Name x px, iter, [ct], 0⟩] scope pos) scope env _ (newList []) false (eval iter env) (some (assign (.Name y py) env))) _ _ s
  refine wpAny_bind (wpAny_mono (wpAny_comprehension_free (use := some (assign (.Name y py) env)) (Q := fun _ s' => Q .next s') rfl hs hclos hkind hnames
    (h _ fun r a b c t u v n news s₁ hh F N hr hsm hn hsz R => ?_)) (fun _ s' hq => wpAny_pure (wpAny_pure hq)) fun _ _ e => e)
  refine wpAny_pyIter_range hr hsm ?_
  refine LCt.block_T (Walks.range hh s₁.heap.objs.size a c n) hsz (fun i h st => ⟨_, st⟩) (fun i h h' o nw st e e' _ _ _ => by
      have st' : h.get? s₁.heap.objs.size = some _ := st
      show h'.get? s₁.heap.objs.size = some _
      rw [e', ← e]; exact st') hcell hkind hx (by show IsRangeIter _ _ _ _ _; rw [hn]; simpa using Heap.get?_push_size _ rfl) (fun b hb => ?_)
    (F.keeps fun _ _ e => Heap.get?_push_of_some _ e) (N.grown fun _ _ e => Heap.get?_push_of_some _ e) (Nat.ne_of_lt F.ns.lt) (next_is_new F) (fun p hp => Nat.ne_of_lt (Heap.lt_size (N p hp).1)) trivial (R _) ?_
  · rw [List.mem_singleton.mp hb]
    show s₁.heap.objs.size < (s₁.heap.push _).objs.size
    rw [Heap.size_push]; exact Nat.lt_succ_self _
  · intro D C h' tk m' ys news' F' N' o1 hn hC₀ hD₀ hCL hDL hCD offC fin
    show wpAny _ A (assign (.Name y py) env (.ref D)) _ _ _
    refine wpAny_assign_Name (wpAny_storeName_local hy F'.ns (fun h₂ hn₂ hs₂ => ?_) hp)
    have hL₀ : h₀.get? env.locals = none := Heap.get?_none_of_le F'.above
    have F₂ : Fr h₀ env.locals h₂ (fun z => if z = y then some (.ref D) else m z) := ⟨hn₂, fun b o e => hs₂.extBut b o (fun q => by rw [q, hL₀] at e; cases e) (F'.keep b o e), F'.above⟩
    refine ⟨m', hn.sameBut hs₂ hCL, fun h'' hs'' => fin D h'' _ (F₂.change hs'' hCL hC₀) (fun p hp => ⟨hs''.extBut _ _ ?_ (hs₂.extBut _ _ (N' p hp).2.1 (N' p hp).1), (N' p hp).2⟩) o1⟩
    rcases List.mem_cons.mp hp with rfl | hp
    · exact Ne.symm hCD
    · exact offC p hp
end
section
variable {prog : Program} {w : World} {A₀ A : Around} {s : Shared} {base h₀ : Heap} {outer : List Env} {L : Addr} {m mg mb : Str → Option Value} {env : Env} {K : Frag} {p : Program} {loose : List Str} {mean : ExcName → Option Value}
  {Q E : Value → Shared → Prop} {name qual : Str} {params : Arguments} {body : List Stmt} {scope : Scope} {dV kV doc pm cdv ct oc : Value} {an od : Option Addr} {osl : Array (Option Value)} {f : Addr} {args : List Value} {binds : List (Str × Value)}
/-- a call of a def with captured names that changes nothing that was there -/
theorem pure_cells (B : Below A₀ base outer h₀) (F : Fr h₀ L s.heap m) (X : K.In h₀) (T : Top p loose mean mg mb h₀) (hA : A.frames = some (env :: outer)) (hf : env.frame = some L) (hke : env.scope.kind = .function)
    (ho : K.lookup f = some ⟨oc, od, .func (fnOf name qual params body scope dV kV doc pm an cdv ct), osl⟩) (hcd : codeIn K cdv qual = true) (hroom : A.depth < recursionLimit)
    (hbind : BindsTo s (fnOf name qual params body scope dV kV doc pm an cdv ct) ⟨args, []⟩ binds) (hkind : (binds.all fun y => scope.names.lookup y.1 == some .local || scope.names.lookup y.1 == some .cell) = true)
    (hnd : ((cellsFrom 0 scope.names []).map (·.1)).Nodup)
    (h : ∀ L' h₁ tk cells (QQ : Flow → Shared → Prop) (EE : Value → Shared → Prop), PassesOwn (model prog w) (A.deeper (envOfC qual scope L' f cdv)) (envOfC qual scope L' f cdv) EE → (∀ v s', Q v s' → QQ (.ret v) s') →
      Fr s.heap L' h₁ (bindL (envOfC qual scope L' f cdv).kindOf binds fun _ => none) → News s.heap L' h₁ cells → CellsAre (bindC (envOfC qual scope L' f cdv).kindOf binds fun _ => none) (cellsFrom (L' + 1) scope.names []) cells →
      Below A base (env :: outer) s.heap → K.In s.heap → Top p loose mean mg mb s.heap →
      wpAny (model prog w) (A.deeper (envOfC qual scope L' f cdv)) (execs body (envOfC qual scope L' f cdv)) QQ EE { s with heap := h₁, toks := tk })
    (hco : scope.isCoroutine = false := by rfl) (hgen : scope.isGenerator = false := by rfl) (hk : scope.kind = .function := by rfl) :
    wpAny (model prog w) A (call (.ref f) args) Q E s := by
  refine wpAny_call ?_
  have X' := X.keeps F.keep
  have T' : Top p loose mean mg mb s.heap := T.keeps F.keep
  refine codeAny_call_function hroom (X' _ _ ho) rfl hco hgen rfl (codeRec_of X' hcd) (hbind _ _ _ _ ?_)
  refine wpAny_newFunctionEnv_cells hk (kindsX hkind _) fun env' he s' x => ?_
  subst he
  refine ⟨T'.nolimit.keeps x.toInCall.keep, codeAny_func ?_⟩
  obtain ⟨h₁, tk, rfl, _⟩ := x.done
  have hk₁ := x.toInCall.keep
  obtain ⟨cells, NC, Y⟩ := Cl.news (h₀ := s.heap) (Nat.le_refl _) fun n c hm => ⟨x.cell n c (lookup_of_mem_nodup (cellsFrom_names scope.names 0 (s.heap.objs.size + 1) [] [] rfl ▸ hnd) hm), x.above n c hm⟩
  refine wpAny_mono (h s.heap.objs.size h₁ tk cells (fun fl s' => match fl with | .ret v => Q v s' | _ => Q .none s') _ (by passes_own) (fun v s' q => q) ⟨x.toInCall.ns, hk₁, Nat.le_refl _⟩ NC Y ⟨hA, (pushX B F hf hke).stays, (pushX B F hf hke).frames⟩ X' T') ?_ fun _ _ y => y
  intro fl s' q
  cases fl <;> exact q
end
end
section
open PySem PySem.W PyProof.Rows PyProof.Rows.LCg
local macro_rules | `(tactic| walk_at "nothing here") => `(tactic| fail "nothing")
local macro_rules | `(tactic| tb_start) => `(tactic| repeat' ((fail_if_success (with_reducible show wpAny _ _ (exec (Stmt.While _ _ _ _) _) _ _ _)); (fail_if_success (with_reducible show wpAny _ _ (exec (Stmt.For _ _ _ _ _) _) _ _ _)); (fail_if_success (with_reducible show wpAny _ _ (pyIter _) _ _ _)); (fail_if_success (with_reducible show wpAny _ _ (eval (PySem.Expr.ListComp _ _ _ _) _) _ _ _)); (fail_if_success (with_reducible show LCg.CompSrc _ _ _ _ _ _ _ _ _ _ _ _ _ _)); (first | (k_unfold; (try dsimp only)) | (k_end; wrow_close) | walk1 | (dsimp only; walk1) | (leave1; walk_say "STEP leave1"; try dsimp only) | fail "no step")))
local macro_rules | `(tactic| walk_at "call ref") => `(tactic| (k_here; (with_reducible show wpAny _ _ (call (Value.ref 35) [Value.int _ _]) _ _ _); k_dflt (refine' int2ap ?k1 ?k2 ?k3 ?k4 ?kK ?kd ?kx ?_; (case k1 => k_asm); (case k2 => k_asm); (case k3 => k_asm); (case k4 => k_asm); (case kK => exact rfl); (case kd => ktr_room); (case kx => assumption)); intro t9 h9 tk9 hs9; (rename Fr _ _ _ _ => lF'); (rename News _ _ _ _ => lN'); (have F' := Fr.keeps lF' hs9); (have N' := News.grown lN' hs9); clear hs9 lF' lN'; (try dsimp only)))
theorem fold_ones (r : List Nat) : ∀ a : Array Nat, (r.map fun c => (⟨#[c]⟩ : Str)).foldl (fun acc p => acc ++ (PySem.Str.ofString "").cps ++ p.cps) a = a ++ r.toArray := by
  induction r with
  | nil => intro a; simp
  | cons c r ih =>
    intro a
    have e : (PySem.Str.ofString "").cps = #[] := by decide
    rw [List.map_cons, List.foldl_cons, ih, e]
    apply Array.ext'
    simp
theorem join_ones_eq (l : List Nat) : PySem.Txt.join (PySem.Str.ofString "") (l.map fun c => (⟨#[c]⟩ : Str)) = ⟨l.toArray⟩ := by
  show PySem.Builtin.Str.glued (PySem.Str.ofString "") _ = _
  cases l with
  | nil => rfl
  | cons c r =>
    unfold PySem.Builtin.Str.glued
    simp only [List.map_cons, List.drop_succ_cons, List.drop_zero, List.headD_cons]
    rw [fold_ones]
    congr 1
    apply Array.ext'
    simp
theorem ones_len (l : List Nat) : ((l.map fun c => (⟨#[c]⟩ : Str)).map (·.length)).sum = l.length := by
  induction l with
  | nil => rfl
  | cons c r ih =>
    rw [List.map_cons, List.map_cons, List.sum_cons, ih, List.length_cons]
    show 1 + r.length = r.length + 1
    omega
local macro_rules | `(tactic| walk_at "call builtin:chr") => `(tactic| (k_here; (with_reducible show wpAny _ _ (call (Value.builtin "chr") [Value.int _ _]) _ _ _); refine P.chr_of_int ?k1 ?_; (case k1 => (have hlt9 := UInt8.toNat_lt; simp only [Bool.or_eq_false_iff, decide_eq_false_iff_not]; constructor <;> omega))))
def apStr (n : Nat) : Str := ⟨((apL n).map (·.toNat)).toArray⟩
set_option maxRecDepth 100000 in
set_option maxHeartbeats 400000 in
theorem law_words {prog : Program} {w : World} {mean : ExcName → Option Value} {mg mb : Str → Option Value} {dp un : Nat} {gd : Option (List Code)} {cn : Str} {cs : Scope} {a : Addr} {ccd : Value} {cl : List (Str × Addr)} {outer : List Env} {A₀ : Around} {base h₀ : Heap} {L : Addr} {m : Str → Option Value} {s : Shared} {Q E : Value → Shared → Prop} {ln : Addr} {vn : List Value} {ns : List Int} {sg : Int} {tg : Tok}
    (B : Below A₀ base outer h₀) (F : Fr h₀ L s.heap m) (X : (Mine.hd.heap_39 w.params).In h₀) (T : Top Mine.hd.view_39 (looseW Mine.hd.view_39 []) mean mg mb h₀) (hk : cs.kind = .function)
    (hd : dp + 2 < recursionLimit) (hu : un + 100 < cLine) (hl : s.heap.IsList ln vn.toArray) (hi : IntsAre vn ns) (hlen : ns.length < 30) (hsg : sg = 1 ∨ sg = -1) (hns : ∀ n ∈ ns, n.natAbs < 16 ^ 10)
    (hret : ∀ D us h' tk', s.heap.StaysIn h' → h'.get? D = some (lst us) → s.heap.get? D = none → StrsAre us (ns.map fun n => apStr n.natAbs) → Q (.ref D) { s with heap := h', toks := tk' }) :
    wpAny (model prog w) (ktrTop dp un gd cn cs L a ccd cl outer) (call (.ref 40) [.ref ln, .int sg tg]) Q E s := by
  have dummy : (PySem.Challenge.rw_pk0043_01 = PySem.Challenge.rw_pk0043_01) ∧ Mine.hd.heap_39 = Mine.hd.heap_39 := by k_fill; exact ⟨rfl, rfl⟩
  clear dummy; w_top off
  k_dflt (refine' pure_cells (binds := [(PySem.Str.ofString "numbers", Value.ref ln), (PySem.Str.ofString "sign", Value.int sg tg)]) B F X T rfl rfl hk ?k6 ?k7 ?k8 ?k9 ?kB ?kD ?_ ?c2 ?c3 ?c4; (case k6 => k_is); (case k7 => k_is); (case k8 => ktr_room); (case k9 => exact BindsTo.of_eq rfl); (case kB => exact rfl); (case kD => decide +kernel); (case c2 => exact rfl); (case c3 => exact rfl); (case c4 => exact rfl))
  intro L1 h1 tk1 cells QQ EE hPE hQ F1 N1 Y1 B1 X1 T1
  k_cells Y1
  rename_i oc hoc
  clear B F X T
  generalize hg : s.heap = g at *
  replace hoc : oc.data = Data.cell (some (Value.int sg tg)) := hoc
  replace F1 := fr_eq (m' := fun y => if y = PySem.Str.ofString "numbers" then some (Value.ref ln) else none) F1 (fun y => rfl)
  tb_start
  refine LCg.ListComp_U (F₀ := F1) (by with_unfolding_all rfl) (by decide) (by rfl) (by decide) (by rfl) ?_
  tb_start
  refine LCg.CompSrc.base rfl F1 N1 hl (by have := hi.length; simp only [List.size_toArray, sizeLine_eq]; omega) (fun g2 => ?_)
  refine rest_U (fun i ys => StrsAre ys ((ns.take i).map fun n => apStr n.natAbs)) .nil (.inl hl) ?_ ?_
  · intro i ys v I oI C oC D m₂ h tk E' R hi' hY hv hC hx F2 N2 off ne hR
    obtain ⟨n, t, rfl, hn⟩ := IntsAre.at hi i v (by simpa using hv)
    have hnn := hns n (List.mem_of_getElem? hn)
    clear F1 N1 hPE
    have hnn2 : (sg * n).natAbs < 16 ^ 10 := by rcases hsg with rfl | rfl <;> omega
    tb_start
    (try dsimp only)
    refine ListComp_B F2 (by with_unfolding_all rfl) (by decide) (by rfl) (by decide) (by rfl) (fun R2 hR2 => ?_)
    tb_start
    rename Fr _ _ _ _ => F3
    rename News _ _ _ _ => N3
    refine hR2 _ _ _ _ rfl F3 N3 (by have := apL_len 10 _ hnn2; simp only [List.size_toArray, sizeLine_eq]; omega) (fun g3 => ?_)
    refine rest_U (fun i ys => StrsAre ys (((apL (sg * n).natAbs).take i).map fun c => (⟨#[c.toNat]⟩ : Str))) .nil trivial ?_ ?_
    · intro j zs v J oJ C3 oC3 D3 m3 h3 tk3 E3 R3 hj hZ hv3 hC3 hx3 F4 N4 off4 ne4 hR3
      obtain ⟨c, u, hc, rfl⟩ := hv3
      clear F3 N3
      have hlt := c.toNat_lt
      tb_start
      refine hR3 _ _ _ F4 N4 ?_
      have hc' : (apL (sg * n).natAbs)[j]? = some c := by simpa using hc
      rw [List.take_add_one, hc', Option.toList_some, List.map_append]
      exact StrsAre.append' hZ (.cons _ _ .nil)
    · intro zs hzs
      unfold LCg.FinE
      intro D3 h3 tk3 F4 N4 o4
      clear F3 N3
      dsimp only
      have hzs' : StrsAre zs (((apL (sg * n).natAbs).map (·.toNat)).map fun c => (⟨#[c]⟩ : Str)) := by
        rw [List.size_toArray, List.take_length] at hzs
        rw [List.map_map]; exact hzs
      have hlen9 := apL_len 10 _ hnn2
      tb_start
      refine join_list (items := zs.toArray) (News.isList N4 (.head _)) hzs' ?_ (fun t9 k9 => ?_)
      · rw [ones_len]
        have e0 : (PySem.Str.ofString "").length = 0 := by decide
        rw [e0]
        simp only [List.length_map]
        omega
      · rw [join_ones_eq]
        tb_start
        refine hR _ _ _ F4 (fun p hp => N4 p (.tail _ hp)) ?_
        have e9 : (sg * n).natAbs = n.natAbs := by rcases hsg with rfl | rfl <;> omega
        rw [List.take_add_one, hn, Option.toList_some, List.map_append, e9]
        exact StrsAre.append' hY (.cons _ _ .nil)
  · intro ys hys
    have hys' : StrsAre ys (ns.map fun n => apStr n.natAbs) := by
      rw [List.size_toArray, hi.length, List.take_length] at hys
      exact hys
    unfold LCg.FinE
    intro D2 h2 tk2 F2 N2 o2
    dsimp only
    have q := N2 (D2, lst ys) (.head _)
    exact hQ _ _ (hret _ _ _ _ F2.keep q.1 q.2.2 hys')
end
section
open PySem PySem.W PyProof.Rows PyProof.Rows.LCg
local macro_rules | `(tactic| walk_at "nothing here") => `(tactic| fail "nothing")
local macro_rules | `(tactic| walk_at "nothing here") => `(tactic| fail "nothing")
local macro_rules | `(tactic| tb_start) => `(tactic| repeat' ((fail_if_success (with_reducible show wpAny _ _ (exec (Stmt.While _ _ _ _) _) _ _ _)); (fail_if_success (with_reducible show wpAny _ _ (exec (Stmt.For _ _ _ _ _) _) _ _ _)); (fail_if_success (with_reducible show wpAny _ _ (pyIter _) _ _ _)); (fail_if_success (with_reducible show wpAny _ _ (exec (Stmt.Assign _ (PySem.Expr.ListComp _ _ _ _) _) _) _ _ _)); (fail_if_success (with_reducible show wpAny _ _ (eval (PySem.Expr.ListComp _ _ _ _) _) _ _ _)); (fail_if_success (with_reducible show LCg.CompSrc _ _ _ _ _ _ _ _ _ _ _ _ _ _)); (first | (k_unfold; (try dsimp only)) | (k_end; wrow_close) | walk1 | (dsimp only; walk1) | (leave1; walk_say "STEP leave1"; try dsimp only) | fail "no step")))
theorem div_nat {prog : Program} {w : World} {A : Around} {E : Value → Shared → Prop} {s : Shared} {Q : Value → Shared → Prop} {n : Nat} {p : Int} {t u : Tok} (hp : 0 < p) (hp' : p < 2 ^ 40)
    (h : Q (.int ((n / p.toNat : Nat) : Int) s.toks) { s with toks := s.toks + 1 }) : wpAny (model prog w) A (binaryOp .FloorDiv (.int (n : Int) t) (.int p u)) Q E s := by
  refine floordiv_int (by omega) ?_ (Or.inl (PyProof.noPylong_of_log2 (Nat.lt_trans ((Nat.log2_lt (by omega)).mpr (show p.natAbs < 2 ^ 40 by omega)) (by decide))))
  have e : (n : Int).fdiv p = ((n / p.toNat : Nat) : Int) := by
    rw [Int.fdiv_eq_ediv_of_nonneg _ (by omega)]
    have : p = ((p.toNat : Nat) : Int) := by omega
    rw [this]; simp
  rw [e]; exact h
theorem abcTab : ∀ k : Nat, k < 16 → PySem.Txt.item (PySem.Str.ofString "ABCDEFGHIJKLMNOP") (k : Int) = ⟨#[65 + k]⟩ ∧ fitsSsize (k : Int) = true := by decide +kernel
theorem item_abc {prog : Program} {w : World} {A : Around} {E : Value → Shared → Prop} {s : Shared} {Q : Value → Shared → Prop} {value slice : Expr} {n : Nat} {t u : Tok}
    (h : Q (.str ⟨#[65 + n % 16]⟩ s.toks) { s with toks := s.toks + 1 })
    (hs : subscripted slice false (.str (PySem.Str.ofString "ABCDEFGHIJKLMNOP") t) (.int ((n : Int).fmod 16) u) = operate [.str (PySem.Str.ofString "ABCDEFGHIJKLMNOP") t, .int ((n : Int).fmod 16) u] (getItem (.str (PySem.Str.ofString "ABCDEFGHIJKLMNOP") t) (.int ((n : Int).fmod 16) u)) := by with_unfolding_all rfl)
    (ht : ∀ r, letTemporaryGo value (.str (PySem.Str.ofString "ABCDEFGHIJKLMNOP") t) r = pure () := by intro _; with_unfolding_all rfl) :
    wpAny (model prog w) A (subscriptTail value slice (.str (PySem.Str.ofString "ABCDEFGHIJKLMNOP") t) (.int ((n : Int).fmod 16) u)) Q E s := by
  rw [fmod16] at hs ⊢
  have hlt : n % 16 < 16 := Nat.mod_lt _ (by decide)
  obtain ⟨e1, e2⟩ := abcTab (n % 16) hlt
  have hl : (PySem.Str.ofString "ABCDEFGHIJKLMNOP").length = 16 := by decide
  refine item_str e2 (by rw [hl]; omega) (by rw [hl]; omega) (fun _ => ?_) hs ht
  rw [e1]; exact h
local macro_rules | `(tactic| walk_at "binaryOp FloorDiv int int") => `(tactic| (k_here; k_dflt (refine' div_nat ?k1 ?k2 ?_; (case k1 => assumption); (case k2 => assumption))))
local macro_rules | `(tactic| walk_at "subscriptTail") => `(tactic| (k_here; (with_reducible show wpAny _ _ (subscriptTail _ _ (Value.str _ _) (Value.int _ _)) _ _ _); k_dflt (refine' item_abc ?_ ?k1 ?k2; (case k1 => with_unfolding_all rfl); (case k2 => (intro _; with_unfolding_all rfl)))))
def pw (i : Nat) : Int := 16 ^ (9 - i)
/-- the powers of 16 below the k-th, downwards -/
def desc : Nat → List Nat
  | 0 => []
  | k + 1 => (desc k).map (· * 16) ++ [1]
theorem u8 (d : Nat) (h : d < 16) : (UInt8.ofNat (65 + d)).toNat = 65 + d := by
  rw [UInt8.toNat_ofNat']; omega
theorem desc_ap : ∀ (k n : Nat), n < 16 ^ k → (apL n).map (·.toNat) = ((desc k).filter fun p => decide (p ≤ n)).map fun p => 65 + (n / p) % 16
  | 0, n, h => by
    have : n = 0 := by simpa using h
    subst this; rw [apL_0]; rfl
  | k + 1, n, h => by
    by_cases h0 : n = 0
    · subst h0
      rw [apL_0]
      have hz : ∀ k, (desc k).filter (fun p => decide (p ≤ 0)) = [] := by
        intro k
        rw [List.filter_eq_nil_iff]
        intro p hp
        have hpos : ∀ k p, p ∈ desc k → 0 < p := by
          intro k
          induction k with
          | zero => intro p hp; cases hp
          | succ k ih =>
            intro p hp
            rcases List.mem_append.mp hp with hp | hp
            · obtain ⟨q, hq, rfl⟩ := List.mem_map.mp hp
              have := ih q hq
              omega
            · rw [List.mem_singleton.mp hp]; decide
        have := hpos k p hp
        simp; omega
      rw [hz]; rfl
    · have hlt : n / 16 < 16 ^ k := by rw [Nat.div_lt_iff_lt_mul (by decide)]; rw [Nat.pow_succ] at h; exact h
      rw [apL_step h0, List.map_append, desc_ap k (n / 16) hlt, desc, List.filter_append, List.map_append]
      congr 1
      · rw [List.filter_map, List.map_map]
        have ef : (desc k).filter (fun p => decide (p ≤ n / 16)) = (desc k).filter ((fun p => decide (p ≤ n)) ∘ fun x => x * 16) := by
          apply List.filter_congr
          intro p _
          have : (p ≤ n / 16) ↔ (p * 16 ≤ n) := by rw [Nat.le_div_iff_mul_le (by decide)]
          simp [this]
        rw [ef]
        apply List.map_congr_left
        intro p _
        show 65 + n / 16 / p % 16 = 65 + n / (p * 16) % 16
        rw [Nat.div_div_eq_div_mul, Nat.mul_comm]
      · have h1 : decide (1 ≤ n) = true := decide_eq_true (by omega)
        rw [List.filter_cons, if_pos h1, List.filter_nil]
        simp only [List.map_cons, List.map_nil, Nat.div_one]
        rw [u8 _ (Nat.mod_lt _ (by decide))]
theorem pw_desc : (List.range 10).map pw = (desc 10).map (fun p : Nat => (p : Int)) := by decide +kernel
theorem letters_eq {n : Nat} (h : n < 16 ^ 10) : (⟨((((List.range 10).map pw).filter fun p => decide (p ≤ (n : Int))).map fun p => 65 + (n / p.toNat) % 16).toArray⟩ : Str) = apStr n := by
  unfold apStr
  rw [desc_ap 10 n h, pw_desc, List.filter_map, List.map_map]
  have ef : (desc 10).filter ((fun p : Int => decide (p ≤ (n : Int))) ∘ fun p : Nat => (p : Int)) = (desc 10).filter fun p => decide (p ≤ n) := by
    apply List.filter_congr
    intro p _
    simp
  rw [ef]
  congr 2
set_option maxRecDepth 100000 in
set_option maxHeartbeats 400000 in
theorem law_letters {prog : Program} {w : World} {mean : ExcName → Option Value} {mg mb : Str → Option Value} {dp un : Nat} {gd : Option (List Code)} {cn : Str} {cs : Scope} {a : Addr} {ccd : Value} {cl : List (Str × Addr)} {outer : List Env} {A₀ : Around} {base h₀ : Heap} {L : Addr} {m : Str → Option Value} {s : Shared} {Q E : Value → Shared → Prop} {n : Nat} {tn : Tok}
    (B : Below A₀ base outer h₀) (F : Fr h₀ L s.heap m) (X : (Mine.hd.heap_39 w.params).In h₀) (T : Top Mine.hd.view_39 (looseW Mine.hd.view_39 []) mean mg mb h₀) (hk : cs.kind = .function)
    (hd : dp + 2 < recursionLimit) (hn : n < 16 ^ 10)
    (hret : ∀ t h' tk', s.heap.StaysIn h' → Q (.str (apStr n) t) { s with heap := h', toks := tk' }) :
    wpAny (model prog w) (ktrTop dp un gd cn cs L a ccd cl outer) (call (.ref 45) [.int (n : Int) tn]) Q E s := by
  have dummy : (PySem.Challenge.rw_pk0043_01 = PySem.Challenge.rw_pk0043_01) ∧ Mine.hd.heap_39 = Mine.hd.heap_39 := by k_fill; exact ⟨rfl, rfl⟩
  clear dummy; w_top off
  k_dflt (refine' pure_cells (binds := [(PySem.Str.ofString "number", Value.int (n : Int) tn)]) B F X T rfl rfl hk ?k6 ?k7 ?k8 ?k9 ?kB ?kD ?_ ?c2 ?c3 ?c4; (case k6 => k_is); (case k7 => k_is); (case k8 => ktr_room); (case k9 => exact BindsTo.of_eq rfl); (case kB => exact rfl); (case kD => decide +kernel); (case c2 => exact rfl); (case c3 => exact rfl); (case c4 => exact rfl))
  intro L1 h1 tk1 cells QQ EE hPE hQ F1 N1 Y1 B1 X1 T1
  k_cells Y1
  rename_i oc hoc
  clear B F X T
  generalize hg : s.heap = g at *
  replace hoc : oc.data = Data.cell (some (Value.int (n : Int) tn)) := hoc
  replace F1 := fr_eq (m' := fun y => none) F1 (fun y => rfl)
  refine wpAny_execs_cons ?_
  refine Assign_LC_D F1 rfl (by with_unfolding_all rfl) (by with_unfolding_all rfl) (by decide) (by rfl) (by decide) (by rfl) (by rfl) (by rfl) (fun R hR => ?_)
  tb_start
  rename Fr _ _ _ _ => F2
  rename News _ _ _ _ => N2
  rename IsRange _ _ _ _ _ _ _ _ => hr2
  refine hR _ _ _ _ _ _ _ 10 _ _ rfl F2 N2 hr2 (by decide) (by decide) (by decide) (fun g2 => ?_)
  clear hR hr2
  refine rest_T (fun i ys => IntsAre ys (((List.range i).map pw).filter fun p => decide (p ≤ (n : Int)))) .nil trivial ?_ ?_
  · intro i ys v I oI C oC D m₂ h tk E' R2 R0 hi hY hv hC hx F3 N3 off ne hR2 hR0
    obtain ⟨t, rfl⟩ := hv
    clear F2 N2
    have ei : 9 + (i : Int) * -1 = ((9 - i : Nat) : Int) := by omega
    rw [ei] at hx
    have hi9 : 9 - i ≤ 9 := by omega
    have hsplit : (List.range (i + 1)).map pw = (List.range i).map pw ++ [pw i] := by rw [List.range_succ, List.map_append]; rfl
    tb_start
    · refine hR2 _ _ _ F3 N3 ?_
      have hle : decide (pw i ≤ (n : Int)) = true := decide_eq_true (by assumption)
      rw [hsplit, List.filter_append, List.filter_cons, if_pos hle, List.filter_nil]
      exact IntsAre.append hY (.cons (pw i) _ .nil)
    · refine hR0 _ _ F3 N3 ?_
      have hle : ¬ decide (pw i ≤ (n : Int)) = true := by rw [decide_eq_true_eq]; assumption
      rw [hsplit, List.filter_append, List.filter_cons, if_neg hle, List.filter_nil, List.append_nil]
      exact hY
  · intro ys hys
    unfold LCg.FinA
    intro D2 h2 tk2 F3 N3 o3
    clear F2 N2
    dsimp only
    tb_start
    generalize hps : List.filter (fun p => decide (p ≤ (n : Int))) (List.map pw (List.range 10)) = ps at hys
    have hlps : ps.length ≤ 10 := by rw [← hps]; exact Nat.le_trans (List.length_filter_le _ _) (by simp)
    have hpos : ∀ p ∈ ps, 0 < p := by
      intro p hp
      rw [← hps] at hp
      obtain ⟨i, _, rfl⟩ := List.mem_map.mp (List.mem_filter.mp hp).1
      exact Int.pow_pos (by decide)
    have hbig : ∀ p ∈ ps, p < 2 ^ 40 := by
      intro p hp
      rw [← hps] at hp
      have := of_decide_eq_true (List.mem_filter.mp hp).2
      omega
    (try dsimp only)
    refine LCg.ListComp_U (F₀ := F3) (by with_unfolding_all rfl) (by decide) (by rfl) (by decide) (by rfl) ?_
    tb_start
    refine LCg.CompSrc.ledger rfl F3 N3 (.head _) (by have := hys.length; simp only [List.size_toArray, sizeLine_eq]; omega) (fun g3 => ?_)
    refine rest_U (fun i zs => StrsAre zs ((ps.take i).map fun p => (⟨#[65 + (n / p.toNat) % 16]⟩ : Str))) .nil (.inr ⟨_, .head _, rfl, _, rfl⟩) ?_ ?_
    · intro i zs v I oI C oC D m₂ h tk E' R2 hi hY hv hC hx F4 N4 off ne hR2
      obtain ⟨p, t, rfl, hp⟩ := IntsAre.at hys i v (by simpa using hv)
      have hp0 := hpos p (List.mem_of_getElem? hp)
      have hp1 := hbig p (List.mem_of_getElem? hp)
      clear F3 N3
      tb_start
      refine hR2 _ _ _ F4 N4 ?_
      rw [List.take_add_one, hp, Option.toList_some, List.map_append]
      exact StrsAre.append' hY (.cons _ _ .nil)
    · intro zs hzs
      unfold LCg.FinE
      intro D3 h3 tk3 F4 N4 o4
      clear F3 N3
      dsimp only
      have hzs' : StrsAre zs ((ps.map fun p => 65 + (n / p.toNat) % 16).map fun c => (⟨#[c]⟩ : Str)) := by
        rw [List.size_toArray, hys.length, List.take_length] at hzs
        rw [List.map_map]; exact hzs
      tb_start
      refine join_list (items := zs.toArray) (News.isList N4 (.head _)) hzs' ?_ (fun t9 k9 => ?_)
      · rw [ones_len]
        have e0 : (PySem.Str.ofString "").length = 0 := by decide
        rw [e0]
        simp only [List.length_map]
        omega
      · rw [join_ones_eq]
        tb_start
        have e9 : (⟨(ps.map fun p => 65 + (n / p.toNat) % 16).toArray⟩ : Str) = apStr n := by rw [← hps]; exact letters_eq hn
        rw [e9]
        exact hQ _ _ (hret _ _ _ F4.keep)
end
section
open PySem PySem.W PyProof.Rows PyProof.Rows.LCg
set_option maxRecDepth 100000
section
variable {prog : Program} {w : World} {A : Around} {E : Value → Shared → Prop} {s : Shared} {env : Env} {h₀ : Heap} {x : Str} {px : Pos} {body : List Stmt} {Q : Flow → Shared → Prop}
/-- a for over a list of the ledger, the name of any kind, by what holds between its turns -/
theorem my_listT {ax : Addr} {its : List Value} {lo : Obj} {k : Nat} {m₀ : Str → Option Value} {news : List (Addr × Obj)} (J : Nat → (Str → Option Value) → List (Addr × Obj) → Prop)
    (hh : A.handled = none) (hlo : lo = { cls := .type "list", data := .seq its.toArray k }) (hl : (ax, lo) ∈ news) (F : Fr h₀ env.locals s.heap m₀) (N : News h₀ env.locals s.heap news) (hJ : J 0 m₀ news) (hlJ : ∀ i m nx, J i m nx → (ax, lo) ∈ nx)
    (turn : ∀ i v m₁ nx I oI (s₁ : Shared) (R : Flow → Shared → Prop), its[i]? = some v → J i m₁ nx → Fr h₀ env.locals s₁.heap m₁ → News h₀ env.locals s₁.heap ((I, oI) :: nx) → (∀ p ∈ nx, p.1 ≠ I) →
      (∀ m' nx' news' h' tk', Fr h₀ env.locals h' m' → News h₀ env.locals h' news' → (I, oI) ∈ news' → (∀ p ∈ nx', p ∈ news') → (∀ p ∈ nx', p.1 ≠ I) → J (i + 1) m' nx' → R .next { s₁ with heap := h', toks := tk' }) →
      wpAny (model prog w) A (storeName env x v) (fun _ s₃ => wpAny (model prog w) A (execs body env) R E s₃) E s₁)
    (done : ∀ m₁ nx h tk, J its.length m₁ nx → Fr h₀ env.locals h m₁ → News h₀ env.locals h nx → Q .next { s with heap := h, toks := tk }) :
    wpAny (model prog w) A (pyIter (.ref ax)) (fun it s₂ => LoopAtT prog w A h₀ env (.Name x px) body Q E it s₂) E s := by
  subst hlo
  have hol := (N _ hl).1
  have hls : s.heap.IsList ax its.toArray := ⟨_, hol, rfl, k, rfl⟩
  have hne : ax ≠ s.heap.objs.size := Nat.ne_of_lt (Heap.lt_size hol)
  refine wpAny_pyIter_list hls ?_
  have W := Walks.list (prog := prog) (w := w) hh s.heap.objs.size ax hne its.toArray
  have hsz : its.toArray.size = its.length := by simp
  rw [hsz] at W
  refine ⟨s.heap.objs.size, _, _, its.length, _, _, m₀, news, J, rfl, W, ?_, ?_, ?_, ⟨⟨_, Heap.get?_push_size _ rfl, rfl, rfl⟩, hls.at fun o e => Heap.get?_push_of_some _ e⟩, F.push _, (fun p hp => ⟨Heap.get?_push_of_some _ (N p hp).1, (N p hp).2⟩), (fun _ _ _ _ _ q => wpAny_pure q), hJ, ?_, ?_⟩
  · intro hm
    rcases List.mem_cons.mp hm with e | hm
    · exact absurd F.ns.lt (e ▸ Nat.lt_irrefl _)
    · exact (N _ hl).2.1 ((List.mem_singleton.mp hm).symm)
  · intro b hb
    rw [List.mem_singleton.mp hb]
    exact next_is_new F
  · intro p hp hI
    exact absurd (Heap.lt_size (N p hp).1) ((List.mem_singleton.mp hI) ▸ Nat.lt_irrefl _)
  · intro i v m₁ nx s₁ own hi hP hJ₁ hoff hsub hget hall hst F₁ N₁
    obtain ⟨oI, heI, _⟩ := hst.1
    have hIown : (s.heap.objs.size, oI) ∈ own := hall _ (List.mem_cons_self) (next_is_new F) oI heI
    have hmem := hlJ i m₁ nx hJ₁
    have hax := (N₁ _ (List.mem_append_right _ hmem)).1
    refine wpAny_assign_Name (turn i v m₁ nx s.heap.objs.size oI s₁ _ (by simpa using hP) hJ₁ F₁ (fun p hp => ?_) (fun p hp e => hoff p hp (by simp [e])) (fun m' nx' news' h' tk' F' N' hI' hn' ho' hJ' => ?_))
    · rcases List.mem_cons.mp hp with rfl | hp
      · exact N₁ _ (List.mem_append_left _ hIown)
      · exact N₁ _ (List.mem_append_right _ hp)
    · refine LoopStepU.intro F' (fun p hp => ?_) (fun p hp hw => ho' p hp (by simpa using hw)) hJ'
      rcases List.mem_append.mp hp with hp | hp
      · have hg := hget p hp
        rcases List.mem_cons.mp (hsub p hp) with e | e
        · have : p = (s.heap.objs.size, oI) := by
            rw [e, heI] at hg
            exact Prod.ext e (Option.some.inj hg).symm
          rw [this]; exact N' _ hI'
        · have e' := List.mem_singleton.mp e
          have : p = (ax, ({ cls := .type "list", data := .seq its.toArray k } : Obj)) := by
            rw [e', hax] at hg
            exact Prod.ext e' (Option.some.inj hg).symm
          rw [this]; exact N' _ (hn' _ (hlJ _ _ _ hJ'))
      · exact N' _ (hn' _ hp)
  · intro h' tk m' news' F' N' _ hJ'
    exact done m' news' h' tk hJ' F' N'
end
end
section
open PySem PySem.W PyProof.Rows PyProof.Rows.LCg
/-- the row that a draw picks -/
def rowInts (low x : Int) : List Int := (rangeKs low 18).filter fun one => decide ((one - x.fdiv 5).fmod (2 + x.fmod 5) = 0)
end
section
open PySem PySem.W PyProof.Rows PyProof.Rows.LCg PySem.Calls PySem.SeqAt
theorem news_made {h₀ h h' : Heap} {L D : Addr} {o : Obj} {m : Str → Option Value} {news : List (Addr × Obj)} (F : Fr h₀ L h m) (N : News h₀ L h news) (hs : h.StaysIn h') (hg : h'.get? D = some o) (hn : h.get? D = none) : News h₀ L h' ((D, o) :: news) := by
  intro p hp
  rcases List.mem_cons.mp hp with rfl | hp
  · refine ⟨hg, fun e => ?_, ?_⟩
    · obtain ⟨oL, _, _, hL, _⟩ := F.ns
      have e' : D = L := e
      rw [e', hL] at hn; cases hn
    · cases q : h₀.get? D with
      | none => rfl
      | some o' => rw [F.keep _ _ q] at hn; cases hn
  · exact ⟨hs _ _ (N p hp).1, (N p hp).2⟩
theorem rowInts_in {low x : Int} : ∀ n ∈ rowInts low x, low ≤ n ∧ n < low + 18 := by
  intro n hn
  exact mem_rangeKs (List.mem_filter.mp hn).1
theorem rowInts_len (low x : Int) : (rowInts low x).length < 30 := by
  have := List.length_filter_le (fun one => decide ((one - x.fdiv 5).fmod (2 + x.fmod 5) = 0)) (rangeKs low 18)
  rw [rangeKs_length] at this
  unfold rowInts
  omega
theorem apStr_ok (n : Nat) : PyData.strOk (apStr n) = true := by
  unfold PyData.strOk apStr
  rw [Array.all_eq_true']
  intro c hc
  have hc' : c ∈ (apL n).map (·.toNat) := by simpa using hc
  obtain ⟨u, _, rfl⟩ := List.mem_map.mp hc'
  have := u.toNat_lt
  exact decide_eq_true (by omega)
theorem words_ok {ns : List Int} : ∀ x ∈ ns.map (fun n => apStr n.natAbs), PyData.strOk x = true := by
  intro x hx
  obtain ⟨n, _, rfl⟩ := List.mem_map.mp hx
  exact apStr_ok _
theorem ne_two {prog : Program} {w : World} {A : Around} {E : Value → Shared → Prop} {s : Shared} {Q : Value → Shared → Prop} {X Y a0 a1 b0 b1 : Addr} {U0 U1 Z0 Z1 : List Value} {w0 w1 : List Str}
    (hX : s.heap.IsList X #[.ref a0, .ref a1]) (hY : s.heap.IsList Y #[.ref b0, .ref b1]) (ha0 : s.heap.IsList a0 U0.toArray) (ha1 : s.heap.IsList a1 U1.toArray) (hb0 : s.heap.IsList b0 Z0.toArray) (hb1 : s.heap.IsList b1 Z1.toArray)
    (sU0 : StrsAre U0 w0) (sU1 : StrsAre U1 w1) (sZ0 : StrsAre Z0 w0) (sZ1 : StrsAre Z1 w1) (ok0 : ∀ x ∈ w0, PyData.strOk x = true) (ok1 : ∀ x ∈ w1, PyData.strOk x = true) (hu : A.units + 64 < cLine)
    (h : Q (.bool false) s) : wpAny (model prog w) A (compareOp .NotEq (.ref X) (.ref Y)) Q E s := by
  have rd : ∀ {l c0 c1 : Addr} {V0 V1 : List Value}, s.heap.IsList l #[.ref c0, .ref c1] → s.heap.IsList c0 V0.toArray → s.heap.IsList c1 V1.toArray → StrsAre V0 w0 → StrsAre V1 w1 → Reads s.heap (.ref l) (.list [.list (w0.map PyData.str), .list (w1.map PyData.str)]) (l :: ([c0] ++ ([c1] ++ []))) := by
    intro l c0 c1 V0 V1 hl h0 h1 s0 s1
    obtain ⟨o, ho, hc, n, hd⟩ := hl
    exact Reads.list ho hc hd (ReadsAll.cons (reads_of_strs h0 s0) (ReadsAll.cons (reads_of_strs h1 s1) .nil))
  have hsh : PySem.SeqAt.shaped (.list [.list (w0.map PyData.str), .list (w1.map PyData.str)]) = true := by
    have d0 := depthAll_strs w0
    have d1 := depthAll_strs w1
    have h2 : PyData.depth (.list [.list (w0.map PyData.str), .list (w1.map PyData.str)]) ≤ 64 := by simp only [PyData.depth, PyData.depthAll]; omega
    show (PyData.canLay0 _ && decide (PyData.depth _ ≤ 64)) = true
    rw [Bool.and_eq_true]
    exact ⟨by simp [PyData.canLay0, PyData.canLayAll0, canLayAll0_strs w0 ok0, canLayAll0_strs w1 ok1], decide_eq_true h2⟩
  refine ne_dataH_same (rd hX ha0 ha1 sU0 sU1) (rd hY hb0 hb1 sZ0 sZ1) hsh hsh hu ?_ ?_
  · simp [noMix, noMixAll, noMix_strs]
  · have e : PySem.Spec.same (.list [.list (w0.map PyData.str), .list (w1.map PyData.str)]) (.list [.list (w0.map PyData.str), .list (w1.map PyData.str)]) = true := by
      simp [PySem.Spec.same, PySem.Spec.sameAll, same_strs]
    rw [e]; exact h
end
section
open PySem PySem.W PyProof.Rows PyProof.Rows.LCg PySem.Calls PySem.SeqAt
theorem apStr_len {n : Nat} (h : n < 16 ^ 10) : (apStr n).length < 100 := by
  have := apL_len 10 n h
  show ((apL n).map (·.toNat)).toArray.size < 100
  simp; omega
theorem words_of {U : List Value} {r : List Int} (hS : StrsAre U (r.map fun n => apStr n.natAbs)) (hl : r.length < 30) (hb : ∀ n ∈ r, n.natAbs < 16 ^ 10) : Words U (r.map fun n => apStr n.natAbs) := by
  refine ⟨hS, by rw [List.length_map]; exact hl, fun x hx => ?_⟩
  obtain ⟨n, hn, rfl⟩ := List.mem_map.mp hx
  exact ⟨apStr_ok _, apStr_len (hb n hn)⟩
end
section
open PySem PySem.W PyProof.Rows PyProof.Rows.LCg PySem.Calls PySem.SeqAt
theorem lay_ints {ns : List Int} (h : ns.length < 30) (hb : ∀ n ∈ ns, n.natAbs < 16 ^ 10) : PyData.layable0 (.list (ns.map .int)) = true := by
  have hw : ∀ l : List Int, (∀ n ∈ l, n.natAbs < 16 ^ 10) → PyData.weightAll (l.map .int) ≤ 50 * l.length := by
    intro l
    induction l with
    | nil => intro _; simp [PyData.weightAll]
    | cons n r ih =>
      intro hb
      have h1 := ih fun m hm => hb m (.tail _ hm)
      have h2 : (if (n == 0) = true then 0 else n.natAbs.log2 + 1) ≤ 41 := by
        split
        · omega
        · rename_i hn
          have hn' : n.natAbs ≠ 0 := by simpa using hn
          have := (Nat.log2_lt hn').mpr (show n.natAbs < 2 ^ 40 from hb n (.head _))
          omega
      simp only [List.map_cons, PyData.weightAll, PyData.weight, List.length_cons]; omega
  have h1 := hw ns hb
  have h2 := PySem.W.depthAll_ints ns
  have h3 := canLayAll0_ints ns
  unfold PyData.layable0
  rw [Bool.and_eq_true, Bool.and_eq_true]
  refine ⟨⟨by simp only [PyData.canLay0]; exact h3, decide_eq_true (by simp only [PyData.depth]; omega)⟩, decide_eq_true (by simp only [PyData.weight]; omega)⟩
/-- one turn of the loop over the common ones -/
def turnStep (r0 r1 : List Int) (a b : Int) (t n : Int) : Int :=
  if (2 * if b - 1 - (List.idxOf n r1 : Int) > (List.idxOf n r0 : Int) then b - 1 - (List.idxOf n r1 : Int) else (List.idxOf n r0 : Int)) + 2 * (if (List.idxOf n r1 : Int) > a - 1 - (List.idxOf n r0 : Int) then (List.idxOf n r1 : Int) else a - 1 - (List.idxOf n r0 : Int)) < t
  then (2 * if b - 1 - (List.idxOf n r1 : Int) > (List.idxOf n r0 : Int) then b - 1 - (List.idxOf n r1 : Int) else (List.idxOf n r0 : Int)) + 2 * (if (List.idxOf n r1 : Int) > a - 1 - (List.idxOf n r0 : Int) then (List.idxOf n r1 : Int) else a - 1 - (List.idxOf n r0 : Int)) else t
end
section
open PySem PySem.W PyProof.Rows
theorem apL_mem : ∀ (n : Nat) (u : UInt8), u ∈ apL n → 65 ≤ u.toNat ∧ u.toNat ≤ 80 := by
  intro n
  induction n using Nat.strongRecOn with
  | _ n ih =>
    intro u hu
    by_cases h : n = 0
    · subst h; rw [apL_0] at hu; cases hu
    · rw [apL_step h] at hu
      rcases List.mem_append.mp hu with hu | hu
      · exact ih (n / 16) (by omega) u hu
      · have e := u8 (n % 16) (Nat.mod_lt _ (by decide))
        rw [List.mem_singleton.mp hu, e]
        omega
theorem low_word {n : Nat} : Txt.lower (apStr n) = ⟨((apL n).map fun u => lo1 u.toNat).toArray⟩ := by
  rw [lower_ascii]
  · unfold apStr
    simp
  · intro c hc
    have hc' : c ∈ (apL n).map (·.toNat) := by simpa [apStr] using hc
    obtain ⟨u, hu, rfl⟩ := List.mem_map.mp hc'
    have := apL_mem n u hu
    omega
theorem lo1_u {u : UInt8} (h : 65 ≤ u.toNat ∧ u.toNat ≤ 80) : lo1 u.toNat = u.toNat + 32 := by
  unfold lo1; simp; omega
theorem words_low {U : List Value} {r : List Int} (h : StrsAre U (r.map fun n => Txt.lower (apStr n.natAbs))) (hl : r.length < 30) (hb : ∀ n ∈ r, n.natAbs < 16 ^ 10) : Words U (r.map fun n => Txt.lower (apStr n.natAbs)) := by
  refine ⟨h, by rw [List.length_map]; exact hl, fun x hx => ?_⟩
  obtain ⟨n, hn, rfl⟩ := List.mem_map.mp hx
  rw [low_word]
  constructor
  · unfold PyData.strOk
    rw [Array.all_eq_true']
    intro c hc
    have hc' : c ∈ (apL n.natAbs).map (fun u => lo1 u.toNat) := by simpa using hc
    obtain ⟨u, hu, rfl⟩ := List.mem_map.mp hc'
    have q := apL_mem _ u hu
    rw [lo1_u q]
    exact decide_eq_true (by omega)
  · have := apL_len 10 _ (hb n hn)
    show ((apL n.natAbs).map fun u => lo1 u.toNat).toArray.size < 100
    simp; omega
theorem apL_inj : ∀ (n m : Nat), apL n = apL m → n = m := by
  intro n
  induction n using Nat.strongRecOn with
  | _ n ih =>
    intro m e
    by_cases h : n = 0
    · by_cases h' : m = 0
      · omega
      · subst h; rw [apL_0, apL_step h'] at e
        have := congrArg List.length e
        simp at this
    · by_cases h' : m = 0
      · subst h'; rw [apL_0, apL_step h] at e
        have := congrArg List.length e
        simp at this
      · rw [apL_step h, apL_step h'] at e
        obtain ⟨e1, e2⟩ := List.append_inj' e rfl
        have e3 := ih (n / 16) (by omega) (m / 16) e1
        have e4 : UInt8.ofNat (65 + n % 16) = UInt8.ofNat (65 + m % 16) := by simpa using e2
        have e5 := congrArg UInt8.toNat e4
        rw [u8 _ (Nat.mod_lt _ (by decide)), u8 _ (Nat.mod_lt _ (by decide))] at e5
        omega
theorem map_inj_on {α β : Type} {f : α → β} {S : α → Prop} (hf : ∀ x y, S x → S y → f x = f y → x = y) : ∀ (a b : List α), (∀ x ∈ a, S x) → (∀ x ∈ b, S x) → a.map f = b.map f → a = b
  | [], [], _, _, _ => rfl
  | [], _ :: _, _, _, e => by simp at e
  | _ :: _, [], _, _, e => by simp at e
  | x :: a, y :: b, ha, hb, e => by
    rw [List.map_cons, List.map_cons, List.cons.injEq] at e
    rw [hf x y (ha x (.head _)) (hb y (.head _)) e.1, map_inj_on hf a b (fun z hz => ha z (.tail _ hz)) (fun z hz => hb z (.tail _ hz)) e.2]
theorem apStr_inj {n m : Nat} (e : apStr n = apStr m) : n = m := by
  unfold apStr at e
  injection e with e
  have e2 : (apL n).map (·.toNat) = (apL m).map (·.toNat) := by simpa using congrArg Array.toList e
  exact apL_inj n m (map_inj_on (S := fun _ => True) (fun x y _ _ h => UInt8.toNat_inj.mp h) _ _ (fun _ _ => trivial) (fun _ _ => trivial) e2)
theorem low_inj {n m : Nat} (e : Txt.lower (apStr n) = Txt.lower (apStr m)) : n = m := by
  rw [low_word, low_word] at e
  injection e with e
  have e2 : (apL n).map (fun u => lo1 u.toNat) = (apL m).map (fun u => lo1 u.toNat) := by simpa using congrArg Array.toList e
  refine apL_inj n m (map_inj_on (S := fun u => 65 ≤ u.toNat ∧ u.toNat ≤ 80) (fun x y hx hy h => ?_) _ _ (apL_mem n) (apL_mem m) e2)
  rw [lo1_u hx, lo1_u hy] at h
  exact UInt8.toNat_inj.mp (by omega)
theorem low_ne {n m : Nat} (h : n ≠ 0) : apStr n ≠ Txt.lower (apStr m) := by
  intro e
  rw [low_word] at e
  unfold apStr at e
  injection e with e
  have e2 : (apL n).map (·.toNat) = (apL m).map (fun u => lo1 u.toNat) := by simpa using congrArg Array.toList e
  cases hn : apL n with
  | nil => rw [apL_step h] at hn; have := congrArg List.length hn; simp at this
  | cons u us =>
    cases hm : apL m with
    | nil => rw [hn, hm] at e2; simp at e2
    | cons v vs =>
      rw [hn, hm] at e2
      rw [List.map_cons, List.map_cons, List.cons.injEq] at e2
      have q1 := apL_mem n u (by rw [hn]; exact .head _)
      have q2 := apL_mem m v (by rw [hm]; exact .head _)
      have := e2.1
      rw [lo1_u q2] at this
      omega
theorem low_low {m : Nat} : Txt.lower (Txt.lower (apStr m)) = Txt.lower (apStr m) := by
  rw [low_word, lower_ascii]
  · simp only [List.map_toArray, List.map_map]
    congr 2
    apply List.map_congr_left
    intro u hu
    have q := apL_mem m u hu
    simp only [Function.comp]
    rw [lo1_u q]
    unfold lo1; simp; omega
  · intro c hc
    have hc' : c ∈ (apL m).map (fun u => lo1 u.toNat) := by simpa using hc
    obtain ⟨u, hu, rfl⟩ := List.mem_map.mp hc'
    have q := apL_mem m u hu
    rw [lo1_u q]
    omega
end
section
open PySem PySem.W PyProof.Rows
/-! the words by number: k stands for the word of low + k, 100 + k for the same word in small letters -/
def costC (x y : Nat) : Int := if x = y then 0 else if x % 100 = y % 100 then 1 else 2
def preC : List Nat → List Nat → Nat
  | a :: as, b :: bs => if a = b then preC as bs + 1 else 0
  | _, _ => 0
def innerStepC (bc : Nat) (a : List Nat) (i : Nat) (st : List Int × Int × Int × Int) : List Int × Int × Int × Int :=
  let u := st.2.1 + costC bc (a.getD i 0)
  let v := (if st.1.getD i 0 < st.2.2.1 then st.1.getD i 0 else st.2.2.1) + 2
  let r' := if u < v then u else v
  (st.1.set i r', st.1.getD i 0, r', if r' < st.2.2.2 then r' else st.2.2.2)
def innerC (bc : Nat) (a : List Nat) (rs0 : List Int) (d0 : Int) : Nat → List Int × Int × Int × Int
  | 0 => (rs0, d0, d0, 9223372036854775807)
  | i + 1 => innerStepC bc a i (innerC bc a rs0 d0 i)
def outerC (a b : List Nat) (mc : Int) : Nat → Option (List Int × Int)
  | 0 => some (rangeInts 2 2 a.length, 0)
  | i + 1 => match outerC a b mc i with
    | none => none
    | some st => if mc < (innerC (b.getD i 0) a st.1 ((i : Int) * 2) a.length).2.2.2 then none
        else some ((innerC (b.getD i 0) a st.1 ((i : Int) * 2) a.length).1, (innerC (b.getD i 0) a st.1 ((i : Int) * 2) a.length).2.2.1)
def levCoreC (a b : List Nat) (mc : Int) : Int :=
  if mc < ((b.length : Int) - (a.length : Int)) * 2 then mc + 1 else levEnd mc (outerC a b mc b.length)
def levC (wa wb : List Nat) (mc : Int) : Int :=
  if wa = wb then 0 else
    let a1 := wa.drop (preC wa wb)
    let b1 := wb.drop (preC wa wb)
    let a2 := a1.take (a1.length - preC a1.reverse b1.reverse)
    let b2 := b1.take (b1.length - preC a1.reverse b1.reverse)
    if a2.length = 0 ∨ b2.length = 0 then 2 * ((a2.length : Int) + (b2.length : Int))
    else if b2.length < a2.length then levCoreC b2 a2 mc else levCoreC a2 b2 mc
section
variable {h : Nat → Str} {S : Nat → Prop}
theorem getD_map {a : List Nat} {i : Nat} {e : Str} (hi : i < a.length) : (a.map h).getD i e = h (a.getD i 0) := by
  simp [List.getD, hi]
theorem getD_S {a : List Nat} {i : Nat} (ha : ∀ x ∈ a, S x) (hi : i < a.length) : S (a.getD i 0) := by
  have e : a.getD i 0 = a[i] := by simp [List.getD, hi]
  rw [e]; exact ha _ (List.getElem_mem hi)
theorem pre_map (inj : ∀ x y, S x → S y → h x = h y → x = y) : ∀ (a b : List Nat), (∀ x ∈ a, S x) → (∀ x ∈ b, S x) → preLen (a.map h) (b.map h) = preC a b
  | [], b, _, _ => by cases b <;> rfl
  | _ :: _, [], _, _ => rfl
  | x :: a, y :: b, ha, hb => by
    rw [List.map_cons, List.map_cons]
    simp only [preLen, preC]
    rw [pre_map inj a b (fun z hz => ha z (.tail _ hz)) (fun z hz => hb z (.tail _ hz))]
    by_cases e : x = y
    · subst e; simp
    · have e' : h x ≠ h y := fun q => e (inj x y (ha x (.head _)) (hb y (.head _)) q)
      rw [if_neg e, if_neg (by rw [beq_iff_eq]; exact e')]
theorem inner_map (cst : ∀ x y, S x → S y → cost (h x) (h y) = costC x y) {bc : Nat} {a : List Nat} (hc : S bc) (ha : ∀ x ∈ a, S x) (rs0 : List Int) (d0 : Int) :
    ∀ i, i ≤ a.length → innerN (h bc) (a.map h) rs0 d0 i = innerC bc a rs0 d0 i
  | 0, _ => rfl
  | i + 1, hi => by
    simp only [innerN, innerC]
    rw [inner_map cst hc ha rs0 d0 i (by omega)]
    simp only [innerStep, innerStepC]
    rw [getD_map (by omega), cst _ _ hc (getD_S ha (by omega))]
theorem outer_map (cst : ∀ x y, S x → S y → cost (h x) (h y) = costC x y) {a b : List Nat} (ha : ∀ x ∈ a, S x) (hb : ∀ x ∈ b, S x) (mc : Int) :
    ∀ i, i ≤ b.length → outerN (a.map h) (b.map h) mc i = outerC a b mc i
  | 0, _ => by simp only [outerN, outerC, List.length_map]
  | i + 1, hi => by
    simp only [outerN, outerC]
    rw [outer_map cst ha hb mc i (by omega)]
    cases outerC a b mc i with
    | none => rfl
    | some st =>
      simp only [List.length_map]
      rw [getD_map (by omega), inner_map cst (getD_S hb (by omega)) ha _ _ _ (Nat.le_refl _)]
theorem core_map (cst : ∀ x y, S x → S y → cost (h x) (h y) = costC x y) {a b : List Nat} (ha : ∀ x ∈ a, S x) (hb : ∀ x ∈ b, S x) (mc : Int) : levCore (a.map h) (b.map h) mc = levCoreC a b mc := by
  unfold levCore levCoreC
  rw [List.length_map, List.length_map, outer_map cst ha hb mc _ (Nat.le_refl _)]
theorem lev_map (inj : ∀ x y, S x → S y → h x = h y → x = y) (cst : ∀ x y, S x → S y → cost (h x) (h y) = costC x y) {a b : List Nat} (ha : ∀ x ∈ a, S x) (hb : ∀ x ∈ b, S x) (mc : Int) : levAll (a.map h) (b.map h) mc = levC a b mc := by
  unfold levAll levC
  by_cases e : a = b
  · subst e; rw [if_pos rfl, if_pos rfl]
  · rw [if_neg e, if_neg (fun q => e (map_inj_on inj a b ha hb q))]
    rw [pre_map inj a b ha hb]
    simp only [← List.map_drop, ← List.map_reverse]
    generalize ea : List.drop (preC a b) a = a1
    generalize eb : List.drop (preC a b) b = b1
    have ha1 : ∀ x ∈ a1, S x := fun x hx => ha x (List.mem_of_mem_drop (by rw [ea]; exact hx))
    have hb1 : ∀ x ∈ b1, S x := fun x hx => hb x (List.mem_of_mem_drop (by rw [eb]; exact hx))
    rw [pre_map inj a1.reverse b1.reverse (fun x hx => ha1 x (List.mem_reverse.mp hx)) (fun x hx => hb1 x (List.mem_reverse.mp hx))]
    simp only [← List.map_take, List.length_map]
    rw [core_map cst (fun x hx => hb1 x (List.mem_of_mem_take hx)) (fun x hx => ha1 x (List.mem_of_mem_take hx)), core_map cst (fun x hx => ha1 x (List.mem_of_mem_take hx)) (fun x hx => hb1 x (List.mem_of_mem_take hx))]
end
/-- the word of a number -/
def wordC (low : Int) (k : Nat) : Str := if k < 100 then apStr (low + (k : Int)).natAbs else Txt.lower (apStr (low + ((k - 100 : Nat) : Int)).natAbs)
theorem word_lo {low : Int} {k : Nat} (hk : k < 100) : wordC low k = apStr (low + (k : Int)).natAbs := by unfold wordC; rw [if_pos hk]
theorem word_hi {low : Int} {k : Nat} : wordC low (k + 100) = Txt.lower (apStr (low + (k : Int)).natAbs) := by
  unfold wordC; rw [if_neg (by omega), Nat.add_sub_cancel]
theorem word_low {low : Int} {k : Nat} (hk : k < 200) : Txt.lower (wordC low k) = Txt.lower (apStr (low + ((k % 100 : Nat) : Int)).natAbs) := by
  by_cases h : k < 100
  · rw [word_lo h, Nat.mod_eq_of_lt h]
  · have e : k = (k - 100) + 100 := by omega
    rw [e, word_hi, low_low]
    have e2 : (k - 100 + 100) % 100 = k - 100 := by omega
    rw [e2]
theorem word_inj {low : Int} (hl : 1 ≤ low) : ∀ x y, x < 200 → y < 200 → wordC low x = wordC low y → x = y := by
  intro x y hx hy e
  have e2 := congrArg Txt.lower e
  rw [word_low hx, word_low hy] at e2
  have e3 := low_inj e2
  by_cases h1 : x < 100 <;> by_cases h2 : y < 100
  · omega
  · exfalso
    have e4 : y = (y - 100) + 100 := by omega
    rw [word_lo h1, e4, word_hi] at e
    exact low_ne (by omega) e
  · exfalso
    have e4 : x = (x - 100) + 100 := by omega
    rw [word_lo h2, e4, word_hi] at e
    exact low_ne (by omega) e.symm
  · omega
theorem word_cost {low : Int} (hl : 1 ≤ low) : ∀ x y, x < 200 → y < 200 → cost (wordC low x) (wordC low y) = costC x y := by
  intro x y hx hy
  unfold cost costC
  by_cases e : x = y
  · subst e; simp
  · rw [if_neg e, if_neg (by rw [beq_iff_eq]; exact fun q => e (word_inj hl x y hx hy q))]
    by_cases e2 : x % 100 = y % 100
    · rw [if_pos e2, word_low hx, word_low hy, e2, if_pos (by simp)]
    · rw [if_neg e2, if_neg]
      rw [beq_iff_eq, word_low hx, word_low hy]
      intro q
      have := low_inj q
      omega
end
section
open PySem PySem.W PyProof.Rows
def pat (j r : Nat) : List Nat := (List.range 18).filter fun i => decide (i % (j + 2) = r)
def turnC (p q : List Nat) (a b : Int) (t : Int) (n : Nat) : Int :=
  if (2 * if b - 1 - (List.idxOf n q : Int) > (List.idxOf n p : Int) then b - 1 - (List.idxOf n q : Int) else (List.idxOf n p : Int)) + 2 * (if (List.idxOf n q : Int) > a - 1 - (List.idxOf n p : Int) then (List.idxOf n q : Int) else a - 1 - (List.idxOf n p : Int)) < t
  then (2 * if b - 1 - (List.idxOf n q : Int) > (List.idxOf n p : Int) then b - 1 - (List.idxOf n q : Int) else (List.idxOf n p : Int)) + 2 * (if (List.idxOf n q : Int) > a - 1 - (List.idxOf n p : Int) then (List.idxOf n q : Int) else a - 1 - (List.idxOf n p : Int)) else t
/-- the inner loop by the lists: the new row, the last cost, the least cost -/
def rowL (bc : Nat) : List Nat → List Int → Int → Int → Int → List Int × Int × Int
  | a :: as, x :: xs, d, r, l =>
    let u := d + costC bc a
    let v := (if x < r then x else r) + 2
    let r' := if u < v then u else v
    let t := rowL bc as xs x r' (if r' < l then r' else l)
    (r' :: t.1, t.2)
  | _, _, _, r, l => ([], r, l)
theorem rowL_at (bc : Nat) (a : List Nat) (rs : List Int) (d0 : Int) (hl : rs.length = a.length) : ∀ i, i ≤ a.length →
    (innerC bc a rs d0 i).1.length = rs.length ∧ (innerC bc a rs d0 i).1.drop i = rs.drop i ∧
    rowL bc a rs d0 d0 9223372036854775807 = ((innerC bc a rs d0 i).1.take i ++ (rowL bc (a.drop i) (rs.drop i) (innerC bc a rs d0 i).2.1 (innerC bc a rs d0 i).2.2.1 (innerC bc a rs d0 i).2.2.2).1, (rowL bc (a.drop i) (rs.drop i) (innerC bc a rs d0 i).2.1 (innerC bc a rs d0 i).2.2.1 (innerC bc a rs d0 i).2.2.2).2)
  | 0, _ => by simp [innerC]
  | i + 1, hi => by
    obtain ⟨h1, h2, h3⟩ := rowL_at bc a rs d0 hl i (by omega)
    have ea : a.drop i = a.getD i 0 :: a.drop (i + 1) := by
      rw [List.drop_eq_getElem_cons (show i < a.length by omega)]; simp [List.getD, show i < a.length by omega]
    have er : rs.drop i = rs.getD i 0 :: rs.drop (i + 1) := by
      rw [List.drop_eq_getElem_cons (show i < rs.length by omega)]; simp [List.getD, show i < rs.length by omega]
    rw [h3, ea, er]
    simp only [innerC]
    generalize innerC bc a rs d0 i = st at *
    have eg : st.1.getD i 0 = rs.getD i 0 := by
      have q : st.1.drop i = st.1.getD i 0 :: st.1.drop (i + 1) := by
        rw [List.drop_eq_getElem_cons (show i < st.1.length by omega)]; simp [List.getD, show i < st.1.length by omega]
      rw [q, er] at h2
      exact (List.cons.inj h2).1
    have e2 : st.1.drop (i + 1) = rs.drop (i + 1) := by
      have := congrArg (List.drop 1) h2
      simpa [List.drop_drop, Nat.add_comm] using this
    simp only [innerStepC, rowL, eg]
    generalize (if st.2.1 + costC bc (a.getD i 0) < (if rs.getD i 0 < st.2.2.1 then rs.getD i 0 else st.2.2.1) + 2 then st.2.1 + costC bc (a.getD i 0) else (if rs.getD i 0 < st.2.2.1 then rs.getD i 0 else st.2.2.1) + 2) = r'
    refine ⟨by rw [List.length_set]; exact h1, ?_, ?_⟩
    · rw [List.drop_set, if_pos (by omega)]; exact e2
    · have e5 : (st.1.set i r').take (i + 1) = st.1.take i ++ [r'] := by
        rw [List.take_add_one, List.take_set_of_le (Nat.le_refl i), List.getElem?_set]
        simp; omega
      rw [e5]
      simp
theorem rowL_is (bc : Nat) (a : List Nat) (rs : List Int) (d0 : Int) (hl : rs.length = a.length) :
    rowL bc a rs d0 d0 9223372036854775807 = ((innerC bc a rs d0 a.length).1, (innerC bc a rs d0 a.length).2.2) ∧ (innerC bc a rs d0 a.length).1.length = a.length := by
  obtain ⟨h1, h2, h3⟩ := rowL_at bc a rs d0 hl a.length (Nat.le_refl _)
  refine ⟨?_, by omega⟩
  rw [h3, List.drop_length, List.take_of_length_le (by omega)]
  simp [rowL]
/-- the outer loop by the lists, without the limit; M is the greatest of the rows' least costs -/
def rowsL (a : List Nat) : List Nat → List Int → Int → Int → Int → Int × Int
  | b :: bs, rs, d, _, M =>
    let w := rowL b a rs d d 9223372036854775807
    rowsL a bs w.1 (d + 2) w.2.1 (if M < w.2.2 then w.2.2 else M)
  | [], _, _, r, M => (r, M)
/-- what the limit does to the same loop -/
def outL (a : List Nat) (mc : Int) : List Nat → Nat → Option (List Int × Int) → Option (List Int × Int)
  | b :: bs, i, some st => outL a mc bs (i + 1) (if mc < (innerC b a st.1 ((i : Int) * 2) a.length).2.2.2 then none
        else some ((innerC b a st.1 ((i : Int) * 2) a.length).1, (innerC b a st.1 ((i : Int) * 2) a.length).2.2.1))
  | _, _, o => o
theorem outL_none (a : List Nat) (mc : Int) (b : List Nat) (i : Nat) : outL a mc b i none = none := by cases b <;> rfl
theorem outL_at (a b : List Nat) (mc : Int) : ∀ i, i ≤ b.length → outL a mc b 0 (some (rangeInts 2 2 a.length, 0)) = outL a mc (b.drop i) i (outerC a b mc i)
  | 0, _ => by simp [outerC]
  | i + 1, hi => by
    rw [outL_at a b mc i (by omega)]
    have eb : b.drop i = b.getD i 0 :: b.drop (i + 1) := by
      rw [List.drop_eq_getElem_cons (show i < b.length by omega)]; simp [List.getD, show i < b.length by omega]
    rw [eb]
    simp only [outerC]
    cases outerC a b mc i with
    | none => rw [outL_none]; exact (outL_none ..).symm
    | some st => simp only [outL]
theorem outL_is (a b : List Nat) (mc : Int) : outerC a b mc b.length = outL a mc b 0 (some (rangeInts 2 2 a.length, 0)) := by
  rw [outL_at a b mc b.length (Nat.le_refl _), List.drop_length]; simp [outL]
theorem rowsL_is (a : List Nat) (mc : Int) : ∀ (b : List Nat) (i : Nat) (rs : List Int) (d r M : Int), rs.length = a.length → d = (i : Int) * 2 →
    M ≤ (rowsL a b rs d r M).2 ∧ (outL a mc b i (some (rs, r)) = none ∨ ∃ x, outL a mc b i (some (rs, r)) = some (x, (rowsL a b rs d r M).1)) ∧
    ((rowsL a b rs d r M).2 ≤ mc → ∃ x, outL a mc b i (some (rs, r)) = some (x, (rowsL a b rs d r M).1))
  | [], i, rs, d, r, M, _, _ => ⟨Int.le_refl _, .inr ⟨rs, rfl⟩, fun _ => ⟨rs, rfl⟩⟩
  | b :: bs, i, rs, d, r, M, hl, hd => by
    obtain ⟨q1, q2⟩ := rowL_is b a rs d hl
    subst hd
    simp only [rowsL, outL]
    rw [q1]
    generalize innerC b a rs ((i : Int) * 2) a.length = w at *
    dsimp only
    obtain ⟨k1, k2, k3⟩ := rowsL_is a mc bs (i + 1) w.1 ((i : Int) * 2 + 2) w.2.2.1 (if M < w.2.2.2 then w.2.2.2 else M) q2 (by omega)
    generalize rowsL a bs w.1 ((i : Int) * 2 + 2) w.2.2.1 (if M < w.2.2.2 then w.2.2.2 else M) = z at *
    have g1 : M ≤ z.2 ∧ w.2.2.2 ≤ z.2 := by split at k1 <;> omega
    refine ⟨g1.1, ?_, ?_⟩
    · split
      · exact .inl (outL_none ..)
      · exact k2
    · intro hz
      rw [if_neg (by omega)]
      exact k3 hz
def coreF (a b : List Nat) (D : Int) : Bool :=
  let st := rowsL a b (rangeInts 2 2 a.length) 0 0 0
  decide (((b.length : Int) - (a.length : Int)) * 2 ≤ D) && decide (st.1 = D) && decide (st.2 ≤ D)
theorem coreF_is {a b : List Nat} {D mc : Int} (h : coreF a b D = true) (hm : D - 1 ≤ mc) : levCoreC a b mc = D := by
  unfold coreF at h
  simp only [Bool.and_eq_true, decide_eq_true_eq] at h
  obtain ⟨⟨h1, h2⟩, h3⟩ := h
  obtain ⟨-, o1, o2⟩ := rowsL_is a mc b 0 (rangeInts 2 2 a.length) 0 0 0 (rangeInts_length _ _ _) rfl
  rw [← outL_is] at o1 o2
  unfold levCoreC
  split
  · omega
  · by_cases hD : D ≤ mc
    · obtain ⟨x, e⟩ := o2 (by omega)
      rw [e]; exact h2
    · rcases o1 with e | ⟨x, e⟩
      · rw [e]; show mc + 1 = D; omega
      · rw [e]; exact h2
def levF (wa wb : List Nat) (D : Int) : Bool :=
  if wa = wb then decide (D = 0) else
    let a1 := wa.drop (preC wa wb)
    let b1 := wb.drop (preC wa wb)
    let a2 := a1.take (a1.length - preC a1.reverse b1.reverse)
    let b2 := b1.take (b1.length - preC a1.reverse b1.reverse)
    if a2.length = 0 ∨ b2.length = 0 then decide (2 * ((a2.length : Int) + (b2.length : Int)) = D)
    else if b2.length < a2.length then coreF b2 a2 D else coreF a2 b2 D
theorem levF_is {wa wb : List Nat} {D mc : Int} (h : levF wa wb D = true) (hm : D - 1 ≤ mc) : levC wa wb mc = D := by
  unfold levF at h
  unfold levC
  by_cases e : wa = wb
  · rw [if_pos e] at h ⊢
    exact (of_decide_eq_true h).symm
  · rw [if_neg e] at h ⊢
    dsimp only at h ⊢
    generalize List.drop (preC wa wb) wa = a1 at *
    generalize List.drop (preC wa wb) wb = b1 at *
    generalize List.take (a1.length - preC a1.reverse b1.reverse) a1 = a2 at *
    generalize List.take (b1.length - preC a1.reverse b1.reverse) b1 = b2 at *
    split
    · rename_i g
      rw [if_pos g] at h
      exact of_decide_eq_true h
    · rename_i g
      rw [if_neg g] at h
      split
      · rename_i g2
        rw [if_pos g2] at h
        exact coreF_is h hm
      · rename_i g2
        rw [if_neg g2] at h
        exact coreF_is h hm
theorem beqF {x y : Nat} (h : x ≠ y) : Nat.beq x y = false := by
  cases e : Nat.beq x y with
  | false => rfl
  | true => exact absurd (Nat.eq_of_beq_eq_true e) h
theorem costC_N (x y : Nat) : costC x y = ((cond (Nat.beq x y) 0 (cond (Nat.beq (x % 100) (y % 100)) 1 2) : Nat) : Int) := by
  unfold costC
  by_cases e : x = y
  · subst e; rw [if_pos rfl, show Nat.beq x x = true from Nat.beq_refl x]; rfl
  · rw [if_neg e, show Nat.beq x y = false from beqF e]
    by_cases e2 : x % 100 = y % 100
    · rw [if_pos e2, e2, show Nat.beq (y % 100) (y % 100) = true from Nat.beq_refl _]; rfl
    · rw [if_neg e2, show Nat.beq (x % 100) (y % 100) = false from beqF e2]; rfl
def minN (x y : Nat) : Nat := cond (Nat.ble x y) x y
def maxN (x y : Nat) : Nat := cond (Nat.ble x y) y x
theorem minN_lt (x y : Nat) : (if (x : Int) < (y : Int) then (x : Int) else (y : Int)) = ((minN x y : Nat) : Int) := by
  unfold minN
  cases e : Nat.ble x y with
  | true => have := Nat.le_of_ble_eq_true e; simp only [cond]; split <;> omega
  | false => have := Nat.not_le_of_not_ble_eq_true (by rw [e]; decide); simp only [cond]; split <;> omega
theorem maxN_lt (x y : Nat) : (if (x : Int) < (y : Int) then (y : Int) else (x : Int)) = ((maxN x y : Nat) : Int) := by
  unfold maxN
  cases e : Nat.ble x y with
  | true => have := Nat.le_of_ble_eq_true e; simp only [cond]; split <;> omega
  | false => have := Nat.not_le_of_not_ble_eq_true (by rw [e]; decide); simp only [cond]; split <;> omega
/-- the inner loop in natural numbers -/
def rowN (bc : Nat) : List Nat → List Nat → Nat → Nat → Nat → List Nat × Nat × Nat
  | a :: as, x :: xs, d, r, l =>
    let r' := minN (Nat.add d (cond (Nat.beq bc a) 0 (cond (Nat.beq (Nat.mod bc 100) (Nat.mod a 100)) 1 2))) (Nat.add (minN x r) 2)
    let t := rowN bc as xs x r' (minN r' l)
    (r' :: t.1, t.2)
  | _, _, _, r, l => ([], r, l)
def castN (l : List Nat) : List Int := l.map fun k : Nat => (k : Int)
theorem rowN_is (bc : Nat) : ∀ (a rs : List Nat) (d r l : Nat), rowL bc a (castN rs) (d : Int) (r : Int) (l : Int) = (castN (rowN bc a rs d r l).1, (((rowN bc a rs d r l).2.1 : Nat) : Int), (((rowN bc a rs d r l).2.2 : Nat) : Int))
  | [], rs, d, r, l => by cases rs <;> rfl
  | _ :: _, [], d, r, l => rfl
  | a :: as, x :: xs, d, r, l => by
    show rowL bc (a :: as) ((x : Int) :: castN xs) _ _ _ = _
    simp only [rowL, rowN]
    rw [costC_N, minN_lt]
    have e : (if (d : Int) + ((cond (Nat.beq bc a) 0 (cond (Nat.beq (bc % 100) (a % 100)) 1 2) : Nat) : Int) < ((minN x r : Nat) : Int) + 2 then (d : Int) + ((cond (Nat.beq bc a) 0 (cond (Nat.beq (bc % 100) (a % 100)) 1 2) : Nat) : Int) else ((minN x r : Nat) : Int) + 2) = ((minN (Nat.add d (cond (Nat.beq bc a) 0 (cond (Nat.beq (Nat.mod bc 100) (Nat.mod a 100)) 1 2))) (Nat.add (minN x r) 2) : Nat) : Int) := by
      exact minN_lt (Nat.add d (cond (Nat.beq bc a) 0 (cond (Nat.beq (Nat.mod bc 100) (Nat.mod a 100)) 1 2))) (Nat.add (minN x r) 2)
    rw [e]
    generalize minN (Nat.add d (cond (Nat.beq bc a) 0 (cond (Nat.beq (Nat.mod bc 100) (Nat.mod a 100)) 1 2))) (Nat.add (minN x r) 2) = r'
    rw [minN_lt, rowN_is bc as xs x r' (minN r' l)]
    rfl
/-- the outer loop in natural numbers -/
def rowsN (a : List Nat) : List Nat → List Nat → Nat → Nat → Nat → Nat × Nat
  | b :: bs, rs, d, _, M =>
    let w := rowN b a rs d d 9223372036854775807
    rowsN a bs w.1 (Nat.add d 2) w.2.1 (maxN M w.2.2)
  | [], _, _, r, M => (r, M)
theorem rowsN_is (a : List Nat) : ∀ (b rs : List Nat) (d r M : Nat), rowsL a b (castN rs) (d : Int) (r : Int) (M : Int) = ((((rowsN a b rs d r M).1 : Nat) : Int), (((rowsN a b rs d r M).2 : Nat) : Int))
  | [], rs, d, r, M => rfl
  | b :: bs, rs, d, r, M => by
    simp only [rowsL, rowsN]
    have e := rowN_is b a rs d d 9223372036854775807
    rw [show ((9223372036854775807 : Nat) : Int) = 9223372036854775807 from rfl] at e
    rw [e]
    generalize rowN b a rs d d 9223372036854775807 = w
    dsimp only
    rw [maxN_lt, show (d : Int) + 2 = ((Nat.add d 2 : Nat) : Int) from rfl]
    exact rowsN_is a bs w.1 (Nat.add d 2) w.2.1 (maxN M w.2.2)
def twos : Nat → Nat → List Nat
  | 0, _ => []
  | n + 1, k => k :: twos n (Nat.add k 2)
theorem twos_is : ∀ n k : Nat, rangeInts (k : Int) 2 n = castN (twos n k)
  | 0, _ => rfl
  | n + 1, k => by
    unfold rangeInts
    rw [List.range_succ_eq_map, List.map_cons, List.map_map]
    show _ = (k : Int) :: castN (twos n (Nat.add k 2))
    rw [← twos_is n (Nat.add k 2)]
    unfold rangeInts
    have e : (k : Int) + ((0 : Nat) : Int) * 2 = (k : Int) := by omega
    rw [e]
    congr 1
    apply List.map_congr_left
    intro x _
    show (k : Int) + ((x + 1 : Nat) : Int) * 2 = ((k + 2 : Nat) : Int) + (x : Int) * 2
    omega
def coreN (a b : List Nat) (D : Nat) : Bool :=
  let st := rowsN a b (twos a.length 2) 0 0 0
  Nat.ble (Nat.mul b.length 2) (Nat.add D (Nat.mul a.length 2)) && (Nat.beq st.1 D && Nat.ble st.2 D)
theorem coreN_is {a b : List Nat} {D : Nat} (h : coreN a b D = true) : coreF a b (D : Int) = true := by
  unfold coreN at h
  unfold coreF
  have e := rowsN_is a b (twos a.length 2) 0 0 0
  rw [← twos_is] at e
  rw [show rowsL a b (rangeInts 2 2 a.length) 0 0 0 = _ from e]
  generalize rowsN a b (twos a.length 2) 0 0 0 = st at *
  simp only [Bool.and_eq_true] at h
  obtain ⟨h1, h2, h3⟩ := h
  have h1 : b.length * 2 ≤ D + a.length * 2 := Nat.le_of_ble_eq_true h1
  have h2 := Nat.eq_of_beq_eq_true h2
  have h3 := Nat.le_of_ble_eq_true h3
  simp only [Bool.and_eq_true, decide_eq_true_eq]
  refine ⟨⟨?_, ?_⟩, ?_⟩ <;> omega
def eqN : List Nat → List Nat → Bool
  | [], [] => true
  | x :: a, y :: b => Nat.beq x y && eqN a b
  | _, _ => false
theorem eqN_is : ∀ a b : List Nat, eqN a b = decide (a = b)
  | [], [] => rfl
  | [], _ :: _ => rfl
  | _ :: _, [] => rfl
  | x :: a, y :: b => by
    simp only [eqN]
    rw [eqN_is a b]
    by_cases e : x = y
    · subst e; rw [show Nat.beq x x = true from Nat.beq_refl x]; simp
    · rw [show Nat.beq x y = false from beqF e]; simp [e]
def preN : List Nat → List Nat → Nat
  | a :: as, b :: bs => cond (Nat.beq a b) (Nat.add (preN as bs) 1) 0
  | _, _ => 0
theorem preN_is : ∀ a b : List Nat, preC a b = preN a b
  | [], [] => rfl
  | [], _ :: _ => rfl
  | _ :: _, [] => rfl
  | x :: a, y :: b => by
    simp only [preC, preN]
    rw [preN_is a b]
    by_cases e : x = y
    · subst e; rw [show Nat.beq x x = true from Nat.beq_refl x, if_pos rfl]; rfl
    · rw [show Nat.beq x y = false from beqF e, if_neg e]; rfl
/-- the two rows without what they share at the head and at the end, given to f -/
def trimN {α : Type} (wa wb : List Nat) (f : List Nat → List Nat → α) : α :=
  let n := preN wa wb
  let a1 := wa.drop n
  let b1 := wb.drop n
  let m := preN a1.reverse b1.reverse
  f (a1.take (Nat.sub a1.length m)) (b1.take (Nat.sub b1.length m))
def levN (wa wb : List Nat) (D : Nat) : Bool :=
  cond (eqN wa wb) (Nat.beq D 0) (trimN wa wb fun a2 b2 =>
    cond (Nat.beq a2.length 0 || Nat.beq b2.length 0) (Nat.beq (Nat.mul 2 (Nat.add a2.length b2.length)) D)
      (cond (Nat.ble a2.length b2.length) (coreN a2 b2 D) (coreN b2 a2 D)))
theorem levN_is {wa wb : List Nat} {D : Nat} (h : levN wa wb D = true) : levF wa wb (D : Int) = true := by
  unfold levN trimN at h
  unfold levF
  rw [eqN_is] at h
  by_cases e : wa = wb
  · rw [decide_eq_true e] at h
    rw [if_pos e]
    have h := Nat.eq_of_beq_eq_true h
    exact decide_eq_true (by omega)
  · rw [decide_eq_false e] at h
    rw [if_neg e]
    simp only [preN_is]
    dsimp only at h ⊢
    generalize List.drop (preN wa wb) wa = a1 at *
    generalize List.drop (preN wa wb) wb = b1 at *
    rw [show Nat.sub a1.length (preN a1.reverse b1.reverse) = a1.length - preN a1.reverse b1.reverse from rfl, show Nat.sub b1.length (preN a1.reverse b1.reverse) = b1.length - preN a1.reverse b1.reverse from rfl] at h
    generalize List.take (a1.length - preN a1.reverse b1.reverse) a1 = a2 at *
    generalize List.take (b1.length - preN a1.reverse b1.reverse) b1 = b2 at *
    have g : (Nat.beq a2.length 0 || Nat.beq b2.length 0) = true ↔ a2.length = 0 ∨ b2.length = 0 := by
      rw [Bool.or_eq_true]
      constructor
      · rintro (k | k)
        · exact .inl (Nat.eq_of_beq_eq_true k)
        · exact .inr (Nat.eq_of_beq_eq_true k)
      · rintro (k | k)
        · exact .inl (by rw [k]; rfl)
        · exact .inr (by rw [k]; rfl)
    by_cases z : a2.length = 0 ∨ b2.length = 0
    · rw [if_pos z]
      rw [g.mpr z] at h
      have h : 2 * (a2.length + b2.length) = D := Nat.eq_of_beq_eq_true h
      exact decide_eq_true (by omega)
    · rw [if_neg z]
      rw [Bool.eq_false_iff.mpr fun k => z (g.mp k)] at h
      replace h : cond (Nat.ble a2.length b2.length) (coreN a2 b2 D) (coreN b2 a2 D) = true := h
      cases k : Nat.ble a2.length b2.length with
      | true =>
        rw [k] at h
        have := Nat.le_of_ble_eq_true k
        rw [if_neg (by omega)]
        exact coreN_is h
      | false =>
        rw [k] at h
        have := Nat.not_le_of_not_ble_eq_true (by rw [k]; decide)
        rw [if_pos (by omega)]
        exact coreN_is h
/-- at the limit 0 the first row is enough -/
def firstN (a : List Nat) : List Nat → Bool
  | b :: _ => Nat.ble 1 (rowN b a (twos a.length 2) 0 0 9223372036854775807).2.2
  | [] => false
theorem firstN_is {a b : List Nat} (h : firstN a b = true) : levCoreC a b 0 = 1 := by
  unfold levCoreC
  split
  · rfl
  · match b, h with
    | b :: bs, h =>
      rw [outL_is]
      have q := (rowL_is b a (rangeInts 2 2 a.length) 0 (rangeInts_length _ _ _)).1
      have e := rowN_is b a (twos a.length 2) 0 0 9223372036854775807
      rw [← twos_is] at e
      rw [show rowL b a (rangeInts 2 2 a.length) 0 0 9223372036854775807 = _ from e] at q
      have h : 1 ≤ (rowN b a (twos a.length 2) 0 0 9223372036854775807).2.2 := Nat.le_of_ble_eq_true h
      have q2 : (((rowN b a (twos a.length 2) 0 0 9223372036854775807).2.2 : Nat) : Int) = (innerC b a (rangeInts 2 2 a.length) 0 a.length).2.2.2 := congrArg (fun z => z.2.2) q
      simp only [outL]
      rw [if_pos (by show (0 : Int) < (innerC b a (rangeInts 2 2 a.length) 0 a.length).2.2.2; omega), outL_none]
      rfl
def moreN (wa wb : List Nat) : Bool :=
  trimN wa wb fun a2 b2 =>
    cond (Nat.beq a2.length 0 || Nat.beq b2.length 0) (Nat.ble 1 (Nat.add a2.length b2.length))
      (cond (Nat.ble a2.length b2.length) (firstN a2 b2) (firstN b2 a2))
theorem moreN_is {wa wb : List Nat} (e : wa ≠ wb) (h : moreN wa wb = true) : 1 ≤ levC wa wb 0 := by
  unfold moreN trimN at h
  unfold levC
  rw [if_neg e]
  simp only [preN_is]
  dsimp only at h ⊢
  generalize List.drop (preN wa wb) wa = a1 at *
  generalize List.drop (preN wa wb) wb = b1 at *
  rw [show Nat.sub a1.length (preN a1.reverse b1.reverse) = a1.length - preN a1.reverse b1.reverse from rfl, show Nat.sub b1.length (preN a1.reverse b1.reverse) = b1.length - preN a1.reverse b1.reverse from rfl] at h
  generalize List.take (a1.length - preN a1.reverse b1.reverse) a1 = a2 at *
  generalize List.take (b1.length - preN a1.reverse b1.reverse) b1 = b2 at *
  have g : (Nat.beq a2.length 0 || Nat.beq b2.length 0) = true ↔ a2.length = 0 ∨ b2.length = 0 := by
    rw [Bool.or_eq_true]
    constructor
    · rintro (k | k)
      · exact .inl (Nat.eq_of_beq_eq_true k)
      · exact .inr (Nat.eq_of_beq_eq_true k)
    · rintro (k | k)
      · exact .inl (by rw [k]; rfl)
      · exact .inr (by rw [k]; rfl)
  by_cases z : a2.length = 0 ∨ b2.length = 0
  · rw [if_pos z]
    rw [g.mpr z] at h
    have h : 1 ≤ a2.length + b2.length := Nat.le_of_ble_eq_true h
    omega
  · rw [if_neg z]
    rw [Bool.eq_false_iff.mpr fun k => z (g.mp k)] at h
    replace h : cond (Nat.ble a2.length b2.length) (firstN a2 b2) (firstN b2 a2) = true := h
    cases k : Nat.ble a2.length b2.length with
    | true =>
      rw [k] at h
      have := Nat.le_of_ble_eq_true k
      rw [if_neg (by omega), firstN_is h]
      exact Int.le_refl _
    | false =>
      rw [k] at h
      have := Nat.not_le_of_not_ble_eq_true (by rw [k]; decide)
      rw [if_pos (by omega), firstN_is h]
      exact Int.le_refl _
def memN (x : Nat) : List Nat → Bool
  | [] => false
  | y :: l => Nat.beq x y || memN x l
theorem memN_is (x : Nat) : ∀ l : List Nat, decide (x ∈ l) = memN x l
  | [] => by simp [memN]
  | y :: l => by
    simp only [memN]
    rw [← memN_is x l]
    by_cases e : x = y
    · subst e; rw [show Nat.beq x x = true from Nat.beq_refl x]; simp
    · rw [show Nat.beq x y = false from beqF e]; simp [e]
def comC (p q : List Nat) : List Nat := List.filter (fun n => decide (n ∈ q)) p
def comN (q : List Nat) : List Nat → List Nat
  | [] => []
  | x :: p => cond (memN x q) (x :: comN q p) (comN q p)
theorem comN_is (q : List Nat) : ∀ p : List Nat, comC p q = comN q p
  | [] => rfl
  | x :: p => by
    have ih := comN_is q p
    unfold comC at ih ⊢
    simp only [comN]
    rw [List.filter_cons, ih, memN_is]
    cases memN x q <;> rfl
def idxN (n : Nat) : List Nat → Nat
  | [] => 0
  | x :: l => cond (Nat.beq x n) 0 (Nat.add (idxN n l) 1)
theorem idxN_is (n : Nat) : ∀ l : List Nat, List.idxOf n l = idxN n l
  | [] => rfl
  | x :: l => by
    rw [List.idxOf_cons, idxN_is n l]
    simp only [idxN]
    by_cases e : x = n
    · subst e; rw [show Nat.beq x x = true from Nat.beq_refl x]; simp
    · rw [show Nat.beq x n = false from beqF e]; simp [beq_eq_false_iff_ne.mpr e]
def lnC (p q : List Nat) : Int := if (q.length : Int) > (p.length : Int) then (q.length : Int) else (p.length : Int)
def tnC (p q : List Nat) : Int := (comC p q).foldl (turnC p q (p.length : Int) (q.length : Int)) (2 * lnC p q)
def turnN (p q : List Nat) (t n : Nat) : Nat :=
  minN (Nat.add (Nat.mul 2 (maxN (idxN n p) (Nat.sub (Nat.sub q.length 1) (idxN n q)))) (Nat.mul 2 (maxN (Nat.sub (Nat.sub p.length 1) (idxN n p)) (idxN n q)))) t
theorem turnN_is (p q : List Nat) (t n : Nat) (hp : idxN n p < p.length) : turnC p q (p.length : Int) (q.length : Int) (t : Int) n = ((turnN p q t n : Nat) : Int) := by
  unfold turnC turnN
  rw [idxN_is, idxN_is]
  rw [← minN_lt]
  have e1 : (if (q.length : Int) - 1 - (idxN n q : Int) > (idxN n p : Int) then (q.length : Int) - 1 - (idxN n q : Int) else (idxN n p : Int)) = ((maxN (idxN n p) (Nat.sub (Nat.sub q.length 1) (idxN n q)) : Nat) : Int) := by
    rw [← maxN_lt]
    have : ((Nat.sub (Nat.sub q.length 1) (idxN n q) : Nat) : Int) = ((q.length - 1 - idxN n q : Nat) : Int) := rfl
    rw [this]
    split <;> split <;> omega
  have e2 : (if (idxN n q : Int) > (p.length : Int) - 1 - (idxN n p : Int) then (idxN n q : Int) else (p.length : Int) - 1 - (idxN n p : Int)) = ((maxN (Nat.sub (Nat.sub p.length 1) (idxN n p)) (idxN n q) : Nat) : Int) := by
    rw [← maxN_lt]
    have : ((Nat.sub (Nat.sub p.length 1) (idxN n p) : Nat) : Int) = ((p.length - 1 - idxN n p : Nat) : Int) := rfl
    rw [this]
    split <;> split <;> omega
  rw [e1, e2]
  rfl
def tnN (p q : List Nat) : List Nat → Nat → Nat
  | [], t => t
  | n :: l, t => tnN p q l (turnN p q t n)
theorem idx_lt {n : Nat} : ∀ {l : List Nat}, n ∈ l → idxN n l < l.length := by
  intro l h
  rw [← idxN_is]
  exact List.idxOf_lt_length_of_mem h
theorem tnN_is (p q : List Nat) : ∀ (l : List Nat) (t : Nat), (∀ n ∈ l, n ∈ p) → l.foldl (turnC p q (p.length : Int) (q.length : Int)) (t : Int) = ((tnN p q l t : Nat) : Int)
  | [], _, _ => rfl
  | n :: l, t, h => by
    rw [List.foldl_cons, turnN_is p q t n (idx_lt (h n (.head _))), tnN_is p q l _ fun m hm => h m (.tail _ hm)]
    rfl
def addN : List Nat → List Nat
  | [] => []
  | x :: l => Nat.add x 100 :: addN l
theorem addN_is : ∀ l : List Nat, (l.map fun k => k + 100) = addN l
  | [] => rfl
  | x :: l => by rw [List.map_cons, addN_is l]; rfl
/-- the law by numbers -/
def plainN (p q : List Nat) : Bool :=
  let cm := comN q p
  let c := cm.length
  let L := maxN p.length q.length
  let D := Nat.mul 2 (Nat.sub L c)
  Nat.ble c L && (levN p q D && (levN q.reverse p (tnN p q cm (Nat.mul 2 L)) && (levN p (addN q) (Nat.sub (Nat.mul 2 L) c) &&
    cond (eqN q p) (Nat.beq D 0) (Nat.ble 1 D && moreN q p))))
theorem plainN_is {p q : List Nat} (h : plainN p q = true) (mc0 : Int) (h0 : -1 ≤ mc0) :
    levC p q (2 * (lnC p q - ((comC p q).length : Int)) + mc0) = 2 * (lnC p q - ((comC p q).length : Int)) ∧ levC q.reverse p (tnC p q + mc0) = tnC p q ∧
    levC p (q.map fun k => k + 100) (2 * lnC p q - ((comC p q).length : Int) + mc0) = 2 * lnC p q - ((comC p q).length : Int) ∧
    (if levC q p 0 < 1 then levC q p 0 else 1) = if 2 * (lnC p q - ((comC p q).length : Int)) < 1 then 2 * (lnC p q - ((comC p q).length : Int)) else 1 := by
  have ht : tnC p q = ((tnN p q (comN q p) (Nat.mul 2 (maxN p.length q.length)) : Nat) : Int) := by
    unfold tnC
    rw [← tnN_is p q (comN q p) _ (fun n hn => by rw [← comN_is] at hn; exact (List.mem_filter.mp hn).1), comN_is]
    congr 1
    unfold lnC
    rw [show (if (q.length : Int) > (p.length : Int) then (q.length : Int) else (p.length : Int)) = _ from maxN_lt p.length q.length]
    rfl
  have hL : lnC p q = ((maxN p.length q.length : Nat) : Int) := maxN_lt p.length q.length
  rw [ht, hL, comN_is, addN_is]
  unfold plainN at h
  dsimp only at h
  generalize tnN p q (comN q p) (Nat.mul 2 (maxN p.length q.length)) = T at *
  generalize maxN p.length q.length = L at *
  generalize (comN q p).length = c at *
  simp only [Bool.and_eq_true] at h
  obtain ⟨h1, h2, h3, h4, h5⟩ := h
  have h1 := Nat.le_of_ble_eq_true h1
  have h2 := levN_is h2
  have h3 := levN_is h3
  have h4 := levN_is h4
  rw [show ((Nat.mul 2 (Nat.sub L c) : Nat) : Int) = 2 * ((L : Int) - (c : Int)) by show ((2 * (L - c) : Nat) : Int) = _; omega] at h2
  rw [show ((Nat.sub (Nat.mul 2 L) c : Nat) : Int) = 2 * (L : Int) - (c : Int) by show ((2 * L - c : Nat) : Int) = _; omega] at h4
  refine ⟨levF_is h2 (by omega), levF_is h3 (by omega), levF_is h4 (by omega), ?_⟩
  rw [eqN_is] at h5
  by_cases e : q = p
  · rw [decide_eq_true e] at h5
    have h5 : 2 * (L - c) = 0 := Nat.eq_of_beq_eq_true h5
    have e2 : levC q p 0 = 0 := by unfold levC; rw [if_pos e]
    rw [e2]
    split <;> split <;> omega
  · rw [decide_eq_false e] at h5
    replace h5 : (Nat.ble 1 (Nat.mul 2 (Nat.sub L c)) && moreN q p) = true := h5
    rw [Bool.and_eq_true] at h5
    have h6 : 1 ≤ 2 * (L - c) := Nat.le_of_ble_eq_true h5.1
    have h7 := moreN_is e h5.2
    split <;> split <;> omega
def tab : List (List Nat) := [[0, 2, 4, 6, 8, 10, 12, 14, 16], [1, 3, 5, 7, 9, 11, 13, 15, 17], [0, 3, 6, 9, 12, 15], [1, 4, 7, 10, 13, 16], [2, 5, 8, 11, 14, 17], [0, 4, 8, 12, 16], [1, 5, 9, 13, 17], [2, 6, 10, 14], [3, 7, 11, 15], [0, 5, 10, 15], [1, 6, 11, 16], [2, 7, 12, 17], [3, 8, 13], [4, 9, 14], [0, 6, 12], [1, 7, 13], [2, 8, 14], [3, 9, 15], [4, 10, 16], [5, 11, 17]]
theorem pat_tab : ∀ j < 5, ∀ r < j + 2, pat j r ∈ tab := by decide +kernel
theorem chk_tab0 : (tab.all fun q => plainN [0, 2, 4, 6, 8, 10, 12, 14, 16] q) = true := by decide +kernel
theorem chk_tab1 : (tab.all fun q => plainN [1, 3, 5, 7, 9, 11, 13, 15, 17] q) = true := by decide +kernel
theorem chk_tab2 : (tab.all fun q => plainN [0, 3, 6, 9, 12, 15] q) = true := by decide +kernel
theorem chk_tab3 : (tab.all fun q => plainN [1, 4, 7, 10, 13, 16] q) = true := by decide +kernel
theorem chk_tab4 : (tab.all fun q => plainN [2, 5, 8, 11, 14, 17] q) = true := by decide +kernel
theorem chk_tab5 : (tab.all fun q => plainN [0, 4, 8, 12, 16] q) = true := by decide +kernel
theorem chk_tab6 : (tab.all fun q => plainN [1, 5, 9, 13, 17] q) = true := by decide +kernel
theorem chk_tab7 : (tab.all fun q => plainN [2, 6, 10, 14] q) = true := by decide +kernel
theorem chk_tab8 : (tab.all fun q => plainN [3, 7, 11, 15] q) = true := by decide +kernel
theorem chk_tab9 : (tab.all fun q => plainN [0, 5, 10, 15] q) = true := by decide +kernel
theorem chk_tab10 : (tab.all fun q => plainN [1, 6, 11, 16] q) = true := by decide +kernel
theorem chk_tab11 : (tab.all fun q => plainN [2, 7, 12, 17] q) = true := by decide +kernel
theorem chk_tab12 : (tab.all fun q => plainN [3, 8, 13] q) = true := by decide +kernel
theorem chk_tab13 : (tab.all fun q => plainN [4, 9, 14] q) = true := by decide +kernel
theorem chk_tab14 : (tab.all fun q => plainN [0, 6, 12] q) = true := by decide +kernel
theorem chk_tab15 : (tab.all fun q => plainN [1, 7, 13] q) = true := by decide +kernel
theorem chk_tab16 : (tab.all fun q => plainN [2, 8, 14] q) = true := by decide +kernel
theorem chk_tab17 : (tab.all fun q => plainN [3, 9, 15] q) = true := by decide +kernel
theorem chk_tab18 : (tab.all fun q => plainN [4, 10, 16] q) = true := by decide +kernel
theorem chk_tab19 : (tab.all fun q => plainN [5, 11, 17] q) = true := by decide +kernel
theorem chk_tab : ∀ p ∈ tab, (tab.all fun q => plainN p q) = true := by
  intro p hp
  replace hp : p ∈ [[0, 2, 4, 6, 8, 10, 12, 14, 16], [1, 3, 5, 7, 9, 11, 13, 15, 17], [0, 3, 6, 9, 12, 15], [1, 4, 7, 10, 13, 16], [2, 5, 8, 11, 14, 17], [0, 4, 8, 12, 16], [1, 5, 9, 13, 17], [2, 6, 10, 14], [3, 7, 11, 15], [0, 5, 10, 15], [1, 6, 11, 16], [2, 7, 12, 17], [3, 8, 13], [4, 9, 14], [0, 6, 12], [1, 7, 13], [2, 8, 14], [3, 9, 15], [4, 10, 16], [5, 11, 17]] := hp
  simp only [List.mem_cons, List.not_mem_nil, or_false] at hp
  rcases hp with rfl | rfl | rfl | rfl | rfl | rfl | rfl | rfl | rfl | rfl | rfl | rfl | rfl | rfl | rfl | rfl | rfl | rfl | rfl | rfl
  · exact chk_tab0
  · exact chk_tab1
  · exact chk_tab2
  · exact chk_tab3
  · exact chk_tab4
  · exact chk_tab5
  · exact chk_tab6
  · exact chk_tab7
  · exact chk_tab8
  · exact chk_tab9
  · exact chk_tab10
  · exact chk_tab11
  · exact chk_tab12
  · exact chk_tab13
  · exact chk_tab14
  · exact chk_tab15
  · exact chk_tab16
  · exact chk_tab17
  · exact chk_tab18
  · exact chk_tab19
theorem chk {i r j q : Nat} (hi : i < 5) (hr : r < i + 2) (hj : j < 5) (hq : q < j + 2) : plainN (pat i r) (pat j q) = true :=
  List.all_eq_true.mp (chk_tab _ (pat_tab i hi r hr)) _ (pat_tab j hj q hq)
theorem row_pat (low x : Int) : ∃ j r, j < 5 ∧ r < j + 2 ∧ rowInts low x = (pat j r).map fun k : Nat => low + (k : Int) := by
  have h0 : x.fmod 5 = x % 5 := Int.fmod_eq_emod_of_nonneg _ (by decide)
  generalize hq : x.fdiv 5 = q
  have key : ∀ s : Nat, s < 5 → x.fmod 5 = (s : Int) → ∃ j r, j < 5 ∧ r < j + 2 ∧ rowInts low x = (pat j r).map fun k : Nat => low + (k : Int) := by
    intro s hs e
    have hm : 0 ≤ (q - low) % ((s : Int) + 2) := Int.emod_nonneg _ (by omega)
    have hm' : (q - low) % ((s : Int) + 2) < (s : Int) + 2 := Int.emod_lt_of_pos _ (by omega)
    refine ⟨s, ((q - low) % ((s : Int) + 2)).toNat, hs, by omega, ?_⟩
    unfold rowInts pat rangeKs
    rw [List.filter_map]
    congr 1
    apply List.filter_congr
    intro k hk
    have hk' : k < 18 := List.mem_range.mp hk
    simp only [Function.comp]
    rw [hq, e, Int.fmod_eq_emod_of_nonneg _ (by omega)]
    congr 1
    apply propext
    match s, hs with
    | 0, _ => clear h0 e hq; omega
    | 1, _ => clear h0 e hq; omega
    | 2, _ => clear h0 e hq; omega
    | 3, _ => clear h0 e hq; omega
    | 4, _ => clear h0 e hq; omega
  have h1 : 0 ≤ x % 5 := Int.emod_nonneg _ (by decide)
  have h2 : x % 5 < 5 := Int.emod_lt_of_pos _ (by decide)
  exact key (x.fmod 5).toNat (by omega) (by omega)
theorem pat_lt {j r : Nat} : ∀ x ∈ pat j r, x < 18 := fun x hx => List.mem_range.mp (List.mem_filter.mp hx).1
theorem idx_map (low : Int) (n : Nat) : ∀ p : List Nat, List.idxOf (low + (n : Int)) (p.map fun k : Nat => low + (k : Int)) = List.idxOf n p
  | [] => rfl
  | x :: p => by
    rw [List.map_cons, List.idxOf_cons, List.idxOf_cons, idx_map low n p]
    by_cases e : x = n
    · subst e; simp
    · have e' : low + (x : Int) ≠ low + (n : Int) := by omega
      simp [beq_eq_false_iff_ne.mpr e, beq_eq_false_iff_ne.mpr e']
theorem com_map (low : Int) (p q : List Nat) : List.filter (fun n => decide (n ∈ q.map fun k : Nat => low + (k : Int))) (p.map fun k : Nat => low + (k : Int)) = (comC p q).map fun k : Nat => low + (k : Int) := by
  unfold comC
  rw [List.filter_map]
  congr 1
  apply List.filter_congr
  intro k _
  simp only [Function.comp]
  congr 1
  apply propext
  rw [List.mem_map]
  constructor
  · rintro ⟨x, hx, e⟩
    have : x = k := by omega
    rw [← this]; exact hx
  · intro hk; exact ⟨k, hk, rfl⟩
theorem turn_map (low : Int) (p q : List Nat) (a b t : Int) (n : Nat) : turnStep (p.map fun k : Nat => low + (k : Int)) (q.map fun k : Nat => low + (k : Int)) a b t (low + (n : Int)) = turnC p q a b t n := by
  unfold turnStep turnC
  rw [idx_map, idx_map]
/-- what is left of the law when the walk is done -/
def Plain (low d0 d1 d2 : Int) : Prop :=
  let r0 := rowInts low d1
  let r1 := rowInts low d2
  let cm := List.filter (fun n => decide (n ∈ r1)) r0
  let wf := r0.map fun n => apStr n.natAbs
  let ws := r1.map fun n => apStr n.natAbs
  let LN : Int := if (ws.length : Int) > (wf.length : Int) then (ws.length : Int) else (wf.length : Int)
  let TN := cm.foldl (turnStep r0 r1 (wf.length : Int) (ws.length : Int)) (2 * LN)
  let sh := d0.fmod 3 - 1
  levAll wf ws (2 * (LN - (cm.length : Int)) + sh) = 2 * (LN - (cm.length : Int)) ∧ levAll ws.reverse wf (TN + sh) = TN ∧
    levAll wf (r1.map fun n => Txt.lower (apStr n.natAbs)) (2 * LN - (cm.length : Int) + sh) = 2 * LN - (cm.length : Int) ∧
    (if levAll ws wf 0 < 1 then levAll ws wf 0 else 1) = if 2 * (LN - (cm.length : Int)) < 1 then 2 * (LN - (cm.length : Int)) else 1
theorem plain_law (low d0 d1 d2 : Int) (h : 1 ≤ low) (h' : low ≤ 16 ^ 9) : Plain low d0 d1 d2 := by
  obtain ⟨j1, r1, hj1, hr1, e1⟩ := row_pat low d1
  obtain ⟨j2, r2, hj2, hr2, e2⟩ := row_pat low d2
  have h3 : d0.fmod 3 = d0 % 3 := Int.fmod_eq_emod_of_nonneg _ (by decide)
  have c := plainN_is (chk hj1 hr1 hj2 hr2) (d0.fmod 3 - 1) (by omega)
  have hp : ∀ x ∈ pat j1 r1, x < 200 := fun x hx => Nat.lt_trans (pat_lt x hx) (by decide)
  have hq : ∀ x ∈ pat j2 r2, x < 200 := fun x hx => Nat.lt_trans (pat_lt x hx) (by decide)
  have hp' := @pat_lt j1 r1
  have hq' := @pat_lt j2 r2
  generalize pat j1 r1 = p at *
  generalize pat j2 r2 = q at *
  have ew : ∀ l : List Nat, (∀ x ∈ l, x < 18) → (l.map fun k : Nat => low + (k : Int)).map (fun n => apStr n.natAbs) = l.map (wordC low) := by
    intro l hl
    rw [List.map_map]
    apply List.map_congr_left
    intro x hx
    rw [word_lo (Nat.lt_trans (hl x hx) (by decide))]; rfl
  have ew2 : (q.map fun k : Nat => low + (k : Int)).map (fun n => Txt.lower (apStr n.natAbs)) = (q.map fun k => k + 100).map (wordC low) := by
    rw [List.map_map, List.map_map]
    apply List.map_congr_left
    intro x hx
    simp only [Function.comp]
    rw [word_hi]
  have et : (List.map (fun k : Nat => low + (k : Int)) (comC p q)).foldl (turnStep (p.map fun k : Nat => low + (k : Int)) (q.map fun k : Nat => low + (k : Int)) (p.length : Int) (q.length : Int)) (2 * lnC p q) = tnC p q := by
    rw [List.foldl_map]
    unfold tnC
    congr 1
    funext t n
    exact turn_map low p q _ _ t n
  unfold Plain
  simp only [e1, e2, com_map, ew p hp', ew q hq', ew2, List.length_map]
  have eL : (if (q.length : Int) > (p.length : Int) then (q.length : Int) else (p.length : Int)) = lnC p q := rfl
  rw [eL, et, ← List.map_reverse]
  rw [lev_map (word_inj h) (word_cost h) hp hq, lev_map (word_inj h) (word_cost h) (fun x hx => hq x (List.mem_reverse.mp hx)) hp, lev_map (word_inj h) (word_cost h) hp (fun x hx => by
    obtain ⟨y, hy, rfl⟩ := List.mem_map.mp hx
    have := hq' y hy
    omega), lev_map (word_inj h) (word_cost h) hq hp]
  exact c
end
section
open PySem PySem.W PyProof.Rows PyProof.Rows.LCg PySem.Calls PySem.SeqAt
theorem words_rev {U : List Value} {ws : List Str} (h : Words U ws) : Words U.reverse ws.reverse := by
  refine ⟨?_, by rw [List.length_reverse]; exact h.few, fun x hx => h.ok x (List.mem_reverse.mp hx)⟩
  have key : ∀ {V : List Value} {w : List Str}, StrsAre V w → StrsAre V.reverse w.reverse := by
    intro V w hw
    induction hw with
    | nil => exact .nil
    | cons y t _ ih => rw [List.reverse_cons, List.reverse_cons]; exact StrsAre.append' ih (.cons y t .nil)
  exact key h.are
theorem rev_strsK {prog : Program} {w : World} {A : Around} {E : Value → Shared → Prop} {s : Shared} {h₀ : Heap} {L l : Addr} {m : Str → Option Value} {news : List (Addr × Obj)} {value slice : PySem.Expr} {vs : List Value} {ws : List Str} {vk : Value} {ops : List Value} {Q : Value → Shared → Prop}
    (F : Fr h₀ L s.heap m) (N : News h₀ L s.heap news) (hl : s.heap.IsList l vs.toArray) (hi : Words vs ws) (pk : IsPart vk (some (-1)))
    (h : ∀ (D : Addr) (us : List Value) (h' : Heap), Fr h₀ L h' m → News h₀ L h' ((D, listOf us.toArray 0) :: news) → Words us ws.reverse → Q (.ref D) { s with heap := h' })
    (hs : subscripted slice false (.ref l) (.ref s.heap.objs.size) = operate ops (getItem (.ref l) (.ref s.heap.objs.size))) (ht : ∀ r, letTemporaryGo value (.ref l) r = pure ()) :
    wpAny (model prog w) A (subscriptTail value slice (.ref l) (.ref s.heap.objs.size)) Q E { s with heap := s.heap.push { cls := .type "slice", data := .fields #[.none, .none, vk] } } :=
  krv_lit (its := vs.toArray) (zs := vs.reverse) F N hl pk rfl (fun D h' F' N' _ => h D vs.reverse h' F' N' (words_rev hi)) hs ht (by have := hi.are.length; have := hi.few; simp only [List.size_toArray, sizeLine_eq]; omega)
local macro_rules | `(tactic| tb_rel) => `(tactic| repeat' ((fail_if_success (with_reducible show wpAny _ _ (exec (Stmt.For _ _ _ _ _) _) _ _ _)); (first | (k_unfold; (try dsimp only)) | (k_end; wrow_close) | walk1 | (dsimp only; walk1) | (leave1; walk_say "STEP leave1"; try dsimp only) | fail "no step")))
local macro_rules | `(tactic| walk_at "call builtin:len") => `(tactic| (k_here; (with_reducible show wpAny _ _ (call (Value.builtin "len") [Value.ref _]) _ _ _); (with_unfolding_all refine' len_strsK ?k1 ?k2 ?_; (case k1 => kmk_list); (case k2 => with_reducible assumption); k_whole)))
local macro_rules | `(tactic| walk_at "call builtin:len") => `(tactic| (k_here; (with_reducible show wpAny _ _ (call (Value.builtin "len") [Value.ref _]) _ _ _); (with_unfolding_all refine' len_strsK ?k1 ?k2 ?_; (case k1 => kmk_list); (case k2 => with_reducible assumption); k_whole)))
local macro_rules | `(tactic| walk_at "call builtin:list.index") => `(tactic| (k_here; (with_reducible show wpAny _ _ (call (Value.builtin "list.index") [Value.ref _, Value.int _ _]) _ _ _); k_dflt (refine' index_list_ints ?k1 ?k2 ?k3 ?k4 ?_; (case k1 => kmk_list); (case k2 => with_reducible assumption); (case k3 => exact lay_ints (by assumption) (by assumption)); (case k4 => assumption))))
local macro_rules | `(tactic| tb_start) => `(tactic| repeat' ((fail_if_success (with_reducible show wpAny _ _ (exec (Stmt.While _ _ _ _) _) _ _ _)); (fail_if_success (with_reducible show wpAny _ _ (exec (Stmt.For _ _ _ _ _) _) _ _ _)); (fail_if_success (with_reducible show wpAny _ _ (pyIter _) _ _ _)); (fail_if_success (with_reducible show wpAny _ _ (compareOp _ (Value.ref _) (Value.ref _)) _ _ _)); (fail_if_success (with_reducible show wpAny _ _ (call (Value.ref _) _ _) _ _ _)); (fail_if_success (with_reducible show wpAny _ _ (exec (Stmt.Assign _ (PySem.Expr.ListComp _ _ _ _) _) _) _ _ _)); (fail_if_success (with_reducible show wpAny _ _ (eval (PySem.Expr.ListComp _ _ _ _) _) _ _ _)); (fail_if_success (with_reducible show LCg.CompSrc _ _ _ _ _ _ _ _ _ _ _ _ _ _)); (fail_if_success (with_reducible show LCt.CompSrcT _ _ _ _ _ _ _ _ _ _ _ _ _ _ _)); (first | (k_unfold; (try dsimp only)) | (k_end; wrow_close) | walk1 | (dsimp only; walk1) | (leave1; walk_say "STEP leave1"; try dsimp only) | fail "no step")))
local macro_rules | `(tactic| walk_at "call builtin:len") => `(tactic| (k_here; (with_reducible show wpAny _ _ (call (Value.builtin "len") [Value.ref _]) _ _ _); (with_unfolding_all refine' len_strsK ?k1 ?k2 ?_; (case k1 => kmk_list); (case k2 => with_reducible assumption); k_whole)))
local macro_rules | `(tactic| walk_at "subscriptTail Name Slice ref ref") => `(tactic| (k_here; (with_reducible show wpAny _ _ (subscriptTail _ (PySem.Expr.Slice none none (some _) _) (Value.ref _) (Value.ref _)) _ _ _); k_dflt (refine' rev_strsK ?F ?N ?l ?w ?p ?_ ?s ?t; (case F => k_asm); (case N => k_asm); (case l => kmk_list); (case w => with_reducible assumption); (case p => exact IsPart.int _ _); (case s => with_unfolding_all rfl); (case t => kmk_pure)); intro D' us' h' F' N' hW'; (try k_sweep)))
set_option maxRecDepth 100000 in
set_option maxHeartbeats 8000000 in
theorem law_ok : PySem.Challenge.rw_pk0043_01.Holds := Mine.hd (by
  k_go0
  (try k_fold)
  rename_i w s₀ s₁ mg mb G Y fa o pm doc ho hg KX X V GL T B TE TW w13 w12 M w11 w10 hcd ns hs hlay0 hL hr hl2 w8 w7 ax vs w4 hLs ra w1 r0 hI hr' hcond hcond' K0 hD h₁ tk₁ F w3 w2 w1' w0 left1 left2 left3 right1 N0 X0
  have hfin : ∀ m' h' tk', Fr s₁.heap s₁.heap.objs.size h' m' → qk (Flow.ret (Value.bool true)) { s₁ with heap := h', toks := tk' } := by
    intro m' h' tk' F9
    have N9 : News s₁.heap s₁.heap.objs.size h' [] := News.nil
    simp only [qk]
    k_steps
  clear G Y ho hg X V GL TE TW M hcd hs hlay0 hr hl2 ra w1 r0 hr' hcond' hD X0
  replace right1 : w0.data = Data.cell (some (Value.ref ax)) := right1
  replace left3 : w1'.data = Data.cell none := left3
  replace left2 : w2.data = Data.cell none := left2
  replace left1 : w3.data = Data.cell none := left1
  refine gen_E (by first | passes_own | (simp only [ek]; passes_own) | (with_unfolding_all passes_own)) ?_
  intro EE hPE
  clear_value qk
  tb_rel
  rename Fr _ _ _ _ => F2
  rename News _ _ _ _ => N2
  rename IntsAre ys _ => hI2
  rename_i hl8 Dd hx3 tx3 off8 tx4 hx4 tx5 Dr hx5 lt5 hx6 orow drow
  have hI3 : IntsAre ys [(if (0 : Int) + 0 < (ns.length : Int) then ns.getD ((0 : Int) + 0).toNat 0 else [4345, 0, 6].getD ((0 : Int) + 0).toNat 0), (if (0 : Int) + 1 < (ns.length : Int) then ns.getD ((0 : Int) + 1).toNat 0 else [4345, 0, 6].getD ((0 : Int) + 1).toNat 0), (if (0 : Int) + 2 < (ns.length : Int) then ns.getD ((0 : Int) + 2).toNat 0 else [4345, 0, 6].getD ((0 : Int) + 2).toNat 0)] := hI2
  clear hI2 hl8 hL hcond hLs hI
  generalize (if (0 : Int) + 0 < (ns.length : Int) then ns.getD ((0 : Int) + 0).toNat 0 else [4345, 0, 6].getD ((0 : Int) + 0).toNat 0) = d0 at hI3 F2
  generalize (if (0 : Int) + 1 < (ns.length : Int) then ns.getD ((0 : Int) + 1).toNat 0 else [4345, 0, 6].getD ((0 : Int) + 1).toNat 0) = d1 at hI3
  generalize (if (0 : Int) + 2 < (ns.length : Int) then ns.getD ((0 : Int) + 2).toNat 0 else [4345, 0, 6].getD ((0 : Int) + 2).toNat 0) = d2 at hI3
  obtain ⟨t0, ys0, rfl, hI4⟩ : ∃ t0 ys0, ys = Value.int d0 t0 :: ys0 ∧ IntsAre ys0 [d1, d2] := by cases hI3 with | cons _ t r => exact ⟨t, _, rfl, r⟩
  obtain ⟨t1, ys1, rfl, hI5⟩ : ∃ t0 ys1, ys0 = Value.int d1 t0 :: ys1 ∧ IntsAre ys1 [d2] := by cases hI4 with | cons _ t r => exact ⟨t, _, rfl, r⟩
  obtain ⟨t2, ys2, rfl, hI6⟩ : ∃ t0 ys2, ys1 = Value.int d2 t0 :: ys2 ∧ IntsAre ys2 [] := by cases hI5 with | cons _ t r => exact ⟨t, _, rfl, r⟩
  obtain rfl : ys2 = [] := by cases hI6; rfl
  clear hI3 hI4 hI5 hI6
  obtain ⟨mlow, tlow, F3, elow, edr⟩ : ∃ (mm : Str → Option Value) (tl : Tok), Fr s₁.heap s₁.heap.objs.size hx6 mm ∧ mm (PySem.Str.ofString "low") = some (Value.int (1 + d0.fmod (16 ^ 9)) tl) ∧ mm (PySem.Str.ofString "draws") = some (Value.ref Dd) := ⟨_, _, F2, rfl, rfl⟩
  clear F2
  have hm1 := fmod_lo d0 (n := 16 ^ 9) (by decide)
  have hm2 := fmod_hi d0 (n := 16 ^ 9) (by decide)
  generalize hlow : 1 + d0.fmod (16 ^ 9) = low at *
  replace F3 := fr_as F3 (known (known rfl elow) edr)
  clear elow edr
  rename IsRange _ _ _ _ _ _ _ _ => hjunk
  clear hjunk
  w_top off
  refine cutQ (fun f s' => f = Flow.next ∧ ∃ h' tk m' ox os R0 V0 R1 V1 kr, s' = { s₁ with heap := h', toks := tk } ∧ Fr s₁.heap s₁.heap.objs.size h' m' ∧
    News s₁.heap s₁.heap.objs.size h' [(R1, lst V1), (R0, lst V0), (Dr, listOf #[Value.ref R0, Value.ref R1] kr), (Dd, lst [Value.int d0 t0, Value.int d1 t1, Value.int d2 t2]), (s₁.heap.objs.size + 1 + 1 + 1 + 1, os), (s₁.heap.objs.size + 1 + 1 + 1, ox), (s₁.heap.objs.size + 1 + 1, orow), (s₁.heap.objs.size + 1, w0)] ∧
    IntsAre V0 (rowInts low d1) ∧ IntsAre V1 (rowInts low d2) ∧ m' (PySem.Str.ofString "draws") = some (Value.ref Dd)) ?_ ?_
  · intro R hR
    refine For_invTF F3 ?_ (by intro _; rfl) hPE
    tb_start
    rename Fr _ _ _ _ => F4
    rename News _ _ _ _ => N4
    rename_i Di h9 l9
    have hms := fmod_lo d1 (n := 5) (by decide)
    have hms' := fmod_lo d2 (n := 5) (by decide)
    refine my_listT (x := PySem.Str.ofString "x") (fun i m' nx => m' (PySem.Str.ofString "draws") = some (Value.ref Dd) ∧ (∃ tl, m' (PySem.Str.ofString "low") = some (Value.int low tl)) ∧ match i with
      | 0 => nx = [(Di, listOf #[Value.int d1 t1, Value.int d2 t2] 0), (Dr, listOf #[] 0), (Dd, lst [Value.int d0 t0, Value.int d1 t1, Value.int d2 t2]), (s₁.heap.objs.size + 1 + 1 + 1 + 1, w3), (s₁.heap.objs.size + 1 + 1 + 1, w2), (s₁.heap.objs.size + 1 + 1, orow), (s₁.heap.objs.size + 1, w0)]
      | 1 => ∃ R0 V0 ox os kr vx vs, nx = [(R0, lst V0), (Di, listOf #[Value.int d1 t1, Value.int d2 t2] 0), (Dr, listOf #[Value.ref R0] kr), (Dd, lst [Value.int d0 t0, Value.int d1 t1, Value.int d2 t2]), (s₁.heap.objs.size + 1 + 1 + 1 + 1, os), (s₁.heap.objs.size + 1 + 1 + 1, ox), (s₁.heap.objs.size + 1 + 1, orow), (s₁.heap.objs.size + 1, w0)] ∧ IntsAre V0 (rowInts low d1) ∧ Off1 R0 [(Di, listOf #[Value.int d1 t1, Value.int d2 t2] 0), (Dr, listOf #[Value.ref R0] kr), (Dd, lst [Value.int d0 t0, Value.int d1 t1, Value.int d2 t2]), (s₁.heap.objs.size + 1 + 1 + 1 + 1, os), (s₁.heap.objs.size + 1 + 1 + 1, ox), (s₁.heap.objs.size + 1 + 1, orow), (s₁.heap.objs.size + 1, w0)] ∧ ox.data = Data.cell (some vx) ∧ os.data = Data.cell (some vs)
      | _ => ∃ R1 V1 R0 V0 ox os kr, nx = [(R1, lst V1), (R0, lst V0), (Di, listOf #[Value.int d1 t1, Value.int d2 t2] 0), (Dr, listOf #[Value.ref R0, Value.ref R1] kr), (Dd, lst [Value.int d0 t0, Value.int d1 t1, Value.int d2 t2]), (s₁.heap.objs.size + 1 + 1 + 1 + 1, os), (s₁.heap.objs.size + 1 + 1 + 1, ox), (s₁.heap.objs.size + 1 + 1, orow), (s₁.heap.objs.size + 1, w0)] ∧ IntsAre V0 (rowInts low d1) ∧ IntsAre V1 (rowInts low d2)) rfl (its := [Value.int d1 t1, Value.int d2 t2]) (k := 0) rfl (.head _) F4 N4 ⟨rfl, ⟨_, rfl⟩, rfl⟩ ?_ ?_ ?_
    · rintro i m' nx ⟨-, -, h⟩
      match i, h with
      | 0, h => rw [h]; exact .head _
      | 1, ⟨_, _, _, _, _, _, _, h, _⟩ => rw [h]; exact .tail _ (.head _)
      | (_ + 2), ⟨_, _, _, _, _, _, _, h, _⟩ => rw [h]; exact .tail _ (.tail _ (.head _))
    · intro i v m₁ nx I oI s9 R2 hv hJ F5 N5 off5 hnext
      clear F4 N4
      match i, hv, hJ, hnext with
      | 0, hv, ⟨e1, ⟨tl, e2⟩, e3⟩, hnext =>
        obtain rfl : v = Value.int d1 t1 := by simpa using hv.symm
        subst e3
        replace F5 := fr_as F5 (known (known rfl e1) e2)
        have offI := Off3.of (I := I) (C := I) (D := I) fun p hp => ⟨off5 p hp, off5 p hp, off5 p hp⟩
        simp only [Off3, and_true, and_self] at offI
        clear hJ hv off5 e1 e2
        replace N5 : News s₁.heap s₁.heap.objs.size s9.heap _ := N5
        replace F5 : Fr s₁.heap s₁.heap.objs.size s9.heap _ := F5
        tb_start
        rename Fr _ _ _ _ => F6
        rename News _ _ _ _ => N6
        refine LCt.ListComp_T (F₀ := F6) (by with_unfolding_all rfl) (by decide) (by rfl) (by decide) (by rfl) ?_
        tb_start
        rename Fr _ _ _ _ => F7
        rename News _ _ _ _ => N7
        rename IsRange _ _ _ _ _ _ _ _ => hr7
        refine LCt.CompSrcT.range rfl F7 N7 hr7 (small_one (by omega) (by omega) (by omega) (by omega)) (n := 18) (by rw [rangeSize_one, if_pos (by omega)]; omega) (by decide) (fun g2 => ?_)
        refine rest_T (fun i ys => IntsAre ys (((rangeKs low 18).take i).filter fun one => decide ((one - d1.fdiv 5).fmod (2 + d1.fmod 5) = 0))) .nil trivial ?_ ?_
        · intro j zs v J oJ C3 oC3 D3 m3 h3 tk3 E3 R3 R0' hj hZ hv3 hC3 hx3 F8 N8 off8' ne8 hR3 hR3'
          obtain ⟨tv, rfl⟩ := hv3
          clear F7 N7 hr7
          have hget : (rangeKs low 18)[j]? = some (low + (j : Int)) := by simp [rangeKs, hj]
          tb_start
          · refine hR3 _ _ _ F8 N8 ?_
            rw [List.take_add_one, hget, Option.toList_some, List.filter_append, List.filter_cons, if_pos (decide_eq_true (by assumption)), List.filter_nil]
            exact IntsAre.append hZ (.cons _ _ .nil)
          · refine hR3' _ _ F8 N8 ?_
            rw [List.take_add_one, hget, Option.toList_some, List.filter_append, List.filter_cons, if_neg (by rw [decide_eq_true_eq]; assumption), List.filter_nil, List.append_nil]
            exact hZ
        · intro zs hzs
          have hzs' : IntsAre zs (rowInts low d1) := by
            rw [List.take_of_length_le (by rw [rangeKs_length]; exact Nat.le_refl _)] at hzs
            exact hzs
          unfold LCg.FinE
          intro D3 h3 tk3 F8 N8 o8
          clear F7 N7 hr7 hzs
          dsimp only
          simp only [Off1, and_true] at o8
          tb_start
          rename Fr _ _ _ _ => F9
          rename News _ _ _ _ => N9
          exact hnext _ [(D3, lst zs), (Di, listOf #[Value.int d1 t1, Value.int d2 t2] 0), (Dr, listOf #[Value.ref D3] _), (Dd, lst [Value.int d0 t0, Value.int d1 t1, Value.int d2 t2]), (s₁.heap.objs.size + 1 + 1 + 1 + 1, _), (s₁.heap.objs.size + 1 + 1 + 1, _), (s₁.heap.objs.size + 1 + 1, orow), (s₁.heap.objs.size + 1, w0)] _ _ _ F9 N9 (by k_memK) (by k_allIn) (by intro p hp e; simp only [List.mem_cons, List.not_mem_nil, or_false] at hp; rcases hp with rfl | rfl | rfl | rfl | rfl | rfl | rfl | rfl <;> (have e9 : @Eq Nat _ _ := e; dsimp only at e9; omega)) ⟨rfl, ⟨_, rfl⟩, D3, zs, _, _, _, _, _, rfl, hzs', by (simp only [Off1, and_true]; omega), by assumption, by assumption⟩
      | 1, hv, ⟨e1, ⟨tl, e2⟩, e3⟩, hnext =>
        obtain rfl : v = Value.int d2 t2 := by simpa using hv.symm
        obtain ⟨R0, V0, ox, os, kr, vx, vs9, e3, hV0, offR, dx, ds⟩ := e3
        subst e3
        simp only [Off1, and_true] at offR
        replace F5 := fr_as F5 (known (known rfl e1) e2)
        have offI := Off3.of (I := I) (C := I) (D := I) fun p hp => ⟨off5 p hp, off5 p hp, off5 p hp⟩
        simp only [Off3, and_true, and_self] at offI
        clear hJ hv off5 e1 e2
        replace N5 : News s₁.heap s₁.heap.objs.size s9.heap _ := N5
        replace F5 : Fr s₁.heap s₁.heap.objs.size s9.heap _ := F5
        tb_start
        rename Fr _ _ _ _ => F6
        rename News _ _ _ _ => N6
        refine LCt.ListComp_T (F₀ := F6) (by with_unfolding_all rfl) (by decide) (by rfl) (by decide) (by rfl) ?_
        tb_start
        rename Fr _ _ _ _ => F7
        rename News _ _ _ _ => N7
        rename IsRange _ _ _ _ _ _ _ _ => hr7
        refine LCt.CompSrcT.range rfl F7 N7 hr7 (small_one (by omega) (by omega) (by omega) (by omega)) (n := 18) (by rw [rangeSize_one, if_pos (by omega)]; omega) (by decide) (fun g2 => ?_)
        refine rest_T (fun i ys => IntsAre ys (((rangeKs low 18).take i).filter fun one => decide ((one - d2.fdiv 5).fmod (2 + d2.fmod 5) = 0))) .nil trivial ?_ ?_
        · intro j zs v J oJ C3 oC3 D3 m3 h3 tk3 E3 R3 R0' hj hZ hv3 hC3 hx3 F8 N8 off8' ne8 hR3 hR3'
          obtain ⟨tv, rfl⟩ := hv3
          clear F7 N7 hr7
          have hget : (rangeKs low 18)[j]? = some (low + (j : Int)) := by simp [rangeKs, hj]
          tb_start
          · refine hR3 _ _ _ F8 N8 ?_
            rw [List.take_add_one, hget, Option.toList_some, List.filter_append, List.filter_cons, if_pos (decide_eq_true (by assumption)), List.filter_nil]
            exact IntsAre.append hZ (.cons _ _ .nil)
          · refine hR3' _ _ F8 N8 ?_
            rw [List.take_add_one, hget, Option.toList_some, List.filter_append, List.filter_cons, if_neg (by rw [decide_eq_true_eq]; assumption), List.filter_nil, List.append_nil]
            exact hZ
        · intro zs hzs
          have hzs' : IntsAre zs (rowInts low d2) := by
            rw [List.take_of_length_le (by rw [rangeKs_length]; exact Nat.le_refl _)] at hzs
            exact hzs
          unfold LCg.FinE
          intro D3 h3 tk3 F8 N8 o8
          clear F7 N7 hr7 hzs
          dsimp only
          simp only [Off1, and_true] at o8
          tb_start
          rename Fr _ _ _ _ => F9
          rename News _ _ _ _ => N9
          exact hnext _ [(D3, lst zs), (R0, lst V0), (Di, listOf #[Value.int d1 t1, Value.int d2 t2] 0), (Dr, listOf #[Value.ref R0, Value.ref D3] _), (Dd, lst [Value.int d0 t0, Value.int d1 t1, Value.int d2 t2]), (s₁.heap.objs.size + 1 + 1 + 1 + 1, _), (s₁.heap.objs.size + 1 + 1 + 1, _), (s₁.heap.objs.size + 1 + 1, orow), (s₁.heap.objs.size + 1, w0)] _ _ _ F9 N9 (by k_memK) (by k_allIn) (by intro p hp e; simp only [List.mem_cons, List.not_mem_nil, or_false] at hp; rcases hp with rfl | rfl | rfl | rfl | rfl | rfl | rfl | rfl | rfl <;> (have e9 : @Eq Nat _ _ := e; dsimp only at e9; omega)) ⟨rfl, ⟨_, rfl⟩, D3, zs, R0, V0, _, _, _, rfl, hV0, hzs'⟩
      | (i + 2), hv, _, _ => simp at hv
    · rintro m₁ nx h tk ⟨e1, -, R1, V1, R0, V0, ox, os, kr, e3, hV0, hV1⟩ F5 N5
      subst e3
      exact hR _ _ ⟨rfl, _, _, _, _, _, _, _, _, _, _, rfl, F5, kst_newsOf N5 (by k_allIn), hV0, hV1, e1⟩
  clear F3 N2 left1 left2 left3 right1
  rintro f s' ⟨rfl, h7, tk7, m7, ox, os, R0, V0, R1, V1, kr, rfl, F7, N7, hV0, hV1, e1⟩
  replace F7 := fr_as F7 (known rfl e1)
  clear e1
  dsimp only
  have hb0 : ∀ n ∈ rowInts low d1, n.natAbs < 16 ^ 10 := by intro n hn; have := rowInts_in n hn; omega
  have hb1 : ∀ n ∈ rowInts low d2, n.natAbs < 16 ^ 10 := by intro n hn; have := rowInts_in n hn; omega
  clear off8 lt5
  have K1 : Below callerA s₁.heap [] s₁.heap := K0
  tb_start
  refine law_words (outer := []) K1 F7 KX T rfl (by decide) (by decide) (News.isList N7 (by k_mem)) hV0 (rowInts_len _ _) (Or.inl rfl) hb0 ?_
  intro Df Uf h8 tk8 hs8 hg8 hn8 hSf
  have F8 := Fr.keeps F7 hs8
  have N8 := news_made F7 N7 hs8 hg8 hn8
  clear F7 N7 hs8 hg8 hn8
  (try dsimp only)
  tb_start
  rename Fr _ _ _ _ => F9
  rename News _ _ _ _ => N9
  refine law_words (outer := []) K1 F9 KX T rfl (by decide) (by decide) (News.isList N9 (by k_mem)) hV1 (rowInts_len _ _) (Or.inr rfl) hb1 ?_
  intro Ds Us h10 tk10 hs10 hg10 hn10 hSs
  have F10 := Fr.keeps F9 hs10
  have N10 := news_made F9 N9 hs10 hg10 hn10
  clear hs10 hg10 hn10
  (try dsimp only)
  clear F9 N9
  tb_start
  rename Fr _ _ _ _ => F11
  rename News _ _ _ _ => N11
  rename_i Dp h11 l11
  (try dsimp only)
  refine LCg.ListComp_U (F₀ := F11) (by with_unfolding_all rfl) (by decide) (by rfl) (by decide) (by rfl) ?_
  tb_start
  refine LCg.CompSrc.ledger rfl F11 N11 (by k_mem) (by show 2 ≤ sizeLine; decide) (fun g3 => ?_)
  refine LCg.CompRest.succ (k := 1) ?_
  intro v I oI C oC D m₂ h12 tk12 E12 hv hC hx F12 N12 off12 ne12
  obtain rfl : v = Value.ref R0 := by simpa using hv.symm
  clear F11 N11 hv
  tb_start
  refine LCg.ListComp_U (F₀ := F12) (by with_unfolding_all rfl) (by decide) (by rfl) (by decide) (by rfl) ?_
  tb_start
  refine LCg.CompSrc.ledger rfl F12 N12 (by k_mem) (by have := hV0.length; have := rowInts_len low d1; simp only [List.size_toArray, sizeLine_eq]; omega) (fun g4 => ?_)
  refine rest_U (fun i zs => StrsAre zs (((rowInts low d1).take i).map fun n => apStr n.natAbs)) .nil (.inr ⟨_, by k_mem, rfl, _, rfl⟩) ?_ ?_
  · intro j zs v J oJ C3 oC3 D3 m3 h3 tk3 E3 R3 hj hZ hv3 hC3 hx3 F13 N13 off13 ne13 hR3
    obtain ⟨n, t, rfl, hn⟩ := IntsAre.at hV0 j v (by simpa using hv3)
    have hin := rowInts_in n (List.mem_of_getElem? hn)
    obtain ⟨k, rfl⟩ : ∃ k : Nat, n = (k : Int) := ⟨n.toNat, by omega⟩
    clear F12 N12
    tb_start
    refine law_letters (outer := []) K1 F13 KX T rfl (by decide) (by omega) ?_
    intro t9 h9 tk9 hs9
    refine hR3 _ _ _ (Fr.keeps F13 hs9) (News.grown N13 hs9) ?_
    rw [List.take_add_one, hn, Option.toList_some, List.map_append]
    exact StrsAre.append' hZ (.cons _ _ .nil)
  intro Z0 hzs
  have hZ0 : StrsAre Z0 ((rowInts low d1).map fun n => apStr n.natAbs) := by
    rw [List.size_toArray, hV0.length, List.take_length] at hzs
    exact hzs
  unfold LCg.FinE
  intro E0 h3 tk3 F13 N13 o13
  clear F12 N12 hzs
  refine ⟨h3, tk3, (E0, lst Z0) :: [(Dp, listOf #[Value.ref Df, Value.ref Ds] 0), (Ds, lst Us), (Df, lst Uf), (R1, lst V1), (R0, lst V0), (Dr, listOf #[Value.ref R0, Value.ref R1] kr), (Dd, lst [Value.int d0 t0, Value.int d1 t1, Value.int d2 t2]), (s₁.heap.objs.size + 1 + 1 + 1 + 1, os), (s₁.heap.objs.size + 1 + 1 + 1, ox), (s₁.heap.objs.size + 1 + 1, orow), (s₁.heap.objs.size + 1, w0)], rfl, F13, kst_newsOf N13 (by k_allIn), ⟨⟨Ne.symm o13.1, Ne.symm o13.2.1, Ne.symm o13.2.2.1⟩, off12⟩, .inr ⟨_, by k_mem, rfl, _, rfl⟩, ?_⟩
  clear F13 N13 off12 ne12 hC hx o13
  refine LCg.CompRest.succ (k := 0) ?_
  intro v I oI C oC D m₂ h12 tk12 E12 hv hC hx F12 N12 off12 ne12
  obtain rfl : v = Value.ref R1 := by simpa using hv.symm
  clear hv
  tb_start
  refine LCg.ListComp_U (F₀ := F12) (by with_unfolding_all rfl) (by decide) (by rfl) (by decide) (by rfl) ?_
  tb_start
  refine LCg.CompSrc.ledger rfl F12 N12 (by k_mem) (by have := hV1.length; have := rowInts_len low d2; simp only [List.size_toArray, sizeLine_eq]; omega) (fun g4 => ?_)
  refine rest_U (fun i zs => StrsAre zs (((rowInts low d2).take i).map fun n => apStr n.natAbs)) .nil (.inr ⟨_, by k_mem, rfl, _, rfl⟩) ?_ ?_
  · intro j zs v J oJ C3 oC3 D3 m3 h3 tk3 E3 R3 hj hZ hv3 hC3 hx3 F13 N13 off13 ne13 hR3
    obtain ⟨n, t, rfl, hn⟩ := IntsAre.at hV1 j v (by simpa using hv3)
    have hin := rowInts_in n (List.mem_of_getElem? hn)
    obtain ⟨k, rfl⟩ : ∃ k : Nat, n = (k : Int) := ⟨n.toNat, by omega⟩
    clear F12 N12
    tb_start
    refine law_letters (outer := []) K1 F13 KX T rfl (by decide) (by omega) ?_
    intro t9 h9 tk9 hs9
    refine hR3 _ _ _ (Fr.keeps F13 hs9) (News.grown N13 hs9) ?_
    rw [List.take_add_one, hn, Option.toList_some, List.map_append]
    exact StrsAre.append' hZ (.cons _ _ .nil)
  intro Z1 hzs
  have hZ1 : StrsAre Z1 ((rowInts low d2).map fun n => apStr n.natAbs) := by
    rw [List.size_toArray, hV1.length, List.take_length] at hzs
    exact hzs
  unfold LCg.FinE
  intro E1 h3 tk3 F13 N13 o13
  clear F12 N12 hzs
  refine ⟨h3, tk3, (E1, lst Z1) :: (E0, lst Z0) :: [(Dp, listOf #[Value.ref Df, Value.ref Ds] 0), (Ds, lst Us), (Df, lst Uf), (R1, lst V1), (R0, lst V0), (Dr, listOf #[Value.ref R0, Value.ref R1] kr), (Dd, lst [Value.int d0 t0, Value.int d1 t1, Value.int d2 t2]), (s₁.heap.objs.size + 1 + 1 + 1 + 1, os), (s₁.heap.objs.size + 1 + 1 + 1, ox), (s₁.heap.objs.size + 1 + 1, orow), (s₁.heap.objs.size + 1, w0)], rfl, F13, kst_newsOf N13 (by k_allIn), ⟨⟨Ne.symm o13.1, Ne.symm o13.2.1, Ne.symm o13.2.2.1⟩, off12⟩, .inr ⟨_, by k_mem, rfl, _, rfl⟩, ?_⟩
  clear F13 N13 off12 ne12 hC hx o13
  refine LCg.CompRest.zero ?_
  intro Dq h14 tk14 F14 N14 o14
  clear o14
  (try dsimp only)
  tb_start
  refine ne_two (News.isList N14 (by k_mem)) (News.isList N14 (.head _)) (News.isList N14 (by k_mem)) (News.isList N14 (by k_mem)) (News.isList N14 (by k_mem)) (News.isList N14 (by k_mem)) hSf hSs hZ0 hZ1 words_ok words_ok (by units_room) ?_
  have N15 := kst_newsOf N14 (l' := [(Dp, listOf #[Value.ref Df, Value.ref Ds] 0), (Ds, lst Us), (Df, lst Uf), (R1, lst V1), (R0, lst V0), (Dr, listOf #[Value.ref R0, Value.ref R1] kr), (Dd, lst [Value.int d0 t0, Value.int d1 t1, Value.int d2 t2]), (s₁.heap.objs.size + 1 + 1 + 1 + 1, os), (s₁.heap.objs.size + 1 + 1 + 1, ox), (s₁.heap.objs.size + 1 + 1, orow), (s₁.heap.objs.size + 1, w0)]) (by k_allIn)
  clear N14
  tb_start
  have N16 := kst_newsOf N15 (l' := [(Ds, lst Us), (Df, lst Uf), (R1, lst V1), (R0, lst V0), (Dr, listOf #[Value.ref R0, Value.ref R1] kr), (Dd, lst [Value.int d0 t0, Value.int d1 t1, Value.int d2 t2]), (s₁.heap.objs.size + 1 + 1, orow)]) (by k_allIn)
  clear N15 l11 hZ0 hZ1
  refine LCt.Assign_ListComp_T (F₀ := F14) (by rfl) (by with_unfolding_all rfl) (by with_unfolding_all rfl) (by decide) (by rfl) (by decide) (by rfl) (by rfl) (by rfl) ?_
  tb_start
  refine LCt.CompSrcT.ledger rfl F14 N16 (by k_mem) (by have := hV0.length; have := rowInts_len low d1; simp only [List.size_toArray, sizeLine_eq]; omega) (fun g4 => ?_)
  refine rest_T (fun i zs => IntsAre zs (((rowInts low d1).take i).filter fun n => decide (n ∈ rowInts low d2))) .nil (.inr ⟨_, by k_mem, rfl, _, rfl⟩) ?_ ?_
  · intro j zs v J oJ C3 oC3 D3 m3 h3 tk3 E3 R3 R0' hj hZ hv3 hC3 hx3 F15 N17 off15 ne15 hR3 hR3'
    obtain ⟨n, t, rfl, hn⟩ := IntsAre.at hV0 j v (by simpa using hv3)
    clear F14 N16
    tb_start
    · refine hR3 _ _ _ F15 N17 ?_
      rename _ = true => hany
      have hmem : n ∈ rowInts low d2 := by simpa using hany
      rw [List.take_add_one, hn, Option.toList_some, List.filter_append, List.filter_cons, if_pos (decide_eq_true hmem), List.filter_nil]
      exact IntsAre.append hZ (.cons _ _ .nil)
    · refine hR3' _ _ F15 N17 ?_
      rename _ = false => hany
      have hmem : n ∉ rowInts low d2 := by
        have hall : ∀ x ∈ rowInts low d2, ¬ x = n := by simpa using hany
        exact fun hq => hall n hq rfl
      rw [List.take_add_one, hn, Option.toList_some, List.filter_append, List.filter_cons, if_neg (by rw [decide_eq_true_eq]; exact hmem), List.filter_nil, List.append_nil]
      exact hZ
  · intro VC hzs
    have hVC : IntsAre VC ((rowInts low d1).filter fun n => decide (n ∈ rowInts low d2)) := by
      rw [List.size_toArray, hV0.length, List.take_length] at hzs
      exact hzs
    intro Dc h15 tk15 F15 N17 o15
    clear F14 N16 hzs o15
    (try dsimp only)
    have hWf := words_of hSf (rowInts_len _ _) hb0
    have hWs := words_of hSs (rowInts_len _ _) hb1
    have hl0 := rowInts_len low d1
    have hl1 := rowInts_len low d2
    have hlc : (List.filter (fun n => decide (n ∈ rowInts low d2)) (rowInts low d1)).length < 30 := Nat.lt_of_le_of_lt (List.length_filter_le _ _) hl0
    have hi0 := @rowInts_in low d1
    have hi1 := @rowInts_in low d2
    clear hSf hSs
    generalize hr0 : rowInts low d1 = r0 at *
    generalize hr1 : rowInts low d2 = r1 at *
    generalize hcm : List.filter (fun n => decide (n ∈ r1)) r0 = cm at *
    have hlf : (r0.map fun n => apStr n.natAbs).length = r0.length := List.length_map ..
    have hls : (r1.map fun n => apStr n.natAbs).length = r1.length := List.length_map ..
    generalize hwf : (r0.map fun n => apStr n.natAbs) = wf at *
    generalize hws : (r1.map fun n => apStr n.natAbs) = ws at *
    tb_start
    rename Fr _ _ _ _ => F18
    rename News _ _ _ _ => N18
    obtain ⟨m18, q1, q2, q3, q4, F19, f1, f2, f3, f4, f5, f6, f7⟩ : ∃ (mm : Str → Option Value) (q1 q2 q3 q4 : Tok), Fr s₁.heap s₁.heap.objs.size _ mm ∧ mm (PySem.Str.ofString "turned") = some (Value.int (2 * (if (ws.length : Int) > (wf.length : Int) then (ws.length : Int) else (wf.length : Int))) q1) ∧ mm (PySem.Str.ofString "small") = some (Value.int (2 * (if (ws.length : Int) > (wf.length : Int) then (ws.length : Int) else (wf.length : Int)) - (cm.length : Int)) q2) ∧ mm (PySem.Str.ofString "due") = some (Value.int (2 * ((if (ws.length : Int) > (wf.length : Int) then (ws.length : Int) else (wf.length : Int)) - (cm.length : Int))) q3) ∧ mm (PySem.Str.ofString "common") = some (Value.ref Dc) ∧ mm (PySem.Str.ofString "second") = some (Value.ref Ds) ∧ mm (PySem.Str.ofString "first") = some (Value.ref Df) ∧ mm (PySem.Str.ofString "draws") = some (Value.ref Dd) := ⟨_, _, _, _, 0, F18, rfl, rfl, rfl, rfl, rfl, rfl, rfl⟩
    clear F18
    generalize hLN : (if (ws.length : Int) > (wf.length : Int) then (ws.length : Int) else (wf.length : Int)) = LN at f1 f2 f3
    have F20 := fr_as F19 (known (known (known (known (known (known (known rfl f1) f2) f3) f4) f5) f6) f7)
    clear F19 f1 f2 f3 f4 f5 f6 f7
    refine cutQ (fun f s' => f = Flow.next ∧ ∃ h' tk m' tt td tsm, s' = { s₁ with heap := h', toks := tk } ∧ Fr s₁.heap s₁.heap.objs.size h' m' ∧ News s₁.heap s₁.heap.objs.size h' [(Ds, lst Us), (Df, lst Uf), (Dd, lst [Value.int d0 t0, Value.int d1 t1, Value.int d2 t2])] ∧ m' (PySem.Str.ofString "turned") = some (Value.int (cm.foldl (turnStep r0 r1 (wf.length : Int) (ws.length : Int)) (2 * LN)) tt) ∧ m' (PySem.Str.ofString "small") = some (Value.int (2 * LN - (cm.length : Int)) tsm) ∧ m' (PySem.Str.ofString "due") = some (Value.int (2 * (LN - (cm.length : Int))) td) ∧ m' (PySem.Str.ofString "second") = some (Value.ref Ds) ∧ m' (PySem.Str.ofString "first") = some (Value.ref Df) ∧ m' (PySem.Str.ofString "draws") = some (Value.ref Dd)) ?_ ?_
    · intro R hR
      refine For_invTF F20 ?_ (by intro _; rfl) hPE
      tb_start
      refine my_listT (x := PySem.Str.ofString "one") (fun i m' nx => nx = [(Dc, lst VC), (Ds, lst Us), (Df, lst Uf), (R1, lst V1), (R0, lst V0), (Dr, listOf #[Value.ref R0, Value.ref R1] kr), (Dd, lst [Value.int d0 t0, Value.int d1 t1, Value.int d2 t2]), (s₁.heap.objs.size + 1 + 1, orow)] ∧ ∃ tt td tsm, m' (PySem.Str.ofString "turned") = some (Value.int ((cm.take i).foldl (turnStep r0 r1 (wf.length : Int) (ws.length : Int)) (2 * LN)) tt) ∧ m' (PySem.Str.ofString "small") = some (Value.int (2 * LN - (cm.length : Int)) tsm) ∧ m' (PySem.Str.ofString "due") = some (Value.int (2 * (LN - (cm.length : Int))) td) ∧ m' (PySem.Str.ofString "second") = some (Value.ref Ds) ∧ m' (PySem.Str.ofString "first") = some (Value.ref Df) ∧ m' (PySem.Str.ofString "draws") = some (Value.ref Dd)) rfl (its := VC) (k := VC.length) rfl (.head _) F20 N18 ⟨rfl, _, _, _, by rw [List.take_zero]; rfl, rfl, rfl, rfl, rfl, rfl⟩ ?_ ?_ ?_
      · rintro i m' nx ⟨rfl, -⟩; exact .head _
      · rintro i v m₁ nx I oI s9 R2 hv ⟨rfl, tt, td, tsm, e1, e2, e3, e4, e5, e6⟩ F5 N5 off5 hnext
        obtain ⟨n, t, rfl, hn⟩ := IntsAre.at hVC i v (by simpa using hv)
        have hmem : n ∈ cm := List.mem_of_getElem? hn
        have hm0 : n ∈ r0 := by rw [← hcm] at hmem; exact (List.mem_filter.mp hmem).1
        have hm1 : n ∈ r1 := by rw [← hcm] at hmem; exact of_decide_eq_true (List.mem_filter.mp hmem).2
        replace F5 : Fr s₁.heap s₁.heap.objs.size s9.heap _ := fr_as F5 (known (known (known (known (known (known rfl e1) e2) e3) e4) e5) e6)
        replace N5 : News s₁.heap s₁.heap.objs.size s9.heap _ := N5
        clear F20 N18 e1 e2 e3 e4 e5 e6
        have hfold : (cm.take (i + 1)).foldl (turnStep r0 r1 (wf.length : Int) (ws.length : Int)) (2 * LN) = turnStep r0 r1 (wf.length : Int) (ws.length : Int) ((cm.take i).foldl (turnStep r0 r1 (wf.length : Int) (ws.length : Int)) (2 * LN)) n := by
          rw [List.take_add_one, hn, Option.toList_some, List.foldl_append]; rfl
        generalize (cm.take i).foldl (turnStep r0 r1 (wf.length : Int) (ws.length : Int)) (2 * LN) = tn at *
        have offI : ∀ p ∈ [(Dc, lst VC), (Ds, lst Us), (Df, lst Uf), (R1, lst V1), (R0, lst V0), (Dr, listOf #[Value.ref R0, Value.ref R1] kr), (Dd, lst [Value.int d0 t0, Value.int d1 t1, Value.int d2 t2]), (s₁.heap.objs.size + 1 + 1, orow)], p.1 ≠ I := off5
        clear off5
        tb_start
        rename Fr _ _ _ _ => F9
        rename News _ _ _ _ => N9
        exact hnext _ _ _ _ _ F9 N9 (.head _) (fun p hp => .tail _ hp) offI ⟨rfl, _, _, _, Eq.trans rfl (congrArg (fun z => some (Value.int z _)) hfold.symm), rfl, rfl, rfl, rfl, rfl⟩
      · rintro m₁ nx h tk ⟨rfl, tt, td, tsm, e1, e2, e3, e4, e5, e6⟩ F5 N5
        have hlen9 : VC.length = cm.length := hVC.length
        rw [hlen9, List.take_length] at e1
        exact hR _ _ ⟨rfl, _, _, _, _, _, _, rfl, F5, kst_newsOf N5 (by k_allIn), e1, e2, e3, e4, e5, e6⟩
    clear F20 N18
    rintro f s' ⟨rfl, h20, tk20, m20, tt, td, tsm, rfl, F20, N20, e1, e2, e3, e4, e5, e6⟩
    replace F20 := fr_as F20 (known (known (known (known (known (known rfl e1) e2) e3) e4) e5) e6)
    clear e1 e2 e3 e4 e5 e6 hV0 hV1 hVC drow hb0 hb1
    generalize htn : cm.foldl (turnStep r0 r1 (wf.length : Int) (ws.length : Int)) (2 * LN) = TN at *
    dsimp only
    tb_start
    obtain ⟨E1, E2, E3, E4⟩ := plain_law low d0 d1 d2 (by omega) (by omega)
    rw [hr0, hr1, hcm, hwf, hws, hLN] at E1 E2 E3 E4
    rw [htn] at E2
    rename Fr _ _ _ _ => F21
    rename News _ _ _ _ => N21
    refine lev (outer := []) K1 F21 KX T rfl (by decide) (by decide) hWf hWs (News.isList N21 (by k_mem)) (News.isList N21 (by k_mem)) ?_
    intro t9 h22 tk22 hs22
    have F22 := Fr.keeps F21 hs22
    have N22 := News.grown N21 hs22
    clear F21 N21 hs22
    (try dsimp only)
    tb_start
    rename Fr _ _ _ _ => F23
    rename News _ _ _ _ => N23
    rename Words _ ws.reverse => hWr
    refine lev (outer := []) K1 F23 KX T rfl (by decide) (by decide) hWr hWf (News.isList N23 (by k_mem)) (News.isList N23 (by k_mem)) ?_
    intro t10 h24 tk24 hs24
    have F24 := Fr.keeps F23 hs24
    have N24 := News.grown N23 hs24
    clear hs24
    (try dsimp only)
    clear F23 N23
    tb_start
    (try dsimp only)
    refine LCg.ListComp_U (F₀ := F24) (by with_unfolding_all rfl) (by decide) (by rfl) (by decide) (by rfl) ?_
    tb_start
    refine LCg.CompSrc.ledger rfl F24 N24 (by k_mem) (by have := hWs.are.length; have := hWs.few; simp only [List.size_toArray, sizeLine_eq]; omega) (fun g4 => ?_)
    refine rest_U (fun i zs => StrsAre zs ((ws.take i).map Txt.lower)) .nil (.inr ⟨_, by k_mem, rfl, _, rfl⟩) ?_ ?_
    · intro j zs v J oJ C3 oC3 D3 m3 h3 tk3 E9 R3 hj hZ hv3 hC3 hx3 F13 N13 off13 ne13 hR3
      obtain ⟨x, tx, rfl, hxx⟩ := StrsAre.item hWs.are j v (by simpa using hv3)
      have hxl := (hWs.ok x (List.mem_of_getElem? hxx)).2
      clear F24 N24
      tb_start
      refine hR3 _ _ _ F13 N13 ?_
      rw [List.take_add_one, hxx, Option.toList_some, List.map_append]
      exact StrsAre.append' hZ (.cons _ _ .nil)
    intro Zl hzs
    have hWl : Words Zl (r1.map fun n => Txt.lower (apStr n.natAbs)) := by
      rw [List.size_toArray, hWs.are.length, List.take_length, ← hws, List.map_map] at hzs
      exact words_low hzs hl1 (fun n hn => by have := hi1 n hn; omega)
    intro Dl h25 tk25 F25 N25 o25
    clear F24 N24 hzs o25
    (try dsimp only)
    tb_start
    refine lev (outer := []) K1 F25 KX T rfl (by decide) (by decide) hWf hWl (News.isList N25 (by k_mem)) (News.isList N25 (by k_mem)) ?_
    intro t11 h26 tk26 hs26
    have F26 := Fr.keeps F25 hs26
    have N26 := News.grown N25 hs26
    clear F25 N25 hs26
    (try dsimp only)
    tb_start
    refine lev (outer := []) K1 F26 KX T rfl (by decide) (by decide) hWs hWf (News.isList N26 (by k_mem)) (News.isList N26 (by k_mem)) ?_
    intro t12 h27 tk27 hs27
    have F27 := Fr.keeps F26 hs27
    have N27 := News.grown N26 hs27
    clear F26 N26 hs27
    (try dsimp only)
    rw [show ([d0, d1, d2].getD (Int.toNat 0) 0) = d0 from rfl, E1, E2, E3]
    tb_start
    rename Fr _ _ _ _ => F28
    rename News _ _ _ _ => N28
    refine eq_intsK (News.isList N28 (.tail _ (.head _))) (.cons _ _ (.cons _ _ (.cons _ _ (.cons _ _ .nil)))) (News.isList N28 (.head _)) (.cons _ _ (.cons _ _ (.cons _ _ (.cons _ _ .nil)))) (by units_room) ?_
    rw [E4, decide_eq_true rfl]
    have N29 := kst_newsOf N28 (l' := [_]) (fun p hp => .tail _ (by rw [List.mem_singleton.mp hp]; exact .head _))
    clear N28
    tb_start
    refine LCt.ListComp_T (F₀ := F28) (by with_unfolding_all rfl) (by decide) (by rfl) (by decide) (by rfl) ?_
    tb_start
    refine LCt.CompSrcT.ledger rfl F28 N29 (.head _) (by show 4 ≤ sizeLine; decide) (fun g5 => ?_)
    refine rest_T (fun i zs => zs = []) rfl (.inr ⟨_, .head _, rfl, _, rfl⟩) ?_ ?_
    · intro j zs v J oJ C3 oC3 D3 m3 h3 tk3 E9 R3 R0' hj hZ hv3 hC3 hx3 F13 N13 off13 ne13 hR3 hR3'
      obtain ⟨x, tx, rfl⟩ : ∃ x tx, v = Value.int x tx := by
        have hj' : j < 4 := hj
        match j, hj', hv3 with
        | 0, _, hv3 => exact ⟨_, _, (by simpa using hv3.symm)⟩
        | 1, _, hv3 => exact ⟨_, _, (by simpa using hv3.symm)⟩
        | 2, _, hv3 => exact ⟨_, _, (by simpa using hv3.symm)⟩
        | 3, _, hv3 => exact ⟨_, _, (by simpa using hv3.symm)⟩
      clear F28 N29
      tb_start
      exact hR3' _ _ F13 N13 hZ
    intro zs hzs
    subst hzs
    intro Dz h30 tk30 F30 N30 o30
    clear F28 N29 o30
    (try dsimp only)
    tb_start
    rename Fr _ _ _ _ => F31
    rename News _ _ _ _ => N31
    refine eq_intsK (vs := []) (us := []) (News.isList N31 (by k_mem)) .nil (News.isList N31 (.head _)) .nil (by units_room) ?_
    rw [decide_eq_true rfl]
    tb_start
    exact hfin _ _ _ F31)
end
end Mine
theorem PySem.Challenge.cw_pk0043_01_holds : PySem.Challenge.rw_pk0043_01.Holds := by
  exact Mine.law_ok
