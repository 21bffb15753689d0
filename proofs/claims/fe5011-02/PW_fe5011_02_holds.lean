import PyProof.Rows.All
import Wide.All
import OpenK.AllK
import Wide.FinOn
import PySem.Challenge.RW_fe5011_02
open PySem PySem.W PyProof.Rows PySem.Calls PySem.Spec
set_option Elab.async false
set_option maxRecDepth 100000
set_option maxHeartbeats 8000000
set_option linter.all false
set_option pp.deepTerms false
set_option pp.deepTerms.threshold 3
set_option pp.maxSteps 100000
namespace Mine
open_top hd2 for PySem.Challenge.rw_fe5011_02
theorem top_off : True := by w_top off; trivial
end Mine
namespace Mine
abbrev FnC (prog : Program) (w : World) (K : Frag) (p : Program) (loose : List Str) (mean : ExcName → Option Value) (mg mb : Str → Option Value) (f : Addr) (news : List (Addr × Obj)) (vs : List Value) (kw : List (Str × Value)) (depth : Nat)
   (Ret : Heap → Addr → (Str → Option Value) → Shared → (Value → Shared → Prop) → Prop) : Prop :=
  ∀ (dp un : Nat) (gd : Option (List Code)) (cn : Str) (cs : Scope) (a : Addr) (ccd : Value) (cl : List (Str × Addr)) (outer : List Env) (A₀ : Around) (base h₀ : Heap) (L : Addr) (m : Str → Option Value) (s : Shared) (Q E : Value → Shared → Prop),
    Below A₀ base outer h₀ → Fr h₀ L s.heap m → K.In h₀ → News h₀ L s.heap news → Top p loose mean mg mb h₀ → cs.kind = .function →
    dp + depth < recursionLimit → un + 8 * depth < cLine → Ret h₀ L m s Q →
      wpAny (model prog w) (ktrTop dp un gd cn cs L a ccd cl outer) (call (.ref f) vs kw) Q E s

section
variable {prog : Program} {w : World} {A : Around} {E : Value → Shared → Prop} {s : Shared} {h₀ : Heap} {L D : Addr} {m : Str → Option Value} {news news' : List (Addr × Obj)} {vs : List Value} {ns : List Int} {n : Nat} {k x : Int} {t u : Tok}
theorem sub_ref {value slice : PySem.Expr} {v : Value} {Q : Value → Shared → Prop} (N : News h₀ L s.heap news) (hm : (D, listOf vs.toArray n) ∈ news) (h0 : 0 ≤ k) (hfit : k < 2 ^ 63) (hx : vs[k.toNat]? = some v) (h : Q v s)
    (hs : subscripted slice false (.ref D) (.int k u) = operate [.ref D, .int k u] (getItem (.ref D) (.int k u)) := by with_unfolding_all rfl) :
    wpAny (model prog w) A (subscriptTail value slice (.ref D) (.int k u)) Q E s :=
  have hl : s.heap.IsList D vs.toArray := PySem.IsL.isList (n := n) (N _ hm).1
  tail_any hl.typeIs slot_list_getitem.lookup (wpAny_getItem_list hl h0 hfit (by simpa using hx) h) hs
end
section
variable {prog : Program} {w : World} {A : Around} {E : Value → Shared → Prop} {s : Shared}
theorem min4_args (a b c d : Value) : argsOk "min" ⟨[a, b, c, d], []⟩ := by unfold argsOk; kernel_rfl
theorem best_step (f : Nat → Int) (k : Nat) : f (argBest (fun i j => decide (f i < f j)) (k + 1)) = min (f (argBest (fun i j => decide (f i < f j)) k)) (f (k + 1)) := by
  show f (if decide (f (k + 1) < f (argBest (fun i j => decide (f i < f j)) k)) = true then k + 1 else argBest (fun i j => decide (f i < f j)) k) = _
  generalize argBest (fun i j => decide (f i < f j)) k = z
  by_cases c : f (k + 1) < f z
  · rw [if_pos (decide_eq_true c)]; omega
  · rw [if_neg (by simp [c])]; omega
theorem best_three (f : Nat → Int) : f (argBest (fun i j => decide (f i < f j)) 3) = min (min (min (f 0) (f 1)) (f 2)) (f 3) := by
  rw [best_step f 2, best_step f 1, best_step f 0]
  rfl
theorem min4 {h₀ : Heap} {L : Addr} {m : Str → Option Value} {news : List (Addr × Obj)} {a b c d : Int} {t u x y : Tok} {Q : Value → Shared → Prop} (hh : A.handled = none) (hF : Fr h₀ L s.heap m) (N : News h₀ L s.heap news)
    (h : ∀ r h' tk, Fr h₀ L h' m → News h₀ L h' news → Q (.int (min (min (min a b) c) d) r) { s with heap := h', toks := tk }) :
    wpAny (model prog w) A (call (.builtin "min") [.int a t, .int b u, .int c x, .int d y]) Q E s := by
  let its : List (Int × Tok) := [(a, t), (b, u), (c, x), (d, y)]
  let h1 := s.heap.push { cls := .type "tuple", data := .seq #[.int a t, .int b u, .int c x, .int d y] }
  have hT : h1.IsTuple s.heap.objs.size (intItems its.toArray) := ⟨_, Heap.get?_push_size _ rfl, rfl, 0, by simp [intItems, its]⟩
  have hz : h1.objs.size = s.heap.objs.size + 1 := Heap.size_push ..
  refine call_function_tree F.kind_min F.plain_min F.entry_min (min4_args _ _ _ _) ?_
  refine wpAny_bind (wpAny_of_eq (show Builtin.Builtins.bindParams "min" ["key", "default"] 0 ⟨[], []⟩ = pure [none, none] from rfl) ?_)
  show wpAny _ A.in1 (newTuple [_, _, _, _] >>= _) _ _ s
  refine wpAny_bind (wpAny_newObj_type ?_)
  show wpAny _ A.in1 (pyIter (.ref s.heap.objs.size) >>= _) _ _ { s with heap := h1 }
  refine wpAny_bind (wpAny_pyIter_tuple (s := { s with heap := h1 }) hT ?_)
  refine wpAny_bind (wpAny_newObj_type ?_)
  have hname : (toString "min" ++ toString ".loop" : String) = "min.loop" := by decide
  rw [hname]
  have W := Walks.tuple (prog := prog) (w := w) (A := A.in1) hh h1.objs.size s.heap.objs.size (by rw [hz]; exact Nat.ne_of_lt (Nat.lt_succ_self _)) (intItems its.toArray)
  have hsize : (h1.push { cls := .type "tuple_iterator", data := .fields #[.ref s.heap.objs.size, .int 0 0] }).objs.size = s.heap.objs.size + 2 := by rw [Heap.size_push, hz]
  refine wpAny_pure ⟨plainId_quiet F.plain_min_loop _, codeAny_min_loop_first W _ (CmpOf.ints_lt (numAt its.toArray) (fun _ _ => intItems_at)) _ ?_ (by simp [intItems, its]) ?_ (Heap.get?_push_size _ rfl) fun v h' tk hP hk => ?_⟩
  · intro hm
    rcases List.mem_cons.mp hm with e | hm
    · have e' : @Eq Nat (h1.push { cls := .type "tuple_iterator", data := .fields #[.ref s.heap.objs.size, .int 0 0] }).objs.size h1.objs.size := e
      omega
    · have e' : @Eq Nat (h1.push { cls := .type "tuple_iterator", data := .fields #[.ref s.heap.objs.size, .int 0 0] }).objs.size s.heap.objs.size := List.mem_singleton.mp hm
      omega
  · exact ⟨⟨_, Heap.get?_push_of_some _ (Heap.get?_push_size _ rfl), rfl, rfl⟩, (hT.push _).push _⟩
  · have hold : ∀ d o, s.heap.get? d = some o → h'.get? d = some o := fun d o e => by
      have hlt : @LT.lt Nat _ d s.heap.objs.size := Heap.lt_size e
      refine hk d o (fun hm => ?_) (Nat.ne_of_lt (by rw [hsize]; exact Nat.lt_succ_of_lt (Nat.lt_succ_of_lt hlt))) (Heap.get?_push_of_some _ (Heap.get?_push_of_some _ (Heap.get?_push_of_some _ e)))
      have e' : @Eq Nat d h1.objs.size := List.mem_singleton.mp hm
      omega
    have e3 : (intItems its.toArray).size - 1 = 3 := by simp [intItems, its]
    have hP' : (intItems its.toArray)[argBest (fun i j => decide (numAt its.toArray i < numAt its.toArray j)) 3]? = some v := by rw [← e3]; exact hP
    obtain ⟨r, rfl⟩ := intItems_at hP'
    rw [best_three (numAt its.toArray)]
    exact h r h' tk (hF.grownK hold) (N.grown hold)
end

def Stop (P : Prop) : Prop := P
theorem Stop.out {P : Prop} (h : Stop P) : P := h
section
variable {prog : Program} {w : World} {A : Around} {E : Value → Shared → Prop} {s : Shared} {env : Env} {h₀ : Heap} {x : Str} {body : List Stmt} {Q : Flow → Shared → Prop}
/-- how a turn leaves the frame and the ledger -/
def Leaves {S : Type} (stored : List Str) (x : Str) (enc : S → Str → Option Value) (led : S → List (Addr × Obj)) (I : S → Prop) (m' : Str → Option Value) (nx : List (Addr × Obj)) : Prop :=
  ∃ σ', I σ' ∧ nx = led σ' ∧ ∀ z, z ≠ x → stored.contains z = false → m' z = enc σ' z
theorem Leaves.fin {S : Type} {stored : List Str} {enc : S → Str → Option Value} {led : S → List (Addr × Obj)} {I : S → Prop} {L : Addr} {own news' : List (Addr × Obj)} {s₁ : Shared} {h' : Heap} {tk : Nat} {m' : Str → Option Value}
    (σ' : S) (F : Fr h₀ L h' m') (N : News h₀ L h' news') (hi : I σ') (hsub : ∀ p ∈ led σ', p ∈ news') (hown : ∀ p ∈ own, p ∈ news') (hoff : TbOff own (led σ')) (hm : ∀ z, z ≠ x → stored.contains z = false → m' z = enc σ' z) :
    TbEnd h₀ L (Leaves stored x enc led I) own s₁ { s₁ with heap := h', toks := tk } :=
  ⟨h', tk, m', news', led σ', rfl, F, N, hsub, hown, hoff, σ', hi, rfl, hm⟩
theorem frame_split {v : Option Value} {m : Str → Option Value} {e : Str → Option Value} {stored : List Str} (hm : ∀ z, z ≠ x → stored.contains z = false → m z = e z) :
    (fun y => if y = x then v else m y) = fun z => if z = x then v else if stored.contains z then m z else e z := by
  funext z
  by_cases h1 : z = x
  · simp only [if_pos h1]
  · simp only [if_neg h1]
    cases h2 : stored.contains z with
    | true => simp
    | false => simp only [Bool.false_eq_true, if_false]; exact hm z h1 h2
theorem frame_split' {m : Str → Option Value} {e : Str → Option Value} {stored : List Str} (hm : ∀ z, z ≠ x → stored.contains z = false → m z = e z) :
    m = fun z => if z = x then m z else if stored.contains z then m z else e z := by
  funext z
  by_cases h1 : z = x
  · simp only [if_pos h1]
  · simp only [if_neg h1]
    cases h2 : stored.contains z with
    | true => simp
    | false => simp only [Bool.false_eq_true, if_false]; exact hm z h1 h2
theorem loopR {S : Type} {r : Addr} {a₀ b₀ : Int} {t₀ u₀ v₀ : Tok} {n : Nat} {m₀ : Str → Option Value} {news : List (Addr × Obj)} (stored : List Str) (enc : S → Str → Option Value) (led : S → List (Addr × Obj)) (I : Nat → S → Prop) (σ₀ : S)
    (hh : A.handled = none) (hr : IsRange s.heap r a₀ b₀ 1 t₀ u₀ v₀) (hb : -1000000 ≤ a₀ ∧ a₀ ≤ 1000000 ∧ -1000000 ≤ b₀ ∧ b₀ ≤ 1000000) (hn : n = (b₀ - a₀).toNat) (F : Fr h₀ env.locals s.heap m₀) (N : News h₀ env.locals s.heap news)
    (h0 : I 0 σ₀) (hled : ∀ p ∈ led σ₀, p ∈ news) (hm : ∀ z, z ≠ x → stored.contains z = false → m₀ z = enc σ₀ z)
    (turn : ∀ i t σ (u : Str → Option Value) h tk own, i < n → I i σ → TbOff own (led σ) → Fr h₀ env.locals h (fun z => if z = x then some (.int (a₀ + (i : Int)) t) else if stored.contains z then u z else enc σ z) → News h₀ env.locals h (led σ ++ own) →
      wpAny (model prog w) A (execs body env) (TbPost h₀ env.locals (Leaves stored x enc led (I (i + 1))) own { s with heap := h, toks := tk } Q) E { s with heap := h, toks := tk })
    (done : ∀ σ (u : Str → Option Value) h tk, I n σ → Fr h₀ env.locals h (fun z => if z = x then u z else if stored.contains z then u z else enc σ z) → News h₀ env.locals h (led σ) → Q .next { s with heap := h, toks := tk }) :
    wpAny (model prog w) A (pyIter (.ref r)) (fun it s₂ => LoopAtV prog w A h₀ env x body Q E it s₂) E s := by
  refine tbr_invG (news := led σ₀) (fun i m nx => Leaves stored x enc led (I i) m nx) hh hr (small_one (by omega) (by omega) (by omega) (by omega)) (n := n) (hn ▸ rangeSize_nat a₀ b₀) F (fun p hp => N p (hled p hp)) ⟨σ₀, h0, rfl, hm⟩ ?_ ?_
  · rintro i k t m₁ nx h tk own hk hoff ⟨σ, hI, rfl, hm₁⟩ F₁ N₁
    have hi : i < n := by
      have := (List.getElem?_eq_some_iff.mp hk).1
      rwa [rangeKs_length] at this
    have hk' : k = a₀ + (i : Int) := by
      simp [rangeKs, hi] at hk
      omega
    subst hk'
    rw [frame_split hm₁] at F₁
    exact turn i t σ m₁ h tk own hi hI hoff F₁ N₁
  · rintro m₁ nx h tk ⟨σ, hI, rfl, hm₁⟩ F₁ N₁
    rw [frame_split' hm₁] at F₁
    exact done σ m₁ h tk hI F₁ N₁
end

section
variable {prog : Program} {w : World} {A : Around} {E : Value → Shared → Prop} {s : Shared} {env : Env} {h₀ : Heap} {x : Str} {body : List Stmt} {Q : Flow → Shared → Prop}
/-- a loop over a range whose turn stores no name but those of 'stored', which are forgotten -/
theorem loopR0 {S : Type} {r : Addr} {a₀ b₀ : Int} {t₀ u₀ v₀ : Tok} {n : Nat} {m₀ : Str → Option Value} {news : List (Addr × Obj)} (stored : List Str) (led : S → List (Addr × Obj)) (I : Nat → S → Prop) (σ₀ : S)
    (hh : A.handled = none) (hr : IsRange s.heap r a₀ b₀ 1 t₀ u₀ v₀) (hb : -1000000 ≤ a₀ ∧ a₀ ≤ 1000000 ∧ -1000000 ≤ b₀ ∧ b₀ ≤ 1000000) (hn : n = (b₀ - a₀).toNat) (F : Fr h₀ env.locals s.heap m₀) (N : News h₀ env.locals s.heap news)
    (h0 : I 0 σ₀) (hled : ∀ p ∈ led σ₀, p ∈ news)
    (turn : ∀ i t σ (u : Str → Option Value) h tk own, i < n → I i σ → TbOff own (led σ) → Fr h₀ env.locals h (fun z => if z = x then some (.int (a₀ + (i : Int)) t) else if stored.contains z then u z else m₀ z) → News h₀ env.locals h (led σ ++ own) →
      wpAny (model prog w) A (execs body env) (TbPost h₀ env.locals (Leaves stored x (fun _ => m₀) led (I (i + 1))) own { s with heap := h, toks := tk } Q) E { s with heap := h, toks := tk })
    (done : ∀ σ (u : Str → Option Value) h tk, I n σ → Fr h₀ env.locals h (fun z => if z = x then u z else if stored.contains z then u z else m₀ z) → News h₀ env.locals h (led σ) → Q .next { s with heap := h, toks := tk }) :
    wpAny (model prog w) A (pyIter (.ref r)) (fun it s₂ => LoopAtV prog w A h₀ env x body Q E it s₂) E s :=
  loopR stored (fun _ => m₀) led I σ₀ hh hr hb hn F N h0 hled (fun _ _ _ => rfl) turn done
end
/-- rows of ints, each a list of its own -/
inductive RowsAre : List (Addr × Obj) → List (List Int) → Prop
  | nil : RowsAre [] []
  | cons {a : Addr} {vs : List Value} {ns : List Int} {n : Nat} {R : List (Addr × Obj)} {g : List (List Int)} : IntsAre vs ns → RowsAre R g → RowsAre ((a, listOf vs.toArray n) :: R) (ns :: g)
theorem RowsAre.length {R : List (Addr × Obj)} {g : List (List Int)} (h : RowsAre R g) : R.length = g.length := by
  induction h with
  | nil => rfl
  | cons _ _ ih => simp [ih]
theorem RowsAre.get {R : List (Addr × Obj)} {g : List (List Int)} (h : RowsAre R g) : ∀ {i : Nat} {ns : List Int}, g[i]? = some ns → ∃ a vs n, R[i]? = some (a, listOf vs.toArray n) ∧ IntsAre vs ns := by
  induction h with
  | nil => intro i ns h; simp at h
  | @cons a vs ns n R g hi _ ih =>
    intro i ns' h
    cases i with
    | zero => simp at h; subst h; exact ⟨a, vs, n, by simp, hi⟩
    | succ i => rw [List.getElem?_cons_succ] at h ⊢; exact ih h
theorem RowsAre.snoc {R : List (Addr × Obj)} {g : List (List Int)} (h : RowsAre R g) {a : Addr} {vs : List Value} {ns : List Int} {n : Nat} (hi : IntsAre vs ns) : RowsAre (R ++ [(a, listOf vs.toArray n)]) (g ++ [ns]) := by
  induction h with
  | nil => exact .cons hi .nil
  | cons hj _ ih => exact .cons hj ih
theorem RowsAre.set {R : List (Addr × Obj)} {g : List (List Int)} (h : RowsAre R g) {a : Addr} {vs : List Value} {ns : List Int} {n : Nat} (hi : IntsAre vs ns) : ∀ i : Nat, RowsAre (R.set i (a, listOf vs.toArray n)) (g.set i ns) := by
  induction h with
  | nil => intro i; exact .nil
  | cons hj hr ih =>
    intro i
    cases i with
    | zero => exact .cons hi hr
    | succ i => exact .cons hj (ih i)
theorem ints_replicate (t : Tok) (x : Int) : ∀ n : Nat, IntsAre (List.replicate n (Value.int x t)) (List.replicate n x)
  | 0 => .nil
  | n + 1 => .cons x t (ints_replicate t x n)
theorem ref_at {h₀ h : Heap} {L : Addr} {m : Str → Option Value} (_F : Fr h₀ L h m) (x : Str) {l : Addr} (_e : m x = some (.ref l)) : ∃ la, la = l := ⟨l, rfl⟩
theorem head_at {h₀ h : Heap} {L : Addr} {a : Addr} {o : Obj} {r : List (Addr × Obj)} (_N : News h₀ L h ((a, o) :: r)) : ∃ d o', d = a ∧ o' = o := ⟨a, o, rfl, rfl⟩
theorem allLt_mem {d : Addr} : ∀ {l : List (Addr × Obj)}, AllLt d l → ∀ p ∈ l, p.1 < d
  | [], _, _, hp => (nomatch hp)
  | q :: r, h, p, hp => by
    rcases List.mem_cons.mp hp with rfl | hp
    · exact h.1
    · exact allLt_mem h.2 p hp
/-- a ledger less what stands at one address -/
def off (r : Addr) (l : List (Addr × Obj)) : List (Addr × Obj) := l.filter fun p => decide (p.1 ≠ r)
theorem off_ne {r : Addr} {l : List (Addr × Obj)} : ∀ p ∈ off r l, p.1 ≠ r := fun p hp => by
  have := (List.mem_filter.mp hp).2
  exact of_decide_eq_true this
theorem off_sub {r : Addr} {l : List (Addr × Obj)} : ∀ p ∈ off r l, p ∈ l := fun _ hp => (List.mem_filter.mp hp).1
theorem mem_off {r : Addr} {l : List (Addr × Obj)} {p : Addr × Obj} (hp : p ∈ l) (hn : p.1 ≠ r) : p ∈ off r l := List.mem_filter.mpr ⟨hp, decide_eq_true hn⟩
theorem focus {h₀ h : Heap} {L r : Addr} {o : Obj} {l : List (Addr × Obj)} (N : News h₀ L h l) (hm : (r, o) ∈ l) : News h₀ L h ((r, o) :: off r l) := fun p hp => by
  rcases List.mem_cons.mp hp with rfl | hp
  · exact N _ hm
  · exact N _ (off_sub p hp)
theorem sub_news {h₀ h : Heap} {L : Addr} {l l' : List (Addr × Obj)} (N : News h₀ L h l) (hs : ∀ p ∈ l', p ∈ l) : News h₀ L h l' := fun p hp => N p (hs p hp)

def cell (g : List (List Int)) (r c : Nat) : Int := (g.getD r []).getD c 0
def Shape (g : List (List Int)) (n1 n2 : Nat) : Prop := g.length = n1 ∧ ∀ r, r < n1 → (g.getD r []).length = n2
theorem Shape.at {g : List (List Int)} {n1 n2 : Nat} (h : Shape g n1 n2) {r : Nat} (hr : r < n1) : g[r]? = some (g.getD r []) := by
  have : r < g.length := by rw [h.1]; exact hr
  simp [List.getD, List.getElem?_eq_getElem this]
theorem getD_set_ne {α : Type} {l : List α} {i j : Nat} {x d : α} (h : i ≠ j) : (l.set i x).getD j d = l.getD j d := by
  simp [List.getD, List.getElem?_set_ne h]
theorem getD_set_self {α : Type} {l : List α} {i : Nat} {x d : α} (h : i < l.length) : (l.set i x).getD i d = x := by
  simp [List.getD, List.getElem?_set_self h]
theorem Shape.put {g : List (List Int)} {n1 n2 : Nat} (h : Shape g n1 n2) {r : Nat} (hr : r < n1) {row : List Int} (hw : row.length = n2) : Shape (g.set r row) n1 n2 := by
  refine ⟨by rw [List.length_set]; exact h.1, fun r' hr' => ?_⟩
  by_cases e : r = r'
  · subst e; rw [getD_set_self (by rw [h.1]; exact hr)]; exact hw
  · rw [getD_set_ne e]; exact h.2 r' hr'
theorem cell_put {g : List (List Int)} {n1 n2 : Nat} (h : Shape g n1 n2) {r c : Nat} (hr : r < n1) (hc : c < n2) {x : Int} (r' c' : Nat) :
    cell (g.set r ((g.getD r []).set c x)) r' c' = if r' = r ∧ c' = c then x else cell g r' c' := by
  unfold cell
  by_cases e : r = r'
  · subst e
    rw [getD_set_self (by rw [h.1]; exact hr)]
    by_cases f : c = c'
    · subst f; rw [getD_set_self (by rw [h.2 r hr]; exact hc)]; simp
    · rw [getD_set_ne f, if_neg (by omega)]
  · rw [getD_set_ne e, if_neg (by omega)]
theorem set_self_getD {g : List (List Int)} {r : Nat} : g.set r (g.getD r []) = g := by
  apply List.ext_getElem?
  intro i
  by_cases e : r = i
  · subst e
    by_cases h : r < g.length
    · rw [List.getElem?_set_self h]; simp [List.getD, List.getElem?_eq_getElem h]
    · rw [List.getElem?_eq_none (by simp; omega), List.getElem?_eq_none (by omega)]
  · rw [List.getElem?_set_ne e]
/-- the rows' ledger R bears the table g at the addresses A -/
structure Mat (A : List Addr) (R : List (Addr × Obj)) (g : List (List Int)) : Prop where
  adr : R.map (·.1) = A
  rows : RowsAre R g
theorem Mat.row {A : List Addr} {R : List (Addr × Obj)} {g : List (List Int)} {n1 n2 i : Nat} (M : Mat A R g) (h : Shape g n1 n2) (hi : i < n1) :
    ∃ a vs n, R[i]? = some (a, listOf vs.toArray n) ∧ IntsAre vs (g.getD i []) ∧ A[i]? = some a := by
  obtain ⟨a, vs, n, e, hi'⟩ := M.rows.get (h.at hi)
  exact ⟨a, vs, n, e, hi', by rw [← M.adr, List.getElem?_map, e]; rfl⟩
theorem Mat.put {A : List Addr} {R : List (Addr × Obj)} {g : List (List Int)} {i : Nat} {a : Addr} {o : Obj} (M : Mat A R g) (hR : R[i]? = some (a, o)) {vs : List Value} {ns : List Int} {n : Nat} (hi : IntsAre vs ns) :
    Mat A (R.set i (a, listOf vs.toArray n)) (g.set i ns) := by
  refine ⟨?_, M.rows.set hi i⟩
  rw [← M.adr, List.map_set]
  apply List.ext_getElem?
  intro j
  by_cases e : i = j
  · subst e
    have hl : i < (R.map (·.1)).length := by rw [List.length_map]; exact (List.getElem?_eq_some_iff.mp hR).1
    rw [List.getElem?_set_self hl, List.getElem?_map, hR]; rfl
  · rw [List.getElem?_set_ne e]
theorem mem_set_off {R : List (Addr × Obj)} {i : Nat} {r : Addr} {o o' : Obj} (hnd : (R.map (·.1)).Nodup) (hR : R[i]? = some (r, o)) : ∀ p ∈ R.set i (r, o'), p = (r, o') ∨ (p ∈ R ∧ p.1 ≠ r) := by
  intro p hp
  obtain ⟨j, hj⟩ := List.mem_iff_getElem?.mp hp
  by_cases e : i = j
  · subst e
    have hl : i < R.length := (List.getElem?_eq_some_iff.mp hR).1
    rw [List.getElem?_set_self hl] at hj
    exact Or.inl (Option.some.inj hj).symm
  · rw [List.getElem?_set_ne e] at hj
    refine Or.inr ⟨List.mem_of_getElem? hj, fun q => e ?_⟩
    have hl : i < (R.map (·.1)).length := by rw [List.length_map]; exact (List.getElem?_eq_some_iff.mp hR).1
    exact (List.getElem?_inj hl hnd).mp (by rw [List.getElem?_map, List.getElem?_map, hR, hj]; simp [q])
section
variable {la r : Addr} {V o o' : Obj} {R base own : List (Addr × Obj)} {i : Nat}
theorem put_sub (hnd : (R.map (·.1)).Nodup) (hR : R[i]? = some (r, o)) (hl : la ≠ r) (hb : ∀ p ∈ base, p.1 ≠ r) : ∀ p ∈ (la, V) :: (R.set i (r, o') ++ base), p ∈ (r, o') :: off r (((la, V) :: (R ++ base)) ++ own) := by
  intro p hp
  rcases List.mem_cons.mp hp with rfl | hp
  · exact List.mem_cons_of_mem _ (mem_off (List.mem_append_left _ (List.mem_cons_self ..)) hl)
  · rcases List.mem_append.mp hp with hp | hp
    · rcases mem_set_off hnd hR p hp with rfl | ⟨h1, h2⟩
      · exact List.mem_cons_self ..
      · exact List.mem_cons_of_mem _ (mem_off (List.mem_append_left _ (List.mem_cons_of_mem _ (List.mem_append_left _ h1))) h2)
    · exact List.mem_cons_of_mem _ (mem_off (List.mem_append_left _ (List.mem_cons_of_mem _ (List.mem_append_right _ hp))) (hb p hp))
theorem put_own (hoff : TbOff own ((la, V) :: (R ++ base))) (hR : R[i]? = some (r, o)) : ∀ p ∈ own, p ∈ (r, o') :: off r (((la, V) :: (R ++ base)) ++ own) := by
  intro p hp
  have := hoff p hp _ (List.mem_cons_of_mem _ (List.mem_append_left _ (List.mem_of_getElem? hR)))
  exact List.mem_cons_of_mem _ (mem_off (List.mem_append_right _ hp) this)
theorem put_off (hnd : (R.map (·.1)).Nodup) (hoff : TbOff own ((la, V) :: (R ++ base))) (hR : R[i]? = some (r, o)) : TbOff own ((la, V) :: (R.set i (r, o') ++ base)) := by
  intro p hp q hq
  rcases List.mem_cons.mp hq with rfl | hq
  · exact hoff p hp _ (List.mem_cons_self ..)
  · rcases List.mem_append.mp hq with hq | hq
    · rcases mem_set_off hnd hR q hq with rfl | ⟨h1, _⟩
      · have := hoff p hp _ (List.mem_cons_of_mem _ (List.mem_append_left _ (List.mem_of_getElem? hR)))
        exact this
      · exact hoff p hp _ (List.mem_cons_of_mem _ (List.mem_append_left _ h1))
    · exact hoff p hp _ (List.mem_cons_of_mem _ (List.mem_append_right _ hq))
end
open PyProof.V in
theorem dict_ne_locals {prog : Program} {w : World} {h₀ h : Heap} {L D : Addr} {m : Str → Option Value} {kvs : List (Int × Value)} {x : Str} {v : Value} (F : Fr h₀ L h m) (hx : m x = some v) (hd : h.DictOf (PySem.intKind prog w) D kvs) : D ≠ L := by
  rintro rfl
  obtain ⟨o, es, ep, ho, hdat, _, hm⟩ := F.ns
  obtain ⟨o', es', ep', ho', _, hdat', hko, _⟩ := hd
  rw [ho] at ho'
  cases ho'
  rw [hdat] at hdat'
  cases hdat'
  have h1 := hm x
  rw [hx] at h1
  unfold nsFind findBy at h1
  cases hf : es.find? (fun e => e.key.isStr x) with
  | none => rw [hf] at h1; cases h1
  | some e =>
    have h2 := Array.find?_some hf
    obtain ⟨k, hk, _⟩ := hko e (Array.mem_of_find?_eq_some hf)
    have h3 : e.key.isInt k = true := hk
    cases hkey : e.key <;> rw [hkey] at h2 h3 <;> simp [Value.isStr, Value.isInt] at h2 h3
open PyProof.V in
theorem putAll_zero : ∀ (ns : List Int) (c : List (Int × Int)), ns.foldl (fun acc a => putD (PyData.int a) (PyData.int 0) acc) (kdfD c) = kdfD (ns.foldl (fun c k => kdfPut c k 0) c)
  | [], _ => rfl
  | a :: r, c => by rw [List.foldl_cons, List.foldl_cons, kdfD_put]; exact putAll_zero r _
theorem has_zero : ∀ (ns : List Int) (c : List (Int × Int)) (x : Int), kdfHas c x = true ∨ x ∈ ns → kdfHas (ns.foldl (fun c k => kdfPut c k 0) c) x = true
  | [], _, _, h => by
    rcases h with h | h
    · exact h
    · cases h
  | a :: r, c, x, h => by
    rw [List.foldl_cons]
    refine has_zero r _ x ?_
    rw [kdyHas_put]
    rcases h with h | h
    · exact Or.inl (by rw [h, Bool.or_true])
    · rcases List.mem_cons.mp h with rfl | h
      · exact Or.inl (by simp)
      · exact Or.inr h
theorem len_zero : ∀ (ns : List Int) (c : List (Int × Int)), (ns.foldl (fun c k => kdfPut c k 0) c).length ≤ c.length + ns.length
  | [], _ => by simp
  | a :: r, c => by
    rw [List.foldl_cons]
    have h1 := len_zero r (kdfPut c a 0)
    have h2 := kdfPut_len c a 0
    rw [List.length_cons]
    omega
theorem news_add {h₀ h : Heap} {L d : Addr} {o : Obj} {news : List (Addr × Obj)} (N : News h₀ L h news) (ho : h.get? d = some o) (hL : d ≠ L) (hn : h₀.get? d = none) : News h₀ L h ((d, o) :: news) := fun p hp => by
  rcases List.mem_cons.mp hp with rfl | hp
  · exact ⟨ho, hL, hn⟩
  · exact N p hp
theorem value_map {v : Value} {k x : Int} (hx : x ≠ k) : ∀ kvs : List (Int × Value), valueAt (kvs.map fun kv => if kv.1 = k then (kv.1, v) else kv) x = valueAt kvs x
  | [] => rfl
  | (a, b) :: r => by
    have ih := value_map (v := v) hx r
    unfold valueAt at ih ⊢
    rw [List.map_cons, List.find?_cons, List.find?_cons]
    by_cases h1 : a = k
    · subst h1
      have h2 : ¬ a = x := fun q => hx q.symm
      simp only [if_true, h2, decide_false]
      exact ih
    · simp only [if_neg h1]
      by_cases h2 : a = x
      · simp [h2]
      · simp only [h2, decide_false]; exact ih
theorem value_map_self {v : Value} {k : Int} : ∀ kvs : List (Int × Value), kvs.any (fun kv => kv.1 = k) = true → valueAt (kvs.map fun kv => if kv.1 = k then (kv.1, v) else kv) k = some v
  | [], h => by simp at h
  | (a, b) :: r, h => by
    unfold valueAt
    rw [List.map_cons, List.find?_cons]
    by_cases h1 : a = k
    · simp [h1]
    · have e : (if a = k then (a, v) else (a, b)) = (a, b) := if_neg h1
      rw [e]
      simp only [h1, decide_false]
      exact value_map_self r (by simpa [h1] using h)
theorem value_stored (kvs : List (Int × Value)) (k x : Int) (v : Value) : valueAt (stored kvs k v) x = if x = k then some v else valueAt kvs x := by
  unfold stored
  by_cases h : kvs.any (fun kv => kv.1 = k) = true
  · rw [if_pos h]
    by_cases hx : x = k
    · subst hx; rw [if_pos rfl]; exact value_map_self kvs h
    · rw [if_neg hx]; exact value_map hx kvs
  · rw [if_neg h]
    unfold valueAt
    rw [List.find?_append]
    by_cases hx : x = k
    · subst hx
      have hn : kvs.find? (fun kv => decide (kv.1 = x)) = none := by
        rw [List.find?_eq_none]
        intro p hp hq
        exact h (List.any_eq_true.mpr ⟨p, hp, hq⟩)
      rw [hn]; simp
    · have hk : ¬ k = x := fun q => hx q.symm
      rw [if_neg hx]
      simp [hk]
/-- a dict of ints to ints, of a bounded size, that has the keys xs -/
def IntDict (prog : Program) (w : World) (o : Obj) (xs : List Int) (n : Nat) : Prop :=
  ∃ kvs : List (Int × Value), o.IsDictOf (PySem.intKind prog w) kvs ∧ kvs.length ≤ n ∧ ∀ x ∈ xs, ∃ z t, valueAt kvs x = some (.int z t)
open PyProof.V in
theorem IntDict.of_flat {prog : Program} {w : World} {o : Obj} {kvs : List (Int × Value)} {c : List (Int × Int)} {xs : List Int} {n : Nat} (hd : o.IsDictOf (PySem.intKind prog w) kvs) (hf : FlatPairs PyData.int kvs (kdfD c)) (hc : c.length ≤ n) (hx : ∀ x ∈ xs, kdfHas c x = true) : IntDict prog w o xs n := by
  refine ⟨kvs, hd, ?_, fun x hx' => ?_⟩
  · have := hf.length
    rw [kdfD_length] at this
    omega
  · obtain ⟨v, hv, hfl⟩ := hf.of_lookup PyProof.V.same_int (kdfD_item (hx x hx'))
    obtain ⟨t, rfl⟩ := PyProof.V.Flat.int_inv hfl
    exact ⟨_, t, hv⟩
section
variable {prog : Program} {w : World} {A : Around} {E : Value → Shared → Prop} {s : Shared} {h₀ : Heap} {L d : Addr} {m : Str → Option Value} {news rest : List (Addr × Obj)} {o : Obj} {xs : List Int} {n : Nat} {k : Int} {tk : Tok}
theorem idict_item {value slice : PySem.Expr} {Q : Value → Shared → Prop} (N : News h₀ L s.heap news) (hp : (d, o) ∈ news) (hd : IntDict prog w o xs n) (hk : k ∈ xs) (h : ∀ z t, Q (.int z t) { s with toks := s.toks + 1 })
    (hs : subscripted slice false (.ref d) (.int k tk) = operate [.ref d, .int k tk] (getItem (.ref d) (.int k tk)) := by with_unfolding_all rfl) (hg : ∀ r, letTemporaryGo value (.ref d) r = pure () := by intro _; with_unfolding_all rfl) :
    wpAny (model prog w) A (subscriptTail value slice (.ref d) (.int k tk)) Q E s := by
  obtain ⟨kvs, hd, _, hx⟩ := hd
  obtain ⟨z, t, hv⟩ := hx k hk
  exact kda_item N hp hd (intKind_is _ _ _ _) hv (h z t) hs hg
theorem idict_set {z : Int} {tz : Tok} {Q : Unit → Shared → Prop} (F : Fr h₀ L s.heap m) (N : News h₀ L s.heap ((d, o) :: rest)) (hne : ∀ p ∈ rest, p.1 ≠ d) (hd : IntDict prog w o xs n) (hn : n ≤ 10000)
    (h : ∀ h' o', Fr h₀ L h' m → News h₀ L h' ((d, o') :: rest) → IntDict prog w o' xs (n + 1) → Q () { s with heap := h', toks := s.toks + 1 }) :
    wpAny (model prog w) A (setItem (.ref d) (.int k tk) (.int z tz)) Q E s := by
  obtain ⟨kvs, hd, hlen, hx⟩ := hd
  refine kda_set F N (UpdF.head hne) hd (intKind_is _ _ _ _) (by rw [sizeLine_eq]; omega) fun h' o' F' N' hd' => h h' o' F' N' ⟨_, hd', ?_, fun x hx' => ?_⟩
  · have := stored_length_le kvs k (Value.int z tz)
    omega
  · rw [value_stored]
    split
    · exact ⟨z, tz, rfl⟩
    · exact hx x hx'
end

/-- how a def that only makes new things hands its answer on: all that stood stands -/
def Lz (g : Heap) (R : Result → Shared → Prop) (v : Value) (s' : Shared) : Prop := (∀ b o, g.get? b = some o → s'.heap.get? b = some o) ∧ R (.ok (.ret v)) s'
theorem code_frz {prog : Program} {w : World} {A A₀ : Around} {s : Shared} {K : Frag} {L : Addr} {h₀ base : Heap} {m mg mb : Str → Option Value} {p : Program} {loose : List Str} {mean : ExcName → Option Value}
    {env : Env} {outer : List Env} {R : Result → Shared → Prop} {name qual : Str} {params : Arguments} {body : List Stmt} {scope : Scope} {dV kV doc pm cdv ct oc : Value} {an od : Option Addr} {osl : Array (Option Value)} {f : Addr} {args : Args} {binds : List (Str × Value)}
    (B : Below A₀ base outer h₀) (F : Fr h₀ L s.heap m) (X₀ : K.In h₀) (T : Top p loose mean mg mb h₀) (hA : A.frames = some (env :: outer)) (hf : env.frame = some L) (hke : env.scope.kind = .function)
    (ho : K.lookup f = some ⟨oc, od, .func (fnOf name qual params body scope dV kV doc pm an cdv ct), osl⟩) (hcd : codeIn K cdv qual = true) (hroom : A.depth < recursionLimit)
    (hbind : BindsTo s (fnOf name qual params body scope dV kV doc pm an cdv ct) args binds) (hloc : ∀ y ∈ binds, scope.names.lookup y.1 = some .local)
    (h : ∀ L' h₁, Fr s.heap L' h₁ (fun y => binds.reverse.lookup y) → News s.heap L' h₁ [] → Below A base (env :: outer) s.heap → K.In s.heap → Top p loose mean mg mb s.heap →
      wpAny (model prog w) (A.deeper (envOf qual scope L' f cdv)) (execs body (envOf qual scope L' f cdv))
        (fun fl s' => Lz s.heap R (match fl with | .ret v => v | _ => .none) s')
        (fun e s' => wpAny (model prog w) (A.deeper (envOf qual scope L' f cdv)) (leaving (envOf qual scope L' f cdv) e) (fun _ s'' => R (.error e) s'') (fun e' s'' => R (.error e') s'') s')
        { s with heap := h₁, toks := s.toks + binds.length })
    (hco : scope.isCoroutine = false) (hgen : scope.isGenerator = false) (hk : scope.kind = .function)
    (hcell : ∀ x ∈ scope.names, x.2 ≠ .cell) : codeAny (model prog w) A (.call (.ref f) args) R s := by
  have X := X₀.keeps F.keep
  refine codeAny_call_def (fd := fnOf name qual params body scope dV kV doc pm an cdv ct) (body := body) (binds := binds) hroom (X _ _ ho) rfl (T.nolimit.keeps F.keep) (codeRec_of X hcd) rfl hbind hcell hloc (fun h₁ hns hk₁ => ?_) hco hgen hk
  have B' := pushX B F hf hke
  exact wpAny_mono (h s.heap.objs.size h₁ ⟨hns, hk₁, Nat.le_refl _⟩ News.nil ⟨hA, B'.stays, B'.frames⟩ X (T.keeps F.keep)) (fun fl s' hl => hl.2) fun _ _ y => y
abbrev FzC (prog : Program) (w : World) (K : Frag) (p : Program) (loose : List Str) (mean : ExcName → Option Value) (mg mb : Str → Option Value) (f : Addr) (vs : List Value) (kw : List (Str × Value)) (depth : Nat)
   (Pre : Heap → Prop) (Post : Heap → Heap → Value → Prop) : Prop :=
  ∀ (dp un : Nat) (gd : Option (List Code)) (cn : Str) (cs : Scope) (a : Addr) (ccd : Value) (cl : List (Str × Addr)) (outer : List Env) (A₀ : Around) (base h₀ : Heap) (L : Addr) (m : Str → Option Value) (s : Shared) (Q E : Value → Shared → Prop),
    Below A₀ base outer h₀ → Fr h₀ L s.heap m → K.In h₀ → Top p loose mean mg mb h₀ → cs.kind = .function →
    dp + depth < recursionLimit → un + 8 * depth < cLine → Pre s.heap → (∀ v h' tk', (∀ b o, s.heap.get? b = some o → h'.get? b = some o) → Post s.heap h' v → Q v { s with heap := h', toks := tk' }) →
      wpAny (model prog w) (ktrTop dp un gd cn cs L a ccd cl outer) (call (.ref f) vs kw) Q E s
section
variable {prog : Program} {w : World} {K : Frag} {p : Program} {loose : List Str} {mean : ExcName → Option Value} {mg mb : Str → Option Value} {f : Addr} {vs : List Value} {kw : List (Str × Value)} {depth : Nat} {Pre : Heap → Prop} {Post : Heap → Heap → Value → Prop}
  {dp un : Nat} {gd : Option (List Code)} {cn : Str} {cs : Scope} {a : Addr} {ccd : Value} {cl : List (Str × Addr)} {outer : List Env} {A₀ : Around} {base h₀ : Heap} {L : Addr} {m : Str → Option Value} {s : Shared} {news : List (Addr × Obj)} {Q E : Value → Shared → Prop}
theorem FzC.use (C : FzC prog w K p loose mean mg mb f vs kw depth Pre Post) (B : Below A₀ base outer h₀) (F : Fr h₀ L s.heap m) (X : K.In h₀) (N : News h₀ L s.heap news) (T : Top p loose mean mg mb h₀) (hk : cs.kind = .function)
    (hd : dp + depth < recursionLimit) (hu : un + 8 * depth < cLine) (hpre : Pre s.heap)
    (k : ∀ v h' tk', Fr h₀ L h' m → News h₀ L h' news → (∀ b o, s.heap.get? b = some o → h'.get? b = some o) → Post s.heap h' v → Q v { s with heap := h', toks := tk' }) :
    wpAny (model prog w) (ktrTop dp un gd cn cs L a ccd cl outer) (call (.ref f) vs kw) Q E s :=
  C _ _ _ _ _ _ _ _ _ _ _ _ _ _ _ _ _ B F X T hk hd hu hpre fun v h' tk' keep P => k v h' tk' (F.grownK keep) (N.grown keep) keep P
theorem fresh_news {h h' : Heap} {d : Addr} {o : Obj} (F : Fr h₀ L h m) (N : News h₀ L h news) (keep : ∀ b o, h.get? b = some o → h'.get? b = some o) (hn : h.get? d = none) (ho : h'.get? d = some o) :
    News h₀ L h' ((d, o) :: news) ∧ ∀ p ∈ news, p.1 ≠ d := by
  refine ⟨news_add (N.grown keep) ho ?_ ?_, fun p hp e => ?_⟩
  · rintro rfl
    obtain ⟨oL, _, _, hL, _⟩ := F.ns
    rw [hn] at hL; cases hL
  · cases hq : h₀.get? d with
    | none => rfl
    | some o' => have := F.keep _ _ hq; rw [hn] at this; cases this
  · have := (N p hp).1
    rw [e, hn] at this; cases this
abbrev FnRet := Heap → Addr → (Str → Option Value) → Shared → (Value → Shared → Prop) → Prop
theorem FnC.use {Ret : FnRet} (C : FnC prog w K p loose mean mg mb f news vs kw depth Ret) (B : Below A₀ base outer h₀) (F : Fr h₀ L s.heap m) (X : K.In h₀) (N : News h₀ L s.heap news) (T : Top p loose mean mg mb h₀) (hk : cs.kind = .function)
    (hd : dp + depth < recursionLimit) (hu : un + 8 * depth < cLine) (k : Ret h₀ L m s Q) :
    wpAny (model prog w) (ktrTop dp un gd cn cs L a ccd cl outer) (call (.ref f) vs kw) Q E s :=
  C _ _ _ _ _ _ _ _ _ _ _ _ _ _ _ _ _ B F X N T hk hd hu k
end
theorem mem_getL {xs ys : List Int} {k : Int} (h0 : 0 ≤ k) (h1 : k < xs.length) : xs.getD k.toNat 0 ∈ xs ++ ys := by
  have h : k.toNat < xs.length := by omega
  rw [List.getD_eq_getElem?_getD, List.getElem?_eq_getElem h]
  exact List.mem_append_left _ (List.getElem_mem h)
theorem mem_getR {xs ys : List Int} {k : Int} (h0 : 0 ≤ k) (h1 : k < ys.length) : ys.getD k.toNat 0 ∈ xs ++ ys := by
  have h : k.toNat < ys.length := by omega
  rw [List.getD_eq_getElem?_getD, List.getElem?_eq_getElem h]
  exact List.mem_append_right _ (List.getElem_mem h)
section
variable {prog : Program} {w : World} {A : Around} {E : Value → Shared → Prop} {s : Shared} {env : Env} {h₀ : Heap} {x : Str} {body : List Stmt} {Q : Flow → Shared → Prop}
/-- a loop over a range whose turn changes one name y, that is told, and forgets those of 'stored' -/
theorem loopR1 {S : Type} {r : Addr} {a₀ b₀ : Int} {t₀ u₀ v₀ : Tok} {n : Nat} {m₀ : Str → Option Value} {news : List (Addr × Obj)} (stored : List Str) (y : Str) (val : S → Value) (led : S → List (Addr × Obj)) (I : Nat → S → Prop) (σ₀ : S)
    (hh : A.handled = none) (hr : IsRange s.heap r a₀ b₀ 1 t₀ u₀ v₀) (hb : -1000000 ≤ a₀ ∧ a₀ ≤ 1000000 ∧ -1000000 ≤ b₀ ∧ b₀ ≤ 1000000) (hn : n = (b₀ - a₀).toNat) (F : Fr h₀ env.locals s.heap m₀) (N : News h₀ env.locals s.heap news)
    (h0 : I 0 σ₀) (hled : ∀ p ∈ led σ₀, p ∈ news) (hy : m₀ y = some (val σ₀))
    (turn : ∀ i t σ (u : Str → Option Value) h tk own, i < n → I i σ → TbOff own (led σ) → Fr h₀ env.locals h (fun z => if z = x then some (.int (a₀ + (i : Int)) t) else if stored.contains z then u z else if z = y then some (val σ) else m₀ z) → News h₀ env.locals h (led σ ++ own) →
      wpAny (model prog w) A (execs body env) (TbPost h₀ env.locals (Leaves stored x (fun σ z => if z = y then some (val σ) else m₀ z) led (I (i + 1))) own { s with heap := h, toks := tk } Q) E { s with heap := h, toks := tk })
    (done : ∀ σ (u : Str → Option Value) h tk, I n σ → Fr h₀ env.locals h (fun z => if z = x then u z else if stored.contains z then u z else if z = y then some (val σ) else m₀ z) → News h₀ env.locals h (led σ) → Q .next { s with heap := h, toks := tk }) :
    wpAny (model prog w) A (pyIter (.ref r)) (fun it s₂ => LoopAtV prog w A h₀ env x body Q E it s₂) E s :=
  loopR stored (fun σ z => if z = y then some (val σ) else m₀ z) led I σ₀ hh hr hb hn F N h0 hled (fun z _ _ => by
    by_cases e : z = y
    · subst e; rw [if_pos rfl]; exact hy
    · rw [if_neg e]) turn done
end
theorem not_stored {l : List Str} {z y : Str} (hs : l.contains z = false) (hy : y ∈ l) : z ≠ y := by
  rintro rfl
  rw [List.contains_iff_mem.mpr hy] at hs
  cases hs
theorem int_at {h₀ h : Heap} {L : Addr} {m : Str → Option Value} (_F : Fr h₀ L h m) (x : Str) {i : Int} {t : Tok} (_e : m x = some (.int i t)) : ∃ b tb, b = i ∧ tb = t := ⟨i, t, rfl, rfl⟩
theorem contains_two {z a b : Str} (h1 : z ≠ a) (h2 : z ≠ b) : [a, b].contains z = false := by
  cases h : [a, b].contains z with
  | false => rfl
  | true =>
    have := List.contains_iff_mem.mp h
    simp [h1, h2] at this
/-- the same for a def with cells -/
theorem code_frzC {prog : Program} {w : World} {A A₀ : Around} {s : Shared} {K : Frag} {L : Addr} {h₀ base : Heap} {m mg mb : Str → Option Value} {p : Program} {loose : List Str} {mean : ExcName → Option Value}
    {env : Env} {outer : List Env} {R : Result → Shared → Prop} {name qual : Str} {params : Arguments} {body : List Stmt} {scope : Scope} {dV kV doc pm cdv ct oc : Value} {an od : Option Addr} {osl : Array (Option Value)} {f : Addr} {args : Args} {binds : List (Str × Value)}
    (B : Below A₀ base outer h₀) (F : Fr h₀ L s.heap m) (X₀ : K.In h₀) (T : Top p loose mean mg mb h₀) (hA : A.frames = some (env :: outer)) (hf : env.frame = some L) (hke : env.scope.kind = .function)
    (ho : K.lookup f = some ⟨oc, od, .func (fnOf name qual params body scope dV kV doc pm an cdv ct), osl⟩) (hcd : codeIn K cdv qual = true) (hroom : A.depth < recursionLimit)
    (hbind : BindsTo s (fnOf name qual params body scope dV kV doc pm an cdv ct) args binds) (hkind : (binds.all fun y => scope.names.lookup y.1 == some .local || scope.names.lookup y.1 == some .cell) = true)
    (hnd : ((cellsFrom 0 scope.names []).map (·.1)).Nodup)
    (h : ∀ L' h₁ tk cells, Fr s.heap L' h₁ (bindL (envOfC qual scope L' f cdv).kindOf binds fun _ => none) → News s.heap L' h₁ cells →
      CellsAre (bindC (envOfC qual scope L' f cdv).kindOf binds fun _ => none) (cellsFrom (L' + 1) scope.names []) cells → Below A base (env :: outer) s.heap → K.In s.heap → Top p loose mean mg mb s.heap →
      wpAny (model prog w) (A.deeper (envOfC qual scope L' f cdv)) (execs body (envOfC qual scope L' f cdv))
        (fun fl s' => Lz s.heap R (match fl with | .ret v => v | _ => .none) s')
        (fun e s' => wpAny (model prog w) (A.deeper (envOfC qual scope L' f cdv)) (leaving (envOfC qual scope L' f cdv) e) (fun _ s'' => R (.error e) s'') (fun e' s'' => R (.error e') s'') s')
        { s with heap := h₁, toks := tk })
    (hco : scope.isCoroutine = false) (hgen : scope.isGenerator = false) (hk : scope.kind = .function) : codeAny (model prog w) A (.call (.ref f) args) R s := by
  have X := X₀.keeps F.keep
  have B' := pushX B F hf hke
  refine codeAny_call_function hroom (X _ _ ho) rfl hco hgen rfl (codeRec_of X hcd) (hbind _ _ _ _ ?_)
  refine wpAny_newFunctionEnv_cells hk (kindsX hkind _) fun env' he s' x => ?_
  subst he
  refine ⟨(T.nolimit.keeps F.keep).keeps x.toInCall.keep, codeAny_func ?_⟩
  obtain ⟨h₁, tk, rfl, _⟩ := x.done
  obtain ⟨cells, NC, Y⟩ := Cl.news (h₀ := s.heap) (Nat.le_refl _) fun n c hm => ⟨x.cell n c (lookup_of_mem_nodup (cellsFrom_names scope.names 0 (s.heap.objs.size + 1) [] [] rfl ▸ hnd) hm), x.above n c hm⟩
  exact wpAny_mono (h s.heap.objs.size h₁ tk cells ⟨x.toInCall.ns, x.toInCall.keep, Nat.le_refl _⟩ NC Y ⟨hA, B'.stays, B'.frames⟩ X (T.keeps F.keep)) (fun fl s' hl => hl.2) fun _ _ y => y
theorem pushed {o : Obj} {vs : List Value} {q : Int} {tq : Tok} {k : Nat} (h : o = listOf (vs.toArray.push (.int q tq)) k) : ∃ q' tq', o = listOf (List.toArray (vs ++ [Value.int q' tq'])) k ∧ q' = q := by
  refine ⟨q, tq, ?_, rfl⟩
  rw [h]
  simp
theorem ints_snoc {vs : List Value} {ns : List Int} (h : IntsAre vs ns) (q : Int) (t : Tok) : IntsAre (vs ++ [Value.int q t]) (ns ++ [q]) := h.append (.cons q t .nil)
theorem fourth_at {h₀ h : Heap} {L : Addr} {p q r : Addr × Obj} {a : Addr} {o : Obj} {l : List (Addr × Obj)} (_N : News h₀ L h (p :: q :: r :: (a, o) :: l)) : ∃ d o', d = a ∧ o' = o := ⟨a, o, rfl, rfl⟩
theorem ints_at {vs : List Value} {ns : List Int} (_h : IntsAre vs ns) : ∃ v, v = vs := ⟨vs, rfl⟩
/-- a step of the braid: the strands at h (from the left) and j (from above) meet -/
def bstep (hit : Bool) (h j : Nat) (σ : List Int × List Int) : List Int × List Int :=
  if hit = true ∨ σ.2.getD j 0 < σ.1.getD h 0 then (σ.1.set h (σ.2.getD j 0), σ.2.set j (σ.1.getD h 0)) else σ
def brow (hit : Nat → Bool) (h n : Nat) (σ : List Int × List Int) : List Int × List Int := (List.range n).foldl (fun σ j => bstep (hit j) h j σ) σ
def bfold (hit : Nat → Nat → Bool) (m n k : Nat) (σ : List Int × List Int) : List Int × List Int := (List.range k).foldl (fun σ i => brow (hit i) (m - 1 - i) n σ) σ
def bstart (m n : Nat) : List Int × List Int := ((List.range m).map fun (k : Nat) => (k : Int), (List.range n).map fun (k : Nat) => (m : Int) + (k : Int))
theorem brow_succ (hit : Nat → Bool) (h n : Nat) (σ : List Int × List Int) : brow hit h (n + 1) σ = bstep (hit n) h n (brow hit h n σ) := by
  unfold brow; rw [List.range_succ, List.foldl_append]; rfl
theorem bfold_succ (hit : Nat → Nat → Bool) (m n k : Nat) (σ : List Int × List Int) : bfold hit m n (k + 1) σ = brow (hit k) (m - 1 - k) n (bfold hit m n k σ) := by
  unfold bfold; rw [List.range_succ, List.foldl_append]; rfl
theorem bstep_len (hit : Bool) (h j : Nat) (σ : List Int × List Int) : (bstep hit h j σ).1.length = σ.1.length ∧ (bstep hit h j σ).2.length = σ.2.length := by
  unfold bstep; split <;> simp
theorem brow_len (hit : Nat → Bool) (h : Nat) (σ : List Int × List Int) : ∀ n, (brow hit h n σ).1.length = σ.1.length ∧ (brow hit h n σ).2.length = σ.2.length
  | 0 => ⟨rfl, rfl⟩
  | n + 1 => by
    rw [brow_succ]
    have h1 := bstep_len (hit n) h n (brow hit h n σ)
    have h2 := brow_len hit h σ n
    exact ⟨h1.1.trans h2.1, h1.2.trans h2.2⟩
theorem bfold_len (hit : Nat → Nat → Bool) (m n : Nat) (σ : List Int × List Int) : ∀ k, (bfold hit m n k σ).1.length = σ.1.length ∧ (bfold hit m n k σ).2.length = σ.2.length
  | 0 => ⟨rfl, rfl⟩
  | k + 1 => by
    rw [bfold_succ]
    have h1 := brow_len (hit k) (m - 1 - k) (bfold hit m n k σ) n
    have h2 := bfold_len hit m n σ k
    exact ⟨h1.1.trans h2.1, h1.2.trans h2.2⟩
theorem bstart_len (m n : Nat) : (bstart m n).1.length = m ∧ (bstart m n).2.length = n := by unfold bstart; simp
theorem rangeKs_zero (n : Nat) : rangeKs 0 n = (List.range n).map fun (k : Nat) => (k : Int) := by
  unfold rangeKs
  apply List.map_congr_left
  intro k _
  omega
theorem frame_at {h₀ h : Heap} {L : Addr} {m : Str → Option Value} (_F : Fr h₀ L h m) : ∃ l, l = L := ⟨L, rfl⟩
theorem bstep_yes {hit : Bool} {h j : Nat} {mA mB : List Int} (c : hit = true ∨ mB.getD j 0 < mA.getD h 0) : bstep hit h j (mA, mB) = (mA.set h (mB.getD j 0), mB.set j (mA.getD h 0)) := if_pos c
theorem bstep_no {hit : Bool} {h j : Nat} {mA mB : List Int} (c : ¬ (hit = true ∨ mB.getD j 0 < mA.getD h 0)) : bstep hit h j (mA, mB) = (mA, mB) := if_neg c
theorem contains_one {z a : Str} (h1 : z ≠ a) : [a].contains z = false := by
  cases h : [a].contains z with
  | false => rfl
  | true =>
    have := List.contains_iff_mem.mp h
    simp [h1] at this
section
variable {prog : Program} {w : World} {A : Around} {E : Value → Shared → Prop} {s : Shared} {env : Env} {h₀ : Heap} {x : Str} {body : List Stmt} {Q : Flow → Shared → Prop}
/-- a loop over a range whose turn leaves the ledger as it was, but for new things that it drops -/
theorem loopK {r : Addr} {a₀ b₀ : Int} {t₀ u₀ v₀ : Tok} {n : Nat} {m₀ : Str → Option Value} {news : List (Addr × Obj)} (stored : List Str)
    (hh : A.handled = none) (hr : IsRange s.heap r a₀ b₀ 1 t₀ u₀ v₀) (hb : -1000000 ≤ a₀ ∧ a₀ ≤ 1000000 ∧ -1000000 ≤ b₀ ∧ b₀ ≤ 1000000) (hn : n = (b₀ - a₀).toNat) (F : Fr h₀ env.locals s.heap m₀) (N : News h₀ env.locals s.heap news)
    (turn : ∀ i t (u : Str → Option Value) h tk own, i < n → TbOff own news → Fr h₀ env.locals h (fun z => if z = x then some (.int (a₀ + (i : Int)) t) else if stored.contains z then u z else m₀ z) → News h₀ env.locals h (news ++ own) →
      wpAny (model prog w) A (execs body env) (TbPost h₀ env.locals (Leaves (S := Unit) stored x (fun _ => m₀) (fun _ => news) (fun _ => True)) own { s with heap := h, toks := tk } Q) E { s with heap := h, toks := tk })
    (done : ∀ (u : Str → Option Value) h tk, Fr h₀ env.locals h (fun z => if z = x then u z else if stored.contains z then u z else m₀ z) → News h₀ env.locals h news → Q .next { s with heap := h, toks := tk }) :
    wpAny (model prog w) A (pyIter (.ref r)) (fun it s₂ => LoopAtV prog w A h₀ env x body Q E it s₂) E s :=
  loopR0 stored (fun _ : Unit => news) (fun _ _ => True) () hh hr hb hn F N trivial (fun _ h => h) (fun i t _ u h tk own hi _ ho F' N' => turn i t u h tk own hi ho F' N') (fun _ u h tk _ F' N' => done u h tk F' N')
end
theorem fresh_three {h₀ h h' : Heap} {L : Addr} {m : Str → Option Value} {news : List (Addr × Obj)} {a b c : Addr} {o1 o2 o3 : Obj} (F : Fr h₀ L h m) (N : News h₀ L h news) (keep : ∀ b o, h.get? b = some o → h'.get? b = some o)
    (n1 : h.get? a = none) (n2 : h.get? b = none) (n3 : h.get? c = none) (l1 : h'.get? a = some o1) (l2 : h'.get? b = some o2) (l3 : h'.get? c = some o3) : News h₀ L h' ((a, o1) :: (b, o2) :: (c, o3) :: news) := fun p hp => by
  rcases List.mem_cons.mp hp with rfl | hp
  · exact (fresh_news F N keep n1 l1).1 _ (List.mem_cons_self ..)
  · rcases List.mem_cons.mp hp with rfl | hp
    · exact (fresh_news F N keep n2 l2).1 _ (List.mem_cons_self ..)
    · exact (fresh_news F N keep n3 l3).1 _ hp
theorem news_gen {h₀ h : Heap} {L : Addr} {l : List (Addr × Obj)} (N : News h₀ L h l) : ∃ l', l' = l ∧ News h₀ L h l' := ⟨l, rfl, N⟩
theorem contains_three {z a b c : Str} (h1 : z ≠ a) (h2 : z ≠ b) (h3 : z ≠ c) : [a, b, c].contains z = false := by
  cases h : [a, b, c].contains z with
  | false => rfl
  | true =>
    have := List.contains_iff_mem.mp h
    simp [h1, h2, h3] at this
end Mine
namespace Mine
local macro_rules | `(tactic| k_mem) => `(tactic| first | assumption | exact List.mem_cons_self | (refine List.mem_cons_of_mem _ ?_; k_mem))
local macro_rules | `(tactic| k_all) => `(tactic| assumption)
local macro_rules | `(tactic| is_list) => `(tactic| exact News.isList (by assumption) (by k_mem))
local macro_rules | `(tactic| walk_at "subscriptTail") => `(tactic| (k_here; (with_reducible show wpAny _ _ (subscriptTail _ _ (Value.ref _) (Value.int _ _)) _ _ _); k_dflt (refine' sub_ref ?k1 ?k2 ?k3 ?k4 ?k5 ?_ ?k7; (case k1 => k_asm); (case k2 => k_mem); (case k5 => assumption); (case k3 => omega); (case k4 => omega); (case k7 => with_unfolding_all rfl); k_whole)))
local macro_rules | `(tactic| walk_at "pyIter ref") => `(tactic| ((with_reducible show wpAny _ _ (pyIter (Value.ref _)) (fun it s₂ => LoopAtV _ _ _ _ _ _ _ _ _ it s₂) _ _); refine Stop.out ?_))
local macro_rules | `(tactic| size_fits) => `(tactic| assumption)
local macro_rules | `(tactic| cell_enter) => `(tactic| (refine' code_def ?k1 ?k2 ?k3 ?k4 ?k5 ?kA ?kF ?kK ?k6 ?k7 ?k8 ?k9 ?kB ?_ ?c2 ?c3 ?c4 ?c5; (case kA => exact rfl); (case kF => exact rfl); (case kK => assumption); (case k1 => k_asm); (case k2 => k_asm); (case k3 => k_asm); (case k4 => k_asm); (case k5 => k_asm); (case k6 => k_is); (case k7 => k_is); (case k8 => ktr_room); (case k9 => first | exact BindsTo.of_eq rfl | exact binds_K (by k_in) rfl (by k_is) rfl rfl rfl); (case c5 => decide); (case kB => exact locs rfl); (case c2 => exact rfl); (case c3 => exact rfl); (case c4 => exact rfl); k_whole; intro g' L' h' FG' F' N' B' X' T'; (try dsimp only); (try k_lift B'); (try k_fold)))
local macro_rules | `(tactic| ktr_enter) => `(tactic| (refine' code_frz ?k1 ?k2 ?k3 ?k5 ?kA ?kF ?kK ?k6 ?k7 ?k8 ?k9 ?kB ?_ ?c2 ?c3 ?c4 ?c5; (case kA => exact rfl); (case kF => exact rfl); (case kK => assumption); (case k1 => k_asm); (case k2 => k_asm); (case k3 => k_asm); (case k5 => k_asm); (case k6 => k_is); (case k7 => k_is); (case k8 => ktr_room); (case k9 => first | exact BindsTo.of_eq rfl | exact binds_K (by k_in) rfl (by k_is) rfl rfl rfl); (case c5 => decide); (case kB => exact locs rfl); (case c2 => exact rfl); (case c3 => exact rfl); (case c4 => exact rfl); k_whole; intro L' h' F' N' B' X' T'; (try dsimp only); (try k_fold)))
local macro_rules | `(tactic| walk_at "call builtin:min") => `(tactic| (k_here; (with_reducible show wpAny _ _ (call (Value.builtin _) [Value.int _ _, Value.int _ _, Value.int _ _, Value.int _ _]) _ _ _); (with_unfolding_all refine' min4 ?k1 ?k2 ?k3 ?_; (case k1 => rfl); (case k2 => k_asm); (case k3 => k_asm); k_whole); intro r' h' tk' F' N'))
theorem step_c (w : World) (p : Program) (loose : List Str) (mean : ExcName → Option Value) (mg mb : Str → Option Value) (rest : List (Addr × Obj))
   (la r1 r2 l1 l2 : Addr) (vl v1 v2 vs1 vs2 : List Value) (nl n1 n2 : Nat) (p1 p2 xs ys : List Int) (i j cost x1 x2 : Int) (ti tj tc t1 t2 : Tok)
   (hla : (la, listOf vl.toArray nl) ∈ rest) (hr1 : (r1, listOf v1.toArray n1) ∈ rest) (hr2 : ∀ p ∈ rest, p.1 ≠ r2)
   (hx1 : vl[(i - 1).toNat]? = some (.ref r1)) (hx2 : vl[i.toNat]? = some (.ref r2))
   (i1 : IntsAre v1 p1) (i2 : IntsAre v2 p2) (ixs : IntsAre vs1 xs) (iys : IntsAre vs2 ys)
   (hi : 1 ≤ i ∧ i ≤ xs.length) (hj : 1 ≤ j ∧ j ≤ ys.length) (hxs : xs.length < 1000) (hys : ys.length < 1000) (hp1 : p1.length = ys.length + 1) (hp2 : p2.length = ys.length + 1) :
   FnC PySem.Challenge.pw_fe5011_02 w (hd2.heap_39 w.params) p loose mean mg mb 41 ((r2, listOf v2.toArray n2) :: rest) [.ref la, .int i ti, .int j tj, .ref l1, .ref l2, .int x1 t1, .int x2 t2] [(Str.ofString "substitution_cost", .int cost tc), (Str.ofString "transpositions", .bool false)] 1
     (fun h₀ L m s Q => h₀.IsList l1 vs1.toArray ∧ h₀.IsList l2 vs2.toArray ∧ ∀ (z : Int) (t : Tok) (h' : Heap) (tk' : Nat), z = min (min (p1.getD j.toNat 0 + 1) (p2.getD (j-1).toNat 0 + 1)) (p1.getD (j-1).toNat 0 + if xs.getD (i-1).toNat 0 = ys.getD (j-1).toNat 0 then 0 else cost) → Fr h₀ L h' m → News h₀ L h' ((r2, listOf (v2.set j.toNat (.int z t)).toArray n2) :: rest) → Q .none { s with heap := h', toks := tk' }) := by
  intro dp un gd cn cs a ccd cl outer A₀ base h₀ L m s Q E B F X N T hk hd hu hret
  obtain ⟨hl1, hl2, hret⟩ := hret
  refine wpAny_call ?_
  k_dflt cell_enter
  rename Fr h₀ L _ m => FG
  have hq1 := hl1.at fun o e => FG.keep _ o e
  have hq2 := hl2.at fun o e => FG.keep _ o e
  k_steps
  all_goals (refine hret _ _ _ _ ?_ (by assumption) (by assumption); (first | rw [if_pos (by assumption)] | rw [if_neg (by assumption)]); omega)
end Mine
namespace Mine
local macro_rules | `(tactic| k_mem) => `(tactic| first | assumption | exact List.mem_cons_self | (refine List.mem_cons_of_mem _ ?_; k_mem))
local macro_rules | `(tactic| k_all) => `(tactic| assumption)
local macro_rules | `(tactic| is_list) => `(tactic| exact News.isList (by assumption) (by k_mem))
local macro_rules | `(tactic| walk_at "subscriptTail") => `(tactic| (k_here; (with_reducible show wpAny _ _ (subscriptTail _ _ (Value.ref _) (Value.int _ _)) _ _ _); k_dflt (refine' sub_ref ?k1 ?k2 ?k3 ?k4 ?k5 ?_ ?k7; (case k1 => k_asm); (case k2 => k_mem); (case k5 => assumption); (case k3 => omega); (case k4 => omega); (case k7 => with_unfolding_all rfl); k_whole)))
local macro_rules | `(tactic| walk_at "pyIter ref") => `(tactic| ((with_reducible show wpAny _ _ (pyIter (Value.ref _)) (fun it s₂ => LoopAtV _ _ _ _ _ _ _ _ _ it s₂) _ _); refine Stop.out ?_))
local macro_rules | `(tactic| size_fits) => `(tactic| assumption)
local macro_rules | `(tactic| cell_enter) => `(tactic| (refine' code_def ?k1 ?k2 ?k3 ?k4 ?k5 ?kA ?kF ?kK ?k6 ?k7 ?k8 ?k9 ?kB ?_ ?c2 ?c3 ?c4 ?c5; (case kA => exact rfl); (case kF => exact rfl); (case kK => assumption); (case k1 => k_asm); (case k2 => k_asm); (case k3 => k_asm); (case k4 => k_asm); (case k5 => k_asm); (case k6 => k_is); (case k7 => k_is); (case k8 => ktr_room); (case k9 => first | exact BindsTo.of_eq rfl | exact binds_K (by k_in) rfl (by k_is) rfl rfl rfl); (case c5 => decide); (case kB => exact locs rfl); (case c2 => exact rfl); (case c3 => exact rfl); (case c4 => exact rfl); k_whole; intro g' L' h' FG' F' N' B' X' T'; (try dsimp only); (try k_lift B'); (try k_fold)))
local macro_rules | `(tactic| ktr_enter) => `(tactic| (refine' code_frz ?k1 ?k2 ?k3 ?k5 ?kA ?kF ?kK ?k6 ?k7 ?k8 ?k9 ?kB ?_ ?c2 ?c3 ?c4 ?c5; (case kA => exact rfl); (case kF => exact rfl); (case kK => assumption); (case k1 => k_asm); (case k2 => k_asm); (case k3 => k_asm); (case k5 => k_asm); (case k6 => k_is); (case k7 => k_is); (case k8 => ktr_room); (case k9 => first | exact BindsTo.of_eq rfl | exact binds_K (by k_in) rfl (by k_is) rfl rfl rfl); (case c5 => decide); (case kB => exact locs rfl); (case c2 => exact rfl); (case c3 => exact rfl); (case c4 => exact rfl); k_whole; intro L' h' F' N' B' X' T'; (try dsimp only); (try k_fold)))
theorem init_c (w : World) (p : Program) (loose : List Str) (mean : ExcName → Option Value) (mg mb : Str → Option Value) (news : List (Addr × Obj))
   (n1 n2 : Nat) (z1 z2 : Int) (hz1 : z1 = n1) (hz2 : z2 = n2) (hn1 : 0 < n1 ∧ n1 < 1000) (hn2 : 0 < n2 ∧ n2 < 1000) (t1 t2 : Tok) :
   FnC PySem.Challenge.pw_fe5011_02 w (hd2.heap_39 w.params) p loose mean mg mb 28 news [.int z1 t1, .int z2 t2] [] 1
     (fun h₀ L m s Q => ∀ (la : Addr) (nl : Nat) (A : List Addr) (R : List (Addr × Obj)) (g : List (List Int)) (h' : Heap) (tk' : Nat), Mat A R g → Shape g n1 n2 → (∀ c, c < n2 → cell g 0 c = c) → (∀ r, r < n1 → cell g r 0 = r) → A.Nodup → (∀ a ∈ A, a ≠ la ∧ ∀ p ∈ news, p.1 ≠ a) → (∀ p ∈ news, p.1 ≠ la) →
       Fr h₀ L h' m → News h₀ L h' ((la, listOf (A.map Value.ref).toArray nl) :: (R ++ news)) → Q (.ref la) { s with heap := h', toks := tk' }) := by
  subst hz1 hz2
  intro dp un gd cn cs a ccd cl outer A₀ base h₀ L m s Q E B F X N T hk hd hu hret
  refine wpAny_call ?_
  k_dflt cell_enter
  k_steps
  rename Fr _ _ _ _ => F1
  rename News _ _ _ _ => N1
  rename IsRange _ _ _ _ _ _ _ _ => G1
  obtain ⟨la, hl⟩ := ref_at F1 (Str.ofString "lev") rfl
  subst hl
  rename ∀ p ∈ news, p.1 < _ => lt1
  unfold Stop
  with_unfolding_all refine loopR0 (S := List (Addr × Obj)) (n := n1) [] (fun R => (la, listOf ((R.map (·.1)).map Value.ref).toArray R.length) :: (R ++ news)) (fun i R => RowsAre R (List.replicate i (List.replicate n2 0)) ∧ (R.map (·.1)).Nodup ∧ (∀ a ∈ R.map (·.1), ∀ p ∈ news, p.1 ≠ a) ∧ ∀ a ∈ R.map (·.1), a ≠ la) [] (by rfl) G1 (by omega) (by omega) F1 N1 ⟨.nil, .nil, by simp, by simp⟩ (by simp) ?_ ?_
  · clear F1 N1 G1
    intro i t R u h tk own hi hI hoff F2 N2
    obtain ⟨hR, hnd, hfr, hla⟩ := hI
    have hlen : R.length = i := by simpa using hR.length
    have hfit : ((R.map (·.1)).map Value.ref).toArray.size ≤ sizeLine := by simp only [List.size_toArray, List.length_map]; rw [sizeLine_eq]; omega
    have hap : ∀ p ∈ R ++ news ++ own, p.1 ≠ la := by
      intro p hp
      rcases List.mem_append.mp hp with hp | hp
      · rcases List.mem_append.mp hp with hp | hp
        · exact hla _ (List.mem_map_of_mem hp)
        · exact Nat.ne_of_lt (lt1 p hp)
      · exact hoff p hp _ (List.mem_cons_self ..)
    simp only [List.cons_append] at N2
    try k_fold
    k_steps
    rename News _ _ _ _ => N3
    rename Fr _ _ _ _ => F3
    rename IntsAre _ _ => i3
    rename _ < _ ∧ _ < _ ∧ AllLt _ _ => l3
    obtain ⟨D, o, hD, ho⟩ := head_at N3
    subst hD
    have l4 := allLt_mem l3.2.2
    have hl3 : la < D := l3.2.1
    have e0 : (List.replicate (n2 : Int).toNat [(0 : Int)]).flatten = List.replicate n2 0 := by
      rw [Int.toNat_natCast]; simp
    rw [e0] at i3
    refine Leaves.fin (R ++ [(D, o)]) F3 N3 ⟨?_, ?_, ?_, ?_⟩ ?_ ?_ ?_ ?_
    · subst ho
      rw [List.replicate_succ']
      exact hR.snoc i3
    · rw [List.map_append, List.nodup_append]
      refine ⟨hnd, by simp, ?_⟩
      intro a ha b hb
      simp only [List.map_cons, List.map_nil, List.mem_singleton] at hb
      subst hb
      obtain ⟨p, hp, rfl⟩ := List.mem_map.mp ha
      exact Nat.ne_of_lt (l4 p (List.mem_append_left _ (List.mem_append_left _ hp)))
    · intro a ha p hp
      rw [List.map_append] at ha
      rcases List.mem_append.mp ha with ha | ha
      · exact hfr a ha p hp
      · simp only [List.map_cons, List.map_nil, List.mem_singleton] at ha
        subst ha
        exact Nat.ne_of_lt (l4 p (List.mem_append_left _ (List.mem_append_right _ hp)))
    · intro a ha
      rw [List.map_append] at ha
      rcases List.mem_append.mp ha with ha | ha
      · exact hla a ha
      · simp only [List.map_cons, List.map_nil, List.mem_singleton] at ha
        subst ha
        exact Nat.ne_of_gt hl3
    · subst ho
      intro p hp
      simp only [List.map_append, List.map_cons, List.map_nil, List.length_append, List.length_cons, List.length_nil, List.mem_cons, List.mem_append, List.push_toArray, Nat.zero_add, List.not_mem_nil, or_false] at hp ⊢
      rcases hp with h | (h | h) | h
      · exact Or.inr (Or.inr (Or.inl h))
      · exact Or.inr (Or.inr (Or.inr (Or.inl (Or.inl h))))
      · exact Or.inl h
      · exact Or.inr (Or.inr (Or.inr (Or.inl (Or.inr h))))
    · intro p hp
      simp only [List.mem_cons, List.mem_append]
      exact Or.inr (Or.inr (Or.inr (Or.inr hp)))
    · intro p hp q hq
      simp only [List.mem_cons, List.mem_append, List.not_mem_nil, or_false] at hq
      rcases hq with h | (h | h) | h
      · subst h; have := hoff p hp _ (List.mem_cons_self ..); exact this
      · exact hoff p hp _ (List.mem_cons_of_mem _ (List.mem_append_left _ h))
      · subst h; exact Nat.ne_of_lt (l4 p (List.mem_append_right _ hp))
      · exact hoff p hp _ (List.mem_cons_of_mem _ (List.mem_append_right _ h))
    · intro z h1 _
      simp only [if_neg h1]
      rfl
  · clear F1 N1 G1
    intro R u h tk hI F2 N2
    obtain ⟨hR, hnd, hfr, hla⟩ := hI
    have hlen : R.length = n1 := by simpa using hR.length
    have hM : Mat (R.map (·.1)) R (List.replicate n1 (List.replicate n2 0)) := ⟨rfl, hR⟩
    have hS : Shape (List.replicate n1 (List.replicate n2 (0 : Int))) n1 n2 := ⟨by simp, fun r hr => by simp [List.getD, hr]⟩
    clear hR
    generalize hA : R.map (·.1) = A at *
    generalize R.length = nl at *
    clear hA
    try k_fold
    k_steps
    rename Fr _ _ _ _ => F1
    rename News _ _ _ _ => N1
    rename IsRange _ _ _ _ _ _ _ _ => G1
    unfold Stop
    with_unfolding_all refine loopR0 (S := List (Addr × Obj) × List (List Int)) (n := n1) [] (fun σ => (la, listOf (A.map Value.ref).toArray nl) :: (σ.1 ++ news)) (fun i σ => Mat A σ.1 σ.2 ∧ Shape σ.2 n1 n2 ∧ ∀ r, r < i → cell σ.2 r 0 = r) (R, _) (by rfl) G1 (by omega) (by omega) F1 N1 ⟨hM, hS, by omega⟩ (fun _ h => h) ?_ ?_
    · clear F1 N1 G1 hM hS
      intro i t σ u h tk own hi hI hoff F2 N2
      obtain ⟨R, g⟩ := σ
      obtain ⟨hM, hS, hc⟩ := hI
      dsimp only at hM hS hc
      obtain ⟨r, vs, n, hRi, his, hAi⟩ := hM.row hS hi
      have hrow := hS.2 i hi
      have hA : (A.map Value.ref)[(i : Int).toNat]? = some (.ref r) := by rw [Int.toNat_natCast, List.getElem?_map, hAi]; rfl
      have hra : r ≠ la := hla r (List.mem_of_getElem? hAi)
      have hbase := hfr r (List.mem_of_getElem? hAi)
      have N3 := focus N2 (r := r) (o := listOf vs.toArray n) (List.mem_append_left _ (List.mem_cons_of_mem _ (List.mem_append_left _ (List.mem_of_getElem? hRi))))
      have hne := off_ne (r := r) (l := ((la, listOf (A.map Value.ref).toArray nl) :: (R ++ news)) ++ own)
      have hl : (la, listOf (A.map Value.ref).toArray nl) ∈ off r (((la, listOf (A.map Value.ref).toArray nl) :: (R ++ news)) ++ own) := mem_off (List.mem_append_left _ (List.mem_cons_self ..)) (Ne.symm hra)
      generalize hoffd : off r (((la, listOf (A.map Value.ref).toArray nl) :: (R ++ news)) ++ own) = rest at *
      clear N2
      simp only [Int.zero_add] at F2
      try k_fold
      k_steps
      rename News _ _ _ _ => N4
      rename Fr _ _ _ _ => F4
      rename IntsAre _ _ => i4
      subst hoffd
      have hndR : (R.map (·.1)).Nodup := hM.adr ▸ hnd
      have e0 : (0 : Int).toNat = 0 := rfl
      rw [e0] at i4
      refine Leaves.fin (R.set i (r, _), g.set i _) F4 N4 ⟨hM.put hRi i4, hS.put hi (by rw [List.length_set]; exact hrow), ?_⟩ (put_sub hndR hRi (Ne.symm hra) hbase) (put_own hoff hRi) (put_off hndR hoff hRi) (fun z h1 _ => by simp only [if_neg h1]; rfl)
      intro r' hr'
      dsimp only
      rw [cell_put hS hi hn2.1]
      split
      · rename_i h; rw [h.1]
      · exact hc r' (by omega)
    · clear F1 N1 G1 hM hS
      intro σ u h tk hI F2 N2
      obtain ⟨R, g⟩ := σ
      obtain ⟨hM, hS, hc⟩ := hI
      dsimp only at hM hS hc N2
      try k_fold
      k_steps
      rename Fr _ _ _ _ => F1
      rename News _ _ _ _ => N1
      rename IsRange _ _ _ _ _ _ _ _ => G1
      unfold Stop
      with_unfolding_all refine loopR0 (S := List (Addr × Obj) × List (List Int)) (n := n2) [] (fun σ => (la, listOf (A.map Value.ref).toArray nl) :: (σ.1 ++ news)) (fun i σ => Mat A σ.1 σ.2 ∧ Shape σ.2 n1 n2 ∧ (∀ r, r < n1 → cell σ.2 r 0 = r) ∧ ∀ c, c < i → cell σ.2 0 c = c) (R, _) (by rfl) G1 (by omega) (by omega) F1 N1 ⟨hM, hS, hc, by omega⟩ (fun _ h => h) ?_ ?_
      · clear F1 N1 G1 hM hS hc
        intro j t σ u h tk own hj hI hoff F2 N2
        obtain ⟨R, g⟩ := σ
        obtain ⟨hM, hS, hc, hd⟩ := hI
        dsimp only at hM hS hc hd
        obtain ⟨r, vs, n, hRi, his, hAi⟩ := hM.row hS hn1.1
        have hrow := hS.2 0 hn1.1
        have hA : (A.map Value.ref)[(0 : Int).toNat]? = some (.ref r) := by
          have : (0 : Int).toNat = 0 := rfl
          rw [this, List.getElem?_map, hAi]; rfl
        have hra : r ≠ la := hla r (List.mem_of_getElem? hAi)
        have hbase := hfr r (List.mem_of_getElem? hAi)
        have N3 := focus N2 (r := r) (o := listOf vs.toArray n) (List.mem_append_left _ (List.mem_cons_of_mem _ (List.mem_append_left _ (List.mem_of_getElem? hRi))))
        have hne := off_ne (r := r) (l := ((la, listOf (A.map Value.ref).toArray nl) :: (R ++ news)) ++ own)
        have hl : (la, listOf (A.map Value.ref).toArray nl) ∈ off r (((la, listOf (A.map Value.ref).toArray nl) :: (R ++ news)) ++ own) := mem_off (List.mem_append_left _ (List.mem_cons_self ..)) (Ne.symm hra)
        generalize hoffd : off r (((la, listOf (A.map Value.ref).toArray nl) :: (R ++ news)) ++ own) = rest at *
        clear N2
        simp only [Int.zero_add] at F2
        try k_fold
        k_steps
        rename News _ _ _ _ => N4
        rename Fr _ _ _ _ => F4
        rename IntsAre _ _ => i4
        subst hoffd
        have hndR : (R.map (·.1)).Nodup := hM.adr ▸ hnd
        rw [Int.toNat_natCast] at i4
        refine Leaves.fin (R.set 0 (r, _), g.set 0 _) F4 N4 ⟨hM.put hRi i4, hS.put hn1.1 (by rw [List.length_set]; exact hrow), ?_, ?_⟩ (put_sub hndR hRi (Ne.symm hra) hbase) (put_own hoff hRi) (put_off hndR hoff hRi) (fun z h1 _ => by simp only [if_neg h1]; rfl)
        · intro r' hr'
          dsimp only
          rw [cell_put hS hn1.1 hj]
          split
          · rename_i h; omega
          · exact hc r' hr'
        · intro c' hc'
          dsimp only
          rw [cell_put hS hn1.1 hj]
          split
          · rename_i h; omega
          · exact hd c' (by omega)
      · clear F1 N1 G1 hM hS hc
        intro σ u h tk hI F2 N2
        obtain ⟨R, g⟩ := σ
        obtain ⟨hM, hS, hc, hd⟩ := hI
        dsimp only at hM hS hc hd N2
        try k_fold
        k_steps
        refine hret la nl A R g _ _ hM hS hd hc hnd (fun a ha => ⟨hla a ha, hfr a ha⟩) (fun p hp => Nat.ne_of_lt (lt1 p hp)) (by assumption) (by assumption)
end Mine
namespace Mine
local macro_rules | `(tactic| k_mem) => `(tactic| first | assumption | exact List.mem_cons_self | (refine List.mem_cons_of_mem _ ?_; k_mem))
local macro_rules | `(tactic| k_all) => `(tactic| assumption)
local macro_rules | `(tactic| is_list) => `(tactic| exact News.isList (by assumption) (by k_mem))
local macro_rules | `(tactic| walk_at "subscriptTail") => `(tactic| (k_here; (with_reducible show wpAny _ _ (subscriptTail _ _ (Value.ref _) (Value.int _ _)) _ _ _); k_dflt (refine' sub_ref ?k1 ?k2 ?k3 ?k4 ?k5 ?_ ?k7; (case k1 => k_asm); (case k2 => k_mem); (case k5 => assumption); (case k3 => omega); (case k4 => omega); (case k7 => with_unfolding_all rfl); k_whole)))
local macro_rules | `(tactic| walk_at "pyIter ref") => `(tactic| ((with_reducible show wpAny _ _ (pyIter (Value.ref _)) (fun it s₂ => LoopAtV _ _ _ _ _ _ _ _ _ it s₂) _ _); refine Stop.out ?_))
local macro_rules | `(tactic| size_fits) => `(tactic| assumption)

local macro_rules | `(tactic| ktr_enter) => `(tactic| (refine' code_frz ?k1 ?k2 ?k3 ?k5 ?kA ?kF ?kK ?k6 ?k7 ?k8 ?k9 ?kB ?_ ?c2 ?c3 ?c4 ?c5; (case kA => exact rfl); (case kF => exact rfl); (case kK => assumption); (case k1 => k_asm); (case k2 => k_asm); (case k3 => k_asm); (case k5 => k_asm); (case k6 => k_is); (case k7 => k_is); (case k8 => ktr_room); (case k9 => first | exact BindsTo.of_eq rfl | exact binds_K (by k_in) rfl (by k_is) rfl rfl rfl); (case c5 => decide); (case kB => exact locs rfl); (case c2 => exact rfl); (case c3 => exact rfl); (case c4 => exact rfl); k_whole; intro L' h' F' N' B' X' T'; (try dsimp only); (try k_fold)))
theorem lastinit_c (w : World) (p : Program) (loose : List Str) (mean : ExcName → Option Value) (mg mb : Str → Option Value) (l : Addr) (vs : List Value) (ns : List Int) (hi : IntsAre vs ns) (hn : ns.length < 2000) :
   FzC PySem.Challenge.pw_fe5011_02 w (hd2.heap_39 w.params) p loose mean mg mb 33 [.ref l] [] 1
     (fun h => h.IsList l vs.toArray) (fun h h' v => ∃ d o, v = .ref d ∧ h.get? d = none ∧ h'.get? d = some o ∧ IntDict PySem.Challenge.pw_fe5011_02 w o ns 2000) := by
  intro dp un gd cn cs a ccd cl outer A₀ base h₀ L m s Q E B F X T hk hd hu hls hret
  have hsz : ns.length ≤ sizeLine := by rw [sizeLine_eq]; omega
  refine wpAny_call ?_
  k_dflt ktr_enter
  k_steps
  rename Fr _ _ _ _ => F2
  rename Heap.DictOf _ _ _ _ => D2
  rename PyProof.V.FlatPairs _ _ _ => P2
  rename Heap.get? _ _ = none => E2
  obtain ⟨o, ho, hdo⟩ := Heap.dictOf_iff.mp D2
  have e1 : (List.filter (fun _ : Int => true) ns) = ns := by simp
  rw [e1] at P2
  have P3 : PyProof.V.FlatPairs PyData.int _ (kdfD (ns.foldl (fun c k => kdfPut c k 0) [])) := (putAll_zero ns []) ▸ (show PyProof.V.FlatPairs PyData.int _ (ns.foldl (fun acc a => PyProof.V.putD (PyData.int a) (PyData.int 0) acc) (kdfD [])) from P2)
  exact ⟨F2.keep, hret _ _ _ F2.keep ⟨_, o, rfl, E2, ho, IntDict.of_flat hdo P3 (by have := len_zero ns []; simp at this; omega) (fun x hx => has_zero ns [] x (Or.inr hx))⟩⟩
end Mine
namespace Mine
local macro_rules | `(tactic| k_mem) => `(tactic| first | assumption | exact List.mem_cons_self | (refine List.mem_cons_of_mem _ ?_; k_mem))
local macro_rules | `(tactic| k_all) => `(tactic| assumption)
local macro_rules | `(tactic| is_list) => `(tactic| exact News.isList (by assumption) (by k_mem))
local macro_rules | `(tactic| walk_at "subscriptTail") => `(tactic| (k_here; (with_reducible show wpAny _ _ (subscriptTail _ _ (Value.ref _) (Value.int _ _)) _ _ _); k_dflt (refine' sub_ref ?k1 ?k2 ?k3 ?k4 ?k5 ?_ ?k7; (case k1 => k_asm); (case k2 => k_mem); (case k5 => assumption); (case k3 => omega); (case k4 => omega); (case k7 => with_unfolding_all rfl); k_whole)))
local macro_rules | `(tactic| walk_at "pyIter ref") => `(tactic| ((with_reducible show wpAny _ _ (pyIter (Value.ref _)) (fun it s₂ => LoopAtV _ _ _ _ _ _ _ _ _ it s₂) _ _); refine Stop.out ?_))
local macro_rules | `(tactic| size_fits) => `(tactic| assumption)
local macro_rules | `(tactic| cell_enter) => `(tactic| (refine' code_def ?k1 ?k2 ?k3 ?k4 ?k5 ?kA ?kF ?kK ?k6 ?k7 ?k8 ?k9 ?kB ?_ ?c2 ?c3 ?c4 ?c5; (case kA => exact rfl); (case kF => exact rfl); (case kK => assumption); (case k1 => k_asm); (case k2 => k_asm); (case k3 => k_asm); (case k4 => k_asm); (case k5 => k_asm); (case k6 => k_is); (case k7 => k_is); (case k8 => ktr_room); (case k9 => first | exact BindsTo.of_eq rfl | exact binds_K (by k_in) rfl (by k_is) rfl rfl rfl); (case c5 => decide); (case kB => exact locs rfl); (case c2 => exact rfl); (case c3 => exact rfl); (case c4 => exact rfl); k_whole; intro g' L' h' FG' F' N' B' X' T'; (try dsimp only); (try k_lift B'); (try k_fold)))
local macro_rules | `(tactic| ktr_enter) => `(tactic| (refine' code_frz ?k1 ?k2 ?k3 ?k5 ?kA ?kF ?kK ?k6 ?k7 ?k8 ?k9 ?kB ?_ ?c2 ?c3 ?c4 ?c5; (case kA => exact rfl); (case kF => exact rfl); (case kK => assumption); (case k1 => k_asm); (case k2 => k_asm); (case k3 => k_asm); (case k5 => k_asm); (case k6 => k_is); (case k7 => k_is); (case k8 => ktr_room); (case k9 => first | exact BindsTo.of_eq rfl | exact binds_K (by k_in) rfl (by k_is) rfl rfl rfl); (case c5 => decide); (case kB => exact locs rfl); (case c2 => exact rfl); (case c3 => exact rfl); (case c4 => exact rfl); k_whole; intro L' h' F' N' B' X' T'; (try dsimp only); (try k_fold)))

theorem check_c (w : World) (p : Program) (loose : List Str) (mean : ExcName → Option Value) (mg mb : Str → Option Value) (l1 l2 : Addr) (vs1 vs2 : List Value) (xs ys : List Int) (i1 : IntsAre vs1 xs) (i2 : IntsAre vs2 ys) (h1 : xs.length < 1000) (h2 : ys.length < 1000) (x : Str) (t : Tok) :
   FzC PySem.Challenge.pw_fe5011_02 w (hd2.heap_39 w.params) p loose mean mg mb 21 [.ref l1, .ref l2, .str x t] [] 1
     (fun h => h.IsList l1 vs1.toArray ∧ h.IsList l2 vs2.toArray) (fun h h' v => v = .none) := by
  intro dp un gd cn cs a ccd cl outer A₀ base h₀ L m s Q E B F X T hk hd hu hls hret
  obtain ⟨hl1, hl2⟩ := hls
  refine wpAny_call ?_
  k_dflt ktr_enter
  k_steps
  exact ⟨Fr.keep (by assumption), hret _ _ _ (Fr.keep (by assumption)) rfl⟩
end Mine
namespace Mine
local macro_rules | `(tactic| k_mem) => `(tactic| first | assumption | exact List.mem_cons_self | (refine List.mem_cons_of_mem _ ?_; k_mem))
local macro_rules | `(tactic| k_all) => `(tactic| assumption)
local macro_rules | `(tactic| is_list) => `(tactic| exact News.isList (by assumption) (by k_mem))
local macro_rules | `(tactic| walk_at "subscriptTail") => `(tactic| (k_here; (with_reducible show wpAny _ _ (subscriptTail _ _ (Value.ref _) (Value.int _ _)) _ _ _); k_dflt (refine' sub_ref ?k1 ?k2 ?k3 ?k4 ?k5 ?_ ?k7; (case k1 => k_asm); (case k2 => k_mem); (case k5 => assumption); (case k3 => omega); (case k4 => omega); (case k7 => with_unfolding_all rfl); k_whole)))
local macro_rules | `(tactic| walk_at "pyIter ref") => `(tactic| ((with_reducible show wpAny _ _ (pyIter (Value.ref _)) (fun it s₂ => LoopAtV _ _ _ _ _ _ _ _ _ it s₂) _ _); refine Stop.out ?_))
local macro_rules | `(tactic| size_fits) => `(tactic| assumption)
local macro_rules | `(tactic| cell_enter) => `(tactic| (refine' code_def ?k1 ?k2 ?k3 ?k4 ?k5 ?kA ?kF ?kK ?k6 ?k7 ?k8 ?k9 ?kB ?_ ?c2 ?c3 ?c4 ?c5; (case kA => exact rfl); (case kF => exact rfl); (case kK => assumption); (case k1 => k_asm); (case k2 => k_asm); (case k3 => k_asm); (case k4 => k_asm); (case k5 => k_asm); (case k6 => k_is); (case k7 => k_is); (case k8 => ktr_room); (case k9 => first | exact BindsTo.of_eq rfl | exact binds_K (by k_in) rfl (by k_is) rfl rfl rfl); (case c5 => decide); (case kB => exact locs rfl); (case c2 => exact rfl); (case c3 => exact rfl); (case c4 => exact rfl); k_whole; intro g' L' h' FG' F' N' B' X' T'; (try dsimp only); (try k_lift B'); (try k_fold)))
local macro_rules | `(tactic| ktr_enter) => `(tactic| (refine' code_frz ?k1 ?k2 ?k3 ?k5 ?kA ?kF ?kK ?k6 ?k7 ?k8 ?k9 ?kB ?_ ?c2 ?c3 ?c4 ?c5; (case kA => exact rfl); (case kF => exact rfl); (case kK => assumption); (case k1 => k_asm); (case k2 => k_asm); (case k3 => k_asm); (case k5 => k_asm); (case k6 => k_is); (case k7 => k_is); (case k8 => ktr_room); (case k9 => first | exact BindsTo.of_eq rfl | exact binds_K (by k_in) rfl (by k_is) rfl rfl rfl); (case c5 => decide); (case kB => exact locs rfl); (case c2 => exact rfl); (case c3 => exact rfl); (case c4 => exact rfl); k_whole; intro L' h' F' N' B' X' T'; (try dsimp only); (try k_fold)))

local macro_rules | `(tactic| walk_at "call ref") => `(tactic| refine Stop.out ?_)
local macro_rules | `(tactic| walk_at "setItem ref int") => `(tactic| refine Stop.out ?_)
local macro_rules | `(tactic| walk_at "subscriptTail") => `(tactic| (k_here; (with_reducible show wpAny _ _ (subscriptTail _ _ (Value.ref _) (Value.int _ _)) _ _ _); k_dflt (refine' idict_item ?k1 ?k2 ?k3 ?k4 ?_ ?k5 ?k6; (case k1 => k_asm); (case k2 => k_mem); (case k3 => assumption); (case k4 => first | exact mem_getR (by omega) (by omega) | exact mem_getL (by omega) (by omega)); (case k5 => with_unfolding_all rfl); (case k6 => (intro _; with_unfolding_all rfl)); k_whole); intro z' t'))
/-- the table of edits, the mathematics -/
def DD (cost : Int) (xs ys : List Int) : Nat → Nat → Int
  | 0, c => c
  | r + 1, 0 => r + 1
  | r + 1, c + 1 => min (min (DD cost xs ys r (c + 1) + 1) (DD cost xs ys (r + 1) c + 1)) (DD cost xs ys r c + if xs.getD r 0 = ys.getD c 0 then 0 else cost)

theorem edit_c (w : World) (p : Program) (loose : List Str) (mean : ExcName → Option Value) (mg mb : Str → Option Value) (l1 l2 : Addr) (vs1 vs2 : List Value) (xs ys : List Int) (i1 : IntsAre vs1 xs) (i2 : IntsAre vs2 ys) (h1 : xs.length < 900) (h2 : ys.length < 900) (cost : Int) (tc : Tok) :
   FzC PySem.Challenge.pw_fe5011_02 w (hd2.heap_39 w.params) p loose mean mg mb 49 [.ref l1, .ref l2, .int cost tc] [] 2
     (fun h => h.IsList l1 vs1.toArray ∧ h.IsList l2 vs2.toArray) (fun _ _ v => ∃ t, v = .int (DD cost xs ys xs.length ys.length) t) := by
  intro dp un gd cn cs a ccd cl outer A₀ base h₀ L m s Q E B F X T hk hd hu hls hret
  obtain ⟨hl1, hl2⟩ := hls
  refine wpAny_call ?_
  k_dflt ktr_enter
  k_steps
  unfold Stop
  k_dflt (refine' FzC.use (check_c _ _ _ _ _ _ _ _ _ _ _ _ ?i1 ?i2 ?b1 ?b2 _ _) ?k1 ?k2 ?k3 ?k4 ?k5 ?kK ?kd ?ku ?kp ?_; (case k1 => k_asm); (case k2 => k_asm); (case k3 => k_asm); (case k4 => k_asm); (case k5 => k_asm); (case kK => exact rfl); (case i1 => exact i1); (case i2 => exact i2); (case b1 => omega); (case b2 => omega); (case kd => ktr_room); (case ku => ktr_units); (case kp => exact ⟨Fr.lst (by assumption) hl1, Fr.lst (by assumption) hl2⟩))
  intro v h' tk' F2 N2 _ P
  obtain rfl := P
  k_sweep
  try k_fold
  k_steps
  unfold Stop
  k_dflt (refine' FnC.use (init_c _ _ _ _ _ _ _ (xs.length + 1) (ys.length + 1) _ _ ?z1 ?z2 ?b1 ?b2 _ _) ?k1 ?k2 ?k3 ?k4 ?k5 ?kK ?kd ?ku ?_; (case k1 => k_asm); (case k2 => k_asm); (case k3 => k_asm); (case k4 => k_asm); (case k5 => k_asm); (case kK => exact rfl); (case z1 => omega); (case z2 => omega); (case b1 => omega); (case b2 => omega); (case kd => ktr_room); (case ku => ktr_units))
  intro la nl A R g h' tk' hM hS hc0 hr0 hnd hA hn F2 N2
  clear hn
  k_sweep
  try k_fold
  k_steps
  unfold Stop
  rename News _ _ _ _ => N3
  rename Fr _ _ _ _ => F3
  rename IntsAre _ (xs ++ ys) => i3
  rename _ < _ ∧ AllLt _ _ => l3
  obtain ⟨D, oD, hD, hoD⟩ := head_at N3
  subst hD
  k_dflt (refine' FzC.use (lastinit_c _ _ _ _ _ _ _ _ _ i3 ?b1) ?k1 ?k2 ?k3 ?k4 ?k5 ?kK ?kd ?ku ?kp ?_; (case k1 => k_asm); (case k2 => exact F3); (case k3 => k_asm); (case k4 => exact N3); (case k5 => k_asm); (case kK => exact rfl); (case b1 => simp only [List.length_append]; omega); (case kd => ktr_room); (case ku => ktr_units); (case kp => exact News.isList N3 (List.mem_cons_self ..)))
  intro v h' tk' F4 N4 keep P
  obtain ⟨d, od, hv, hnew, hlive, hdict⟩ := P
  subst hv
  obtain ⟨N5, hne5⟩ := fresh_news F3 N3 keep hnew hlive
  clear N4 keep hnew hlive
  k_sweep
  try k_fold
  k_steps
  rename Fr _ _ _ _ => F1
  rename News _ _ _ _ => N1
  rename IsRange _ _ _ _ _ _ _ _ => G1
  unfold Stop
  have hAd : ∀ a ∈ A, a ≠ d := by
    intro a ha
    rw [← hM.adr] at ha
    obtain ⟨q, hq, rfl⟩ := List.mem_map.mp ha
    exact hne5 q (List.mem_cons_of_mem _ (List.mem_cons_of_mem _ (List.mem_append_left _ hq)))
  have hld : la ≠ d := by have := hne5 _ (List.mem_cons_of_mem _ (List.mem_cons_self ..)); exact this
  with_unfolding_all refine loopR0 (S := List (Addr × Obj) × List (List Int) × Obj) (n := xs.length) [Str.ofString "last_right_buf", Str.ofString "j", Str.ofString "last_left", Str.ofString "last_right"] (fun σ => (la, listOf (A.map Value.ref).toArray nl) :: (σ.1 ++ [(d, σ.2.2)])) (fun i σ => Mat A σ.1 σ.2.1 ∧ Shape σ.2.1 (xs.length + 1) (ys.length + 1) ∧ (∀ r c, r ≤ xs.length → c ≤ ys.length → (r ≤ i ∨ c = 0) → cell σ.2.1 r c = DD cost xs ys r c) ∧ IntDict PySem.Challenge.pw_fe5011_02 w σ.2.2 (xs ++ ys) (2000 + i)) (R, g, od) (by rfl) G1 (by omega) (by omega) F1 N1 ⟨hM, hS, ?_, hdict⟩ ?_ ?_ ?_
  · intro r c hr hc h
    rcases h with h | h
    · have e : r = 0 := by omega
      subst e
      dsimp only
      rw [hc0 c (by omega), DD]
    · subst h
      dsimp only
      rw [hr0 r (by omega)]
      cases r with
      | zero => simp [DD]
      | succ r => rw [DD]; omega
  · intro q hq
    rcases List.mem_cons.mp hq with rfl | hq
    · exact List.mem_cons_of_mem _ (List.mem_cons_of_mem _ (List.mem_cons_self ..))
    · rcases List.mem_append.mp hq with hq | hq
      · exact List.mem_cons_of_mem _ (List.mem_cons_of_mem _ (List.mem_cons_of_mem _ (List.mem_append_left _ hq)))
      · rw [List.mem_singleton.mp hq]; exact List.mem_cons_self ..
  · clear F1 N1 G1 hM hS hc0 hr0 hne5 hdict
    intro i t σ u h tk own hi hI hoff F2 N2
    obtain ⟨R, g, od⟩ := σ
    obtain ⟨hM, hS, hc, hdict⟩ := hI
    dsimp only at hM hS hc hdict N2 hoff
    obtain ⟨r1, v1, n1, hR1, iv1, hA1⟩ := hM.row hS (show i < xs.length + 1 by omega)
    obtain ⟨r2, v2, n2, hR2, iv2, hA2⟩ := hM.row hS (show i + 1 < xs.length + 1 by omega)
    have N3 := focus N2 (r := r2) (o := listOf v2.toArray n2) (List.mem_append_left _ (List.mem_cons_of_mem _ (List.mem_append_left _ (List.mem_of_getElem? hR2))))
    have hne := off_ne (r := r2) (l := ((la, listOf (A.map Value.ref).toArray nl) :: (R ++ [(d, od)])) ++ own)
    have hr2la : r2 ≠ la := (hA r2 (List.mem_of_getElem? hA2)).1
    have hr2d : r2 ≠ d := hAd r2 (List.mem_of_getElem? hA2)
    have hr12 : r1 ≠ r2 := by
      rintro rfl
      have hlA : i < A.length := (List.getElem?_eq_some_iff.mp hA1).1
      have := (List.getElem?_inj hlA hnd).mp (hA1.trans hA2.symm)
      omega
    have hl : (la, listOf (A.map Value.ref).toArray nl) ∈ off r2 (((la, listOf (A.map Value.ref).toArray nl) :: (R ++ [(d, od)])) ++ own) := mem_off (List.mem_append_left _ (List.mem_cons_self ..)) (Ne.symm hr2la)
    have hdm : (d, od) ∈ off r2 (((la, listOf (A.map Value.ref).toArray nl) :: (R ++ [(d, od)])) ++ own) := mem_off (List.mem_append_left _ (List.mem_cons_of_mem _ (List.mem_append_right _ (List.mem_cons_self ..)))) (Ne.symm hr2d)
    have hr1m : (r1, listOf v1.toArray n1) ∈ off r2 (((la, listOf (A.map Value.ref).toArray nl) :: (R ++ [(d, od)])) ++ own) := mem_off (List.mem_append_left _ (List.mem_cons_of_mem _ (List.mem_append_left _ (List.mem_of_getElem? hR1)))) hr12
    generalize hoffd : off r2 (((la, listOf (A.map Value.ref).toArray nl) :: (R ++ [(d, od)])) ++ own) = rest at *
    clear N2
    try k_fold
    k_steps
    rename Fr _ _ _ _ => F4
    rename News _ _ _ _ => N4
    rename IsRange _ _ _ _ _ _ _ _ => G4
    unfold Stop
    with_unfolding_all refine loopR1 (S := List Value × List Int × Int × Tok) (n := ys.length) [Str.ofString "last_left", Str.ofString "last_right"] (Str.ofString "last_right_buf") (fun σ => .int σ.2.2.1 σ.2.2.2) (fun σ => (r2, listOf σ.1.toArray n2) :: rest) (fun j σ => IntsAre σ.1 σ.2.1 ∧ σ.2.1.length = ys.length + 1 ∧ ∀ c, c ≤ j → σ.2.1.getD c 0 = DD cost xs ys (i + 1) c) (v2, g.getD (i + 1) [], 0, _) (by rfl) G4 (by omega) (by omega) F4 N4 ⟨iv2, hS.2 (i + 1) (by omega), ?_⟩ (fun _ h => h) (by rfl) ?_ ?_
    · intro c hc'
      have e : c = 0 := by omega
      subst e
      have := hc (i + 1) 0 (by omega) (by omega) (Or.inr rfl)
      unfold cell at this
      exact this
    · clear F2 N3 F4 N4 G4 iv2
      intro j tj σ u2 h2 tk2 own2 hj hI hoff2 F5 N5
      obtain ⟨v2, row, b, tb⟩ := σ
      obtain ⟨iv2, hrow, hd⟩ := hI
      dsimp only at iv2 hrow hd N5 hoff2 F5
      try k_fold
      k_steps
      all_goals (
        rename News _ _ _ _ => N6
        rename Fr _ _ _ _ => F6
        unfold Stop
        have s1 : ∀ p ∈ rest ++ own2, p.1 ≠ r2 := fun p hp => (List.mem_append.mp hp).elim (hne p) fun hp => by have := hoff2 p hp _ (List.mem_cons_self ..); exact this
        have s2 : (A.map Value.ref)[(1 + (i : Int) - 1).toNat]? = some (.ref r1) := by rw [show (1 + (i : Int) - 1).toNat = i by omega, List.getElem?_map, hA1]; rfl
        have s3 : (A.map Value.ref)[(1 + (i : Int)).toNat]? = some (.ref r2) := by rw [show (1 + (i : Int)).toNat = i + 1 by omega, List.getElem?_map, hA2]; rfl
        k_dflt (refine FnC.use (step_c w _ _ _ _ _ (rest ++ own2) la r1 r2 l1 l2 (A.map Value.ref) v1 v2 vs1 vs2 nl n1 n2 (g.getD i []) row xs ys (1 + (i : Int)) (1 + (j : Int)) cost _ _ _ _ _ _ _ (List.mem_append_left _ hl) (List.mem_append_left _ hr1m) s1 s2 s3 iv1 iv2 i1 i2 (by omega) (by omega) (by omega) (by omega) (hS.2 i (by omega)) hrow) (by k_asm) F6 (by k_asm) N6 (by k_asm) rfl (by ktr_room) (by ktr_units) ⟨hl1, hl2, ?_⟩)
        · clear s1 s2 s3
          intro z tz h7 tk7 hz F7 N7
          rw [show (1 + (j : Int)).toNat = j + 1 by omega] at hz N7
          rw [show (1 + (j : Int) - 1).toNat = j by omega, show (1 + (i : Int) - 1).toNat = i by omega] at hz
          have hz' : z = DD cost xs ys (i + 1) (j + 1) := by
            have a1 := hc i (j + 1) (by omega) (by omega) (Or.inl (Nat.le_refl _))
            have a2 := hc i j (by omega) (by omega) (Or.inl (Nat.le_refl _))
            have a3 := hd j (Nat.le_refl _)
            unfold cell at a1 a2
            rw [hz, a1, a2, a3, DD]
          clear hz
          k_sweep
          try k_fold
          k_steps
          have iv := ints_set (x := z) (u := tz) iv2 (j + 1)
          rename Fr _ _ _ _ => F8
          obtain ⟨b', tb', e1, e2⟩ := int_at F8 (Str.ofString "last_right_buf") rfl
          refine Leaves.fin (v2.set (j + 1) (.int z tz), row.set (j + 1) z, b', tb') F8 (by assumption) ⟨iv, by rw [List.length_set]; exact hrow, ?_⟩ ?_ ?_ ?_ (fun y hy hs => by
              have q1 := not_stored hs (List.mem_cons_self ..)
              have q2 := not_stored hs (List.mem_cons_of_mem _ (List.mem_cons_self ..))
              by_cases hb : y = Str.ofString "last_right_buf"
              · subst hb; cases e1; cases e2; rfl
              · simp only [if_neg hy, if_neg q1, if_neg q2, if_neg hb, hs, Bool.false_eq_true, if_false])
          · intro c hcj
            dsimp only
            by_cases e : j + 1 = c
            · subst e; rw [getD_set_self (by rw [hrow]; omega)]; exact hz'
            · rw [getD_set_ne e]; exact hd c (by omega)
          · intro p hp
            exact List.mem_append_left _ hp
          · intro p hp
            exact List.mem_cons_of_mem _ (List.mem_append_right _ hp)
          · intro p hp q hq
            rcases List.mem_cons.mp hq with rfl | hq
            · have := hoff2 p hp _ (List.mem_cons_self ..); exact this
            · exact hoff2 p hp q (List.mem_cons_of_mem _ hq))
    · clear F2 N3 F4 N4 G4 iv2
      intro σ u2 h3 tk3 hI F5 N5
      obtain ⟨v3, row, b, tb⟩ := σ
      obtain ⟨iv2, hrow, hd⟩ := hI
      dsimp only at iv2 hrow hd N5 F5
      try k_fold
      k_steps
      unfold Stop
      have N9 := focus N5 (r := d) (o := od) (List.mem_cons_of_mem _ hdm)
      rename Fr _ _ _ _ => F8
      refine idict_set F8 N9 off_ne hdict (by omega) ?_
      intro h9 o9 F10 N10 hd9
      clear N5 F8 N9
      k_steps
      subst hoffd
      have hndR : (R.map (·.1)).Nodup := hM.adr ▸ hnd
      have hM' := hM.put hR2 (n := n2) iv2
      have hps := put_sub (la := la) (V := listOf (A.map Value.ref).toArray nl) (o' := listOf v3.toArray n2) (own := own) hndR hR2 (Ne.symm hr2la) (base := [(d, od)]) (fun p hp => by rw [List.mem_singleton.mp hp]; exact Ne.symm hr2d)
      refine Leaves.fin (R.set (i + 1) (r2, listOf v3.toArray n2), g.set (i + 1) row, o9) F10 N10 ⟨hM', hS.put (by omega) hrow, ?_, hd9⟩ ?_ ?_ ?_ ?_
      · intro r c hr hc' h
        dsimp only
        unfold cell
        by_cases e : i + 1 = r
        · subst e
          rw [getD_set_self (by rw [hS.1]; omega)]
          exact hd c hc'
        · rw [getD_set_ne e]
          exact hc r c hr hc' (by omega)
      · intro p hp
        have key : ∀ p ∈ (la, listOf (A.map Value.ref).toArray nl) :: R.set (i + 1) (r2, listOf v3.toArray n2), p.1 ≠ d := by
          intro p hp
          rcases List.mem_cons.mp hp with rfl | hp
          · exact hld
          · exact hAd p.1 (by rw [← hM'.adr]; exact List.mem_map_of_mem hp)
        rcases List.mem_cons.mp hp with rfl | hp
        · exact List.mem_cons_of_mem _ (mem_off (hps _ (List.mem_cons_self ..)) (key _ (List.mem_cons_self ..)))
        · rcases List.mem_append.mp hp with hp | hp
          · exact List.mem_cons_of_mem _ (mem_off (hps _ (List.mem_cons_of_mem _ (List.mem_append_left _ hp))) (key _ (List.mem_cons_of_mem _ hp)))
          · rw [List.mem_singleton.mp hp]; exact List.mem_cons_self ..
      · intro p hp
        have hd' := hoff p hp (d, od) (List.mem_cons_of_mem _ (List.mem_append_right _ (List.mem_cons_self ..)))
        exact List.mem_cons_of_mem _ (mem_off (put_own hoff hR2 p hp) hd')
      · intro p hp q hq
        have h0 := put_off (o' := listOf v3.toArray n2) hndR hoff hR2 p hp
        rcases List.mem_cons.mp hq with rfl | hq
        · exact h0 _ (List.mem_cons_self ..)
        · rcases List.mem_append.mp hq with hq | hq
          · exact h0 q (List.mem_cons_of_mem _ (List.mem_append_left _ hq))
          · rw [List.mem_singleton.mp hq]
            have := h0 _ (List.mem_cons_of_mem _ (List.mem_append_right _ (List.mem_cons_self ..))); exact this
      · intro y hy hs
        have q1 := not_stored hs (List.mem_cons_self ..)
        have q2 := not_stored hs (List.mem_cons_of_mem _ (List.mem_cons_self ..))
        have q3 := not_stored hs (List.mem_cons_of_mem _ (List.mem_cons_of_mem _ (List.mem_cons_self ..)))
        have q4 := not_stored hs (List.mem_cons_of_mem _ (List.mem_cons_of_mem _ (List.mem_cons_of_mem _ (List.mem_cons_self ..))))
        simp only [if_neg hy, if_neg q1, if_neg q2, contains_two q3 q4, hs, Bool.false_eq_true, if_false]
  · clear F1 N1 G1 hM hS hc0 hr0 hne5 hdict
    intro σ u h tk hI F2 N2
    obtain ⟨R, g, od⟩ := σ
    obtain ⟨hM, hS, hc, hdict⟩ := hI
    dsimp only at hM hS hc hdict N2
    obtain ⟨r2, v2, n2, hR2, iv2, hA2⟩ := hM.row hS (show xs.length < xs.length + 1 by omega)
    have hm2 : (r2, listOf v2.toArray n2) ∈ (la, listOf (A.map Value.ref).toArray nl) :: (R ++ [(d, od)]) := List.mem_cons_of_mem _ (List.mem_append_left _ (List.mem_of_getElem? hR2))
    have hx2 : (A.map Value.ref)[(xs.length : Int).toNat]? = some (.ref r2) := by rw [Int.toNat_natCast, List.getElem?_map, hA2]; rfl
    have hrow := hS.2 xs.length (by omega)
    try k_fold
    k_steps
    have e := hc xs.length ys.length (Nat.le_refl _) (Nat.le_refl _) (Or.inl (Nat.le_refl _))
    unfold cell at e
    show Lz _ _ _ _
    exact ⟨F2.keep, hret _ _ _ F2.keep ⟨_, congrArg (fun z => Value.int z _) (by rw [Int.toNat_natCast]; exact e)⟩⟩
end Mine
namespace Mine
local macro_rules | `(tactic| k_mem) => `(tactic| first | assumption | exact List.mem_cons_self | (refine List.mem_cons_of_mem _ ?_; k_mem))
local macro_rules | `(tactic| k_all) => `(tactic| assumption)
local macro_rules | `(tactic| is_list) => `(tactic| exact News.isList (by assumption) (by k_mem))
local macro_rules | `(tactic| walk_at "subscriptTail") => `(tactic| (k_here; (with_reducible show wpAny _ _ (subscriptTail _ _ (Value.ref _) (Value.int _ _)) _ _ _); k_dflt (refine' sub_ref ?k1 ?k2 ?k3 ?k4 ?k5 ?_ ?k7; (case k1 => k_asm); (case k2 => k_mem); (case k5 => assumption); (case k3 => omega); (case k4 => omega); (case k7 => with_unfolding_all rfl); k_whole)))
local macro_rules | `(tactic| walk_at "pyIter ref") => `(tactic| ((with_reducible show wpAny _ _ (pyIter (Value.ref _)) (fun it s₂ => LoopAtV _ _ _ _ _ _ _ _ _ it s₂) _ _); refine Stop.out ?_))
local macro_rules | `(tactic| size_fits) => `(tactic| assumption)
local macro_rules | `(tactic| cell_enter) => `(tactic| (refine' code_def ?k1 ?k2 ?k3 ?k4 ?k5 ?kA ?kF ?kK ?k6 ?k7 ?k8 ?k9 ?kB ?_ ?c2 ?c3 ?c4 ?c5; (case kA => exact rfl); (case kF => exact rfl); (case kK => assumption); (case k1 => k_asm); (case k2 => k_asm); (case k3 => k_asm); (case k4 => k_asm); (case k5 => k_asm); (case k6 => k_is); (case k7 => k_is); (case k8 => ktr_room); (case k9 => first | exact BindsTo.of_eq rfl | exact binds_K (by k_in) rfl (by k_is) rfl rfl rfl); (case c5 => decide); (case kB => exact locs rfl); (case c2 => exact rfl); (case c3 => exact rfl); (case c4 => exact rfl); k_whole; intro g' L' h' FG' F' N' B' X' T'; (try dsimp only); (try k_lift B'); (try k_fold)))
local macro_rules | `(tactic| ktr_enter) => `(tactic| (refine' code_frz ?k1 ?k2 ?k3 ?k5 ?kA ?kF ?kK ?k6 ?k7 ?k8 ?k9 ?kB ?_ ?c2 ?c3 ?c4 ?c5; (case kA => exact rfl); (case kF => exact rfl); (case kK => assumption); (case k1 => k_asm); (case k2 => k_asm); (case k3 => k_asm); (case k5 => k_asm); (case k6 => k_is); (case k7 => k_is); (case k8 => ktr_room); (case k9 => first | exact BindsTo.of_eq rfl | exact binds_K (by k_in) rfl (by k_is) rfl rfl rfl); (case c5 => decide); (case kB => exact locs rfl); (case c2 => exact rfl); (case c3 => exact rfl); (case c4 => exact rfl); k_whole; intro L' h' F' N' B' X' T'; (try dsimp only); (try k_fold)))
local macro_rules | `(tactic| k_enter) => `(tactic| (refine' code_frzC ?k1 ?k2 ?k3 ?k5 ?kA ?kF ?kK ?k6 ?k7 ?k8 ?k9 ?kB ?kD ?_ ?c2 ?c3 ?c4; (case kA => exact rfl); (case kF => exact rfl); (case kK => assumption); (case k1 => k_asm); (case k2 => k_asm); (case k3 => k_asm); (case k5 => k_asm); (case k6 => k_is); (case k7 => k_is); (case k8 => ktr_room); (case k9 => first | exact BindsTo.of_eq rfl | exact binds_K (by k_in) rfl (by k_is) rfl rfl rfl); (case kB => exact rfl); (case kD => decide +kernel); (case c2 => exact rfl); (case c3 => exact rfl); (case c4 => exact rfl); k_whole; intro L' h' tk' cells' F' N' Y' B' X' T'; k_cells Y'; (try simp only [List.cons_append, List.nil_append] at N'); (try dsimp only); (try k_fold)))

theorem far_c (w : World) (p : Program) (loose : List Str) (mean : ExcName → Option Value) (mg mb : Str → Option Value) (l1 l2 : Addr) (vs1 vs2 : List Value) (xs ys : List Int) (i1 : IntsAre vs1 xs) (i2 : IntsAre vs2 ys) (h1 : xs.length < 900) (h2 : ys.length < 900) (k : Int) (t : Tok) (hk : -1000 ≤ k ∧ k ≤ 1000) :
   FzC PySem.Challenge.pw_fe5011_02 w (hd2.heap_39 w.params) p loose mean mg mb 71 [.ref l1, .ref l2, .int k t] [] 1
     (fun h => h.IsList l1 vs1.toArray ∧ h.IsList l2 vs2.toArray) (fun _ _ v => ∃ t, v = .int (xs.length + ys.length - 2 * k) t) := by
  intro dp un gd cn cs a ccd cl outer A₀ base h₀ L m s Q E B F X T hk hd hu hls hret
  obtain ⟨hl1, hl2⟩ := hls
  refine wpAny_call ?_
  k_dflt ktr_enter
  k_steps
  exact ⟨Fr.keep (by assumption), hret _ _ _ (Fr.keep (by assumption)) ⟨_, rfl⟩⟩

theorem many_c (w : World) (p : Program) (loose : List Str) (mean : ExcName → Option Value) (mg mb : Str → Option Value) (l1 : Addr) (vs1 : List Value) (xs : List Int) (i1 : IntsAre vs1 xs) (h1 : xs.length < 900) (k : Int) (t : Tok) :
   FzC PySem.Challenge.pw_fe5011_02 w (hd2.heap_39 w.params) p loose mean mg mb 64 [.ref l1, .int k t] [] 1
     (fun h => h.IsList l1 vs1.toArray) (fun _ _ v => ∃ t, v = .int ((xs.filter fun x => decide (k ≤ x)).length : Nat) t) := by
  intro dp un gd cn cs a ccd cl outer A₀ base h₀ L m s Q E B F X T hk hd hu hl1 hret
  refine wpAny_call ?_
  k_dflt k_enter
  k_steps
  all_goals (try k_data)
  rename CarriedAll _ _ => C1
  rename Heap.IsList _ _ (List.toArray _) => L1
  have hb : (List.map PyData.int (List.filter (fun x => decide (k ≤ x)) xs)).length ≤ 2 ^ 20 := by
    rw [List.length_map]
    have := List.length_filter_le (fun x => decide (k ≤ x)) xs
    omega
  refine len_list_made L1 C1 hb ?_
  refine ⟨Fr.keep (by assumption), hret _ _ _ (Fr.keep (by assumption)) ⟨_, congrArg (fun z => Value.int z _) ?_⟩⟩
  rw [List.length_map]
end Mine
namespace Mine
local macro_rules | `(tactic| k_mem) => `(tactic| first | assumption | exact List.mem_cons_self | (refine List.mem_cons_of_mem _ ?_; k_mem))
local macro_rules | `(tactic| k_all) => `(tactic| assumption)
local macro_rules | `(tactic| is_list) => `(tactic| exact News.isList (by assumption) (by k_mem))
local macro_rules | `(tactic| walk_at "subscriptTail") => `(tactic| (k_here; (with_reducible show wpAny _ _ (subscriptTail _ _ (Value.ref _) (Value.int _ _)) _ _ _); k_dflt (refine' sub_ref ?k1 ?k2 ?k3 ?k4 ?k5 ?_ ?k7; (case k1 => k_asm); (case k2 => k_mem); (case k5 => assumption); (case k3 => omega); (case k4 => omega); (case k7 => with_unfolding_all rfl); k_whole)))
local macro_rules | `(tactic| walk_at "pyIter ref") => `(tactic| ((with_reducible show wpAny _ _ (pyIter (Value.ref _)) (fun it s₂ => LoopAtV _ _ _ _ _ _ _ _ _ it s₂) _ _); refine Stop.out ?_))
local macro_rules | `(tactic| size_fits) => `(tactic| assumption)
local macro_rules | `(tactic| cell_enter) => `(tactic| (refine' code_def ?k1 ?k2 ?k3 ?k4 ?k5 ?kA ?kF ?kK ?k6 ?k7 ?k8 ?k9 ?kB ?_ ?c2 ?c3 ?c4 ?c5; (case kA => exact rfl); (case kF => exact rfl); (case kK => assumption); (case k1 => k_asm); (case k2 => k_asm); (case k3 => k_asm); (case k4 => k_asm); (case k5 => k_asm); (case k6 => k_is); (case k7 => k_is); (case k8 => ktr_room); (case k9 => first | exact BindsTo.of_eq rfl | exact binds_K (by k_in) rfl (by k_is) rfl rfl rfl); (case c5 => decide); (case kB => exact locs rfl); (case c2 => exact rfl); (case c3 => exact rfl); (case c4 => exact rfl); k_whole; intro g' L' h' FG' F' N' B' X' T'; (try dsimp only); (try k_lift B'); (try k_fold)))
local macro_rules | `(tactic| ktr_enter) => `(tactic| (refine' code_frz ?k1 ?k2 ?k3 ?k5 ?kA ?kF ?kK ?k6 ?k7 ?k8 ?k9 ?kB ?_ ?c2 ?c3 ?c4 ?c5; (case kA => exact rfl); (case kF => exact rfl); (case kK => assumption); (case k1 => k_asm); (case k2 => k_asm); (case k3 => k_asm); (case k5 => k_asm); (case k6 => k_is); (case k7 => k_is); (case k8 => ktr_room); (case k9 => first | exact BindsTo.of_eq rfl | exact binds_K (by k_in) rfl (by k_is) rfl rfl rfl); (case c5 => decide); (case kB => exact locs rfl); (case c2 => exact rfl); (case c3 => exact rfl); (case c4 => exact rfl); k_whole; intro L' h' F' N' B' X' T'; (try dsimp only); (try k_fold)))
local macro_rules | `(tactic| k_enter) => `(tactic| (refine' code_frzC ?k1 ?k2 ?k3 ?k5 ?kA ?kF ?kK ?k6 ?k7 ?k8 ?k9 ?kB ?kD ?_ ?c2 ?c3 ?c4; (case kA => exact rfl); (case kF => exact rfl); (case kK => assumption); (case k1 => k_asm); (case k2 => k_asm); (case k3 => k_asm); (case k5 => k_asm); (case k6 => k_is); (case k7 => k_is); (case k8 => ktr_room); (case k9 => first | exact BindsTo.of_eq rfl | exact binds_K (by k_in) rfl (by k_is) rfl rfl rfl); (case kB => exact rfl); (case kD => decide +kernel); (case c2 => exact rfl); (case c3 => exact rfl); (case c4 => exact rfl); k_whole; intro L' h' tk' cells' F' N' Y' B' X' T'; k_cells Y'; (try simp only [List.cons_append, List.nil_append] at N'); (try dsimp only); (try k_fold)))

local macro_rules | `(tactic| walk_at "exec While") => `(tactic| refine Stop.out ?_)
local macro_rules | `(tactic| walk_at "exec While Compare") => `(tactic| refine Stop.out ?_)
local macro_rules | `(tactic| walk_at "exec While Compare cons nil") => `(tactic| refine Stop.out ?_)
local macro_rules | `(tactic| walk_at "last exec While") => `(tactic| refine Stop.out ?_)
local macro_rules | `(tactic| walk_at "KswEnd") => `(tactic| refine Stop.out ?_)
theorem numbers_c (w : World) (p : Program) (loose : List Str) (mean : ExcName → Option Value) (mg mb : Str → Option Value) (l1 : Addr) (vs1 : List Value) (xs : List Int) (i1 : IntsAre vs1 xs) (h1 : xs.length < 900) (t : Tok) :
   FzC PySem.Challenge.pw_fe5011_02 w (hd2.heap_39 w.params) p loose mean mg mb 54 [.ref l1, .int 15 t] [] 1
     (fun h => h.IsList l1 vs1.toArray) (fun h h' v => ∃ d vs n ns, v = .ref d ∧ h.get? d = none ∧ h'.get? d = some (listOf (List.toArray vs) n) ∧ IntsAre vs ns ∧ ns.length = 15) := by
  intro dp un gd cn cs a ccd cl outer A₀ base h₀ L m s Q E B F X T hk hd hu hl1 hret
  refine wpAny_call ?_
  k_dflt ktr_enter
  k_steps
  rename Fr _ _ _ _ => F1
  rename News _ _ _ _ => N1
  rename IntsAre _ (List.map _ _) => I1
  unfold Stop
  obtain ⟨D, o, hD, ho⟩ := head_at N1
  subst hD
  rename List Value => yv
  obtain ⟨la, tla, hla, htla⟩ := int_at F1 (Str.ofString "last") rfl
  with_unfolding_all refine ksw_while (σ := List Value × List Int × Nat × Int × Tok) (fun c => [(D, listOf c.1.toArray c.2.2.1)]) (fun c => [(Str.ofString "last", Value.int c.2.2.2.1 c.2.2.2.2)]) (fun c => IntsAre c.1 c.2.1) [] (fun c => c.2.1.length ≤ 15 ∧ 0 ≤ c.2.2.2.1 ∧ c.2.2.2.1 ≤ 2147483647) (fun c => 15 - c.2.1.length) (yv, _, yv.length, la, tla) F1 (sub_news N1 ?_) I1 ?_ ?_ ?_
  · intro p hp
    rw [List.mem_singleton.mp hp]
    exact List.mem_cons_self ..
  · intro p hp
    rw [List.mem_singleton.mp hp]
    cases hla; cases htla; rfl
  · refine ⟨?_, ?_, ?_⟩
    · simp only [List.map_id', List.length_take]; omega
    · dsimp only; omega
    · dsimp only; omega
  · clear F1 N1 I1
    intro c u h tk hI hP F2 N2
    obtain ⟨vs, ns, n, last, tl⟩ := c
    obtain ⟨hlen, h0, hhi⟩ := hP
    dsimp only at hI hlen h0 hhi F2 N2
    try k_fold
    k_steps
    · unfold Stop
      rename Fr _ _ _ _ => F3
      rename News _ _ _ _ => N3
      have hb1 := fmod_lo (last * 48271 + 11) (n := 2147483647) (by omega)
      have hb2 := fmod_hi (last * 48271 + 11) (n := 2147483647) (by omega)
      obtain ⟨la2, tl2, e1, e2⟩ := int_at F3 (Str.ofString "last") rfl
      obtain ⟨D3, o3, e3, e4⟩ := head_at N3
      obtain ⟨q, tq, e5, _⟩ := pushed e4
      refine ksw_end (vs ++ [Value.int q tq], ns ++ [q], n + 1, la2, tl2) F3 N3 ?_ (ints_snoc hI q tq) ?_ ?_ ?_ ?_
      · intro p hp
        rw [List.mem_singleton.mp hp]
        dsimp only
        rw [← e5, e4]
        exact List.mem_cons_self ..
      · intro p hp
        rw [List.mem_singleton.mp hp]
        cases e1; cases e2; rfl
      · intro z hz _
        have q1 : z ≠ Str.ofString "last" := hz _ (List.mem_cons_self ..)
        simp only [kstB, if_neg q1]
        rfl
      · refine ⟨?_, ?_, ?_⟩
        · simp only [List.length_append, List.length_cons, List.length_nil]; omega
        · dsimp only; rw [e1]; exact hb1
        · dsimp only; rw [e1]; omega
      · simp only [List.length_append, List.length_cons, List.length_nil]; omega
    · show Lz _ _ _ _
      refine ⟨F2.keep, hret _ _ _ F2.keep ⟨D, vs, n, ns, rfl, (N2 _ (List.mem_cons_self ..)).2.2, (N2 _ (List.mem_cons_self ..)).1, hI, by omega⟩⟩
end Mine
namespace Mine
local macro_rules | `(tactic| k_mem) => `(tactic| first | assumption | exact List.mem_cons_self | (refine List.mem_cons_of_mem _ ?_; k_mem))
local macro_rules | `(tactic| k_all) => `(tactic| assumption)
local macro_rules | `(tactic| is_list) => `(tactic| exact News.isList (by assumption) (by k_mem))
local macro_rules | `(tactic| walk_at "subscriptTail") => `(tactic| (k_here; (with_reducible show wpAny _ _ (subscriptTail _ _ (Value.ref _) (Value.int _ _)) _ _ _); k_dflt (refine' sub_ref ?k1 ?k2 ?k3 ?k4 ?k5 ?_ ?k7; (case k1 => k_asm); (case k2 => k_mem); (case k5 => assumption); (case k3 => omega); (case k4 => omega); (case k7 => with_unfolding_all rfl); k_whole)))
local macro_rules | `(tactic| walk_at "pyIter ref") => `(tactic| ((with_reducible show wpAny _ _ (pyIter (Value.ref _)) (fun it s₂ => LoopAtV _ _ _ _ _ _ _ _ _ it s₂) _ _); refine Stop.out ?_))
local macro_rules | `(tactic| size_fits) => `(tactic| assumption)
local macro_rules | `(tactic| cell_enter) => `(tactic| (refine' code_def ?k1 ?k2 ?k3 ?k4 ?k5 ?kA ?kF ?kK ?k6 ?k7 ?k8 ?k9 ?kB ?_ ?c2 ?c3 ?c4 ?c5; (case kA => exact rfl); (case kF => exact rfl); (case kK => assumption); (case k1 => k_asm); (case k2 => k_asm); (case k3 => k_asm); (case k4 => k_asm); (case k5 => k_asm); (case k6 => k_is); (case k7 => k_is); (case k8 => ktr_room); (case k9 => first | exact BindsTo.of_eq rfl | exact binds_K (by k_in) rfl (by k_is) rfl rfl rfl); (case c5 => decide); (case kB => exact locs rfl); (case c2 => exact rfl); (case c3 => exact rfl); (case c4 => exact rfl); k_whole; intro g' L' h' FG' F' N' B' X' T'; (try dsimp only); (try k_lift B'); (try k_fold)))
local macro_rules | `(tactic| ktr_enter) => `(tactic| (refine' code_frz ?k1 ?k2 ?k3 ?k5 ?kA ?kF ?kK ?k6 ?k7 ?k8 ?k9 ?kB ?_ ?c2 ?c3 ?c4 ?c5; (case kA => exact rfl); (case kF => exact rfl); (case kK => assumption); (case k1 => k_asm); (case k2 => k_asm); (case k3 => k_asm); (case k5 => k_asm); (case k6 => k_is); (case k7 => k_is); (case k8 => ktr_room); (case k9 => first | exact BindsTo.of_eq rfl | exact binds_K (by k_in) rfl (by k_is) rfl rfl rfl); (case c5 => decide); (case kB => exact locs rfl); (case c2 => exact rfl); (case c3 => exact rfl); (case c4 => exact rfl); k_whole; intro L' h' F' N' B' X' T'; (try dsimp only); (try k_fold)))
local macro_rules | `(tactic| k_enter) => `(tactic| (refine' code_frzC ?k1 ?k2 ?k3 ?k5 ?kA ?kF ?kK ?k6 ?k7 ?k8 ?k9 ?kB ?kD ?_ ?c2 ?c3 ?c4; (case kA => exact rfl); (case kF => exact rfl); (case kK => assumption); (case k1 => k_asm); (case k2 => k_asm); (case k3 => k_asm); (case k5 => k_asm); (case k6 => k_is); (case k7 => k_is); (case k8 => ktr_room); (case k9 => first | exact BindsTo.of_eq rfl | exact binds_K (by k_in) rfl (by k_is) rfl rfl rfl); (case kB => exact rfl); (case kD => decide +kernel); (case c2 => exact rfl); (case c3 => exact rfl); (case c4 => exact rfl); k_whole; intro L' h' tk' cells' F' N' Y' B' X' T'; k_cells Y'; (try simp only [List.cons_append, List.nil_append] at N'); (try dsimp only); (try k_fold)))

theorem braid_sub {q1 q2 q3 : Addr × Obj} {own own2 : List (Addr × Obj)} {p : Addr × Obj} (hp : p ∈ q1 :: q2 :: q3 :: own) : p ∈ q1 :: q2 :: q3 :: (own ++ own2) := by
  rcases List.mem_cons.mp hp with rfl | hp
  · exact List.mem_cons_self ..
  · rcases List.mem_cons.mp hp with rfl | hp
    · exact List.mem_cons_of_mem _ (List.mem_cons_self ..)
    · rcases List.mem_cons.mp hp with rfl | hp
      · exact List.mem_cons_of_mem _ (List.mem_cons_of_mem _ (List.mem_cons_self ..))
      · exact List.mem_cons_of_mem _ (List.mem_cons_of_mem _ (List.mem_cons_of_mem _ (List.mem_append_left _ hp)))
theorem braid_off {a1 a2 : Addr} {o1 o1' o2 o2' : Obj} {own own2 : List (Addr × Obj)} (h : TbOff own2 ((a1, o1) :: (a2, o2) :: own)) : TbOff own2 ((a1, o1') :: (a2, o2') :: own) := by
  intro p hp q hq
  rcases List.mem_cons.mp hq with rfl | hq
  · have := h p hp _ (List.mem_cons_self ..); exact this
  · rcases List.mem_cons.mp hq with rfl | hq
    · have := h p hp _ (List.mem_cons_of_mem _ (List.mem_cons_self ..)); exact this
    · exact h p hp q (List.mem_cons_of_mem _ (List.mem_cons_of_mem _ hq))
theorem braid_c (w : World) (p : Program) (loose : List Str) (mean : ExcName → Option Value) (mg mb : Str → Option Value) (l1 l2 : Addr) (vs1 vs2 : List Value) (as bs : List Int) (i1 : IntsAre vs1 as) (i2 : IntsAre vs2 bs) (h1 : as.length < 900) (h2 : bs.length < 900) :
   FzC PySem.Challenge.pw_fe5011_02 w (hd2.heap_39 w.params) p loose mean mg mb 59 [.ref l1, .ref l2] [] 1
     (fun h => h.IsList l1 vs1.toArray ∧ h.IsList l2 vs2.toArray)
     (fun h h' v => ∃ (tp ds db : Addr) (vA vB : List Value) (nA nB nT : Nat), v = .ref tp ∧ h.get? tp = none ∧ h.get? ds = none ∧ h.get? db = none ∧ h'.get? tp = some { cls := .type "tuple", data := .seq #[.ref ds, .ref db] nT } ∧ h'.get? ds = some (listOf vA.toArray nA) ∧ h'.get? db = some (listOf vB.toArray nB) ∧
        IntsAre vA (bfold (fun i j => decide (as.getD i 0 = bs.getD j 0)) as.length bs.length as.length (bstart as.length bs.length)).1 ∧ IntsAre vB (bfold (fun i j => decide (as.getD i 0 = bs.getD j 0)) as.length bs.length as.length (bstart as.length bs.length)).2) := by
  intro dp un gd cn cs a ccd cl outer A₀ base h₀ L m s Q E B F X T hk hd hu hls hret
  obtain ⟨hl1, hl2⟩ := hls
  refine wpAny_call ?_
  k_dflt k_enter
  k_steps
  rename Fr _ _ _ _ => F1
  rename News _ _ _ _ => N1
  rename IsRange _ _ _ _ _ _ _ _ => G1
  rename IntsAre _ (List.map (fun k' => _ + k') _) => iB
  rename IntsAre _ (List.map (fun k' => k') _) => iA
  rename _ ≠ _ ∧ _ ≠ _ ∧ _ ≠ _ => e3
  rename _ ≠ _ ∧ _ ≠ _ => e2
  unfold Stop
  obtain ⟨db, _, hdb, _⟩ := head_at N1
  subst hdb
  obtain ⟨ds, hds⟩ := ref_at F1 (Str.ofString "side") rfl
  subst hds
  obtain ⟨vA, hvA⟩ := ints_at iA
  obtain ⟨vB, hvB⟩ := ints_at iB
  obtain ⟨c, oc, hc, hoc⟩ := fourth_at N1
  have f1 : @Ne Nat ds db := e3.1
  have f2 : @Ne Nat c db := by rw [hc]; exact e3.2.2
  have f3 : @Ne Nat c ds := by rw [hc]; exact e2.2
  rw [Int.sub_zero, Int.toNat_natCast, rangeKs_zero] at iA iB
  obtain ⟨LL, hLL⟩ := frame_at F1
  subst hLL
  subst hvA hvB hc hoc
  simp only [List.map_map] at iA iB
  have hlA : vA.length = as.length := by rw [iA.length]; simp
  have hlB : vB.length = bs.length := by rw [iB.length]; simp
  with_unfolding_all refine loopR0 (S := List Value × List Value) (n := as.length) [Str.ofString "h", Str.ofString "j", Str.ofString "kept"] (fun σ => [(db, listOf σ.2.toArray vB.length), (ds, listOf σ.1.toArray vA.length), (LL + 1, oc)]) (fun i σ => IntsAre σ.1 (bfold (fun i j => decide (as.getD i 0 = bs.getD j 0)) as.length bs.length i (bstart as.length bs.length)).1 ∧ IntsAre σ.2 (bfold (fun i j => decide (as.getD i 0 = bs.getD j 0)) as.length bs.length i (bstart as.length bs.length)).2) (vA, vB) (by rfl) G1 (by omega) (by omega) F1 N1 ⟨iA, iB⟩ ?_ ?_ ?_
  · intro q hq
    rcases List.mem_cons.mp hq with rfl | hq
    · exact List.mem_cons_self ..
    · rcases List.mem_cons.mp hq with rfl | hq
      · exact List.mem_cons_of_mem _ (List.mem_cons_self ..)
      · rw [List.mem_singleton.mp hq]
        exact List.mem_cons_of_mem _ (List.mem_cons_of_mem _ (List.mem_cons_of_mem _ (List.mem_cons_self ..)))
  · clear F1 N1 G1 iA iB
    intro i t σ u h tk own hi hI hoff F2 N2
    obtain ⟨wA, wB⟩ := σ
    obtain ⟨iA, iB⟩ := hI
    dsimp only at iA iB N2 hoff
    have hl := bfold_len (fun i j => decide (as.getD i 0 = bs.getD j 0)) as.length bs.length (bstart as.length bs.length) i
    have hl0 := bstart_len as.length bs.length
    rw [hl0.1, hl0.2] at hl
    generalize hσ : bfold (fun i j => decide (as.getD i 0 = bs.getD j 0)) as.length bs.length i (bstart as.length bs.length) = σ0 at *
    obtain ⟨nA, nB⟩ := σ0
    dsimp only at iA iB hl
    simp only [List.cons_append, List.nil_append] at N2
    simp only [Int.zero_add] at F2
    try k_fold
    k_steps
    rename Fr _ _ _ _ => F3
    rename News _ _ _ _ => N3
    rename IsRange _ _ _ _ _ _ _ _ => G3
    unfold Stop
    with_unfolding_all refine loopR0 (S := List Value × List Value) (n := bs.length) [Str.ofString "kept"] (fun σ => (db, listOf σ.2.toArray vB.length) :: (ds, listOf σ.1.toArray vA.length) :: (LL + 1, oc) :: own) (fun j σ => IntsAre σ.1 (brow (fun j => decide (as.getD i 0 = bs.getD j 0)) (as.length - 1 - i) j (nA, nB)).1 ∧ IntsAre σ.2 (brow (fun j => decide (as.getD i 0 = bs.getD j 0)) (as.length - 1 - i) j (nA, nB)).2) (wA, wB) (by rfl) G3 (by omega) (by omega) F3 N3 ⟨iA, iB⟩ (fun _ h => h) ?_ ?_
    · clear F2 N2 F3 N3 G3 iA iB
      intro j tj σ u2 h2 tk2 own2 hj hI hoff2 F4 N4
      obtain ⟨wA, wB⟩ := σ
      obtain ⟨iA, iB⟩ := hI
      dsimp only at iA iB N4 hoff2
      have hm := brow_len (fun j => decide (as.getD i 0 = bs.getD j 0)) (as.length - 1 - i) (nA, nB) j
      have hsucc := brow_succ (fun j => decide (as.getD i 0 = bs.getD j 0)) (as.length - 1 - i) j (nA, nB)
      generalize brow (fun j => decide (as.getD i 0 = bs.getD j 0)) (as.length - 1 - i) j (nA, nB) = σ1 at *
      obtain ⟨mA, mB⟩ := σ1
      dsimp only at iA iB hm
      rw [hl.1, hl.2] at hm
      have o1 : ∀ p ∈ own ++ own2, p.1 ≠ db := fun p hp => (List.mem_append.mp hp).elim (fun hp => by have := hoff p hp _ (List.mem_cons_self ..); exact this) fun hp => by have := hoff2 p hp _ (List.mem_cons_self ..); exact this
      have o2 : ∀ p ∈ own ++ own2, p.1 ≠ ds := fun p hp => (List.mem_append.mp hp).elim (fun hp => by have := hoff p hp _ (List.mem_cons_of_mem _ (List.mem_cons_self ..)); exact this) fun hp => by have := hoff2 p hp _ (List.mem_cons_of_mem _ (List.mem_cons_self ..)); exact this
      simp only [List.cons_append] at N4
      simp only [Int.zero_add] at F4
      try k_fold
      k_steps
      · have hK : ((as.length : Int) - 1 - (i : Int)).toNat = as.length - 1 - i := by omega
        rename List.getD as _ 0 = List.getD bs _ 0 => q1
        rename IntsAre _ (List.set mA _ _) => jA
        rename IntsAre _ (List.set mB _ _) => jB
        rename Fr _ _ _ _ => F6
        rename News _ _ _ _ => N6
        simp only [hK, Int.toNat_natCast] at jA jB N6 q1
        have c : decide (as.getD i 0 = bs.getD j 0) = true ∨ mB.getD j 0 < mA.getD (as.length - 1 - i) 0 := Or.inl (decide_eq_true q1)
        obtain ⟨wA2, e4⟩ := ints_at jA
        obtain ⟨wB2, e5⟩ := ints_at jB
        rw [← e4] at jA N6
        rw [← e5] at jB N6
        refine Leaves.fin (wA2, wB2) F6 N6 ⟨by rw [hsucc, bstep_yes c]; exact jA, by rw [hsucc, bstep_yes c]; exact jB⟩ (fun p hp => braid_sub hp) (fun p hp => List.mem_cons_of_mem _ (List.mem_cons_of_mem _ (List.mem_cons_of_mem _ (List.mem_append_right _ hp)))) (braid_off hoff2) (fun z h1 hs => by
          have q9 := not_stored hs (List.mem_cons_self ..)
          simp only [if_neg h1, if_neg q9, hs, Bool.false_eq_true, if_false])
      · have hK : ((as.length : Int) - 1 - (i : Int)).toNat = as.length - 1 - i := by omega
        rename List.getD mB _ 0 < _ => q1
        rename IntsAre _ (List.set mA _ _) => jA
        rename IntsAre _ (List.set mB _ _) => jB
        rename Fr _ _ _ _ => F6
        rename News _ _ _ _ => N6
        simp only [hK, Int.toNat_natCast] at jA jB N6 q1
        have c : decide (as.getD i 0 = bs.getD j 0) = true ∨ mB.getD j 0 < mA.getD (as.length - 1 - i) 0 := Or.inr q1
        obtain ⟨wA2, e4⟩ := ints_at jA
        obtain ⟨wB2, e5⟩ := ints_at jB
        rw [← e4] at jA N6
        rw [← e5] at jB N6
        refine Leaves.fin (wA2, wB2) F6 N6 ⟨by rw [hsucc, bstep_yes c]; exact jA, by rw [hsucc, bstep_yes c]; exact jB⟩ (fun p hp => braid_sub hp) (fun p hp => List.mem_cons_of_mem _ (List.mem_cons_of_mem _ (List.mem_cons_of_mem _ (List.mem_append_right _ hp)))) (braid_off hoff2) (fun z h1 hs => by
          have q9 := not_stored hs (List.mem_cons_self ..)
          simp only [if_neg h1, if_neg q9, hs, Bool.false_eq_true, if_false])
      · have hK : ((as.length : Int) - 1 - (i : Int)).toNat = as.length - 1 - i := by omega
        rename List.getD as _ 0 ≠ List.getD bs _ 0 => q1
        rename ¬ List.getD mB _ 0 < _ => q2
        rename Fr _ _ _ _ => F6
        rename News _ _ _ _ => N6
        simp only [hK, Int.toNat_natCast] at N6 q1 q2
        have c : ¬ (decide (as.getD i 0 = bs.getD j 0) = true ∨ mB.getD j 0 < mA.getD (as.length - 1 - i) 0) := by
          rintro (h | h)
          · exact q1 (of_decide_eq_true h)
          · exact q2 h
        refine Leaves.fin (wA, wB) F6 N6 ⟨by rw [hsucc, bstep_no c]; exact iA, by rw [hsucc, bstep_no c]; exact iB⟩ (fun p hp => braid_sub hp) (fun p hp => List.mem_cons_of_mem _ (List.mem_cons_of_mem _ (List.mem_cons_of_mem _ (List.mem_append_right _ hp)))) (braid_off hoff2) (fun z h1 hs => by
          simp only [if_neg h1, hs, Bool.false_eq_true, if_false])
    · clear F2 N2 F3 N3 G3 iA iB
      intro σ u2 h2 tk2 hI F4 N4
      obtain ⟨wA, wB⟩ := σ
      obtain ⟨iA, iB⟩ := hI
      dsimp only at iA iB N4
      have hs := bfold_succ (fun i j => decide (as.getD i 0 = bs.getD j 0)) as.length bs.length i (bstart as.length bs.length)
      rw [hσ] at hs
      rw [← hs] at iA iB
      try k_fold
      k_steps
      refine Leaves.fin (wA, wB) F4 N4 ⟨iA, iB⟩ (fun p hp => ?_) (fun p hp => List.mem_cons_of_mem _ (List.mem_cons_of_mem _ (List.mem_cons_of_mem _ hp))) (braid_off hoff) (fun z h1 hs => ?_)
      · have : p ∈ (db, listOf wB.toArray vB.length) :: (ds, listOf wA.toArray vA.length) :: (LL + 1, oc) :: ([] ++ own) := braid_sub (own2 := own) hp
        exact this
      · have q1 := not_stored hs (List.mem_cons_self ..)
        have q2 := not_stored hs (List.mem_cons_of_mem _ (List.mem_cons_self ..))
        have q3 := not_stored hs (List.mem_cons_of_mem _ (List.mem_cons_of_mem _ (List.mem_cons_self ..)))
        simp only [if_neg h1, if_neg q1, if_neg q2, contains_one q3, hs, Bool.false_eq_true, if_false]
  · clear F1 N1 G1 iA iB
    intro σ u h tk hI F2 N2
    obtain ⟨wA, wB⟩ := σ
    obtain ⟨iA, iB⟩ := hI
    dsimp only at iA iB N2
    try k_fold
    k_steps
    rename Fr _ _ _ _ => F3
    rename News _ _ _ _ => N3
    obtain ⟨tp, ot, e1, e2⟩ := head_at N3
    subst e1
    have p1 := N3 _ (List.mem_cons_self ..)
    have p2 := N3 _ (List.mem_cons_of_mem _ (List.mem_cons_self ..))
    have p3 := N3 _ (List.mem_cons_of_mem _ (List.mem_cons_of_mem _ (List.mem_cons_self ..)))
    exact ⟨F3.keep, hret _ _ _ F3.keep ⟨tp, ds, db, wA, wB, _, _, _, rfl, p1.2.2, p3.2.2, p2.2.2, p1.1, p3.1, p2.1, iA, iB⟩⟩
end Mine
namespace Mine
/-- the longest common subsequence of the first r and the first c letters -/
def LL (hit : Nat → Nat → Bool) : Nat → Nat → Int
  | 0, _ => 0
  | _ + 1, 0 => 0
  | r + 1, c + 1 => if hit r c then LL hit r c + 1 else max (LL hit (r + 1) c) (LL hit r (c + 1))
theorem LL_zero (hit : Nat → Nat → Bool) (r : Nat) : LL hit r 0 = 0 := by cases r <;> simp [LL]
theorem LL_step (hit : Nat → Nat → Bool) : ∀ r c, (LL hit r c ≤ LL hit (r + 1) c ∧ LL hit (r + 1) c ≤ LL hit r c + 1) ∧ (LL hit r c ≤ LL hit r (c + 1) ∧ LL hit r (c + 1) ≤ LL hit r c + 1)
  | 0, 0 => by simp [LL]
  | 0, c + 1 => by
    have h := (LL_step hit 0 c).1
    simp only [LL] at h ⊢
    split <;> omega
  | r + 1, 0 => by
    have h := (LL_step hit r 0).2
    have h0 := LL_zero hit r
    have h2 := LL_zero hit (r + 1)
    have h3 := LL_zero hit (r + 1 + 1)
    have h4 : LL hit (r + 1) (0 + 1) = if hit r 0 then LL hit r 0 + 1 else max (LL hit (r + 1) 0) (LL hit r (0 + 1)) := by rw [h2, LL, h2]
    have h5 := (LL_step hit r 0).1
    split at h4 <;> omega
  | r + 1, c + 1 => by
    have h1 := LL_step hit r (c + 1)
    have h2 := LL_step hit (r + 1) c
    have h3 := LL_step hit r c
    have e1 : LL hit (r + 1 + 1) (c + 1) = if hit (r + 1) c then LL hit (r + 1) c + 1 else max (LL hit (r + 1 + 1) c) (LL hit (r + 1) (c + 1)) := by rw [LL]
    have e2 : LL hit (r + 1) (c + 1 + 1) = if hit r (c + 1) then LL hit r (c + 1) + 1 else max (LL hit (r + 1) (c + 1)) (LL hit r (c + 1 + 1)) := by rw [LL]
    rw [e1, e2]
    constructor
    · split <;> omega
    · split <;> omega
theorem LL_congr {f g : Nat → Nat → Bool} : ∀ r c, (∀ x y, x < r → y < c → f x y = g x y) → LL f r c = LL g r c
  | 0, _, _ => by simp [LL]
  | _ + 1, 0, _ => by simp [LL]
  | r + 1, c + 1, h => by
    have h1 := LL_congr r c (fun x y hx hy => h x y (by omega) (by omega))
    have h2 := LL_congr (r + 1) c (fun x y hx hy => h x y (by omega) (by omega))
    have h3 := LL_congr r (c + 1) (fun x y hx hy => h x y (by omega) (by omega))
    simp only [LL, h r c (by omega) (by omega), h1, h2, h3]
theorem DD_LL {cost : Int} (hc : 2 ≤ cost) (xs ys : List Int) : ∀ r c, DD cost xs ys r c = (r : Int) + c - 2 * LL (fun x y => decide (xs.getD x 0 = ys.getD y 0)) r c
  | 0, c => by simp [DD, LL]
  | r + 1, 0 => by simp [DD, LL]
  | r + 1, c + 1 => by
    have h1 := DD_LL hc xs ys r c
    have h2 := DD_LL hc xs ys (r + 1) c
    have h3 := DD_LL hc xs ys r (c + 1)
    have h4 := LL_step (fun x y => decide (xs.getD x 0 = ys.getD y 0)) r c
    rw [DD, h1, h2, h3]
    simp only [LL]
    by_cases e : xs.getD r 0 = ys.getD c 0
    · rw [if_pos e, if_pos (decide_eq_true e)]; push_cast; omega
    · rw [if_neg e, if_neg (by rw [decide_eq_true_iff]; exact e)]; push_cast; omega
/-- heights with a border: the words' parts from k and from i on -/
def HH (hit : Nat → Nat → Bool) (k i : Nat) : Nat → Nat → Int
  | 0, c => min ((c : Int) - i) 0 - k
  | r + 1, 0 => min ((r : Int) + 1 - k) 0 - i
  | r + 1, c + 1 => if hit r c then HH hit k i r c + 1 else max (HH hit k i (r + 1) c) (HH hit k i r (c + 1))
theorem HH_left (hit : Nat → Nat → Bool) {k i : Nat} (r : Nat) : HH hit k i r 0 = min ((r : Int) - k) 0 - i := by
  cases r with
  | zero => simp only [HH]; omega
  | succ r => simp only [HH]; push_cast; omega
theorem HH_cols (hit : Nat → Nat → Bool) (i : Nat) : ∀ r c, c ≤ i → HH hit 0 i r c = (c : Int) - i
  | 0, c, h => by simp only [HH]; omega
  | r + 1, 0, h => by simp only [HH]; omega
  | r + 1, c + 1, h => by
    have h1 := HH_cols hit i r c (by omega)
    have h2 := HH_cols hit i (r + 1) c (by omega)
    have h3 := HH_cols hit i r (c + 1) (by omega)
    simp only [HH, h1, h2, h3]
    split <;> (push_cast; omega)
theorem HH_rows (hit : Nat → Nat → Bool) (k : Nat) : ∀ r c, r ≤ k → HH hit k 0 r c = (r : Int) - k
  | 0, c, h => by simp only [HH]; omega
  | r + 1, 0, h => by simp only [HH]; push_cast; omega
  | r + 1, c + 1, h => by
    have h1 := HH_rows hit k r c (by omega)
    have h2 := HH_rows hit k (r + 1) c (by omega)
    have h3 := HH_rows hit k r (c + 1) (by omega)
    simp only [HH, h1, h2, h3]
    split <;> (push_cast; omega)
theorem HH_LL (hit : Nat → Nat → Bool) {k i : Nat} (z : k = 0 ∨ i = 0) : ∀ r c, HH hit k i (k + r) (i + c) = LL (fun x y => hit (k + x) (i + y)) r c
  | 0, c => by
    simp only [LL, Nat.add_zero]
    rcases z with rfl | rfl
    · simp only [HH]; omega
    · rw [HH_rows _ _ _ _ (Nat.le_refl _)]; omega
  | r + 1, 0 => by
    simp only [LL, Nat.add_zero]
    rcases z with rfl | rfl
    · rw [HH_cols _ _ _ _ (Nat.le_refl _)]; omega
    · rw [HH_left]; omega
  | r + 1, c + 1 => by
    have h1 := HH_LL hit z r c
    have h2 := HH_LL hit z (r + 1) c
    have h3 := HH_LL hit z r (c + 1)
    simp only [LL, ← h1, ← h2, ← h3]
    rw [show k + (r + 1) = k + r + 1 from rfl, show i + (c + 1) = i + c + 1 from rfl, HH]
/-- does the strand start at or right of s? -/
def bit (s x : Int) : Int := if s ≤ x then 1 else 0
theorem bit_or (s x : Int) : bit s x = 0 ∨ bit s x = 1 := by unfold bit; split <;> simp
theorem bit_le {s x y : Int} (h : x ≤ y) : bit s x ≤ bit s y := by unfold bit; repeat' split <;> omega
structure Braided (hit : Nat → Nat → Bool) (k i m n : Nat) (s : Int) (r j : Nat) (σ : List Int × List Int) : Prop where
  l1 : σ.1.length = m
  l2 : σ.2.length = n
  done : ∀ c, c < j → bit s (σ.2.getD c 0) = 1 - (HH hit k i (r + 1) (c + 1) - HH hit k i (r + 1) c)
  due : ∀ c, j ≤ c → c < n → bit s (σ.2.getD c 0) = 1 - (HH hit k i r (c + 1) - HH hit k i r c)
  here : r < m → bit s (σ.1.getD (m - 1 - r) 0) = HH hit k i (r + 1) j - HH hit k i r j
  up : ∀ x, x < r → x < m → bit s (σ.1.getD (m - 1 - x) 0) = HH hit k i (x + 1) n - HH hit k i x n
  low : ∀ x, r < x → x < m → bit s (σ.1.getD (m - 1 - x) 0) = HH hit k i (x + 1) 0 - HH hit k i x 0
theorem braided_step {hit : Nat → Nat → Bool} {k i m n : Nat} {s : Int} {r j : Nat} {σ : List Int × List Int} (B : Braided hit k i m n s r j σ) (hr : r < m) (hj : j < n) :
    Braided hit k i m n s r (j + 1) (bstep (hit r j) (m - 1 - r) j σ) := by
  obtain ⟨S, W⟩ := σ
  obtain ⟨l1, l2, done, due, here, up, low⟩ := B
  dsimp only at l1 l2 done due here up low
  have a1 := here hr
  have a2 := due j (Nat.le_refl _) hj
  have e : HH hit k i (r + 1) (j + 1) = if hit r j then HH hit k i r j + 1 else max (HH hit k i (r + 1) j) (HH hit k i r (j + 1)) := by rw [HH]
  have b1 := bit_or s (S.getD (m - 1 - r) 0)
  have b2 := bit_or s (W.getD j 0)
  by_cases c : hit r j = true ∨ W.getD j 0 < S.getD (m - 1 - r) 0
  · rw [bstep_yes c]
    have key : bit s (S.getD (m - 1 - r) 0) = 1 - (HH hit k i (r + 1) (j + 1) - HH hit k i (r + 1) j) ∧ bit s (W.getD j 0) = HH hit k i (r + 1) (j + 1) - HH hit k i r (j + 1) := by
      rw [e]
      by_cases hh : hit r j = true
      · rw [if_pos hh]; omega
      · rw [if_neg hh]
        have c' := c.resolve_left hh
        have := bit_le (s := s) (Int.le_of_lt c')
        omega
    refine ⟨by simpa using l1, by simpa using l2, fun c hc => ?_, fun c hc hn => ?_, fun _ => ?_, fun x hx hm => ?_, fun x hx hm => ?_⟩
    · dsimp only
      by_cases ec : c = j
      · subst ec; rw [getD_set_self (by omega)]; exact key.1
      · rw [getD_set_ne (by omega)]; exact done c (by omega)
    · dsimp only
      rw [getD_set_ne (by omega)]; exact due c (by omega) hn
    · dsimp only
      rw [getD_set_self (by omega)]; exact key.2
    · dsimp only
      rw [getD_set_ne (by omega)]; exact up x hx hm
    · dsimp only
      rw [getD_set_ne (by omega)]; exact low x hx hm
  · rw [bstep_no c]
    have hh : ¬ hit r j = true := fun h => c (.inl h)
    have hw : S.getD (m - 1 - r) 0 ≤ W.getD j 0 := by
      have : ¬ W.getD j 0 < S.getD (m - 1 - r) 0 := fun h => c (.inr h)
      omega
    have := bit_le (s := s) hw
    rw [if_neg hh] at e
    refine ⟨l1, l2, fun c hc => ?_, fun c hc hn => due c (by omega) hn, fun _ => ?_, up, low⟩
    · by_cases ec : c = j
      · subst ec; dsimp only; omega
      · exact done c (by omega)
    · dsimp only; omega
theorem braided_row {hit : Nat → Nat → Bool} {k i m n : Nat} {s : Int} {r : Nat} {σ : List Int × List Int} (B : Braided hit k i m n s r 0 σ) (hr : r < m) : ∀ j, j ≤ n →
    Braided hit k i m n s r j (brow (hit r) (m - 1 - r) j σ)
  | 0, _ => B
  | j + 1, h => by
    rw [brow_succ]
    exact braided_step (braided_row B hr j (by omega)) hr (by omega)
theorem braided_fold {hit : Nat → Nat → Bool} {k i m n : Nat} {s : Int} {σ : List Int × List Int} (B : Braided hit k i m n s 0 0 σ) : ∀ r, r ≤ m →
    Braided hit k i m n s r 0 (bfold hit m n r σ)
  | 0, _ => B
  | r + 1, h => by
    rw [bfold_succ]
    have b := braided_row (braided_fold B r (by omega)) (by omega) n (Nat.le_refl _)
    refine ⟨b.l1, b.l2, fun c hc => by omega, fun c _ hn => b.done c hn, fun hm => b.low (r + 1) (by omega) hm, fun x hx hm => ?_, fun x hx hm => b.low x (by omega) hm⟩
    by_cases e : x = r
    · subst e; exact b.here (by omega)
    · exact b.up x (by omega) hm
theorem braided_start (hit : Nat → Nat → Bool) {k i m n : Nat} (z : k = 0 ∨ i = 0) : Braided hit k i m n ((m : Int) + i - k) 0 0 (bstart m n) := by
  have l := bstart_len m n
  have g1 : ∀ x, x < m → (bstart m n).1.getD x 0 = (x : Int) := fun x hx => by
    unfold bstart
    simp [List.getD_eq_getElem?_getD, hx]
  have g2 : ∀ x, x < n → (bstart m n).2.getD x 0 = (m : Int) + x := fun x hx => by
    unfold bstart
    simp [List.getD_eq_getElem?_getD, hx]
  refine ⟨l.1, l.2, fun c hc => by omega, fun c _ hn => ?_, fun hm => ?_, fun x hx => by omega, fun x _ hm => ?_⟩
  · rw [g2 c hn]
    simp only [HH, bit]
    split <;> (push_cast; omega)
  · rw [g1 _ (by omega), HH_left, HH_left]
    simp only [bit]
    split <;> omega
  · rw [g1 _ (by omega), HH_left, HH_left]
    simp only [bit]
    split <;> (push_cast; omega)
/-- how many of l are at least s, when the bits telescope -/
theorem many_sum (s : Int) : ∀ (l : List Int) (f : Nat → Int), (∀ c, c < l.length → bit s (l.getD c 0) = f (c + 1) - f c) → (((l.filter fun x => decide (s ≤ x)).length : Nat) : Int) = f l.length - f 0
  | [], f, _ => by simp
  | x :: l, f, h => by
    have h0 := h 0 (by simp)
    have h1 := many_sum s l (fun c => f (c + 1)) (fun c hc => by
      have := h (c + 1) (by simpa using hc)
      simpa using this)
    have e : (List.getD (x :: l) 0 (0 : Int)) = x := rfl
    rw [e] at h0
    unfold bit at h0
    simp only [List.filter_cons, List.length_cons]
    by_cases c : s ≤ x
    · rw [if_pos c] at h0
      rw [if_pos (decide_eq_true c)]
      simp only [List.length_cons]
      push_cast
      omega
    · rw [if_neg c] at h0
      rw [if_neg (by rw [decide_eq_true_iff]; exact c)]
      omega
theorem many_below (s : Int) (W : List Int) (f : Nat → Int) {n : Nat} (hl : W.length = n) (h : ∀ c, c < n → bit s (W.getD c 0) = 1 - (f (c + 1) - f c)) {a b : Nat} (hb : a + b ≤ n) :
    ((((W.drop a).take b).filter fun x => decide (s ≤ x)).length : Int) = (b : Int) - (f (a + b) - f a) := by
  have l : ((W.drop a).take b).length = b := by simp only [List.length_take, List.length_drop]; omega
  have := many_sum s ((W.drop a).take b) (fun c => (c : Int) - f (a + c)) (fun c hc => by
    rw [l] at hc
    have e : ((W.drop a).take b).getD c 0 = W.getD (a + c) 0 := by
      simp only [List.getD_eq_getElem?_getD, List.getElem?_take, List.getElem?_drop, if_pos hc]
    rw [e, h (a + c) (by omega)]
    push_cast
    have e2 : a + (c + 1) = a + c + 1 := by omega
    rw [e2]
    omega)
  rw [this, l]
  simp
  omega
theorem many_side (s : Int) (S : List Int) (f : Nat → Int) {m : Nat} (hl : S.length = m) (h : ∀ x, x < m → bit s (S.getD (m - 1 - x) 0) = f (x + 1) - f x) {q : Nat} (hq : q ≤ m) :
    (((S.take (m - q)).filter fun x => decide (s ≤ x)).length : Int) = f m - f q := by
  have l : (S.take (m - q)).length = m - q := by simp only [List.length_take]; omega
  have := many_sum s (S.take (m - q)) (fun c => - f (m - c)) (fun c hc => by
    rw [l] at hc
    have e : (S.take (m - q)).getD c 0 = S.getD (m - 1 - (m - 1 - c)) 0 := by
      simp only [List.getD_eq_getElem?_getD, List.getElem?_take, if_pos hc]
      have : m - 1 - (m - 1 - c) = c := by omega
      rw [this]
    rw [e, h (m - 1 - c) (by omega)]
    have e2 : m - 1 - c + 1 = m - c := by omega
    have e3 : m - (c + 1) = m - 1 - c := by omega
    rw [e2, e3]
    omega)
  rw [this, l]
  have e2 : m - (m - q) = q := by omega
  rw [e2]
  simp
  omega
section
variable {as bs : List Int} {m n : Nat} {S W : List Int}
  (hσ : bfold (fun i j => decide (as.getD i 0 = bs.getD j 0)) m n m (bstart m n) = (S, W))
include hσ
theorem braid_done {k i : Nat} (z : k = 0 ∨ i = 0) : Braided (fun i j => decide (as.getD i 0 = bs.getD j 0)) k i m n ((m : Int) + i - k) m 0 (S, W) := by
  rw [← hσ]
  exact braided_fold (braided_start _ z) m (Nat.le_refl _)
theorem law1 {cost : Int} (hc : 2 ≤ cost) {i j : Nat} (hij : i + j ≤ n) :
    DD cost as ((bs.drop i).take j) m j = (m : Int) + j - 2 * (j - ((((W.drop i).take j).filter fun x => decide ((m : Int) + i ≤ x)).length : Int)) := by
  have B := braid_done hσ (k := 0) (i := i) (.inl rfl)
  have l2 := B.l2
  dsimp only at l2
  have hmn := many_below ((m : Int) + i - (0 : Nat)) W (fun c => HH (fun i j => decide (as.getD i 0 = bs.getD j 0)) 0 i m c) l2 (fun c h => B.due c (by omega) h) hij
  have z : (m : Int) + i - (0 : Nat) = (m : Int) + i := by omega
  rw [z] at hmn
  rw [hmn, DD_LL hc, HH_cols _ _ _ _ (Nat.le_refl _)]
  have e := HH_LL (fun i j => decide (as.getD i 0 = bs.getD j 0)) (k := 0) (i := i) (.inl rfl) m j
  rw [Nat.zero_add] at e
  rw [e]
  rw [LL_congr (f := fun x y => decide (as.getD x 0 = ((bs.drop i).take j).getD y 0)) (g := fun x y => decide (as.getD (0 + x) 0 = bs.getD (i + y) 0)) m j (fun x y hx hy => by
    simp only [Nat.zero_add, List.getD_eq_getElem?_getD, List.getElem?_take, List.getElem?_drop, if_pos hy])]
  omega
theorem law2 {cost : Int} (hc : 2 ≤ cost) {k i : Nat} (hk : k ≤ m) (hi : i ≤ n) :
    DD cost (as.drop k) (bs.take i) (m - k) i = ((m - k : Nat) : Int) + i - 2 * (i - (((W.take i).filter fun x => decide ((m : Int) - k ≤ x)).length : Int)) := by
  have B := braid_done hσ (k := k) (i := 0) (.inr rfl)
  have l2 := B.l2
  dsimp only at l2
  have hmn := many_below ((m : Int) + (0 : Nat) - k) W (fun c => HH (fun i j => decide (as.getD i 0 = bs.getD j 0)) k 0 m c) l2 (fun c h => B.due c (by omega) h) (a := 0) (b := i) (by omega)
  have z : (m : Int) + (0 : Nat) - k = (m : Int) - k := by omega
  rw [z, List.drop_zero, Nat.zero_add] at hmn
  rw [hmn, DD_LL hc, HH_left]
  have e := HH_LL (fun i j => decide (as.getD i 0 = bs.getD j 0)) (k := k) (i := 0) (.inr rfl) (m - k) i
  rw [Nat.zero_add, show k + (m - k) = m by omega] at e
  rw [e]
  rw [LL_congr (f := fun x y => decide ((as.drop k).getD x 0 = (bs.take i).getD y 0)) (g := fun x y => decide (as.getD (k + x) 0 = bs.getD (0 + y) 0)) (m - k) i (fun x y hx hy => by
    simp only [Nat.zero_add, List.getD_eq_getElem?_getD, List.getElem?_take, List.getElem?_drop, if_pos hy])]
  omega
theorem law3 {cost : Int} (hc : 2 ≤ cost) {k i : Nat} (hk : k ≤ m) (hi : i ≤ n) :
    DD cost (as.take k) (bs.drop i) k (n - i) = (k : Int) + ((n - i : Nat) : Int) - 2 * ((n : Int) - i - ((W.filter fun x => decide ((m : Int) + i ≤ x)).length : Int) - (((S.take (m - k)).filter fun x => decide ((m : Int) + i ≤ x)).length : Int)) := by
  have B := braid_done hσ (k := 0) (i := i) (.inl rfl)
  have l1 := B.l1
  have l2 := B.l2
  dsimp only at l1 l2
  have hmn := many_below ((m : Int) + i - (0 : Nat)) W (fun c => HH (fun i j => decide (as.getD i 0 = bs.getD j 0)) 0 i m c) l2 (fun c h => B.due c (by omega) h) (a := 0) (b := n) (by omega)
  have hsd := many_side ((m : Int) + i - (0 : Nat)) S (fun r => HH (fun i j => decide (as.getD i 0 = bs.getD j 0)) 0 i r n) l1 (fun x h => B.up x h h) hk
  have z : (m : Int) + i - (0 : Nat) = (m : Int) + i := by omega
  rw [z, List.drop_zero, Nat.zero_add, List.take_of_length_le (by omega), HH_left] at hmn
  rw [z] at hsd
  rw [hmn, hsd, DD_LL hc]
  have e := HH_LL (fun i j => decide (as.getD i 0 = bs.getD j 0)) (k := 0) (i := i) (.inl rfl) k (n - i)
  rw [Nat.zero_add, show i + (n - i) = n by omega] at e
  rw [e]
  rw [LL_congr (f := fun x y => decide ((as.take k).getD x 0 = (bs.drop i).getD y 0)) (g := fun x y => decide (as.getD (0 + x) 0 = bs.getD (i + y) 0)) k (n - i) (fun x y hx hy => by
    simp only [Nat.zero_add, List.getD_eq_getElem?_getD, List.getElem?_take, List.getElem?_drop, if_pos hx])]
  omega
theorem law4 {cost : Int} (hc : 2 ≤ cost) {k q : Nat} (hk : k ≤ q) (hq : q ≤ m) :
    DD cost ((as.drop k).take (q - k)) bs (q - k) n = ((q - k : Nat) : Int) + n - 2 * ((n : Int) - ((W.filter fun x => decide ((m : Int) - k ≤ x)).length : Int) - (((S.take (m - q)).filter fun x => decide ((m : Int) - k ≤ x)).length : Int)) := by
  have B := braid_done hσ (k := k) (i := 0) (.inr rfl)
  have l1 := B.l1
  have l2 := B.l2
  dsimp only at l1 l2
  have hmn := many_below ((m : Int) + (0 : Nat) - k) W (fun c => HH (fun i j => decide (as.getD i 0 = bs.getD j 0)) k 0 m c) l2 (fun c h => B.due c (by omega) h) (a := 0) (b := n) (by omega)
  have hsd := many_side ((m : Int) + (0 : Nat) - k) S (fun r => HH (fun i j => decide (as.getD i 0 = bs.getD j 0)) k 0 r n) l1 (fun x h => B.up x h h) hq
  have z : (m : Int) + (0 : Nat) - k = (m : Int) - k := by omega
  rw [z, List.drop_zero, Nat.zero_add, List.take_of_length_le (by omega), HH_left] at hmn
  rw [z] at hsd
  rw [hmn, hsd, DD_LL hc]
  have e := HH_LL (fun i j => decide (as.getD i 0 = bs.getD j 0)) (k := k) (i := 0) (.inr rfl) (q - k) n
  rw [Nat.zero_add, show k + (q - k) = q by omega] at e
  rw [e]
  rw [LL_congr (f := fun x y => decide (((as.drop k).take (q - k)).getD x 0 = bs.getD y 0)) (g := fun x y => decide (as.getD (k + x) 0 = bs.getD (0 + y) 0)) (q - k) n (fun x y hx hy => by
    simp only [Nat.zero_add, List.getD_eq_getElem?_getD, List.getElem?_take, List.getElem?_drop, if_pos hx])]
  omega
end
section
variable {as bs S W : List Int} (hσ : bfold (fun i j => decide (as.getD i 0 = bs.getD j 0)) as.length bs.length as.length (bstart as.length bs.length) = (S, W)) {mI nI cI : Int} (hm : as.length = mI.toNat) (hn : bs.length = nI.toNat) (m0 : 0 ≤ mI) (n0 : 0 ≤ nI) (hc : 2 ≤ cI)
include hσ hm hn m0 n0 hc
theorem law1i {i j : Nat} (hi : i ≤ nI.toNat) (hj : i + j ≤ nI.toNat) :
    DD cI as (List.take (min ((i : Int) + (j : Int)).toNat bs.length - (i : Int).toNat) (List.drop (i : Int).toNat bs)) as.length (List.take (min ((i : Int) + (j : Int)).toNat bs.length - (i : Int).toNat) (List.drop (i : Int).toNat bs)).length
           = as.length + (List.take (min ((i : Int) + (j : Int)).toNat bs.length - (i : Int).toNat) (List.drop (i : Int).toNat bs)).length - 2 * ((i : Int) + (j : Int) - (i : Int) - ((List.filter (fun x => decide ((mI + (i : Int)) ≤ x)) (List.take (min ((i : Int) + (j : Int)).toNat W.length - (i : Int).toNat) (List.drop (i : Int).toNat W))).length : Nat)) := by
  have lW : W.length = bs.length := (braid_done hσ (k := 0) (i := 0) (.inr rfl)).l2
  have e1 : min ((i : Int) + (j : Int)).toNat bs.length - (i : Int).toNat = j := by omega
  have e2 : min ((i : Int) + (j : Int)).toNat W.length - (i : Int).toNat = j := by omega
  have e3 : (i : Int).toNat = i := rfl
  rw [e1, e2, e3]
  have l : ((bs.drop i).take j).length = j := by simp only [List.length_take, List.length_drop]; omega
  rw [l]
  have e := law1 hσ hc (i := i) (j := j) (by omega)
  have e4 : ((as.length : Nat) : Int) + (i : Int) = mI + i := by omega
  rw [e4] at e
  rw [e]
  omega
theorem law2i {kI iI : Int} (k0 : 0 ≤ kI) (k1 : kI ≤ mI) (i0 : 0 ≤ iI) (i1 : iI ≤ nI) :
    DD cI (List.drop kI.toNat as) (List.take iI.toNat bs) (List.drop kI.toNat as).length (List.take iI.toNat bs).length = (List.drop kI.toNat as).length + (List.take iI.toNat bs).length - 2 * (iI - ((List.filter (fun x => decide ((mI - kI) ≤ x)) (List.take iI.toNat W)).length : Nat)) := by
  have e := law2 hσ hc (k := kI.toNat) (i := iI.toNat) (by omega) (by omega)
  have e1 : ((as.length : Nat) : Int) - (kI.toNat : Nat) = mI - kI := by omega
  have e2 : ((iI.toNat : Nat) : Int) = iI := by omega
  rw [e1] at e
  rw [List.length_drop, List.length_take, Nat.min_eq_left (by omega), e, e2]
theorem law3i {kI iI : Int} (k0 : 0 ≤ kI) (k1 : kI ≤ mI) (i0 : 0 ≤ iI) (i1 : iI ≤ nI) :
    DD cI (List.take kI.toNat as) (List.drop iI.toNat bs) (List.take kI.toNat as).length (List.drop iI.toNat bs).length = (List.take kI.toNat as).length + (List.drop iI.toNat bs).length - 2 * (nI - iI - ((List.filter (fun x => decide ((mI + iI) ≤ x)) W).length : Nat) - ((List.filter (fun x => decide ((mI + iI) ≤ x)) (List.take (mI - kI).toNat S)).length : Nat)) := by
  have e := law3 hσ hc (k := kI.toNat) (i := iI.toNat) (by omega) (by omega)
  have e1 : ((as.length : Nat) : Int) + (iI.toNat : Nat) = mI + iI := by omega
  have e2 : ((iI.toNat : Nat) : Int) = iI := by omega
  have e3 : ((bs.length : Nat) : Int) = nI := by omega
  have e4 : as.length - kI.toNat = (mI - kI).toNat := by omega
  rw [e1, e4, e3, e2] at e
  rw [List.length_drop, List.length_take, Nat.min_eq_left (by omega), e]
theorem law4i {kI rI : Int} (k0 : 0 ≤ kI) (r0 : 0 ≤ rI) (r1 : rI ≤ mI - kI) {t : Nat} (ht : t = rI.toNat) :
    DD cI (List.take t (List.drop kI.toNat as)) bs (List.take t (List.drop kI.toNat as)).length bs.length = (List.take t (List.drop kI.toNat as)).length + bs.length - 2 * (nI - ((List.filter (fun x => decide ((mI - kI) ≤ x)) W).length : Nat) - ((List.filter (fun x => decide ((mI - kI) ≤ x)) (List.take (mI - (kI + rI)).toNat S)).length : Nat)) := by
  have e := law4 hσ hc (k := kI.toNat) (q := (kI + rI).toNat) (by omega) (by omega)
  have e1 : ((as.length : Nat) : Int) - (kI.toNat : Nat) = mI - kI := by omega
  have e3 : ((bs.length : Nat) : Int) = nI := by omega
  have e4 : as.length - (kI + rI).toNat = (mI - (kI + rI)).toNat := by omega
  have e5 : (kI + rI).toNat - kI.toNat = t := by omega
  rw [e1, e4, e3, e5] at e
  have l : (List.take t (List.drop kI.toNat as)).length = t := by simp only [List.length_take, List.length_drop]; omega
  rw [l, e, e3]
end
end Mine
namespace Mine
local macro_rules | `(tactic| keq_rows) => `(tactic| first | assumption | exact List.mem_cons_self | (refine List.mem_cons_of_mem _ ?_; keq_rows) | (refine List.mem_append_left _ ?_; keq_rows))
local macro_rules | `(tactic| k_mem) => `(tactic| keq_rows)
local macro_rules | `(tactic| k_all) => `(tactic| assumption)
local macro_rules | `(tactic| is_list) => `(tactic| exact News.isList (by assumption) (by k_mem))
local macro_rules | `(tactic| walk_at "subscriptTail") => `(tactic| (k_here; (with_reducible show wpAny _ _ (subscriptTail _ _ (Value.ref _) (Value.int _ _)) _ _ _); k_dflt (refine' sub_ref ?k1 ?k2 ?k3 ?k4 ?k5 ?_ ?k7; (case k1 => k_asm); (case k2 => k_mem); (case k5 => assumption); (case k3 => omega); (case k4 => omega); (case k7 => with_unfolding_all rfl); k_whole)))
local macro_rules | `(tactic| walk_at "pyIter ref") => `(tactic| ((with_reducible show wpAny _ _ (pyIter (Value.ref _)) (fun it s₂ => LoopAtV _ _ _ _ _ _ _ _ _ it s₂) _ _); refine Stop.out ?_))
local macro_rules | `(tactic| size_fits) => `(tactic| assumption)
local macro_rules | `(tactic| cell_enter) => `(tactic| (refine' code_def ?k1 ?k2 ?k3 ?k4 ?k5 ?kA ?kF ?kK ?k6 ?k7 ?k8 ?k9 ?kB ?_ ?c2 ?c3 ?c4 ?c5; (case kA => exact rfl); (case kF => exact rfl); (case kK => assumption); (case k1 => k_asm); (case k2 => k_asm); (case k3 => k_asm); (case k4 => k_asm); (case k5 => k_asm); (case k6 => k_is); (case k7 => k_is); (case k8 => ktr_room); (case k9 => first | exact BindsTo.of_eq rfl | exact binds_K (by k_in) rfl (by k_is) rfl rfl rfl); (case c5 => decide); (case kB => exact locs rfl); (case c2 => exact rfl); (case c3 => exact rfl); (case c4 => exact rfl); k_whole; intro g' L' h' FG' F' N' B' X' T'; (try dsimp only); (try k_lift B'); (try k_fold)))
local macro_rules | `(tactic| ktr_enter) => `(tactic| (refine' code_frz ?k1 ?k2 ?k3 ?k5 ?kA ?kF ?kK ?k6 ?k7 ?k8 ?k9 ?kB ?_ ?c2 ?c3 ?c4 ?c5; (case kA => exact rfl); (case kF => exact rfl); (case kK => assumption); (case k1 => k_asm); (case k2 => k_asm); (case k3 => k_asm); (case k5 => k_asm); (case k6 => k_is); (case k7 => k_is); (case k8 => ktr_room); (case k9 => first | exact BindsTo.of_eq rfl | exact binds_K (by k_in) rfl (by k_is) rfl rfl rfl); (case c5 => decide); (case kB => exact locs rfl); (case c2 => exact rfl); (case c3 => exact rfl); (case c4 => exact rfl); k_whole; intro L' h' F' N' B' X' T'; (try dsimp only); (try k_fold)))
local macro_rules | `(tactic| k_enter) => `(tactic| (refine' code_frzC ?k1 ?k2 ?k3 ?k5 ?kA ?kF ?kK ?k6 ?k7 ?k8 ?k9 ?kB ?kD ?_ ?c2 ?c3 ?c4; (case kA => exact rfl); (case kF => exact rfl); (case kK => assumption); (case k1 => k_asm); (case k2 => k_asm); (case k3 => k_asm); (case k5 => k_asm); (case k6 => k_is); (case k7 => k_is); (case k8 => ktr_room); (case k9 => first | exact BindsTo.of_eq rfl | exact binds_K (by k_in) rfl (by k_is) rfl rfl rfl); (case kB => exact rfl); (case kD => decide +kernel); (case c2 => exact rfl); (case c3 => exact rfl); (case c4 => exact rfl); k_whole; intro L' h' tk' cells' F' N' Y' B' X' T'; k_cells Y'; (try simp only [List.cons_append, List.nil_append] at N'); (try dsimp only); (try k_fold)))

local macro_rules | `(tactic| walk_at "call ref") => `(tactic| refine Stop.out ?_)
local macro_rules | `(tactic| walk_at "binaryOp Mod int int") => `(tactic| (k_here; (with_reducible refine mod_int' (by assumption) ?_)))
structure MarkI : Prop where
  mk ::
def PlainJ (h₀ : Heap) (L : Addr) (m : Str → Option Value) (s : Shared) (df : Addr) (vf : List Value) (nf : Nat) (f : Flow) (s₂ : Shared) : Prop :=
  f = .next ∧ ∃ h tk d vs ns n, s₂ = { s with heap := h, toks := tk } ∧ Fr h₀ L h (fun y => if y = Str.ofString "plain" then some (.ref d) else m y) ∧ News h₀ L h [(df, listOf (List.toArray vf) nf), (d, listOf (List.toArray vs) n)] ∧ IntsAre vs ns ∧ ns.length = 15
theorem join_plain {prog : Program} {w : World} {A : Around} {t : Sem Flow} {h₀ : Heap} {L : Addr} {m : Str → Option Value} {s : Shared} {Q : Flow → Shared → Prop} {E : Value → Shared → Prop} (_F : Fr h₀ L s.heap m) (df : Addr) (vf : List Value) (nf : Nat)
   (h1 : wpAny (model prog w) A t (PlainJ h₀ L m s df vf nf) E s)
   (h2 : ∀ h tk d vs ns n, Fr h₀ L h (fun y => if y = Str.ofString "plain" then some (.ref d) else m y) → News h₀ L h [(df, listOf (List.toArray vf) nf), (d, listOf (List.toArray vs) n)] → IntsAre vs ns → ns.length = 15 → Q .next { s with heap := h, toks := tk }) : wpAny (model prog w) A t Q E s :=
  wpAny_mono h1 (fun f s₂ p => by
    obtain ⟨rfl, h, tk, d, vs, ns, n, rfl, F, N, i, l⟩ := p
    exact h2 h tk d vs ns n F N i l) (fun _ _ x => x)
local macro_rules | `(tactic| walk_at "exec If") => `(tactic| ((rename MarkI => _mk); refine Stop.out ?_))
theorem main2 : PySem.Challenge.rw_fe5011_02.Holds := hd2 (by
  k_go0
  all_goals (try k_fold)
  k_steps
  unfold Stop
  rename IntsAre _ _ => iS
  rename Heap.IsList _ _ _ => hS
  rename ¬ (_ < _) => hlen
  rename Ground _ _ _ _ _ _ _ _ _ => cG
  rename Flt.MathXP _ _ _ => cX
  rename LooseAre _ _ _ => cV
  rename Glob _ _ _ _ _ _ _ _ => cGL
  rename Tables _ _ _ _ => cB
  rename TopE _ _ _ _ => cTE
  rename TopW _ _ _ => cTW
  rename BMod _ _ _ _ _ => cM
  rename Heap.CodeRec _ _ _ => cHcd
  rename Dflts _ _ _ _ _ _ => cD
  rename CellsAre _ _ _ => cCe
  rename Well _ _ _ _ => cW
  rename ReadsAllW _ _ _ _ _ _ => cRW
  clear cG cX cV cGL cB cTE cTW cM cHcd cD cCe cW cRW
  rename Fr _ _ _ _ => F1
  rename News _ _ _ _ => N1
  k_dflt (refine FzC.use (numbers_c _ _ _ _ _ _ _ _ _ iS (by omega) _) (by k_asm) F1 (by k_asm) N1 (by k_asm) rfl (by ktr_room) (by ktr_units) (Fr.lst F1 hS) ?_)
  intro v h' tk' F2 N2 keep P
  obtain ⟨df, vf, nf, found, hv, hnew, hlive, iF, hlF⟩ := P
  subst hv
  obtain ⟨N3, hne3⟩ := fresh_news F1 N1 keep hnew hlive
  clear N2 N1 F1 keep hnew hlive
  have mki := MarkI.mk
  try k_fold
  k_steps
  rename MarkI => mk2
  clear mk2
  rename Fr _ _ _ _ => F4
  rename News _ _ _ _ => N4
  unfold Stop
  k_dflt (refine join_plain F4 df vf nf ?_ ?_)
  · k_steps
    all_goals (
      rename Fr _ _ _ _ => F5
      rename News _ _ _ _ => N5
      first
        | exact ⟨rfl, _, _, _, _, _, _, rfl, F5, sub_news N5 (fun p hp => by rcases List.mem_cons.mp hp with h | h; exact h ▸ (by k_mem); rw [List.mem_singleton.mp h]; k_mem), iF, hlF⟩
        | (rename IntsAre _ (List.map _ _) => iP; exact ⟨rfl, _, _, _, _, _, _, rfl, F5, sub_news N5 (fun p hp => by rcases List.mem_cons.mp hp with h | h; exact h ▸ (by k_mem); rw [List.mem_singleton.mp h]; k_mem), iP, by simp only [List.length_map]; exact hlF⟩))
  clear F4 N4
  intro h4 tk4 dP vP nsP nP F5 N5 iP lP
  try k_fold
  k_steps
  all_goals (
    rename IntsAre _ (List.take _ (List.drop 6 _)) => iB
    rename IntsAre _ (List.take _ (List.drop 3 _)) => iA
    rename Fr _ _ _ _ => F4
    rename News _ _ _ _ => N4
    unfold Stop
    obtain ⟨mI, tm, em, etm⟩ := int_at F4 (Str.ofString "m") rfl
    obtain ⟨nI, tn, en, etn⟩ := int_at F4 (Str.ofString "n") rfl
    obtain ⟨cI, tc, ec, etc⟩ := int_at F4 (Str.ofString "cost") rfl
    have m0 : 0 ≤ mI := by rw [em]; exact fmod_lo _ (by omega)
    have m1 : mI < 4 := by rw [em]; exact fmod_hi _ (by omega)
    have n0 : 0 ≤ nI := by rw [en]; exact fmod_lo _ (by omega)
    have n1 : nI < 6 := by rw [en]; exact fmod_hi _ (by omega)
    have c0 : 2 ≤ cI := by rw [ec]; have := fmod_lo ((found.getD (Int.toNat 0) 0).fdiv 3) (n := 3) (by omega); omega
    have lA := iA.length
    have lB := iB.length
    generalize hAs : List.take _ (List.drop 3 _) = as at iA
    generalize hBs : List.take _ (List.drop 6 _) = bs at iB
    have hAl : as.length = mI.toNat := by
      rw [← hAs, em]
      simp only [List.length_take, List.length_drop, List.length_map, lP]
      have e1 := fmod_lo (found.getD 1 0) (n := 4) (by omega)
      have e2 := fmod_hi (found.getD 1 0) (n := 4) (by omega)
      have e3 : Int.toNat 1 = 1 := rfl
      rw [e3]
      omega
    have hBl : bs.length = nI.toNat := by
      rw [← hBs, en]
      simp only [List.length_take, List.length_drop, List.length_map, lP]
      have e1 := fmod_lo (found.getD 2 0) (n := 6) (by omega)
      have e2 := fmod_hi (found.getD 2 0) (n := 6) (by omega)
      have e3 : Int.toNat 2 = 2 := rfl
      rw [e3]
      omega
    rw [← em, ← en, ← ec] at F4
    clear em en ec etm etn etc
    obtain ⟨da, hda⟩ := ref_at F4 (Str.ofString "one") rfl
    obtain ⟨dbb, hdbb⟩ := ref_at F4 (Str.ofString "two") rfl
    subst hda hdbb
    k_dflt (refine FzC.use (braid_c _ _ _ _ _ _ _ _ _ _ _ _ iA iB (by omega) (by omega)) (by k_asm) F4 (by k_asm) N4 (by k_asm) rfl (by ktr_room) (by ktr_units) ⟨News.isList N4 (by k_mem), News.isList N4 (by k_mem)⟩ ?_)
    intro v h' tk' F5 N5 keep P
    obtain ⟨tp, ds, db, vA, vB, nA, nB, nT, hv, g1, g2, g3, b1, b2, b3, jA, jB⟩ := P
    subst hv
    have N6 := fresh_three F4 N4 keep g1 g2 g3 b1 b2 b3
    clear N5 N4 F4 keep g1 g2 g3 b1 b2 b3
    try k_fold
    k_steps
    rename Fr _ _ _ _ => F7
    rename News _ _ _ _ => N7
    rename IsRange _ _ _ _ _ _ _ _ => G7
    unfold Stop
    obtain ⟨va, eva⟩ := ints_at iA
    obtain ⟨vb, evb⟩ := ints_at iB
    subst eva evb
    obtain ⟨NL, hNL, N8⟩ := news_gen N7
    obtain ⟨ememF, memF⟩ : ∃ e, (df, listOf vf.toArray e) ∈ NL := ⟨_, by rw [hNL]; k_mem⟩
    obtain ⟨ememA, memA⟩ : ∃ e, (da, listOf va.toArray e) ∈ NL := ⟨_, by rw [hNL]; k_mem⟩
    obtain ⟨ememB, memB⟩ : ∃ e, (dbb, listOf vb.toArray e) ∈ NL := ⟨_, by rw [hNL]; k_mem⟩
    obtain ⟨ememS, memS⟩ : ∃ e, (ds, listOf vA.toArray e) ∈ NL := ⟨_, by rw [hNL]; k_mem⟩
    obtain ⟨ememW, memW⟩ : ∃ e, (db, listOf vB.toArray e) ∈ NL := ⟨_, by rw [hNL]; k_mem⟩
    clear hNL N7
    have hl := bfold_len (fun i j => decide (as.getD i 0 = bs.getD j 0)) as.length bs.length (bstart as.length bs.length) as.length
    have hl0 := bstart_len as.length bs.length
    rw [hl0.1, hl0.2] at hl
    generalize hσ : bfold (fun i j => decide (as.getD i 0 = bs.getD j 0)) as.length bs.length as.length (bstart as.length bs.length) = σ0 at *
    obtain ⟨S, W⟩ := σ0
    dsimp only at jA jB hl
    with_unfolding_all refine loopK (n := (nI + 1).toNat) [Str.ofString "j", Str.ofString "part", Str.ofString "stay", Str.ofString "handed"] (by rfl) G7 (by omega) (by omega) F7 N8 ?_ ?_
    · clear F7 N8 G7
      intro i ti u h tk own hi hoff F8 N8
      simp only [Int.zero_add] at F8
      try k_fold
      k_steps
      rename Fr _ _ _ _ => F9
      rename News _ _ _ _ => N9
      rename IsRange _ _ _ _ _ _ _ _ => G9
      unfold Stop
      with_unfolding_all refine loopK (n := (nI + 1 - (i : Int)).toNat) [Str.ofString "part", Str.ofString "stay", Str.ofString "handed"] (by rfl) G9 (by omega) (by omega) F9 N9 ?_ ?_
      · clear F9 N9 G9
        intro j tj u2 h2 tk2 own2 hj hoff2 F8 N8
        try k_fold
        k_steps
        rename IntsAre _ (List.take _ (List.drop _ W)) => iW
        rename IntsAre _ (List.take _ (List.drop _ bs)) => iP
        rename Fr _ _ _ _ => F10
        rename News _ _ _ _ => N10
        unfold Stop
        k_dflt (refine FzC.use (many_c _ _ _ _ _ _ _ _ _ iW (by simp only [List.length_take, List.length_drop]; omega) _ _) (by k_asm) F10 (by k_asm) N10 (by k_asm) rfl (by ktr_room) (by ktr_units) (News.isList N10 (by k_mem)) ?_)
        intro v h' tk' F11 N11 keep P
        obtain ⟨tq, hv⟩ := P
        subst hv
        clear keep
        try k_fold
        k_steps
        rename Fr _ _ _ _ => F12
        rename News _ _ _ _ => N12
        unfold Stop
        have lP := iP.length
        have lPi : (List.take (min ((i : Int) + (j : Int)).toNat bs.length - (i : Int).toNat) (List.drop (i : Int).toNat bs)).length ≤ 800 := by simp only [List.length_take, List.length_drop]; omega
        k_dflt (refine FzC.use (edit_c _ _ _ _ _ _ _ _ _ _ _ _ iA iP (by omega) (Nat.lt_of_le_of_lt lPi (by omega)) _ _) (by k_asm) F12 (by k_asm) N12 (by k_asm) rfl (by ktr_room) (by ktr_units) ⟨News.isList N12 (by k_mem), News.isList N12 (by k_mem)⟩ ?_)
        intro v h' tk' F13 N13 keep P
        obtain ⟨tq2, hv⟩ := P
        subst hv
        clear keep
        try k_fold
        k_steps
        rename Fr _ _ _ _ => F14
        rename News _ _ _ _ => N14
        unfold Stop
        have hmany := List.length_filter_le (fun x => decide ((mI + (i : Int)) ≤ x)) (List.take (min ((i : Int) + (j : Int)).toNat W.length - (i : Int).toNat) (List.drop (i : Int).toNat W))
        have lWi : (List.take (min ((i : Int) + (j : Int)).toNat W.length - (i : Int).toNat) (List.drop (i : Int).toNat W)).length ≤ 800 := by simp only [List.length_take, List.length_drop]; omega
        k_dflt (refine FzC.use (far_c _ _ _ _ _ _ _ _ _ _ _ _ iA iP (by omega) (Nat.lt_of_le_of_lt lPi (by omega)) _ _ (by omega)) (by k_asm) F14 (by k_asm) N14 (by k_asm) rfl (by ktr_room) (by ktr_units) ⟨News.isList N14 (by k_mem), News.isList N14 (by k_mem)⟩ ?_)
        intro v h' tk' F15 N15 keep P
        obtain ⟨tq3, hv⟩ := P
        subst hv
        clear keep
        have hEq : DD cI as (List.take (min ((i : Int) + (j : Int)).toNat bs.length - (i : Int).toNat) (List.drop (i : Int).toNat bs)) as.length (List.take (min ((i : Int) + (j : Int)).toNat bs.length - (i : Int).toNat) (List.drop (i : Int).toNat bs)).length
           = as.length + (List.take (min ((i : Int) + (j : Int)).toNat bs.length - (i : Int).toNat) (List.drop (i : Int).toNat bs)).length - 2 * ((i : Int) + (j : Int) - (i : Int) - ((List.filter (fun x => decide ((mI + (i : Int)) ≤ x)) (List.take (min ((i : Int) + (j : Int)).toNat W.length - (i : Int).toNat) (List.drop (i : Int).toNat W))).length : Nat)) := law1i hσ hAl hBl m0 n0 c0 (by omega) (by omega)
        try k_fold
        k_steps
        refine Leaves.fin () (by assumption) (by assumption) trivial (fun p hp => by (repeat (first | exact List.mem_append_left _ hp | refine List.mem_cons_of_mem _ ?_))) (fun p hp => by (repeat (first | exact List.mem_append_right _ hp | refine List.mem_cons_of_mem _ ?_))) hoff2 (fun z h1 hs => by
          have q1 := not_stored hs (List.mem_cons_self ..)
          have q2 := not_stored hs (List.mem_cons_of_mem _ (List.mem_cons_self ..))
          have q3 := not_stored hs (List.mem_cons_of_mem _ (List.mem_cons_of_mem _ (List.mem_cons_self ..)))
          simp only [if_neg h1, if_neg q1, if_neg q2, if_neg q3, hs, Bool.false_eq_true, if_false])
      · clear F9 N9 G9
        intro u2 h2 tk2 F8 N8
        try k_fold
        k_steps
        refine Leaves.fin () (by assumption) (by assumption) trivial (fun p hp => by (repeat (first | exact List.mem_append_left _ hp | refine List.mem_cons_of_mem _ ?_))) (fun p hp => by (repeat (first | exact List.mem_append_right _ hp | refine List.mem_cons_of_mem _ ?_))) hoff (fun z h1 hs => by
          have q1 := not_stored hs (List.mem_cons_self ..)
          have q2 := not_stored hs (List.mem_cons_of_mem _ (List.mem_cons_self ..))
          have q3 := not_stored hs (List.mem_cons_of_mem _ (List.mem_cons_of_mem _ (List.mem_cons_self ..)))
          have q4 := not_stored hs (List.mem_cons_of_mem _ (List.mem_cons_of_mem _ (List.mem_cons_of_mem _ (List.mem_cons_self ..))))
          simp only [if_neg h1, if_neg q1, if_neg q2, if_neg q3, if_neg q4, contains_three q2 q3 q4, hs, Bool.false_eq_true, if_false])
    · clear F7 N8 G7
      intro u h tk F8 N8
      have mne : mI + 1 ≠ 0 := by omega
      have qk0 := fmod_lo (found.getD (Int.toNat 11) 0) (n := mI + 1) (by omega)
      have qk1 := fmod_hi (found.getD (Int.toNat 11) 0) (n := mI + 1) (by omega)
      have qne : mI + 1 - (found.getD (Int.toNat 11) 0).fmod (mI + 1) ≠ 0 := by omega
      have qq0 := fmod_lo (found.getD (Int.toNat 12) 0) (n := mI + 1 - (found.getD (Int.toNat 11) 0).fmod (mI + 1)) (by omega)
      have qq1 := fmod_hi (found.getD (Int.toNat 12) 0) (n := mI + 1 - (found.getD (Int.toNat 11) 0).fmod (mI + 1)) (by omega)
      have qi0 := fmod_lo (found.getD (Int.toNat 13) 0) (n := nI + 1) (by omega)
      have qi1 := fmod_hi (found.getD (Int.toNat 13) 0) (n := nI + 1) (by omega)
      have nne : nI + 1 ≠ 0 := by omega
      try k_fold
      k_steps
      rename IntsAre _ (List.take _ W) => iW
      have z13 : (found.getD 13 0).fmod (nI + 1) = (found.getD (Int.toNat 13) 0).fmod (nI + 1) := rfl
      rw [z13] at iW
      clear z13
      generalize (found.getD (Int.toNat 11) 0).fmod (mI + 1) = kI at *
      generalize (found.getD (Int.toNat 12) 0).fmod (mI + 1 - kI) = rI at *
      generalize (found.getD (Int.toNat 13) 0).fmod (nI + 1) = iI at *
      have qk2 : kI ≤ mI := by omega
      have qi2 : iI ≤ nI := by omega
      have qq2 : rI ≤ mI - kI := by omega
      rename Fr _ _ _ _ => F10
      rename News _ _ _ _ => N10
      unfold Stop
      k_dflt (refine FzC.use (many_c _ _ _ _ _ _ _ _ _ iW (by simp only [List.length_take]; omega) _ _) (by k_asm) F10 (by k_asm) N10 (by k_asm) rfl (by ktr_room) (by ktr_units) (News.isList N10 (by k_mem)) ?_)
      intro v h' tk' F11 N11 keep P
      obtain ⟨tq, hv⟩ := P
      subst hv
      clear keep
      replace N11 := sub_news (l' := NL) N11 (fun p hp => by (repeat (first | exact hp | refine List.mem_cons_of_mem _ ?_)))
      revert F11 N11
      repeat (rename Fr _ _ _ _ => Fz; clear Fz)
      repeat (rename News _ _ _ _ => Nz; clear Nz)
      intro F11 N11
      try k_fold
      k_steps
      rename IntsAre _ (List.drop _ as) => iX
      rename IntsAre _ (List.take _ bs) => iY
      rename Fr _ _ _ _ => F10
      rename News _ _ _ _ => N10
      unfold Stop
      have lX : (List.drop kI.toNat as).length ≤ 800 := by simp only [List.length_take, List.length_drop]; omega
      have lY : (List.take iI.toNat bs).length ≤ 800 := by simp only [List.length_take, List.length_drop]; omega
      have hmany := List.length_filter_le (fun x => decide ((mI - kI) ≤ x)) (List.take iI.toNat W)
      have hmanyL : (List.take iI.toNat W).length ≤ 800 := by simp only [List.length_take]; omega
      k_dflt (refine FzC.use (edit_c _ _ _ _ _ _ _ _ _ _ _ _ iX iY (Nat.lt_of_le_of_lt lX (by omega)) (Nat.lt_of_le_of_lt lY (by omega)) _ _) (by k_asm) F10 (by k_asm) N10 (by k_asm) rfl (by ktr_room) (by ktr_units) ⟨News.isList N10 (by k_mem), News.isList N10 (by k_mem)⟩ ?_)
      intro v h' tk' Fn Nn keep P
      obtain ⟨tq2, hv⟩ := P
      subst hv
      clear keep
      replace Nn := sub_news (l' := NL) Nn (fun p hp => by (repeat (first | exact hp | refine List.mem_cons_of_mem _ ?_)))
      revert Fn Nn
      repeat (rename Fr _ _ _ _ => Fz; clear Fz)
      repeat (rename News _ _ _ _ => Nz; clear Nz)
      intro Fn Nn
      try k_fold
      k_steps
      rename IntsAre _ (List.drop _ as) => iX3
      rename IntsAre _ (List.take _ bs) => iY3
      rename Fr _ _ _ _ => F10
      rename News _ _ _ _ => N10
      unfold Stop
      k_dflt (refine FzC.use (far_c _ _ _ _ _ _ _ _ _ _ _ _ iX3 iY3 (Nat.lt_of_le_of_lt lX (by omega)) (Nat.lt_of_le_of_lt lY (by omega)) _ _ (by omega)) (by k_asm) F10 (by k_asm) N10 (by k_asm) rfl (by ktr_room) (by ktr_units) ⟨News.isList N10 (by k_mem), News.isList N10 (by k_mem)⟩ ?_)
      intro v h' tk' Fn Nn keep P
      obtain ⟨tq3, hv⟩ := P
      subst hv
      clear keep
      replace Nn := sub_news (l' := NL) Nn (fun p hp => by (repeat (first | exact hp | refine List.mem_cons_of_mem _ ?_)))
      revert Fn Nn
      repeat (rename Fr _ _ _ _ => Fz; clear Fz)
      repeat (rename News _ _ _ _ => Nz; clear Nz)
      intro Fn Nn
      have hEq : DD cI (List.drop kI.toNat as) (List.take iI.toNat bs) (List.drop kI.toNat as).length (List.take iI.toNat bs).length = (List.drop kI.toNat as).length + (List.take iI.toNat bs).length - 2 * (iI - ((List.filter (fun x => decide ((mI - kI) ≤ x)) (List.take iI.toNat W)).length : Nat)) := law2i hσ hAl hBl m0 n0 c0 qk0 qk2 qi0 qi2
      try k_fold
      k_steps
      rename Fr _ _ _ _ => F10
      rename News _ _ _ _ => N10
      unfold Stop
      k_dflt (refine FzC.use (many_c _ _ _ _ _ _ _ _ _ jB (by omega) _ _) (by k_asm) F10 (by k_asm) N10 (by k_asm) rfl (by ktr_room) (by ktr_units) (News.isList N10 (by k_mem)) ?_)
      intro v h' tk' Fn Nn keep P
      obtain ⟨tq4, hv⟩ := P
      subst hv
      clear keep
      replace Nn := sub_news (l' := NL) Nn (fun p hp => by (repeat (first | exact hp | refine List.mem_cons_of_mem _ ?_)))
      revert Fn Nn
      repeat (rename Fr _ _ _ _ => Fz; clear Fz)
      repeat (rename News _ _ _ _ => Nz; clear Nz)
      intro Fn Nn
      try k_fold
      k_steps
      rename IntsAre _ (List.take _ S) => iS1
      rename Fr _ _ _ _ => F10
      rename News _ _ _ _ => N10
      unfold Stop
      k_dflt (refine FzC.use (many_c _ _ _ _ _ _ _ _ _ iS1 (by simp only [List.length_take]; omega) _ _) (by k_asm) F10 (by k_asm) N10 (by k_asm) rfl (by ktr_room) (by ktr_units) (News.isList N10 (by k_mem)) ?_)
      intro v h' tk' Fn Nn keep P
      obtain ⟨tq5, hv⟩ := P
      subst hv
      clear keep
      replace Nn := sub_news (l' := NL) Nn (fun p hp => by (repeat (first | exact hp | refine List.mem_cons_of_mem _ ?_)))
      revert Fn Nn
      repeat (rename Fr _ _ _ _ => Fz; clear Fz)
      repeat (rename News _ _ _ _ => Nz; clear Nz)
      intro Fn Nn
      try k_fold
      k_steps
      rename IntsAre _ (List.take _ as) => iX2
      rename IntsAre _ (List.drop _ bs) => iY2
      rename Fr _ _ _ _ => F10
      rename News _ _ _ _ => N10
      unfold Stop
      clear lX lY
      have lX : (List.take kI.toNat as).length ≤ 800 := by simp only [List.length_take, List.length_drop]; omega
      have lY : (List.drop iI.toNat bs).length ≤ 800 := by simp only [List.length_take, List.length_drop]; omega
      have hmany2 := List.length_filter_le (fun x => decide ((mI + iI) ≤ x)) W
      have hmany3 := List.length_filter_le (fun x => decide ((mI + iI) ≤ x)) (List.take (mI - kI).toNat S)
      have hmanyL3 : (List.take (mI - kI).toNat S).length ≤ 800 := by simp only [List.length_take]; omega
      k_dflt (refine FzC.use (edit_c _ _ _ _ _ _ _ _ _ _ _ _ iX2 iY2 (Nat.lt_of_le_of_lt lX (by omega)) (Nat.lt_of_le_of_lt lY (by omega)) _ _) (by k_asm) F10 (by k_asm) N10 (by k_asm) rfl (by ktr_room) (by ktr_units) ⟨News.isList N10 (by k_mem), News.isList N10 (by k_mem)⟩ ?_)
      intro v h' tk' Fn Nn keep P
      obtain ⟨tq6, hv⟩ := P
      subst hv
      clear keep
      replace Nn := sub_news (l' := NL) Nn (fun p hp => by (repeat (first | exact hp | refine List.mem_cons_of_mem _ ?_)))
      revert Fn Nn
      repeat (rename Fr _ _ _ _ => Fz; clear Fz)
      repeat (rename News _ _ _ _ => Nz; clear Nz)
      intro Fn Nn
      try k_fold
      k_steps
      rename IntsAre _ (List.take _ as) => iX4
      rename IntsAre _ (List.drop _ bs) => iY4
      rename Fr _ _ _ _ => F10
      rename News _ _ _ _ => N10
      unfold Stop
      k_dflt (refine FzC.use (far_c _ _ _ _ _ _ _ _ _ _ _ _ iX4 iY4 (Nat.lt_of_le_of_lt lX (by omega)) (Nat.lt_of_le_of_lt lY (by omega)) _ _ (by omega)) (by k_asm) F10 (by k_asm) N10 (by k_asm) rfl (by ktr_room) (by ktr_units) ⟨News.isList N10 (by k_mem), News.isList N10 (by k_mem)⟩ ?_)
      intro v h' tk' Fn Nn keep P
      obtain ⟨tq7, hv⟩ := P
      subst hv
      clear keep
      replace Nn := sub_news (l' := NL) Nn (fun p hp => by (repeat (first | exact hp | refine List.mem_cons_of_mem _ ?_)))
      revert Fn Nn
      repeat (rename Fr _ _ _ _ => Fz; clear Fz)
      repeat (rename News _ _ _ _ => Nz; clear Nz)
      intro Fn Nn
      have hEq2 : DD cI (List.take kI.toNat as) (List.drop iI.toNat bs) (List.take kI.toNat as).length (List.drop iI.toNat bs).length = (List.take kI.toNat as).length + (List.drop iI.toNat bs).length - 2 * (nI - iI - ((List.filter (fun x => decide ((mI + iI) ≤ x)) W).length : Nat) - ((List.filter (fun x => decide ((mI + iI) ≤ x)) (List.take (mI - kI).toNat S)).length : Nat)) := law3i hσ hAl hBl m0 n0 c0 qk0 qk2 qi0 qi2
      try k_fold
      k_steps
      rename Fr _ _ _ _ => F10
      rename News _ _ _ _ => N10
      unfold Stop
      k_dflt (refine FzC.use (many_c _ _ _ _ _ _ _ _ _ jB (by omega) _ _) (by k_asm) F10 (by k_asm) N10 (by k_asm) rfl (by ktr_room) (by ktr_units) (News.isList N10 (by k_mem)) ?_)
      intro v h' tk' Fn Nn keep P
      obtain ⟨tq8, hv⟩ := P
      subst hv
      clear keep
      replace Nn := sub_news (l' := NL) Nn (fun p hp => by (repeat (first | exact hp | refine List.mem_cons_of_mem _ ?_)))
      revert Fn Nn
      repeat (rename Fr _ _ _ _ => Fz; clear Fz)
      repeat (rename News _ _ _ _ => Nz; clear Nz)
      intro Fn Nn
      try k_fold
      k_steps
      rename IntsAre _ (List.take _ S) => iS2
      rename Fr _ _ _ _ => F10
      rename News _ _ _ _ => N10
      unfold Stop
      k_dflt (refine FzC.use (many_c _ _ _ _ _ _ _ _ _ iS2 (by simp only [List.length_take]; omega) _ _) (by k_asm) F10 (by k_asm) N10 (by k_asm) rfl (by ktr_room) (by ktr_units) (News.isList N10 (by k_mem)) ?_)
      intro v h' tk' Fn Nn keep P
      obtain ⟨tq9, hv⟩ := P
      subst hv
      clear keep
      replace Nn := sub_news (l' := NL) Nn (fun p hp => by (repeat (first | exact hp | refine List.mem_cons_of_mem _ ?_)))
      revert Fn Nn
      repeat (rename Fr _ _ _ _ => Fz; clear Fz)
      repeat (rename News _ _ _ _ => Nz; clear Nz)
      intro Fn Nn
      have qkr : 0 ≤ kI + rI := by clear lX lY hmany hmanyL hmany2 hmany3 hmanyL3 hEq hEq2; omega
      have lAs : as.length ≤ 3 := by omega
      have lBs : bs.length ≤ 5 := by omega
      have lWn : W.length ≤ 5 := by omega
      have lSn : S.length ≤ 3 := by omega
      have lVa : va.length ≤ 3 := by have := iA.length; omega
      have lVb : vb.length ≤ 5 := by have := iB.length; omega
      have hEq3 := law4i hσ hAl hBl m0 n0 c0 qk0 qq0 qq2 (t := min (kI + rI).toNat as.length - kI.toNat) (by clear lX lY hmany hmanyL hmany2 hmany3 hmanyL3 hEq hEq2; omega)
      have hm4 : (List.filter (fun x => decide (mI - kI ≤ x)) W).length ≤ 5 := Nat.le_trans (List.length_filter_le _ _) lWn
      have hm5 : (List.filter (fun x => decide (mI - kI ≤ x)) (List.take (mI - (kI + rI)).toNat S)).length ≤ 3 := Nat.le_trans (List.length_filter_le _ _) (Nat.le_trans (by rw [List.length_take]; exact Nat.min_le_right _ _) lSn)
      have hst : -1000 ≤ nI - ((List.filter (fun x => decide (mI - kI ≤ x)) W).length : Nat) - ((List.filter (fun x => decide (mI - kI ≤ x)) (List.take (mI - (kI + rI)).toNat S)).length : Nat) ∧ nI - ((List.filter (fun x => decide (mI - kI ≤ x)) W).length : Nat) - ((List.filter (fun x => decide (mI - kI ≤ x)) (List.take (mI - (kI + rI)).toNat S)).length : Nat) ≤ 1000 := by clear lX lY hmany hmanyL hmany2 hmany3 hmanyL3 hEq hEq2; omega
      clear lX lY hmany hmanyL hmany2 hmany3 hmanyL3 hEq hEq2 iX iY iX2 iY2 iX3 iY3 iX4 iY4 iS1 iS2 hm4 hm5 hAl hBl hl hl0 lA lB m1 n1 mne nne qne qk1 qq0 qq1 qi0 qi1 qk2 qi2 qq2
      repeat (rename List.length _ = min _ _ => hz; clear hz)
      repeat (rename List.length _ ≤ List.length _ => hz; clear hz)
      try k_fold
      k_steps
      rename IntsAre _ (List.take _ (List.drop _ as)) => iX5
      rename Fr _ _ _ _ => F10
      rename News _ _ _ _ => N10
      unfold Stop
      have lX : (List.take (min (kI + rI).toNat as.length - kI.toNat) (List.drop kI.toNat as)).length ≤ 800 := by rw [List.length_take, List.length_drop]; exact Nat.le_trans (Nat.min_le_right _ _) (by omega)
      have lY : bs.length ≤ 800 := by omega
      k_dflt (refine FzC.use (edit_c _ _ _ _ _ _ _ _ _ _ _ _ iX5 iB (Nat.lt_of_le_of_lt lX (by omega)) (Nat.lt_of_le_of_lt lY (by omega)) _ _) (by k_asm) F10 (by k_asm) N10 (by k_asm) rfl (by ktr_room) (by ktr_units) ⟨News.isList N10 (by k_mem), News.isList N10 (by k_mem)⟩ ?_)
      intro v h' tk' Fn Nn keep P
      obtain ⟨tq10, hv⟩ := P
      subst hv
      clear keep
      replace Nn := sub_news (l' := NL) Nn (fun p hp => by (repeat (first | exact hp | refine List.mem_cons_of_mem _ ?_)))
      revert Fn Nn
      repeat (rename Fr _ _ _ _ => Fz; clear Fz)
      repeat (rename News _ _ _ _ => Nz; clear Nz)
      intro Fn Nn
      try k_fold
      k_steps
      rename IntsAre _ (List.take _ (List.drop _ as)) => iX6
      rename Fr _ _ _ _ => F10
      rename News _ _ _ _ => N10
      unfold Stop
      k_dflt (refine FzC.use (far_c _ _ _ _ _ _ _ _ _ _ _ _ iX6 iB (Nat.lt_of_le_of_lt lX (by omega)) (Nat.lt_of_le_of_lt lY (by omega)) _ _ hst) (by k_asm) F10 (by k_asm) N10 (by k_asm) rfl (by ktr_room) (by ktr_units) ⟨News.isList N10 (by k_mem), News.isList N10 (by k_mem)⟩ ?_)
      intro v h' tk' Fn Nn keep P
      obtain ⟨tq11, hv⟩ := P
      subst hv
      clear keep
      replace Nn := sub_news (l' := NL) Nn (fun p hp => by (repeat (first | exact hp | refine List.mem_cons_of_mem _ ?_)))
      revert Fn Nn
      repeat (rename Fr _ _ _ _ => Fz; clear Fz)
      repeat (rename News _ _ _ _ => Nz; clear Nz)
      intro Fn Nn
      try k_fold
      k_steps
      done))
end Mine
theorem PySem.Challenge.cw_fe5011_02_holds : PySem.Challenge.rw_fe5011_02.Holds :=
  Mine.main2
