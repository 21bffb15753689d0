import PyProof.Rows.All
import Wide.All
import OpenK.AllK
import Wide.FinOn
import PySem.Challenge.RW_fe5011_01
open PySem PySem.W PyProof.Rows PySem.Calls PySem.Spec
set_option Elab.async false
set_option maxRecDepth 100000
set_option maxHeartbeats 8000000
set_option linter.all false
set_option pp.deepTerms false
set_option pp.deepTerms.threshold 3
set_option pp.maxSteps 100000
namespace Mine
open_top hd1 for PySem.Challenge.rw_fe5011_01
theorem top_off : True := by w_top off; trivial
end Mine
namespace Mine
abbrev FnC (prog : Program) (w : World) (K : Frag) (p : Program) (loose : List Str) (mean : ExcName → Option Value) (mg mb : Str → Option Value) (f : Addr) (news : List (Addr × Obj)) (vs : List Value) (kw : List (Str × Value)) (depth : Nat)
   (Ret : Heap → Addr → (Str → Option Value) → Shared → (Value → Shared → Prop) → Prop) : Prop :=
  ∀ (dp un : Nat) (gd : Option (List Code)) (cn : Str) (cs : Scope) (a : Addr) (ccd : Value) (cl : List (Str × Addr)) (outer : List Env) (A₀ : Around) (base h₀ : Heap) (L : Addr) (m : Str → Option Value) (s : Shared) (Q E : Value → Shared → Prop),
    Below A₀ base outer h₀ → Fr h₀ L s.heap m → K.In h₀ → News h₀ L s.heap news → Top p loose mean mg mb h₀ → cs.kind = .function →
    dp + depth < recursionLimit → un + 8 * depth < cLine → Ret h₀ L m s Q →
      wpAny (model prog w) (ktrTop dp un gd cn cs L a ccd cl outer) (call (.ref f) vs kw) Q E s

section
variable {prog : Program} {w : World} {A : Around} {E : Value → Shared → Prop} {s : Shared} {h₀ : Heap} {L D : Addr} {m : Str → Option Value} {news news' : List (Addr × Obj)} {vs : List Value} {ns : List Int} {n : Nat} {k x : Int} {t u : Tok}
theorem sub_ref {value slice : PySem.Expr} {v : Value} {Q : Value → Shared → Prop} (N : News h₀ L s.heap news) (hm : (D, listOf vs.toArray n) ∈ news) (h0 : 0 ≤ k) (hfit : k < 2 ^ 63) (hx : vs[k.toNat]? = some v) (h : Q v s)
    (hs : subscripted slice false (.ref D) (.int k u) = operate [.ref D, .int k u] (getItem (.ref D) (.int k u)) := by with_unfolding_all rfl) :
    wpAny (model prog w) A (subscriptTail value slice (.ref D) (.int k u)) Q E s :=
  have hl : s.heap.IsList D vs.toArray := PySem.IsL.isList (n := n) (N _ hm).1
  tail_any hl.typeIs slot_list_getitem.lookup (wpAny_getItem_list hl h0 hfit (by simpa using hx) h) hs
end
section
variable {prog : Program} {w : World} {A : Around} {E : Value → Shared → Prop} {s : Shared}
theorem min4_args (a b c d : Value) : argsOk "min" ⟨[a, b, c, d], []⟩ := by unfold argsOk; kernel_rfl
theorem best_step (f : Nat → Int) (k : Nat) : f (argBest (fun i j => decide (f i < f j)) (k + 1)) = min (f (argBest (fun i j => decide (f i < f j)) k)) (f (k + 1)) := by
  show f (if decide (f (k + 1) < f (argBest (fun i j => decide (f i < f j)) k)) = true then k + 1 else argBest (fun i j => decide (f i < f j)) k) = _
  generalize argBest (fun i j => decide (f i < f j)) k = z
  by_cases c : f (k + 1) < f z
  · rw [if_pos (decide_eq_true c)]; omega
  · rw [if_neg (by simp [c])]; omega
theorem best_three (f : Nat → Int) : f (argBest (fun i j => decide (f i < f j)) 3) = min (min (min (f 0) (f 1)) (f 2)) (f 3) := by
  rw [best_step f 2, best_step f 1, best_step f 0]
  rfl
theorem min4 {h₀ : Heap} {L : Addr} {m : Str → Option Value} {news : List (Addr × Obj)} {a b c d : Int} {t u x y : Tok} {Q : Value → Shared → Prop} (hh : A.handled = none) (hF : Fr h₀ L s.heap m) (N : News h₀ L s.heap news)
    (h : ∀ r h' tk, Fr h₀ L h' m → News h₀ L h' news → Q (.int (min (min (min a b) c) d) r) { s with heap := h', toks := tk }) :
    wpAny (model prog w) A (call (.builtin "min") [.int a t, .int b u, .int c x, .int d y]) Q E s := by
  let its : List (Int × Tok) := [(a, t), (b, u), (c, x), (d, y)]
  let h1 := s.heap.push { cls := .type "tuple", data := .seq #[.int a t, .int b u, .int c x, .int d y] }
  have hT : h1.IsTuple s.heap.objs.size (intItems its.toArray) := ⟨_, Heap.get?_push_size _ rfl, rfl, 0, by simp [intItems, its]⟩
  have hz : h1.objs.size = s.heap.objs.size + 1 := Heap.size_push ..
  refine call_function_tree F.kind_min F.plain_min F.entry_min (min4_args _ _ _ _) ?_
  refine wpAny_bind (wpAny_of_eq (show Builtin.Builtins.bindParams "min" ["key", "default"] 0 ⟨[], []⟩ = pure [none, none] from rfl) ?_)
  show wpAny _ A.in1 (newTuple [_, _, _, _] >>= _) _ _ s
  refine wpAny_bind (wpAny_newObj_type ?_)
  show wpAny _ A.in1 (pyIter (.ref s.heap.objs.size) >>= _) _ _ { s with heap := h1 }
  refine wpAny_bind (wpAny_pyIter_tuple (s := { s with heap := h1 }) hT ?_)
  refine wpAny_bind (wpAny_newObj_type ?_)
  have hname : (toString "min" ++ toString ".loop" : String) = "min.loop" := by decide
  rw [hname]
  have W := Walks.tuple (prog := prog) (w := w) (A := A.in1) hh h1.objs.size s.heap.objs.size (by rw [hz]; exact Nat.ne_of_lt (Nat.lt_succ_self _)) (intItems its.toArray)
  have hsize : (h1.push { cls := .type "tuple_iterator", data := .fields #[.ref s.heap.objs.size, .int 0 0] }).objs.size = s.heap.objs.size + 2 := by rw [Heap.size_push, hz]
  refine wpAny_pure ⟨plainId_quiet F.plain_min_loop _, codeAny_min_loop_first W _ (CmpOf.ints_lt (numAt its.toArray) (fun _ _ => intItems_at)) _ ?_ (by simp [intItems, its]) ?_ (Heap.get?_push_size _ rfl) fun v h' tk hP hk => ?_⟩
  · intro hm
    rcases List.mem_cons.mp hm with e | hm
    · have e' : @Eq Nat (h1.push { cls := .type "tuple_iterator", data := .fields #[.ref s.heap.objs.size, .int 0 0] }).objs.size h1.objs.size := e
      omega
    · have e' : @Eq Nat (h1.push { cls := .type "tuple_iterator", data := .fields #[.ref s.heap.objs.size, .int 0 0] }).objs.size s.heap.objs.size := List.mem_singleton.mp hm
      omega
  · exact ⟨⟨_, Heap.get?_push_of_some _ (Heap.get?_push_size _ rfl), rfl, rfl⟩, (hT.push _).push _⟩
  · have hold : ∀ d o, s.heap.get? d = some o → h'.get? d = some o := fun d o e => by
      have hlt : @LT.lt Nat _ d s.heap.objs.size := Heap.lt_size e
      refine hk d o (fun hm => ?_) (Nat.ne_of_lt (by rw [hsize]; exact Nat.lt_succ_of_lt (Nat.lt_succ_of_lt hlt))) (Heap.get?_push_of_some _ (Heap.get?_push_of_some _ (Heap.get?_push_of_some _ e)))
      have e' : @Eq Nat d h1.objs.size := List.mem_singleton.mp hm
      omega
    have e3 : (intItems its.toArray).size - 1 = 3 := by simp [intItems, its]
    have hP' : (intItems its.toArray)[argBest (fun i j => decide (numAt its.toArray i < numAt its.toArray j)) 3]? = some v := by rw [← e3]; exact hP
    obtain ⟨r, rfl⟩ := intItems_at hP'
    rw [best_three (numAt its.toArray)]
    exact h r h' tk (hF.grownK hold) (N.grown hold)
end

def Stop (P : Prop) : Prop := P
theorem Stop.out {P : Prop} (h : Stop P) : P := h
section
variable {prog : Program} {w : World} {A : Around} {E : Value → Shared → Prop} {s : Shared} {env : Env} {h₀ : Heap} {x : Str} {body : List Stmt} {Q : Flow → Shared → Prop}
/-- how a turn leaves the frame and the ledger -/
def Leaves {S : Type} (stored : List Str) (x : Str) (enc : S → Str → Option Value) (led : S → List (Addr × Obj)) (I : S → Prop) (m' : Str → Option Value) (nx : List (Addr × Obj)) : Prop :=
  ∃ σ', I σ' ∧ nx = led σ' ∧ ∀ z, z ≠ x → stored.contains z = false → m' z = enc σ' z
theorem Leaves.fin {S : Type} {stored : List Str} {enc : S → Str → Option Value} {led : S → List (Addr × Obj)} {I : S → Prop} {L : Addr} {own news' : List (Addr × Obj)} {s₁ : Shared} {h' : Heap} {tk : Nat} {m' : Str → Option Value}
    (σ' : S) (F : Fr h₀ L h' m') (N : News h₀ L h' news') (hi : I σ') (hsub : ∀ p ∈ led σ', p ∈ news') (hown : ∀ p ∈ own, p ∈ news') (hoff : TbOff own (led σ')) (hm : ∀ z, z ≠ x → stored.contains z = false → m' z = enc σ' z) :
    TbEnd h₀ L (Leaves stored x enc led I) own s₁ { s₁ with heap := h', toks := tk } :=
  ⟨h', tk, m', news', led σ', rfl, F, N, hsub, hown, hoff, σ', hi, rfl, hm⟩
theorem frame_split {v : Option Value} {m : Str → Option Value} {e : Str → Option Value} {stored : List Str} (hm : ∀ z, z ≠ x → stored.contains z = false → m z = e z) :
    (fun y => if y = x then v else m y) = fun z => if z = x then v else if stored.contains z then m z else e z := by
  funext z
  by_cases h1 : z = x
  · simp only [if_pos h1]
  · simp only [if_neg h1]
    cases h2 : stored.contains z with
    | true => simp
    | false => simp only [Bool.false_eq_true, if_false]; exact hm z h1 h2
theorem frame_split' {m : Str → Option Value} {e : Str → Option Value} {stored : List Str} (hm : ∀ z, z ≠ x → stored.contains z = false → m z = e z) :
    m = fun z => if z = x then m z else if stored.contains z then m z else e z := by
  funext z
  by_cases h1 : z = x
  · simp only [if_pos h1]
  · simp only [if_neg h1]
    cases h2 : stored.contains z with
    | true => simp
    | false => simp only [Bool.false_eq_true, if_false]; exact hm z h1 h2
theorem loopR {S : Type} {r : Addr} {a₀ b₀ : Int} {t₀ u₀ v₀ : Tok} {n : Nat} {m₀ : Str → Option Value} {news : List (Addr × Obj)} (stored : List Str) (enc : S → Str → Option Value) (led : S → List (Addr × Obj)) (I : Nat → S → Prop) (σ₀ : S)
    (hh : A.handled = none) (hr : IsRange s.heap r a₀ b₀ 1 t₀ u₀ v₀) (hb : -1000000 ≤ a₀ ∧ a₀ ≤ 1000000 ∧ -1000000 ≤ b₀ ∧ b₀ ≤ 1000000) (hn : n = (b₀ - a₀).toNat) (F : Fr h₀ env.locals s.heap m₀) (N : News h₀ env.locals s.heap news)
    (h0 : I 0 σ₀) (hled : ∀ p ∈ led σ₀, p ∈ news) (hm : ∀ z, z ≠ x → stored.contains z = false → m₀ z = enc σ₀ z)
    (turn : ∀ i t σ (u : Str → Option Value) h tk own, i < n → I i σ → TbOff own (led σ) → Fr h₀ env.locals h (fun z => if z = x then some (.int (a₀ + (i : Int)) t) else if stored.contains z then u z else enc σ z) → News h₀ env.locals h (led σ ++ own) →
      wpAny (model prog w) A (execs body env) (TbPost h₀ env.locals (Leaves stored x enc led (I (i + 1))) own { s with heap := h, toks := tk } Q) E { s with heap := h, toks := tk })
    (done : ∀ σ (u : Str → Option Value) h tk, I n σ → Fr h₀ env.locals h (fun z => if z = x then u z else if stored.contains z then u z else enc σ z) → News h₀ env.locals h (led σ) → Q .next { s with heap := h, toks := tk }) :
    wpAny (model prog w) A (pyIter (.ref r)) (fun it s₂ => LoopAtV prog w A h₀ env x body Q E it s₂) E s := by
  refine tbr_invG (news := led σ₀) (fun i m nx => Leaves stored x enc led (I i) m nx) hh hr (small_one (by omega) (by omega) (by omega) (by omega)) (n := n) (hn ▸ rangeSize_nat a₀ b₀) F (fun p hp => N p (hled p hp)) ⟨σ₀, h0, rfl, hm⟩ ?_ ?_
  · rintro i k t m₁ nx h tk own hk hoff ⟨σ, hI, rfl, hm₁⟩ F₁ N₁
    have hi : i < n := by
      have := (List.getElem?_eq_some_iff.mp hk).1
      rwa [rangeKs_length] at this
    have hk' : k = a₀ + (i : Int) := by
      simp [rangeKs, hi] at hk
      omega
    subst hk'
    rw [frame_split hm₁] at F₁
    exact turn i t σ m₁ h tk own hi hI hoff F₁ N₁
  · rintro m₁ nx h tk ⟨σ, hI, rfl, hm₁⟩ F₁ N₁
    rw [frame_split' hm₁] at F₁
    exact done σ m₁ h tk hI F₁ N₁
end

section
variable {prog : Program} {w : World} {A : Around} {E : Value → Shared → Prop} {s : Shared} {env : Env} {h₀ : Heap} {x : Str} {body : List Stmt} {Q : Flow → Shared → Prop}
/-- a loop over a range whose turn stores no name but those of 'stored', which are forgotten -/
theorem loopR0 {S : Type} {r : Addr} {a₀ b₀ : Int} {t₀ u₀ v₀ : Tok} {n : Nat} {m₀ : Str → Option Value} {news : List (Addr × Obj)} (stored : List Str) (led : S → List (Addr × Obj)) (I : Nat → S → Prop) (σ₀ : S)
    (hh : A.handled = none) (hr : IsRange s.heap r a₀ b₀ 1 t₀ u₀ v₀) (hb : -1000000 ≤ a₀ ∧ a₀ ≤ 1000000 ∧ -1000000 ≤ b₀ ∧ b₀ ≤ 1000000) (hn : n = (b₀ - a₀).toNat) (F : Fr h₀ env.locals s.heap m₀) (N : News h₀ env.locals s.heap news)
    (h0 : I 0 σ₀) (hled : ∀ p ∈ led σ₀, p ∈ news)
    (turn : ∀ i t σ (u : Str → Option Value) h tk own, i < n → I i σ → TbOff own (led σ) → Fr h₀ env.locals h (fun z => if z = x then some (.int (a₀ + (i : Int)) t) else if stored.contains z then u z else m₀ z) → News h₀ env.locals h (led σ ++ own) →
      wpAny (model prog w) A (execs body env) (TbPost h₀ env.locals (Leaves stored x (fun _ => m₀) led (I (i + 1))) own { s with heap := h, toks := tk } Q) E { s with heap := h, toks := tk })
    (done : ∀ σ (u : Str → Option Value) h tk, I n σ → Fr h₀ env.locals h (fun z => if z = x then u z else if stored.contains z then u z else m₀ z) → News h₀ env.locals h (led σ) → Q .next { s with heap := h, toks := tk }) :
    wpAny (model prog w) A (pyIter (.ref r)) (fun it s₂ => LoopAtV prog w A h₀ env x body Q E it s₂) E s :=
  loopR stored (fun _ => m₀) led I σ₀ hh hr hb hn F N h0 hled (fun _ _ _ => rfl) turn done
end
/-- rows of ints, each a list of its own -/
inductive RowsAre : List (Addr × Obj) → List (List Int) → Prop
  | nil : RowsAre [] []
  | cons {a : Addr} {vs : List Value} {ns : List Int} {n : Nat} {R : List (Addr × Obj)} {g : List (List Int)} : IntsAre vs ns → RowsAre R g → RowsAre ((a, listOf vs.toArray n) :: R) (ns :: g)
theorem RowsAre.length {R : List (Addr × Obj)} {g : List (List Int)} (h : RowsAre R g) : R.length = g.length := by
  induction h with
  | nil => rfl
  | cons _ _ ih => simp [ih]
theorem RowsAre.get {R : List (Addr × Obj)} {g : List (List Int)} (h : RowsAre R g) : ∀ {i : Nat} {ns : List Int}, g[i]? = some ns → ∃ a vs n, R[i]? = some (a, listOf vs.toArray n) ∧ IntsAre vs ns := by
  induction h with
  | nil => intro i ns h; simp at h
  | @cons a vs ns n R g hi _ ih =>
    intro i ns' h
    cases i with
    | zero => simp at h; subst h; exact ⟨a, vs, n, by simp, hi⟩
    | succ i => rw [List.getElem?_cons_succ] at h ⊢; exact ih h
theorem RowsAre.snoc {R : List (Addr × Obj)} {g : List (List Int)} (h : RowsAre R g) {a : Addr} {vs : List Value} {ns : List Int} {n : Nat} (hi : IntsAre vs ns) : RowsAre (R ++ [(a, listOf vs.toArray n)]) (g ++ [ns]) := by
  induction h with
  | nil => exact .cons hi .nil
  | cons hj _ ih => exact .cons hj ih
theorem RowsAre.set {R : List (Addr × Obj)} {g : List (List Int)} (h : RowsAre R g) {a : Addr} {vs : List Value} {ns : List Int} {n : Nat} (hi : IntsAre vs ns) : ∀ i : Nat, RowsAre (R.set i (a, listOf vs.toArray n)) (g.set i ns) := by
  induction h with
  | nil => intro i; exact .nil
  | cons hj hr ih =>
    intro i
    cases i with
    | zero => exact .cons hi hr
    | succ i => exact .cons hj (ih i)
theorem ints_replicate (t : Tok) (x : Int) : ∀ n : Nat, IntsAre (List.replicate n (Value.int x t)) (List.replicate n x)
  | 0 => .nil
  | n + 1 => .cons x t (ints_replicate t x n)
theorem ref_at {h₀ h : Heap} {L : Addr} {m : Str → Option Value} (_F : Fr h₀ L h m) (x : Str) {l : Addr} (_e : m x = some (.ref l)) : ∃ la, la = l := ⟨l, rfl⟩
theorem head_at {h₀ h : Heap} {L : Addr} {a : Addr} {o : Obj} {r : List (Addr × Obj)} (_N : News h₀ L h ((a, o) :: r)) : ∃ d o', d = a ∧ o' = o := ⟨a, o, rfl, rfl⟩
theorem allLt_mem {d : Addr} : ∀ {l : List (Addr × Obj)}, AllLt d l → ∀ p ∈ l, p.1 < d
  | [], _, _, hp => (nomatch hp)
  | q :: r, h, p, hp => by
    rcases List.mem_cons.mp hp with rfl | hp
    · exact h.1
    · exact allLt_mem h.2 p hp
/-- a ledger less what stands at one address -/
def off (r : Addr) (l : List (Addr × Obj)) : List (Addr × Obj) := l.filter fun p => decide (p.1 ≠ r)
theorem off_ne {r : Addr} {l : List (Addr × Obj)} : ∀ p ∈ off r l, p.1 ≠ r := fun p hp => by
  have := (List.mem_filter.mp hp).2
  exact of_decide_eq_true this
theorem off_sub {r : Addr} {l : List (Addr × Obj)} : ∀ p ∈ off r l, p ∈ l := fun _ hp => (List.mem_filter.mp hp).1
theorem mem_off {r : Addr} {l : List (Addr × Obj)} {p : Addr × Obj} (hp : p ∈ l) (hn : p.1 ≠ r) : p ∈ off r l := List.mem_filter.mpr ⟨hp, decide_eq_true hn⟩
theorem focus {h₀ h : Heap} {L r : Addr} {o : Obj} {l : List (Addr × Obj)} (N : News h₀ L h l) (hm : (r, o) ∈ l) : News h₀ L h ((r, o) :: off r l) := fun p hp => by
  rcases List.mem_cons.mp hp with rfl | hp
  · exact N _ hm
  · exact N _ (off_sub p hp)
theorem sub_news {h₀ h : Heap} {L : Addr} {l l' : List (Addr × Obj)} (N : News h₀ L h l) (hs : ∀ p ∈ l', p ∈ l) : News h₀ L h l' := fun p hp => N p (hs p hp)

def cell (g : List (List Int)) (r c : Nat) : Int := (g.getD r []).getD c 0
def Shape (g : List (List Int)) (n1 n2 : Nat) : Prop := g.length = n1 ∧ ∀ r, r < n1 → (g.getD r []).length = n2
theorem Shape.at {g : List (List Int)} {n1 n2 : Nat} (h : Shape g n1 n2) {r : Nat} (hr : r < n1) : g[r]? = some (g.getD r []) := by
  have : r < g.length := by rw [h.1]; exact hr
  simp [List.getD, List.getElem?_eq_getElem this]
theorem getD_set_ne {α : Type} {l : List α} {i j : Nat} {x d : α} (h : i ≠ j) : (l.set i x).getD j d = l.getD j d := by
  simp [List.getD, List.getElem?_set_ne h]
theorem getD_set_self {α : Type} {l : List α} {i : Nat} {x d : α} (h : i < l.length) : (l.set i x).getD i d = x := by
  simp [List.getD, List.getElem?_set_self h]
theorem Shape.put {g : List (List Int)} {n1 n2 : Nat} (h : Shape g n1 n2) {r : Nat} (hr : r < n1) {row : List Int} (hw : row.length = n2) : Shape (g.set r row) n1 n2 := by
  refine ⟨by rw [List.length_set]; exact h.1, fun r' hr' => ?_⟩
  by_cases e : r = r'
  · subst e; rw [getD_set_self (by rw [h.1]; exact hr)]; exact hw
  · rw [getD_set_ne e]; exact h.2 r' hr'
theorem cell_put {g : List (List Int)} {n1 n2 : Nat} (h : Shape g n1 n2) {r c : Nat} (hr : r < n1) (hc : c < n2) {x : Int} (r' c' : Nat) :
    cell (g.set r ((g.getD r []).set c x)) r' c' = if r' = r ∧ c' = c then x else cell g r' c' := by
  unfold cell
  by_cases e : r = r'
  · subst e
    rw [getD_set_self (by rw [h.1]; exact hr)]
    by_cases f : c = c'
    · subst f; rw [getD_set_self (by rw [h.2 r hr]; exact hc)]; simp
    · rw [getD_set_ne f, if_neg (by omega)]
  · rw [getD_set_ne e, if_neg (by omega)]
theorem set_self_getD {g : List (List Int)} {r : Nat} : g.set r (g.getD r []) = g := by
  apply List.ext_getElem?
  intro i
  by_cases e : r = i
  · subst e
    by_cases h : r < g.length
    · rw [List.getElem?_set_self h]; simp [List.getD, List.getElem?_eq_getElem h]
    · rw [List.getElem?_eq_none (by simp; omega), List.getElem?_eq_none (by omega)]
  · rw [List.getElem?_set_ne e]
/-- the rows' ledger R bears the table g at the addresses A -/
structure Mat (A : List Addr) (R : List (Addr × Obj)) (g : List (List Int)) : Prop where
  adr : R.map (·.1) = A
  rows : RowsAre R g
theorem Mat.row {A : List Addr} {R : List (Addr × Obj)} {g : List (List Int)} {n1 n2 i : Nat} (M : Mat A R g) (h : Shape g n1 n2) (hi : i < n1) :
    ∃ a vs n, R[i]? = some (a, listOf vs.toArray n) ∧ IntsAre vs (g.getD i []) ∧ A[i]? = some a := by
  obtain ⟨a, vs, n, e, hi'⟩ := M.rows.get (h.at hi)
  exact ⟨a, vs, n, e, hi', by rw [← M.adr, List.getElem?_map, e]; rfl⟩
theorem Mat.put {A : List Addr} {R : List (Addr × Obj)} {g : List (List Int)} {i : Nat} {a : Addr} {o : Obj} (M : Mat A R g) (hR : R[i]? = some (a, o)) {vs : List Value} {ns : List Int} {n : Nat} (hi : IntsAre vs ns) :
    Mat A (R.set i (a, listOf vs.toArray n)) (g.set i ns) := by
  refine ⟨?_, M.rows.set hi i⟩
  rw [← M.adr, List.map_set]
  apply List.ext_getElem?
  intro j
  by_cases e : i = j
  · subst e
    have hl : i < (R.map (·.1)).length := by rw [List.length_map]; exact (List.getElem?_eq_some_iff.mp hR).1
    rw [List.getElem?_set_self hl, List.getElem?_map, hR]; rfl
  · rw [List.getElem?_set_ne e]
theorem mem_set_off {R : List (Addr × Obj)} {i : Nat} {r : Addr} {o o' : Obj} (hnd : (R.map (·.1)).Nodup) (hR : R[i]? = some (r, o)) : ∀ p ∈ R.set i (r, o'), p = (r, o') ∨ (p ∈ R ∧ p.1 ≠ r) := by
  intro p hp
  obtain ⟨j, hj⟩ := List.mem_iff_getElem?.mp hp
  by_cases e : i = j
  · subst e
    have hl : i < R.length := (List.getElem?_eq_some_iff.mp hR).1
    rw [List.getElem?_set_self hl] at hj
    exact Or.inl (Option.some.inj hj).symm
  · rw [List.getElem?_set_ne e] at hj
    refine Or.inr ⟨List.mem_of_getElem? hj, fun q => e ?_⟩
    have hl : i < (R.map (·.1)).length := by rw [List.length_map]; exact (List.getElem?_eq_some_iff.mp hR).1
    exact (List.getElem?_inj hl hnd).mp (by rw [List.getElem?_map, List.getElem?_map, hR, hj]; simp [q])
section
variable {la r : Addr} {V o o' : Obj} {R base own : List (Addr × Obj)} {i : Nat}
theorem put_sub (hnd : (R.map (·.1)).Nodup) (hR : R[i]? = some (r, o)) (hl : la ≠ r) (hb : ∀ p ∈ base, p.1 ≠ r) : ∀ p ∈ (la, V) :: (R.set i (r, o') ++ base), p ∈ (r, o') :: off r (((la, V) :: (R ++ base)) ++ own) := by
  intro p hp
  rcases List.mem_cons.mp hp with rfl | hp
  · exact List.mem_cons_of_mem _ (mem_off (List.mem_append_left _ (List.mem_cons_self ..)) hl)
  · rcases List.mem_append.mp hp with hp | hp
    · rcases mem_set_off hnd hR p hp with rfl | ⟨h1, h2⟩
      · exact List.mem_cons_self ..
      · exact List.mem_cons_of_mem _ (mem_off (List.mem_append_left _ (List.mem_cons_of_mem _ (List.mem_append_left _ h1))) h2)
    · exact List.mem_cons_of_mem _ (mem_off (List.mem_append_left _ (List.mem_cons_of_mem _ (List.mem_append_right _ hp))) (hb p hp))
theorem put_own (hoff : TbOff own ((la, V) :: (R ++ base))) (hR : R[i]? = some (r, o)) : ∀ p ∈ own, p ∈ (r, o') :: off r (((la, V) :: (R ++ base)) ++ own) := by
  intro p hp
  have := hoff p hp _ (List.mem_cons_of_mem _ (List.mem_append_left _ (List.mem_of_getElem? hR)))
  exact List.mem_cons_of_mem _ (mem_off (List.mem_append_right _ hp) this)
theorem put_off (hnd : (R.map (·.1)).Nodup) (hoff : TbOff own ((la, V) :: (R ++ base))) (hR : R[i]? = some (r, o)) : TbOff own ((la, V) :: (R.set i (r, o') ++ base)) := by
  intro p hp q hq
  rcases List.mem_cons.mp hq with rfl | hq
  · exact hoff p hp _ (List.mem_cons_self ..)
  · rcases List.mem_append.mp hq with hq | hq
    · rcases mem_set_off hnd hR q hq with rfl | ⟨h1, _⟩
      · have := hoff p hp _ (List.mem_cons_of_mem _ (List.mem_append_left _ (List.mem_of_getElem? hR)))
        exact this
      · exact hoff p hp _ (List.mem_cons_of_mem _ (List.mem_append_left _ h1))
    · exact hoff p hp _ (List.mem_cons_of_mem _ (List.mem_append_right _ hq))
end
open PyProof.V in
theorem dict_ne_locals {prog : Program} {w : World} {h₀ h : Heap} {L D : Addr} {m : Str → Option Value} {kvs : List (Int × Value)} {x : Str} {v : Value} (F : Fr h₀ L h m) (hx : m x = some v) (hd : h.DictOf (PySem.intKind prog w) D kvs) : D ≠ L := by
  rintro rfl
  obtain ⟨o, es, ep, ho, hdat, _, hm⟩ := F.ns
  obtain ⟨o', es', ep', ho', _, hdat', hko, _⟩ := hd
  rw [ho] at ho'
  cases ho'
  rw [hdat] at hdat'
  cases hdat'
  have h1 := hm x
  rw [hx] at h1
  unfold nsFind findBy at h1
  cases hf : es.find? (fun e => e.key.isStr x) with
  | none => rw [hf] at h1; cases h1
  | some e =>
    have h2 := Array.find?_some hf
    obtain ⟨k, hk, _⟩ := hko e (Array.mem_of_find?_eq_some hf)
    have h3 : e.key.isInt k = true := hk
    cases hkey : e.key <;> rw [hkey] at h2 h3 <;> simp [Value.isStr, Value.isInt] at h2 h3
open PyProof.V in
theorem putAll_zero : ∀ (ns : List Int) (c : List (Int × Int)), ns.foldl (fun acc a => putD (PyData.int a) (PyData.int 0) acc) (kdfD c) = kdfD (ns.foldl (fun c k => kdfPut c k 0) c)
  | [], _ => rfl
  | a :: r, c => by rw [List.foldl_cons, List.foldl_cons, kdfD_put]; exact putAll_zero r _
theorem has_zero : ∀ (ns : List Int) (c : List (Int × Int)) (x : Int), kdfHas c x = true ∨ x ∈ ns → kdfHas (ns.foldl (fun c k => kdfPut c k 0) c) x = true
  | [], _, _, h => by
    rcases h with h | h
    · exact h
    · cases h
  | a :: r, c, x, h => by
    rw [List.foldl_cons]
    refine has_zero r _ x ?_
    rw [kdyHas_put]
    rcases h with h | h
    · exact Or.inl (by rw [h, Bool.or_true])
    · rcases List.mem_cons.mp h with rfl | h
      · exact Or.inl (by simp)
      · exact Or.inr h
theorem len_zero : ∀ (ns : List Int) (c : List (Int × Int)), (ns.foldl (fun c k => kdfPut c k 0) c).length ≤ c.length + ns.length
  | [], _ => by simp
  | a :: r, c => by
    rw [List.foldl_cons]
    have h1 := len_zero r (kdfPut c a 0)
    have h2 := kdfPut_len c a 0
    rw [List.length_cons]
    omega
theorem news_add {h₀ h : Heap} {L d : Addr} {o : Obj} {news : List (Addr × Obj)} (N : News h₀ L h news) (ho : h.get? d = some o) (hL : d ≠ L) (hn : h₀.get? d = none) : News h₀ L h ((d, o) :: news) := fun p hp => by
  rcases List.mem_cons.mp hp with rfl | hp
  · exact ⟨ho, hL, hn⟩
  · exact N p hp
theorem value_map {v : Value} {k x : Int} (hx : x ≠ k) : ∀ kvs : List (Int × Value), valueAt (kvs.map fun kv => if kv.1 = k then (kv.1, v) else kv) x = valueAt kvs x
  | [] => rfl
  | (a, b) :: r => by
    have ih := value_map (v := v) hx r
    unfold valueAt at ih ⊢
    rw [List.map_cons, List.find?_cons, List.find?_cons]
    by_cases h1 : a = k
    · subst h1
      have h2 : ¬ a = x := fun q => hx q.symm
      simp only [if_true, h2, decide_false]
      exact ih
    · simp only [if_neg h1]
      by_cases h2 : a = x
      · simp [h2]
      · simp only [h2, decide_false]; exact ih
theorem value_map_self {v : Value} {k : Int} : ∀ kvs : List (Int × Value), kvs.any (fun kv => kv.1 = k) = true → valueAt (kvs.map fun kv => if kv.1 = k then (kv.1, v) else kv) k = some v
  | [], h => by simp at h
  | (a, b) :: r, h => by
    unfold valueAt
    rw [List.map_cons, List.find?_cons]
    by_cases h1 : a = k
    · simp [h1]
    · have e : (if a = k then (a, v) else (a, b)) = (a, b) := if_neg h1
      rw [e]
      simp only [h1, decide_false]
      exact value_map_self r (by simpa [h1] using h)
theorem value_stored (kvs : List (Int × Value)) (k x : Int) (v : Value) : valueAt (stored kvs k v) x = if x = k then some v else valueAt kvs x := by
  unfold stored
  by_cases h : kvs.any (fun kv => kv.1 = k) = true
  · rw [if_pos h]
    by_cases hx : x = k
    · subst hx; rw [if_pos rfl]; exact value_map_self kvs h
    · rw [if_neg hx]; exact value_map hx kvs
  · rw [if_neg h]
    unfold valueAt
    rw [List.find?_append]
    by_cases hx : x = k
    · subst hx
      have hn : kvs.find? (fun kv => decide (kv.1 = x)) = none := by
        rw [List.find?_eq_none]
        intro p hp hq
        exact h (List.any_eq_true.mpr ⟨p, hp, hq⟩)
      rw [hn]; simp
    · have hk : ¬ k = x := fun q => hx q.symm
      rw [if_neg hx]
      simp [hk]
/-- a dict of ints to ints, of a bounded size, that has the keys xs -/
def IntDict (prog : Program) (w : World) (o : Obj) (xs : List Int) (n : Nat) : Prop :=
  ∃ kvs : List (Int × Value), o.IsDictOf (PySem.intKind prog w) kvs ∧ kvs.length ≤ n ∧ ∀ x ∈ xs, ∃ z t, valueAt kvs x = some (.int z t)
open PyProof.V in
theorem IntDict.of_flat {prog : Program} {w : World} {o : Obj} {kvs : List (Int × Value)} {c : List (Int × Int)} {xs : List Int} {n : Nat} (hd : o.IsDictOf (PySem.intKind prog w) kvs) (hf : FlatPairs PyData.int kvs (kdfD c)) (hc : c.length ≤ n) (hx : ∀ x ∈ xs, kdfHas c x = true) : IntDict prog w o xs n := by
  refine ⟨kvs, hd, ?_, fun x hx' => ?_⟩
  · have := hf.length
    rw [kdfD_length] at this
    omega
  · obtain ⟨v, hv, hfl⟩ := hf.of_lookup PyProof.V.same_int (kdfD_item (hx x hx'))
    obtain ⟨t, rfl⟩ := PyProof.V.Flat.int_inv hfl
    exact ⟨_, t, hv⟩
section
variable {prog : Program} {w : World} {A : Around} {E : Value → Shared → Prop} {s : Shared} {h₀ : Heap} {L d : Addr} {m : Str → Option Value} {news rest : List (Addr × Obj)} {o : Obj} {xs : List Int} {n : Nat} {k : Int} {tk : Tok}
theorem idict_item {value slice : PySem.Expr} {Q : Value → Shared → Prop} (N : News h₀ L s.heap news) (hp : (d, o) ∈ news) (hd : IntDict prog w o xs n) (hk : k ∈ xs) (h : ∀ z t, Q (.int z t) { s with toks := s.toks + 1 })
    (hs : subscripted slice false (.ref d) (.int k tk) = operate [.ref d, .int k tk] (getItem (.ref d) (.int k tk)) := by with_unfolding_all rfl) (hg : ∀ r, letTemporaryGo value (.ref d) r = pure () := by intro _; with_unfolding_all rfl) :
    wpAny (model prog w) A (subscriptTail value slice (.ref d) (.int k tk)) Q E s := by
  obtain ⟨kvs, hd, _, hx⟩ := hd
  obtain ⟨z, t, hv⟩ := hx k hk
  exact kda_item N hp hd (intKind_is _ _ _ _) hv (h z t) hs hg
theorem idict_set {z : Int} {tz : Tok} {Q : Unit → Shared → Prop} (F : Fr h₀ L s.heap m) (N : News h₀ L s.heap ((d, o) :: rest)) (hne : ∀ p ∈ rest, p.1 ≠ d) (hd : IntDict prog w o xs n) (hn : n ≤ 10000)
    (h : ∀ h' o', Fr h₀ L h' m → News h₀ L h' ((d, o') :: rest) → IntDict prog w o' xs (n + 1) → Q () { s with heap := h', toks := s.toks + 1 }) :
    wpAny (model prog w) A (setItem (.ref d) (.int k tk) (.int z tz)) Q E s := by
  obtain ⟨kvs, hd, hlen, hx⟩ := hd
  refine kda_set F N (UpdF.head hne) hd (intKind_is _ _ _ _) (by rw [sizeLine_eq]; omega) fun h' o' F' N' hd' => h h' o' F' N' ⟨_, hd', ?_, fun x hx' => ?_⟩
  · have := stored_length_le kvs k (Value.int z tz)
    omega
  · rw [value_stored]
    split
    · exact ⟨z, tz, rfl⟩
    · exact hx x hx'
end

/-- how a def that only makes new things hands its answer on: all that stood stands -/
def Lz (g : Heap) (R : Result → Shared → Prop) (v : Value) (s' : Shared) : Prop := (∀ b o, g.get? b = some o → s'.heap.get? b = some o) ∧ R (.ok (.ret v)) s'
theorem code_frz {prog : Program} {w : World} {A A₀ : Around} {s : Shared} {K : Frag} {L : Addr} {h₀ base : Heap} {m mg mb : Str → Option Value} {p : Program} {loose : List Str} {mean : ExcName → Option Value}
    {env : Env} {outer : List Env} {R : Result → Shared → Prop} {name qual : Str} {params : Arguments} {body : List Stmt} {scope : Scope} {dV kV doc pm cdv ct oc : Value} {an od : Option Addr} {osl : Array (Option Value)} {f : Addr} {args : Args} {binds : List (Str × Value)}
    (B : Below A₀ base outer h₀) (F : Fr h₀ L s.heap m) (X₀ : K.In h₀) (T : Top p loose mean mg mb h₀) (hA : A.frames = some (env :: outer)) (hf : env.frame = some L) (hke : env.scope.kind = .function)
    (ho : K.lookup f = some ⟨oc, od, .func (fnOf name qual params body scope dV kV doc pm an cdv ct), osl⟩) (hcd : codeIn K cdv qual = true) (hroom : A.depth < recursionLimit)
    (hbind : BindsTo s (fnOf name qual params body scope dV kV doc pm an cdv ct) args binds) (hloc : ∀ y ∈ binds, scope.names.lookup y.1 = some .local)
    (h : ∀ L' h₁, Fr s.heap L' h₁ (fun y => binds.reverse.lookup y) → News s.heap L' h₁ [] → Below A base (env :: outer) s.heap → K.In s.heap → Top p loose mean mg mb s.heap →
      wpAny (model prog w) (A.deeper (envOf qual scope L' f cdv)) (execs body (envOf qual scope L' f cdv))
        (fun fl s' => Lz s.heap R (match fl with | .ret v => v | _ => .none) s')
        (fun e s' => wpAny (model prog w) (A.deeper (envOf qual scope L' f cdv)) (leaving (envOf qual scope L' f cdv) e) (fun _ s'' => R (.error e) s'') (fun e' s'' => R (.error e') s'') s')
        { s with heap := h₁, toks := s.toks + binds.length })
    (hco : scope.isCoroutine = false) (hgen : scope.isGenerator = false) (hk : scope.kind = .function)
    (hcell : ∀ x ∈ scope.names, x.2 ≠ .cell) : codeAny (model prog w) A (.call (.ref f) args) R s := by
  have X := X₀.keeps F.keep
  refine codeAny_call_def (fd := fnOf name qual params body scope dV kV doc pm an cdv ct) (body := body) (binds := binds) hroom (X _ _ ho) rfl (T.nolimit.keeps F.keep) (codeRec_of X hcd) rfl hbind hcell hloc (fun h₁ hns hk₁ => ?_) hco hgen hk
  have B' := pushX B F hf hke
  exact wpAny_mono (h s.heap.objs.size h₁ ⟨hns, hk₁, Nat.le_refl _⟩ News.nil ⟨hA, B'.stays, B'.frames⟩ X (T.keeps F.keep)) (fun fl s' hl => hl.2) fun _ _ y => y
abbrev FzC (prog : Program) (w : World) (K : Frag) (p : Program) (loose : List Str) (mean : ExcName → Option Value) (mg mb : Str → Option Value) (f : Addr) (vs : List Value) (kw : List (Str × Value)) (depth : Nat)
   (Pre : Heap → Prop) (Post : Heap → Heap → Value → Prop) : Prop :=
  ∀ (dp un : Nat) (gd : Option (List Code)) (cn : Str) (cs : Scope) (a : Addr) (ccd : Value) (cl : List (Str × Addr)) (outer : List Env) (A₀ : Around) (base h₀ : Heap) (L : Addr) (m : Str → Option Value) (s : Shared) (Q E : Value → Shared → Prop),
    Below A₀ base outer h₀ → Fr h₀ L s.heap m → K.In h₀ → Top p loose mean mg mb h₀ → cs.kind = .function →
    dp + depth < recursionLimit → un + 8 * depth < cLine → Pre s.heap → (∀ v h' tk', (∀ b o, s.heap.get? b = some o → h'.get? b = some o) → Post s.heap h' v → Q v { s with heap := h', toks := tk' }) →
      wpAny (model prog w) (ktrTop dp un gd cn cs L a ccd cl outer) (call (.ref f) vs kw) Q E s
section
variable {prog : Program} {w : World} {K : Frag} {p : Program} {loose : List Str} {mean : ExcName → Option Value} {mg mb : Str → Option Value} {f : Addr} {vs : List Value} {kw : List (Str × Value)} {depth : Nat} {Pre : Heap → Prop} {Post : Heap → Heap → Value → Prop}
  {dp un : Nat} {gd : Option (List Code)} {cn : Str} {cs : Scope} {a : Addr} {ccd : Value} {cl : List (Str × Addr)} {outer : List Env} {A₀ : Around} {base h₀ : Heap} {L : Addr} {m : Str → Option Value} {s : Shared} {news : List (Addr × Obj)} {Q E : Value → Shared → Prop}
theorem FzC.use (C : FzC prog w K p loose mean mg mb f vs kw depth Pre Post) (B : Below A₀ base outer h₀) (F : Fr h₀ L s.heap m) (X : K.In h₀) (N : News h₀ L s.heap news) (T : Top p loose mean mg mb h₀) (hk : cs.kind = .function)
    (hd : dp + depth < recursionLimit) (hu : un + 8 * depth < cLine) (hpre : Pre s.heap)
    (k : ∀ v h' tk', Fr h₀ L h' m → News h₀ L h' news → (∀ b o, s.heap.get? b = some o → h'.get? b = some o) → Post s.heap h' v → Q v { s with heap := h', toks := tk' }) :
    wpAny (model prog w) (ktrTop dp un gd cn cs L a ccd cl outer) (call (.ref f) vs kw) Q E s :=
  C _ _ _ _ _ _ _ _ _ _ _ _ _ _ _ _ _ B F X T hk hd hu hpre fun v h' tk' keep P => k v h' tk' (F.grownK keep) (N.grown keep) keep P
theorem fresh_news {h h' : Heap} {d : Addr} {o : Obj} (F : Fr h₀ L h m) (N : News h₀ L h news) (keep : ∀ b o, h.get? b = some o → h'.get? b = some o) (hn : h.get? d = none) (ho : h'.get? d = some o) :
    News h₀ L h' ((d, o) :: news) ∧ ∀ p ∈ news, p.1 ≠ d := by
  refine ⟨news_add (N.grown keep) ho ?_ ?_, fun p hp e => ?_⟩
  · rintro rfl
    obtain ⟨oL, _, _, hL, _⟩ := F.ns
    rw [hn] at hL; cases hL
  · cases hq : h₀.get? d with
    | none => rfl
    | some o' => have := F.keep _ _ hq; rw [hn] at this; cases this
  · have := (N p hp).1
    rw [e, hn] at this; cases this
abbrev FnRet := Heap → Addr → (Str → Option Value) → Shared → (Value → Shared → Prop) → Prop
theorem FnC.use {Ret : FnRet} (C : FnC prog w K p loose mean mg mb f news vs kw depth Ret) (B : Below A₀ base outer h₀) (F : Fr h₀ L s.heap m) (X : K.In h₀) (N : News h₀ L s.heap news) (T : Top p loose mean mg mb h₀) (hk : cs.kind = .function)
    (hd : dp + depth < recursionLimit) (hu : un + 8 * depth < cLine) (k : Ret h₀ L m s Q) :
    wpAny (model prog w) (ktrTop dp un gd cn cs L a ccd cl outer) (call (.ref f) vs kw) Q E s :=
  C _ _ _ _ _ _ _ _ _ _ _ _ _ _ _ _ _ B F X N T hk hd hu k
end
theorem mem_getL {xs ys : List Int} {k : Int} (h0 : 0 ≤ k) (h1 : k < xs.length) : xs.getD k.toNat 0 ∈ xs ++ ys := by
  have h : k.toNat < xs.length := by omega
  rw [List.getD_eq_getElem?_getD, List.getElem?_eq_getElem h]
  exact List.mem_append_left _ (List.getElem_mem h)
theorem mem_getR {xs ys : List Int} {k : Int} (h0 : 0 ≤ k) (h1 : k < ys.length) : ys.getD k.toNat 0 ∈ xs ++ ys := by
  have h : k.toNat < ys.length := by omega
  rw [List.getD_eq_getElem?_getD, List.getElem?_eq_getElem h]
  exact List.mem_append_right _ (List.getElem_mem h)
section
variable {prog : Program} {w : World} {A : Around} {E : Value → Shared → Prop} {s : Shared} {env : Env} {h₀ : Heap} {x : Str} {body : List Stmt} {Q : Flow → Shared → Prop}
/-- a loop over a range whose turn changes one name y, that is told, and forgets those of 'stored' -/
theorem loopR1 {S : Type} {r : Addr} {a₀ b₀ : Int} {t₀ u₀ v₀ : Tok} {n : Nat} {m₀ : Str → Option Value} {news : List (Addr × Obj)} (stored : List Str) (y : Str) (val : S → Value) (led : S → List (Addr × Obj)) (I : Nat → S → Prop) (σ₀ : S)
    (hh : A.handled = none) (hr : IsRange s.heap r a₀ b₀ 1 t₀ u₀ v₀) (hb : -1000000 ≤ a₀ ∧ a₀ ≤ 1000000 ∧ -1000000 ≤ b₀ ∧ b₀ ≤ 1000000) (hn : n = (b₀ - a₀).toNat) (F : Fr h₀ env.locals s.heap m₀) (N : News h₀ env.locals s.heap news)
    (h0 : I 0 σ₀) (hled : ∀ p ∈ led σ₀, p ∈ news) (hy : m₀ y = some (val σ₀))
    (turn : ∀ i t σ (u : Str → Option Value) h tk own, i < n → I i σ → TbOff own (led σ) → Fr h₀ env.locals h (fun z => if z = x then some (.int (a₀ + (i : Int)) t) else if stored.contains z then u z else if z = y then some (val σ) else m₀ z) → News h₀ env.locals h (led σ ++ own) →
      wpAny (model prog w) A (execs body env) (TbPost h₀ env.locals (Leaves stored x (fun σ z => if z = y then some (val σ) else m₀ z) led (I (i + 1))) own { s with heap := h, toks := tk } Q) E { s with heap := h, toks := tk })
    (done : ∀ σ (u : Str → Option Value) h tk, I n σ → Fr h₀ env.locals h (fun z => if z = x then u z else if stored.contains z then u z else if z = y then some (val σ) else m₀ z) → News h₀ env.locals h (led σ) → Q .next { s with heap := h, toks := tk }) :
    wpAny (model prog w) A (pyIter (.ref r)) (fun it s₂ => LoopAtV prog w A h₀ env x body Q E it s₂) E s :=
  loopR stored (fun σ z => if z = y then some (val σ) else m₀ z) led I σ₀ hh hr hb hn F N h0 hled (fun z _ _ => by
    by_cases e : z = y
    · subst e; rw [if_pos rfl]; exact hy
    · rw [if_neg e]) turn done
end
theorem not_stored {l : List Str} {z y : Str} (hs : l.contains z = false) (hy : y ∈ l) : z ≠ y := by
  rintro rfl
  rw [List.contains_iff_mem.mpr hy] at hs
  cases hs
theorem int_at {h₀ h : Heap} {L : Addr} {m : Str → Option Value} (_F : Fr h₀ L h m) (x : Str) {i : Int} {t : Tok} (_e : m x = some (.int i t)) : ∃ b tb, b = i ∧ tb = t := ⟨i, t, rfl, rfl⟩
theorem contains_two {z a b : Str} (h1 : z ≠ a) (h2 : z ≠ b) : [a, b].contains z = false := by
  cases h : [a, b].contains z with
  | false => rfl
  | true =>
    have := List.contains_iff_mem.mp h
    simp [h1, h2] at this
/-- the same for a def with cells -/
theorem code_frzC {prog : Program} {w : World} {A A₀ : Around} {s : Shared} {K : Frag} {L : Addr} {h₀ base : Heap} {m mg mb : Str → Option Value} {p : Program} {loose : List Str} {mean : ExcName → Option Value}
    {env : Env} {outer : List Env} {R : Result → Shared → Prop} {name qual : Str} {params : Arguments} {body : List Stmt} {scope : Scope} {dV kV doc pm cdv ct oc : Value} {an od : Option Addr} {osl : Array (Option Value)} {f : Addr} {args : Args} {binds : List (Str × Value)}
    (B : Below A₀ base outer h₀) (F : Fr h₀ L s.heap m) (X₀ : K.In h₀) (T : Top p loose mean mg mb h₀) (hA : A.frames = some (env :: outer)) (hf : env.frame = some L) (hke : env.scope.kind = .function)
    (ho : K.lookup f = some ⟨oc, od, .func (fnOf name qual params body scope dV kV doc pm an cdv ct), osl⟩) (hcd : codeIn K cdv qual = true) (hroom : A.depth < recursionLimit)
    (hbind : BindsTo s (fnOf name qual params body scope dV kV doc pm an cdv ct) args binds) (hkind : (binds.all fun y => scope.names.lookup y.1 == some .local || scope.names.lookup y.1 == some .cell) = true)
    (hnd : ((cellsFrom 0 scope.names []).map (·.1)).Nodup)
    (h : ∀ L' h₁ tk cells, Fr s.heap L' h₁ (bindL (envOfC qual scope L' f cdv).kindOf binds fun _ => none) → News s.heap L' h₁ cells →
      CellsAre (bindC (envOfC qual scope L' f cdv).kindOf binds fun _ => none) (cellsFrom (L' + 1) scope.names []) cells → Below A base (env :: outer) s.heap → K.In s.heap → Top p loose mean mg mb s.heap →
      wpAny (model prog w) (A.deeper (envOfC qual scope L' f cdv)) (execs body (envOfC qual scope L' f cdv))
        (fun fl s' => Lz s.heap R (match fl with | .ret v => v | _ => .none) s')
        (fun e s' => wpAny (model prog w) (A.deeper (envOfC qual scope L' f cdv)) (leaving (envOfC qual scope L' f cdv) e) (fun _ s'' => R (.error e) s'') (fun e' s'' => R (.error e') s'') s')
        { s with heap := h₁, toks := tk })
    (hco : scope.isCoroutine = false) (hgen : scope.isGenerator = false) (hk : scope.kind = .function) : codeAny (model prog w) A (.call (.ref f) args) R s := by
  have X := X₀.keeps F.keep
  have B' := pushX B F hf hke
  refine codeAny_call_function hroom (X _ _ ho) rfl hco hgen rfl (codeRec_of X hcd) (hbind _ _ _ _ ?_)
  refine wpAny_newFunctionEnv_cells hk (kindsX hkind _) fun env' he s' x => ?_
  subst he
  refine ⟨(T.nolimit.keeps F.keep).keeps x.toInCall.keep, codeAny_func ?_⟩
  obtain ⟨h₁, tk, rfl, _⟩ := x.done
  obtain ⟨cells, NC, Y⟩ := Cl.news (h₀ := s.heap) (Nat.le_refl _) fun n c hm => ⟨x.cell n c (lookup_of_mem_nodup (cellsFrom_names scope.names 0 (s.heap.objs.size + 1) [] [] rfl ▸ hnd) hm), x.above n c hm⟩
  exact wpAny_mono (h s.heap.objs.size h₁ tk cells ⟨x.toInCall.ns, x.toInCall.keep, Nat.le_refl _⟩ NC Y ⟨hA, B'.stays, B'.frames⟩ X (T.keeps F.keep)) (fun fl s' hl => hl.2) fun _ _ y => y
theorem pushed {o : Obj} {vs : List Value} {q : Int} {tq : Tok} {k : Nat} (h : o = listOf (vs.toArray.push (.int q tq)) k) : ∃ q' tq', o = listOf (List.toArray (vs ++ [Value.int q' tq'])) k ∧ q' = q := by
  refine ⟨q, tq, ?_, rfl⟩
  rw [h]
  simp
theorem ints_snoc {vs : List Value} {ns : List Int} (h : IntsAre vs ns) (q : Int) (t : Tok) : IntsAre (vs ++ [Value.int q t]) (ns ++ [q]) := h.append (.cons q t .nil)
theorem fourth_at {h₀ h : Heap} {L : Addr} {p q r : Addr × Obj} {a : Addr} {o : Obj} {l : List (Addr × Obj)} (_N : News h₀ L h (p :: q :: r :: (a, o) :: l)) : ∃ d o', d = a ∧ o' = o := ⟨a, o, rfl, rfl⟩
theorem ints_at {vs : List Value} {ns : List Int} (_h : IntsAre vs ns) : ∃ v, v = vs := ⟨vs, rfl⟩
/-- a step of the braid: the strands at h (from the left) and j (from above) meet -/
def bstep (hit : Bool) (h j : Nat) (σ : List Int × List Int) : List Int × List Int :=
  if hit = true ∨ σ.2.getD j 0 < σ.1.getD h 0 then (σ.1.set h (σ.2.getD j 0), σ.2.set j (σ.1.getD h 0)) else σ
def brow (hit : Nat → Bool) (h n : Nat) (σ : List Int × List Int) : List Int × List Int := (List.range n).foldl (fun σ j => bstep (hit j) h j σ) σ
def bfold (hit : Nat → Nat → Bool) (m n k : Nat) (σ : List Int × List Int) : List Int × List Int := (List.range k).foldl (fun σ i => brow (hit i) (m - 1 - i) n σ) σ
def bstart (m n : Nat) : List Int × List Int := ((List.range m).map fun (k : Nat) => (k : Int), (List.range n).map fun (k : Nat) => (m : Int) + (k : Int))
theorem brow_succ (hit : Nat → Bool) (h n : Nat) (σ : List Int × List Int) : brow hit h (n + 1) σ = bstep (hit n) h n (brow hit h n σ) := by
  unfold brow; rw [List.range_succ, List.foldl_append]; rfl
theorem bfold_succ (hit : Nat → Nat → Bool) (m n k : Nat) (σ : List Int × List Int) : bfold hit m n (k + 1) σ = brow (hit k) (m - 1 - k) n (bfold hit m n k σ) := by
  unfold bfold; rw [List.range_succ, List.foldl_append]; rfl
theorem bstep_len (hit : Bool) (h j : Nat) (σ : List Int × List Int) : (bstep hit h j σ).1.length = σ.1.length ∧ (bstep hit h j σ).2.length = σ.2.length := by
  unfold bstep; split <;> simp
theorem brow_len (hit : Nat → Bool) (h : Nat) (σ : List Int × List Int) : ∀ n, (brow hit h n σ).1.length = σ.1.length ∧ (brow hit h n σ).2.length = σ.2.length
  | 0 => ⟨rfl, rfl⟩
  | n + 1 => by
    rw [brow_succ]
    have h1 := bstep_len (hit n) h n (brow hit h n σ)
    have h2 := brow_len hit h σ n
    exact ⟨h1.1.trans h2.1, h1.2.trans h2.2⟩
theorem bfold_len (hit : Nat → Nat → Bool) (m n : Nat) (σ : List Int × List Int) : ∀ k, (bfold hit m n k σ).1.length = σ.1.length ∧ (bfold hit m n k σ).2.length = σ.2.length
  | 0 => ⟨rfl, rfl⟩
  | k + 1 => by
    rw [bfold_succ]
    have h1 := brow_len (hit k) (m - 1 - k) (bfold hit m n k σ) n
    have h2 := bfold_len hit m n σ k
    exact ⟨h1.1.trans h2.1, h1.2.trans h2.2⟩
theorem bstart_len (m n : Nat) : (bstart m n).1.length = m ∧ (bstart m n).2.length = n := by unfold bstart; simp
theorem rangeKs_zero (n : Nat) : rangeKs 0 n = (List.range n).map fun (k : Nat) => (k : Int) := by
  unfold rangeKs
  apply List.map_congr_left
  intro k _
  omega
theorem frame_at {h₀ h : Heap} {L : Addr} {m : Str → Option Value} (_F : Fr h₀ L h m) : ∃ l, l = L := ⟨L, rfl⟩
theorem bstep_yes {hit : Bool} {h j : Nat} {mA mB : List Int} (c : hit = true ∨ mB.getD j 0 < mA.getD h 0) : bstep hit h j (mA, mB) = (mA.set h (mB.getD j 0), mB.set j (mA.getD h 0)) := if_pos c
theorem bstep_no {hit : Bool} {h j : Nat} {mA mB : List Int} (c : ¬ (hit = true ∨ mB.getD j 0 < mA.getD h 0)) : bstep hit h j (mA, mB) = (mA, mB) := if_neg c
theorem contains_one {z a : Str} (h1 : z ≠ a) : [a].contains z = false := by
  cases h : [a].contains z with
  | false => rfl
  | true =>
    have := List.contains_iff_mem.mp h
    simp [h1] at this
section
variable {prog : Program} {w : World} {A : Around} {E : Value → Shared → Prop} {s : Shared} {env : Env} {h₀ : Heap} {x : Str} {body : List Stmt} {Q : Flow → Shared → Prop}
/-- a loop over a range whose turn leaves the ledger as it was, but for new things that it drops -/
theorem loopK {r : Addr} {a₀ b₀ : Int} {t₀ u₀ v₀ : Tok} {n : Nat} {m₀ : Str → Option Value} {news : List (Addr × Obj)} (stored : List Str)
    (hh : A.handled = none) (hr : IsRange s.heap r a₀ b₀ 1 t₀ u₀ v₀) (hb : -1000000 ≤ a₀ ∧ a₀ ≤ 1000000 ∧ -1000000 ≤ b₀ ∧ b₀ ≤ 1000000) (hn : n = (b₀ - a₀).toNat) (F : Fr h₀ env.locals s.heap m₀) (N : News h₀ env.locals s.heap news)
    (turn : ∀ i t (u : Str → Option Value) h tk own, i < n → TbOff own news → Fr h₀ env.locals h (fun z => if z = x then some (.int (a₀ + (i : Int)) t) else if stored.contains z then u z else m₀ z) → News h₀ env.locals h (news ++ own) →
      wpAny (model prog w) A (execs body env) (TbPost h₀ env.locals (Leaves (S := Unit) stored x (fun _ => m₀) (fun _ => news) (fun _ => True)) own { s with heap := h, toks := tk } Q) E { s with heap := h, toks := tk })
    (done : ∀ (u : Str → Option Value) h tk, Fr h₀ env.locals h (fun z => if z = x then u z else if stored.contains z then u z else m₀ z) → News h₀ env.locals h news → Q .next { s with heap := h, toks := tk }) :
    wpAny (model prog w) A (pyIter (.ref r)) (fun it s₂ => LoopAtV prog w A h₀ env x body Q E it s₂) E s :=
  loopR0 stored (fun _ : Unit => news) (fun _ _ => True) () hh hr hb hn F N trivial (fun _ h => h) (fun i t _ u h tk own hi _ ho F' N' => turn i t u h tk own hi ho F' N') (fun _ u h tk _ F' N' => done u h tk F' N')
end
theorem fresh_three {h₀ h h' : Heap} {L : Addr} {m : Str → Option Value} {news : List (Addr × Obj)} {a b c : Addr} {o1 o2 o3 : Obj} (F : Fr h₀ L h m) (N : News h₀ L h news) (keep : ∀ b o, h.get? b = some o → h'.get? b = some o)
    (n1 : h.get? a = none) (n2 : h.get? b = none) (n3 : h.get? c = none) (l1 : h'.get? a = some o1) (l2 : h'.get? b = some o2) (l3 : h'.get? c = some o3) : News h₀ L h' ((a, o1) :: (b, o2) :: (c, o3) :: news) := fun p hp => by
  rcases List.mem_cons.mp hp with rfl | hp
  · exact (fresh_news F N keep n1 l1).1 _ (List.mem_cons_self ..)
  · rcases List.mem_cons.mp hp with rfl | hp
    · exact (fresh_news F N keep n2 l2).1 _ (List.mem_cons_self ..)
    · exact (fresh_news F N keep n3 l3).1 _ hp
theorem news_gen {h₀ h : Heap} {L : Addr} {l : List (Addr × Obj)} (N : News h₀ L h l) : ∃ l', l' = l ∧ News h₀ L h l' := ⟨l, rfl, N⟩
theorem contains_three {z a b c : Str} (h1 : z ≠ a) (h2 : z ≠ b) (h3 : z ≠ c) : [a, b, c].contains z = false := by
  cases h : [a, b, c].contains z with
  | false => rfl
  | true =>
    have := List.contains_iff_mem.mp h
    simp [h1, h2, h3] at this
end Mine
namespace Mine
local macro_rules | `(tactic| k_mem) => `(tactic| first | assumption | exact List.mem_cons_self | (refine List.mem_cons_of_mem _ ?_; k_mem))
local macro_rules | `(tactic| k_all) => `(tactic| assumption)
local macro_rules | `(tactic| is_list) => `(tactic| exact News.isList (by assumption) (by k_mem))
local macro_rules | `(tactic| walk_at "subscriptTail") => `(tactic| (k_here; (with_reducible show wpAny _ _ (subscriptTail _ _ (Value.ref _) (Value.int _ _)) _ _ _); k_dflt (refine' sub_ref ?k1 ?k2 ?k3 ?k4 ?k5 ?_ ?k7; (case k1 => k_asm); (case k2 => k_mem); (case k5 => assumption); (case k3 => omega); (case k4 => omega); (case k7 => with_unfolding_all rfl); k_whole)))
local macro_rules | `(tactic| walk_at "pyIter ref") => `(tactic| ((with_reducible show wpAny _ _ (pyIter (Value.ref _)) (fun it s₂ => LoopAtV _ _ _ _ _ _ _ _ _ it s₂) _ _); refine Stop.out ?_))
local macro_rules | `(tactic| size_fits) => `(tactic| assumption)
local macro_rules | `(tactic| cell_enter) => `(tactic| (refine' code_def ?k1 ?k2 ?k3 ?k4 ?k5 ?kA ?kF ?kK ?k6 ?k7 ?k8 ?k9 ?kB ?_ ?c2 ?c3 ?c4 ?c5; (case kA => exact rfl); (case kF => exact rfl); (case kK => assumption); (case k1 => k_asm); (case k2 => k_asm); (case k3 => k_asm); (case k4 => k_asm); (case k5 => k_asm); (case k6 => k_is); (case k7 => k_is); (case k8 => ktr_room); (case k9 => first | exact BindsTo.of_eq rfl | exact binds_K (by k_in) rfl (by k_is) rfl rfl rfl); (case c5 => decide); (case kB => exact locs rfl); (case c2 => exact rfl); (case c3 => exact rfl); (case c4 => exact rfl); k_whole; intro g' L' h' FG' F' N' B' X' T'; (try dsimp only); (try k_lift B'); (try k_fold)))
local macro_rules | `(tactic| ktr_enter) => `(tactic| (refine' code_frz ?k1 ?k2 ?k3 ?k5 ?kA ?kF ?kK ?k6 ?k7 ?k8 ?k9 ?kB ?_ ?c2 ?c3 ?c4 ?c5; (case kA => exact rfl); (case kF => exact rfl); (case kK => assumption); (case k1 => k_asm); (case k2 => k_asm); (case k3 => k_asm); (case k5 => k_asm); (case k6 => k_is); (case k7 => k_is); (case k8 => ktr_room); (case k9 => first | exact BindsTo.of_eq rfl | exact binds_K (by k_in) rfl (by k_is) rfl rfl rfl); (case c5 => decide); (case kB => exact locs rfl); (case c2 => exact rfl); (case c3 => exact rfl); (case c4 => exact rfl); k_whole; intro L' h' F' N' B' X' T'; (try dsimp only); (try k_fold)))
local macro_rules | `(tactic| walk_at "call builtin:min") => `(tactic| (k_here; (with_reducible show wpAny _ _ (call (Value.builtin _) [Value.int _ _, Value.int _ _, Value.int _ _, Value.int _ _]) _ _ _); (with_unfolding_all refine' min4 ?k1 ?k2 ?k3 ?_; (case k1 => rfl); (case k2 => k_asm); (case k3 => k_asm); k_whole); intro r' h' tk' F' N'))
theorem step_c (w : World) (p : Program) (loose : List Str) (mean : ExcName → Option Value) (mg mb : Str → Option Value) (rest : List (Addr × Obj))
   (la r1 r2 l1 l2 : Addr) (vl v1 v2 vs1 vs2 : List Value) (nl n1 n2 : Nat) (p1 p2 xs ys : List Int) (i j cost x1 x2 : Int) (ti tj tc t1 t2 : Tok)
   (hla : (la, listOf vl.toArray nl) ∈ rest) (hr1 : (r1, listOf v1.toArray n1) ∈ rest) (hr2 : ∀ p ∈ rest, p.1 ≠ r2)
   (hx1 : vl[(i - 1).toNat]? = some (.ref r1)) (hx2 : vl[i.toNat]? = some (.ref r2))
   (i1 : IntsAre v1 p1) (i2 : IntsAre v2 p2) (ixs : IntsAre vs1 xs) (iys : IntsAre vs2 ys)
   (hi : 1 ≤ i ∧ i ≤ xs.length) (hj : 1 ≤ j ∧ j ≤ ys.length) (hxs : xs.length < 1000) (hys : ys.length < 1000) (hp1 : p1.length = ys.length + 1) (hp2 : p2.length = ys.length + 1) :
   FnC PySem.Challenge.pw_fe5011_01 w (hd1.heap_39 w.params) p loose mean mg mb 41 ((r2, listOf v2.toArray n2) :: rest) [.ref la, .int i ti, .int j tj, .ref l1, .ref l2, .int x1 t1, .int x2 t2] [(Str.ofString "substitution_cost", .int cost tc), (Str.ofString "transpositions", .bool false)] 1
     (fun h₀ L m s Q => h₀.IsList l1 vs1.toArray ∧ h₀.IsList l2 vs2.toArray ∧ ∀ (z : Int) (t : Tok) (h' : Heap) (tk' : Nat), z = min (min (p1.getD j.toNat 0 + 1) (p2.getD (j-1).toNat 0 + 1)) (p1.getD (j-1).toNat 0 + if xs.getD (i-1).toNat 0 = ys.getD (j-1).toNat 0 then 0 else cost) → Fr h₀ L h' m → News h₀ L h' ((r2, listOf (v2.set j.toNat (.int z t)).toArray n2) :: rest) → Q .none { s with heap := h', toks := tk' }) := by
  intro dp un gd cn cs a ccd cl outer A₀ base h₀ L m s Q E B F X N T hk hd hu hret
  obtain ⟨hl1, hl2, hret⟩ := hret
  refine wpAny_call ?_
  k_dflt cell_enter
  rename Fr h₀ L _ m => FG
  have hq1 := hl1.at fun o e => FG.keep _ o e
  have hq2 := hl2.at fun o e => FG.keep _ o e
  k_steps
  all_goals (refine hret _ _ _ _ ?_ (by assumption) (by assumption); (first | rw [if_pos (by assumption)] | rw [if_neg (by assumption)]); omega)
end Mine
namespace Mine
local macro_rules | `(tactic| k_mem) => `(tactic| first | assumption | exact List.mem_cons_self | (refine List.mem_cons_of_mem _ ?_; k_mem))
local macro_rules | `(tactic| k_all) => `(tactic| assumption)
local macro_rules | `(tactic| is_list) => `(tactic| exact News.isList (by assumption) (by k_mem))
local macro_rules | `(tactic| walk_at "subscriptTail") => `(tactic| (k_here; (with_reducible show wpAny _ _ (subscriptTail _ _ (Value.ref _) (Value.int _ _)) _ _ _); k_dflt (refine' sub_ref ?k1 ?k2 ?k3 ?k4 ?k5 ?_ ?k7; (case k1 => k_asm); (case k2 => k_mem); (case k5 => assumption); (case k3 => omega); (case k4 => omega); (case k7 => with_unfolding_all rfl); k_whole)))
local macro_rules | `(tactic| walk_at "pyIter ref") => `(tactic| ((with_reducible show wpAny _ _ (pyIter (Value.ref _)) (fun it s₂ => LoopAtV _ _ _ _ _ _ _ _ _ it s₂) _ _); refine Stop.out ?_))
local macro_rules | `(tactic| size_fits) => `(tactic| assumption)
local macro_rules | `(tactic| cell_enter) => `(tactic| (refine' code_def ?k1 ?k2 ?k3 ?k4 ?k5 ?kA ?kF ?kK ?k6 ?k7 ?k8 ?k9 ?kB ?_ ?c2 ?c3 ?c4 ?c5; (case kA => exact rfl); (case kF => exact rfl); (case kK => assumption); (case k1 => k_asm); (case k2 => k_asm); (case k3 => k_asm); (case k4 => k_asm); (case k5 => k_asm); (case k6 => k_is); (case k7 => k_is); (case k8 => ktr_room); (case k9 => first | exact BindsTo.of_eq rfl | exact binds_K (by k_in) rfl (by k_is) rfl rfl rfl); (case c5 => decide); (case kB => exact locs rfl); (case c2 => exact rfl); (case c3 => exact rfl); (case c4 => exact rfl); k_whole; intro g' L' h' FG' F' N' B' X' T'; (try dsimp only); (try k_lift B'); (try k_fold)))
local macro_rules | `(tactic| ktr_enter) => `(tactic| (refine' code_frz ?k1 ?k2 ?k3 ?k5 ?kA ?kF ?kK ?k6 ?k7 ?k8 ?k9 ?kB ?_ ?c2 ?c3 ?c4 ?c5; (case kA => exact rfl); (case kF => exact rfl); (case kK => assumption); (case k1 => k_asm); (case k2 => k_asm); (case k3 => k_asm); (case k5 => k_asm); (case k6 => k_is); (case k7 => k_is); (case k8 => ktr_room); (case k9 => first | exact BindsTo.of_eq rfl | exact binds_K (by k_in) rfl (by k_is) rfl rfl rfl); (case c5 => decide); (case kB => exact locs rfl); (case c2 => exact rfl); (case c3 => exact rfl); (case c4 => exact rfl); k_whole; intro L' h' F' N' B' X' T'; (try dsimp only); (try k_fold)))
theorem init_c (w : World) (p : Program) (loose : List Str) (mean : ExcName → Option Value) (mg mb : Str → Option Value) (news : List (Addr × Obj))
   (n1 n2 : Nat) (z1 z2 : Int) (hz1 : z1 = n1) (hz2 : z2 = n2) (hn1 : 0 < n1 ∧ n1 < 1000) (hn2 : 0 < n2 ∧ n2 < 1000) (t1 t2 : Tok) :
   FnC PySem.Challenge.pw_fe5011_01 w (hd1.heap_39 w.params) p loose mean mg mb 28 news [.int z1 t1, .int z2 t2] [] 1
     (fun h₀ L m s Q => ∀ (la : Addr) (nl : Nat) (A : List Addr) (R : List (Addr × Obj)) (g : List (List Int)) (h' : Heap) (tk' : Nat), Mat A R g → Shape g n1 n2 → (∀ c, c < n2 → cell g 0 c = c) → (∀ r, r < n1 → cell g r 0 = r) → A.Nodup → (∀ a ∈ A, a ≠ la ∧ ∀ p ∈ news, p.1 ≠ a) → (∀ p ∈ news, p.1 ≠ la) →
       Fr h₀ L h' m → News h₀ L h' ((la, listOf (A.map Value.ref).toArray nl) :: (R ++ news)) → Q (.ref la) { s with heap := h', toks := tk' }) := by
  subst hz1 hz2
  intro dp un gd cn cs a ccd cl outer A₀ base h₀ L m s Q E B F X N T hk hd hu hret
  refine wpAny_call ?_
  k_dflt cell_enter
  k_steps
  rename Fr _ _ _ _ => F1
  rename News _ _ _ _ => N1
  rename IsRange _ _ _ _ _ _ _ _ => G1
  obtain ⟨la, hl⟩ := ref_at F1 (Str.ofString "lev") rfl
  subst hl
  rename ∀ p ∈ news, p.1 < _ => lt1
  unfold Stop
  with_unfolding_all refine loopR0 (S := List (Addr × Obj)) (n := n1) [] (fun R => (la, listOf ((R.map (·.1)).map Value.ref).toArray R.length) :: (R ++ news)) (fun i R => RowsAre R (List.replicate i (List.replicate n2 0)) ∧ (R.map (·.1)).Nodup ∧ (∀ a ∈ R.map (·.1), ∀ p ∈ news, p.1 ≠ a) ∧ ∀ a ∈ R.map (·.1), a ≠ la) [] (by rfl) G1 (by omega) (by omega) F1 N1 ⟨.nil, .nil, by simp, by simp⟩ (by simp) ?_ ?_
  · clear F1 N1 G1
    intro i t R u h tk own hi hI hoff F2 N2
    obtain ⟨hR, hnd, hfr, hla⟩ := hI
    have hlen : R.length = i := by simpa using hR.length
    have hfit : ((R.map (·.1)).map Value.ref).toArray.size ≤ sizeLine := by simp only [List.size_toArray, List.length_map]; rw [sizeLine_eq]; omega
    have hap : ∀ p ∈ R ++ news ++ own, p.1 ≠ la := by
      intro p hp
      rcases List.mem_append.mp hp with hp | hp
      · rcases List.mem_append.mp hp with hp | hp
        · exact hla _ (List.mem_map_of_mem hp)
        · exact Nat.ne_of_lt (lt1 p hp)
      · exact hoff p hp _ (List.mem_cons_self ..)
    simp only [List.cons_append] at N2
    try k_fold
    k_steps
    rename News _ _ _ _ => N3
    rename Fr _ _ _ _ => F3
    rename IntsAre _ _ => i3
    rename _ < _ ∧ _ < _ ∧ AllLt _ _ => l3
    obtain ⟨D, o, hD, ho⟩ := head_at N3
    subst hD
    have l4 := allLt_mem l3.2.2
    have hl3 : la < D := l3.2.1
    have e0 : (List.replicate (n2 : Int).toNat [(0 : Int)]).flatten = List.replicate n2 0 := by
      rw [Int.toNat_natCast]; simp
    rw [e0] at i3
    refine Leaves.fin (R ++ [(D, o)]) F3 N3 ⟨?_, ?_, ?_, ?_⟩ ?_ ?_ ?_ ?_
    · subst ho
      rw [List.replicate_succ']
      exact hR.snoc i3
    · rw [List.map_append, List.nodup_append]
      refine ⟨hnd, by simp, ?_⟩
      intro a ha b hb
      simp only [List.map_cons, List.map_nil, List.mem_singleton] at hb
      subst hb
      obtain ⟨p, hp, rfl⟩ := List.mem_map.mp ha
      exact Nat.ne_of_lt (l4 p (List.mem_append_left _ (List.mem_append_left _ hp)))
    · intro a ha p hp
      rw [List.map_append] at ha
      rcases List.mem_append.mp ha with ha | ha
      · exact hfr a ha p hp
      · simp only [List.map_cons, List.map_nil, List.mem_singleton] at ha
        subst ha
        exact Nat.ne_of_lt (l4 p (List.mem_append_left _ (List.mem_append_right _ hp)))
    · intro a ha
      rw [List.map_append] at ha
      rcases List.mem_append.mp ha with ha | ha
      · exact hla a ha
      · simp only [List.map_cons, List.map_nil, List.mem_singleton] at ha
        subst ha
        exact Nat.ne_of_gt hl3
    · subst ho
      intro p hp
      simp only [List.map_append, List.map_cons, List.map_nil, List.length_append, List.length_cons, List.length_nil, List.mem_cons, List.mem_append, List.push_toArray, Nat.zero_add, List.not_mem_nil, or_false] at hp ⊢
      rcases hp with h | (h | h) | h
      · exact Or.inr (Or.inr (Or.inl h))
      · exact Or.inr (Or.inr (Or.inr (Or.inl (Or.inl h))))
      · exact Or.inl h
      · exact Or.inr (Or.inr (Or.inr (Or.inl (Or.inr h))))
    · intro p hp
      simp only [List.mem_cons, List.mem_append]
      exact Or.inr (Or.inr (Or.inr (Or.inr hp)))
    · intro p hp q hq
      simp only [List.mem_cons, List.mem_append, List.not_mem_nil, or_false] at hq
      rcases hq with h | (h | h) | h
      · subst h; have := hoff p hp _ (List.mem_cons_self ..); exact this
      · exact hoff p hp _ (List.mem_cons_of_mem _ (List.mem_append_left _ h))
      · subst h; exact Nat.ne_of_lt (l4 p (List.mem_append_right _ hp))
      · exact hoff p hp _ (List.mem_cons_of_mem _ (List.mem_append_right _ h))
    · intro z h1 _
      simp only [if_neg h1]
      rfl
  · clear F1 N1 G1
    intro R u h tk hI F2 N2
    obtain ⟨hR, hnd, hfr, hla⟩ := hI
    have hlen : R.length = n1 := by simpa using hR.length
    have hM : Mat (R.map (·.1)) R (List.replicate n1 (List.replicate n2 0)) := ⟨rfl, hR⟩
    have hS : Shape (List.replicate n1 (List.replicate n2 (0 : Int))) n1 n2 := ⟨by simp, fun r hr => by simp [List.getD, hr]⟩
    clear hR
    generalize hA : R.map (·.1) = A at *
    generalize R.length = nl at *
    clear hA
    try k_fold
    k_steps
    rename Fr _ _ _ _ => F1
    rename News _ _ _ _ => N1
    rename IsRange _ _ _ _ _ _ _ _ => G1
    unfold Stop
    with_unfolding_all refine loopR0 (S := List (Addr × Obj) × List (List Int)) (n := n1) [] (fun σ => (la, listOf (A.map Value.ref).toArray nl) :: (σ.1 ++ news)) (fun i σ => Mat A σ.1 σ.2 ∧ Shape σ.2 n1 n2 ∧ ∀ r, r < i → cell σ.2 r 0 = r) (R, _) (by rfl) G1 (by omega) (by omega) F1 N1 ⟨hM, hS, by omega⟩ (fun _ h => h) ?_ ?_
    · clear F1 N1 G1 hM hS
      intro i t σ u h tk own hi hI hoff F2 N2
      obtain ⟨R, g⟩ := σ
      obtain ⟨hM, hS, hc⟩ := hI
      dsimp only at hM hS hc
      obtain ⟨r, vs, n, hRi, his, hAi⟩ := hM.row hS hi
      have hrow := hS.2 i hi
      have hA : (A.map Value.ref)[(i : Int).toNat]? = some (.ref r) := by rw [Int.toNat_natCast, List.getElem?_map, hAi]; rfl
      have hra : r ≠ la := hla r (List.mem_of_getElem? hAi)
      have hbase := hfr r (List.mem_of_getElem? hAi)
      have N3 := focus N2 (r := r) (o := listOf vs.toArray n) (List.mem_append_left _ (List.mem_cons_of_mem _ (List.mem_append_left _ (List.mem_of_getElem? hRi))))
      have hne := off_ne (r := r) (l := ((la, listOf (A.map Value.ref).toArray nl) :: (R ++ news)) ++ own)
      have hl : (la, listOf (A.map Value.ref).toArray nl) ∈ off r (((la, listOf (A.map Value.ref).toArray nl) :: (R ++ news)) ++ own) := mem_off (List.mem_append_left _ (List.mem_cons_self ..)) (Ne.symm hra)
      generalize hoffd : off r (((la, listOf (A.map Value.ref).toArray nl) :: (R ++ news)) ++ own) = rest at *
      clear N2
      simp only [Int.zero_add] at F2
      try k_fold
      k_steps
      rename News _ _ _ _ => N4
      rename Fr _ _ _ _ => F4
      rename IntsAre _ _ => i4
      subst hoffd
      have hndR : (R.map (·.1)).Nodup := hM.adr ▸ hnd
      have e0 : (0 : Int).toNat = 0 := rfl
      rw [e0] at i4
      refine Leaves.fin (R.set i (r, _), g.set i _) F4 N4 ⟨hM.put hRi i4, hS.put hi (by rw [List.length_set]; exact hrow), ?_⟩ (put_sub hndR hRi (Ne.symm hra) hbase) (put_own hoff hRi) (put_off hndR hoff hRi) (fun z h1 _ => by simp only [if_neg h1]; rfl)
      intro r' hr'
      dsimp only
      rw [cell_put hS hi hn2.1]
      split
      · rename_i h; rw [h.1]
      · exact hc r' (by omega)
    · clear F1 N1 G1 hM hS
      intro σ u h tk hI F2 N2
      obtain ⟨R, g⟩ := σ
      obtain ⟨hM, hS, hc⟩ := hI
      dsimp only at hM hS hc N2
      try k_fold
      k_steps
      rename Fr _ _ _ _ => F1
      rename News _ _ _ _ => N1
      rename IsRange _ _ _ _ _ _ _ _ => G1
      unfold Stop
      with_unfolding_all refine loopR0 (S := List (Addr × Obj) × List (List Int)) (n := n2) [] (fun σ => (la, listOf (A.map Value.ref).toArray nl) :: (σ.1 ++ news)) (fun i σ => Mat A σ.1 σ.2 ∧ Shape σ.2 n1 n2 ∧ (∀ r, r < n1 → cell σ.2 r 0 = r) ∧ ∀ c, c < i → cell σ.2 0 c = c) (R, _) (by rfl) G1 (by omega) (by omega) F1 N1 ⟨hM, hS, hc, by omega⟩ (fun _ h => h) ?_ ?_
      · clear F1 N1 G1 hM hS hc
        intro j t σ u h tk own hj hI hoff F2 N2
        obtain ⟨R, g⟩ := σ
        obtain ⟨hM, hS, hc, hd⟩ := hI
        dsimp only at hM hS hc hd
        obtain ⟨r, vs, n, hRi, his, hAi⟩ := hM.row hS hn1.1
        have hrow := hS.2 0 hn1.1
        have hA : (A.map Value.ref)[(0 : Int).toNat]? = some (.ref r) := by
          have : (0 : Int).toNat = 0 := rfl
          rw [this, List.getElem?_map, hAi]; rfl
        have hra : r ≠ la := hla r (List.mem_of_getElem? hAi)
        have hbase := hfr r (List.mem_of_getElem? hAi)
        have N3 := focus N2 (r := r) (o := listOf vs.toArray n) (List.mem_append_left _ (List.mem_cons_of_mem _ (List.mem_append_left _ (List.mem_of_getElem? hRi))))
        have hne := off_ne (r := r) (l := ((la, listOf (A.map Value.ref).toArray nl) :: (R ++ news)) ++ own)
        have hl : (la, listOf (A.map Value.ref).toArray nl) ∈ off r (((la, listOf (A.map Value.ref).toArray nl) :: (R ++ news)) ++ own) := mem_off (List.mem_append_left _ (List.mem_cons_self ..)) (Ne.symm hra)
        generalize hoffd : off r (((la, listOf (A.map Value.ref).toArray nl) :: (R ++ news)) ++ own) = rest at *
        clear N2
        simp only [Int.zero_add] at F2
        try k_fold
        k_steps
        rename News _ _ _ _ => N4
        rename Fr _ _ _ _ => F4
        rename IntsAre _ _ => i4
        subst hoffd
        have hndR : (R.map (·.1)).Nodup := hM.adr ▸ hnd
        rw [Int.toNat_natCast] at i4
        refine Leaves.fin (R.set 0 (r, _), g.set 0 _) F4 N4 ⟨hM.put hRi i4, hS.put hn1.1 (by rw [List.length_set]; exact hrow), ?_, ?_⟩ (put_sub hndR hRi (Ne.symm hra) hbase) (put_own hoff hRi) (put_off hndR hoff hRi) (fun z h1 _ => by simp only [if_neg h1]; rfl)
        · intro r' hr'
          dsimp only
          rw [cell_put hS hn1.1 hj]
          split
          · rename_i h; omega
          · exact hc r' hr'
        · intro c' hc'
          dsimp only
          rw [cell_put hS hn1.1 hj]
          split
          · rename_i h; omega
          · exact hd c' (by omega)
      · clear F1 N1 G1 hM hS hc
        intro σ u h tk hI F2 N2
        obtain ⟨R, g⟩ := σ
        obtain ⟨hM, hS, hc, hd⟩ := hI
        dsimp only at hM hS hc hd N2
        try k_fold
        k_steps
        refine hret la nl A R g _ _ hM hS hd hc hnd (fun a ha => ⟨hla a ha, hfr a ha⟩) (fun p hp => Nat.ne_of_lt (lt1 p hp)) (by assumption) (by assumption)
end Mine
namespace Mine
local macro_rules | `(tactic| k_mem) => `(tactic| first | assumption | exact List.mem_cons_self | (refine List.mem_cons_of_mem _ ?_; k_mem))
local macro_rules | `(tactic| k_all) => `(tactic| assumption)
local macro_rules | `(tactic| is_list) => `(tactic| exact News.isList (by assumption) (by k_mem))
local macro_rules | `(tactic| walk_at "subscriptTail") => `(tactic| (k_here; (with_reducible show wpAny _ _ (subscriptTail _ _ (Value.ref _) (Value.int _ _)) _ _ _); k_dflt (refine' sub_ref ?k1 ?k2 ?k3 ?k4 ?k5 ?_ ?k7; (case k1 => k_asm); (case k2 => k_mem); (case k5 => assumption); (case k3 => omega); (case k4 => omega); (case k7 => with_unfolding_all rfl); k_whole)))
local macro_rules | `(tactic| walk_at "pyIter ref") => `(tactic| ((with_reducible show wpAny _ _ (pyIter (Value.ref _)) (fun it s₂ => LoopAtV _ _ _ _ _ _ _ _ _ it s₂) _ _); refine Stop.out ?_))
local macro_rules | `(tactic| size_fits) => `(tactic| assumption)

local macro_rules | `(tactic| ktr_enter) => `(tactic| (refine' code_frz ?k1 ?k2 ?k3 ?k5 ?kA ?kF ?kK ?k6 ?k7 ?k8 ?k9 ?kB ?_ ?c2 ?c3 ?c4 ?c5; (case kA => exact rfl); (case kF => exact rfl); (case kK => assumption); (case k1 => k_asm); (case k2 => k_asm); (case k3 => k_asm); (case k5 => k_asm); (case k6 => k_is); (case k7 => k_is); (case k8 => ktr_room); (case k9 => first | exact BindsTo.of_eq rfl | exact binds_K (by k_in) rfl (by k_is) rfl rfl rfl); (case c5 => decide); (case kB => exact locs rfl); (case c2 => exact rfl); (case c3 => exact rfl); (case c4 => exact rfl); k_whole; intro L' h' F' N' B' X' T'; (try dsimp only); (try k_fold)))
theorem lastinit_c (w : World) (p : Program) (loose : List Str) (mean : ExcName → Option Value) (mg mb : Str → Option Value) (l : Addr) (vs : List Value) (ns : List Int) (hi : IntsAre vs ns) (hn : ns.length < 2000) :
   FzC PySem.Challenge.pw_fe5011_01 w (hd1.heap_39 w.params) p loose mean mg mb 33 [.ref l] [] 1
     (fun h => h.IsList l vs.toArray) (fun h h' v => ∃ d o, v = .ref d ∧ h.get? d = none ∧ h'.get? d = some o ∧ IntDict PySem.Challenge.pw_fe5011_01 w o ns 2000) := by
  intro dp un gd cn cs a ccd cl outer A₀ base h₀ L m s Q E B F X T hk hd hu hls hret
  have hsz : ns.length ≤ sizeLine := by rw [sizeLine_eq]; omega
  refine wpAny_call ?_
  k_dflt ktr_enter
  k_steps
  rename Fr _ _ _ _ => F2
  rename Heap.DictOf _ _ _ _ => D2
  rename PyProof.V.FlatPairs _ _ _ => P2
  rename Heap.get? _ _ = none => E2
  obtain ⟨o, ho, hdo⟩ := Heap.dictOf_iff.mp D2
  have e1 : (List.filter (fun _ : Int => true) ns) = ns := by simp
  rw [e1] at P2
  have P3 : PyProof.V.FlatPairs PyData.int _ (kdfD (ns.foldl (fun c k => kdfPut c k 0) [])) := (putAll_zero ns []) ▸ (show PyProof.V.FlatPairs PyData.int _ (ns.foldl (fun acc a => PyProof.V.putD (PyData.int a) (PyData.int 0) acc) (kdfD [])) from P2)
  exact ⟨F2.keep, hret _ _ _ F2.keep ⟨_, o, rfl, E2, ho, IntDict.of_flat hdo P3 (by have := len_zero ns []; simp at this; omega) (fun x hx => has_zero ns [] x (Or.inr hx))⟩⟩
end Mine
namespace Mine
local macro_rules | `(tactic| k_mem) => `(tactic| first | assumption | exact List.mem_cons_self | (refine List.mem_cons_of_mem _ ?_; k_mem))
local macro_rules | `(tactic| k_all) => `(tactic| assumption)
local macro_rules | `(tactic| is_list) => `(tactic| exact News.isList (by assumption) (by k_mem))
local macro_rules | `(tactic| walk_at "subscriptTail") => `(tactic| (k_here; (with_reducible show wpAny _ _ (subscriptTail _ _ (Value.ref _) (Value.int _ _)) _ _ _); k_dflt (refine' sub_ref ?k1 ?k2 ?k3 ?k4 ?k5 ?_ ?k7; (case k1 => k_asm); (case k2 => k_mem); (case k5 => assumption); (case k3 => omega); (case k4 => omega); (case k7 => with_unfolding_all rfl); k_whole)))
local macro_rules | `(tactic| walk_at "pyIter ref") => `(tactic| ((with_reducible show wpAny _ _ (pyIter (Value.ref _)) (fun it s₂ => LoopAtV _ _ _ _ _ _ _ _ _ it s₂) _ _); refine Stop.out ?_))
local macro_rules | `(tactic| size_fits) => `(tactic| assumption)
local macro_rules | `(tactic| cell_enter) => `(tactic| (refine' code_def ?k1 ?k2 ?k3 ?k4 ?k5 ?kA ?kF ?kK ?k6 ?k7 ?k8 ?k9 ?kB ?_ ?c2 ?c3 ?c4 ?c5; (case kA => exact rfl); (case kF => exact rfl); (case kK => assumption); (case k1 => k_asm); (case k2 => k_asm); (case k3 => k_asm); (case k4 => k_asm); (case k5 => k_asm); (case k6 => k_is); (case k7 => k_is); (case k8 => ktr_room); (case k9 => first | exact BindsTo.of_eq rfl | exact binds_K (by k_in) rfl (by k_is) rfl rfl rfl); (case c5 => decide); (case kB => exact locs rfl); (case c2 => exact rfl); (case c3 => exact rfl); (case c4 => exact rfl); k_whole; intro g' L' h' FG' F' N' B' X' T'; (try dsimp only); (try k_lift B'); (try k_fold)))
local macro_rules | `(tactic| ktr_enter) => `(tactic| (refine' code_frz ?k1 ?k2 ?k3 ?k5 ?kA ?kF ?kK ?k6 ?k7 ?k8 ?k9 ?kB ?_ ?c2 ?c3 ?c4 ?c5; (case kA => exact rfl); (case kF => exact rfl); (case kK => assumption); (case k1 => k_asm); (case k2 => k_asm); (case k3 => k_asm); (case k5 => k_asm); (case k6 => k_is); (case k7 => k_is); (case k8 => ktr_room); (case k9 => first | exact BindsTo.of_eq rfl | exact binds_K (by k_in) rfl (by k_is) rfl rfl rfl); (case c5 => decide); (case kB => exact locs rfl); (case c2 => exact rfl); (case c3 => exact rfl); (case c4 => exact rfl); k_whole; intro L' h' F' N' B' X' T'; (try dsimp only); (try k_fold)))

theorem check_c (w : World) (p : Program) (loose : List Str) (mean : ExcName → Option Value) (mg mb : Str → Option Value) (l1 l2 : Addr) (vs1 vs2 : List Value) (xs ys : List Int) (i1 : IntsAre vs1 xs) (i2 : IntsAre vs2 ys) (h1 : xs.length < 1000) (h2 : ys.length < 1000) (x : Str) (t : Tok) :
   FzC PySem.Challenge.pw_fe5011_01 w (hd1.heap_39 w.params) p loose mean mg mb 21 [.ref l1, .ref l2, .str x t] [] 1
     (fun h => h.IsList l1 vs1.toArray ∧ h.IsList l2 vs2.toArray) (fun h h' v => v = .none) := by
  intro dp un gd cn cs a ccd cl outer A₀ base h₀ L m s Q E B F X T hk hd hu hls hret
  obtain ⟨hl1, hl2⟩ := hls
  refine wpAny_call ?_
  k_dflt ktr_enter
  k_steps
  exact ⟨Fr.keep (by assumption), hret _ _ _ (Fr.keep (by assumption)) rfl⟩
end Mine
namespace Mine
local macro_rules | `(tactic| k_mem) => `(tactic| first | assumption | exact List.mem_cons_self | (refine List.mem_cons_of_mem _ ?_; k_mem))
local macro_rules | `(tactic| k_all) => `(tactic| assumption)
local macro_rules | `(tactic| is_list) => `(tactic| exact News.isList (by assumption) (by k_mem))
local macro_rules | `(tactic| walk_at "subscriptTail") => `(tactic| (k_here; (with_reducible show wpAny _ _ (subscriptTail _ _ (Value.ref _) (Value.int _ _)) _ _ _); k_dflt (refine' sub_ref ?k1 ?k2 ?k3 ?k4 ?k5 ?_ ?k7; (case k1 => k_asm); (case k2 => k_mem); (case k5 => assumption); (case k3 => omega); (case k4 => omega); (case k7 => with_unfolding_all rfl); k_whole)))
local macro_rules | `(tactic| walk_at "pyIter ref") => `(tactic| ((with_reducible show wpAny _ _ (pyIter (Value.ref _)) (fun it s₂ => LoopAtV _ _ _ _ _ _ _ _ _ it s₂) _ _); refine Stop.out ?_))
local macro_rules | `(tactic| size_fits) => `(tactic| assumption)
local macro_rules | `(tactic| cell_enter) => `(tactic| (refine' code_def ?k1 ?k2 ?k3 ?k4 ?k5 ?kA ?kF ?kK ?k6 ?k7 ?k8 ?k9 ?kB ?_ ?c2 ?c3 ?c4 ?c5; (case kA => exact rfl); (case kF => exact rfl); (case kK => assumption); (case k1 => k_asm); (case k2 => k_asm); (case k3 => k_asm); (case k4 => k_asm); (case k5 => k_asm); (case k6 => k_is); (case k7 => k_is); (case k8 => ktr_room); (case k9 => first | exact BindsTo.of_eq rfl | exact binds_K (by k_in) rfl (by k_is) rfl rfl rfl); (case c5 => decide); (case kB => exact locs rfl); (case c2 => exact rfl); (case c3 => exact rfl); (case c4 => exact rfl); k_whole; intro g' L' h' FG' F' N' B' X' T'; (try dsimp only); (try k_lift B'); (try k_fold)))
local macro_rules | `(tactic| ktr_enter) => `(tactic| (refine' code_frz ?k1 ?k2 ?k3 ?k5 ?kA ?kF ?kK ?k6 ?k7 ?k8 ?k9 ?kB ?_ ?c2 ?c3 ?c4 ?c5; (case kA => exact rfl); (case kF => exact rfl); (case kK => assumption); (case k1 => k_asm); (case k2 => k_asm); (case k3 => k_asm); (case k5 => k_asm); (case k6 => k_is); (case k7 => k_is); (case k8 => ktr_room); (case k9 => first | exact BindsTo.of_eq rfl | exact binds_K (by k_in) rfl (by k_is) rfl rfl rfl); (case c5 => decide); (case kB => exact locs rfl); (case c2 => exact rfl); (case c3 => exact rfl); (case c4 => exact rfl); k_whole; intro L' h' F' N' B' X' T'; (try dsimp only); (try k_fold)))

local macro_rules | `(tactic| walk_at "call ref") => `(tactic| refine Stop.out ?_)
local macro_rules | `(tactic| walk_at "setItem ref int") => `(tactic| refine Stop.out ?_)
local macro_rules | `(tactic| walk_at "subscriptTail") => `(tactic| (k_here; (with_reducible show wpAny _ _ (subscriptTail _ _ (Value.ref _) (Value.int _ _)) _ _ _); k_dflt (refine' idict_item ?k1 ?k2 ?k3 ?k4 ?_ ?k5 ?k6; (case k1 => k_asm); (case k2 => k_mem); (case k3 => assumption); (case k4 => first | exact mem_getR (by omega) (by omega) | exact mem_getL (by omega) (by omega)); (case k5 => with_unfolding_all rfl); (case k6 => (intro _; with_unfolding_all rfl)); k_whole); intro z' t'))
/-- the table of edits, the mathematics -/
def DD (cost : Int) (xs ys : List Int) : Nat → Nat → Int
  | 0, c => c
  | r + 1, 0 => r + 1
  | r + 1, c + 1 => min (min (DD cost xs ys r (c + 1) + 1) (DD cost xs ys (r + 1) c + 1)) (DD cost xs ys r c + if xs.getD r 0 = ys.getD c 0 then 0 else cost)

theorem edit_c (w : World) (p : Program) (loose : List Str) (mean : ExcName → Option Value) (mg mb : Str → Option Value) (l1 l2 : Addr) (vs1 vs2 : List Value) (xs ys : List Int) (i1 : IntsAre vs1 xs) (i2 : IntsAre vs2 ys) (h1 : xs.length < 900) (h2 : ys.length < 900) (cost : Int) (tc : Tok) :
   FzC PySem.Challenge.pw_fe5011_01 w (hd1.heap_39 w.params) p loose mean mg mb 49 [.ref l1, .ref l2, .int cost tc] [] 2
     (fun h => h.IsList l1 vs1.toArray ∧ h.IsList l2 vs2.toArray) (fun _ _ v => ∃ t, v = .int (DD cost xs ys xs.length ys.length) t) := by
  intro dp un gd cn cs a ccd cl outer A₀ base h₀ L m s Q E B F X T hk hd hu hls hret
  obtain ⟨hl1, hl2⟩ := hls
  refine wpAny_call ?_
  k_dflt ktr_enter
  k_steps
  unfold Stop
  k_dflt (refine' FzC.use (check_c _ _ _ _ _ _ _ _ _ _ _ _ ?i1 ?i2 ?b1 ?b2 _ _) ?k1 ?k2 ?k3 ?k4 ?k5 ?kK ?kd ?ku ?kp ?_; (case k1 => k_asm); (case k2 => k_asm); (case k3 => k_asm); (case k4 => k_asm); (case k5 => k_asm); (case kK => exact rfl); (case i1 => exact i1); (case i2 => exact i2); (case b1 => omega); (case b2 => omega); (case kd => ktr_room); (case ku => ktr_units); (case kp => exact ⟨Fr.lst (by assumption) hl1, Fr.lst (by assumption) hl2⟩))
  intro v h' tk' F2 N2 _ P
  obtain rfl := P
  k_sweep
  try k_fold
  k_steps
  unfold Stop
  k_dflt (refine' FnC.use (init_c _ _ _ _ _ _ _ (xs.length + 1) (ys.length + 1) _ _ ?z1 ?z2 ?b1 ?b2 _ _) ?k1 ?k2 ?k3 ?k4 ?k5 ?kK ?kd ?ku ?_; (case k1 => k_asm); (case k2 => k_asm); (case k3 => k_asm); (case k4 => k_asm); (case k5 => k_asm); (case kK => exact rfl); (case z1 => omega); (case z2 => omega); (case b1 => omega); (case b2 => omega); (case kd => ktr_room); (case ku => ktr_units))
  intro la nl A R g h' tk' hM hS hc0 hr0 hnd hA hn F2 N2
  clear hn
  k_sweep
  try k_fold
  k_steps
  unfold Stop
  rename News _ _ _ _ => N3
  rename Fr _ _ _ _ => F3
  rename IntsAre _ (xs ++ ys) => i3
  rename _ < _ ∧ AllLt _ _ => l3
  obtain ⟨D, oD, hD, hoD⟩ := head_at N3
  subst hD
  k_dflt (refine' FzC.use (lastinit_c _ _ _ _ _ _ _ _ _ i3 ?b1) ?k1 ?k2 ?k3 ?k4 ?k5 ?kK ?kd ?ku ?kp ?_; (case k1 => k_asm); (case k2 => exact F3); (case k3 => k_asm); (case k4 => exact N3); (case k5 => k_asm); (case kK => exact rfl); (case b1 => simp only [List.length_append]; omega); (case kd => ktr_room); (case ku => ktr_units); (case kp => exact News.isList N3 (List.mem_cons_self ..)))
  intro v h' tk' F4 N4 keep P
  obtain ⟨d, od, hv, hnew, hlive, hdict⟩ := P
  subst hv
  obtain ⟨N5, hne5⟩ := fresh_news F3 N3 keep hnew hlive
  clear N4 keep hnew hlive
  k_sweep
  try k_fold
  k_steps
  rename Fr _ _ _ _ => F1
  rename News _ _ _ _ => N1
  rename IsRange _ _ _ _ _ _ _ _ => G1
  unfold Stop
  have hAd : ∀ a ∈ A, a ≠ d := by
    intro a ha
    rw [← hM.adr] at ha
    obtain ⟨q, hq, rfl⟩ := List.mem_map.mp ha
    exact hne5 q (List.mem_cons_of_mem _ (List.mem_cons_of_mem _ (List.mem_append_left _ hq)))
  have hld : la ≠ d := by have := hne5 _ (List.mem_cons_of_mem _ (List.mem_cons_self ..)); exact this
  with_unfolding_all refine loopR0 (S := List (Addr × Obj) × List (List Int) × Obj) (n := xs.length) [Str.ofString "last_right_buf", Str.ofString "j", Str.ofString "last_left", Str.ofString "last_right"] (fun σ => (la, listOf (A.map Value.ref).toArray nl) :: (σ.1 ++ [(d, σ.2.2)])) (fun i σ => Mat A σ.1 σ.2.1 ∧ Shape σ.2.1 (xs.length + 1) (ys.length + 1) ∧ (∀ r c, r ≤ xs.length → c ≤ ys.length → (r ≤ i ∨ c = 0) → cell σ.2.1 r c = DD cost xs ys r c) ∧ IntDict PySem.Challenge.pw_fe5011_01 w σ.2.2 (xs ++ ys) (2000 + i)) (R, g, od) (by rfl) G1 (by omega) (by omega) F1 N1 ⟨hM, hS, ?_, hdict⟩ ?_ ?_ ?_
  · intro r c hr hc h
    rcases h with h | h
    · have e : r = 0 := by omega
      subst e
      dsimp only
      rw [hc0 c (by omega), DD]
    · subst h
      dsimp only
      rw [hr0 r (by omega)]
      cases r with
      | zero => simp [DD]
      | succ r => rw [DD]; omega
  · intro q hq
    rcases List.mem_cons.mp hq with rfl | hq
    · exact List.mem_cons_of_mem _ (List.mem_cons_of_mem _ (List.mem_cons_self ..))
    · rcases List.mem_append.mp hq with hq | hq
      · exact List.mem_cons_of_mem _ (List.mem_cons_of_mem _ (List.mem_cons_of_mem _ (List.mem_append_left _ hq)))
      · rw [List.mem_singleton.mp hq]; exact List.mem_cons_self ..
  · clear F1 N1 G1 hM hS hc0 hr0 hne5 hdict
    intro i t σ u h tk own hi hI hoff F2 N2
    obtain ⟨R, g, od⟩ := σ
    obtain ⟨hM, hS, hc, hdict⟩ := hI
    dsimp only at hM hS hc hdict N2 hoff
    obtain ⟨r1, v1, n1, hR1, iv1, hA1⟩ := hM.row hS (show i < xs.length + 1 by omega)
    obtain ⟨r2, v2, n2, hR2, iv2, hA2⟩ := hM.row hS (show i + 1 < xs.length + 1 by omega)
    have N3 := focus N2 (r := r2) (o := listOf v2.toArray n2) (List.mem_append_left _ (List.mem_cons_of_mem _ (List.mem_append_left _ (List.mem_of_getElem? hR2))))
    have hne := off_ne (r := r2) (l := ((la, listOf (A.map Value.ref).toArray nl) :: (R ++ [(d, od)])) ++ own)
    have hr2la : r2 ≠ la := (hA r2 (List.mem_of_getElem? hA2)).1
    have hr2d : r2 ≠ d := hAd r2 (List.mem_of_getElem? hA2)
    have hr12 : r1 ≠ r2 := by
      rintro rfl
      have hlA : i < A.length := (List.getElem?_eq_some_iff.mp hA1).1
      have := (List.getElem?_inj hlA hnd).mp (hA1.trans hA2.symm)
      omega
    have hl : (la, listOf (A.map Value.ref).toArray nl) ∈ off r2 (((la, listOf (A.map Value.ref).toArray nl) :: (R ++ [(d, od)])) ++ own) := mem_off (List.mem_append_left _ (List.mem_cons_self ..)) (Ne.symm hr2la)
    have hdm : (d, od) ∈ off r2 (((la, listOf (A.map Value.ref).toArray nl) :: (R ++ [(d, od)])) ++ own) := mem_off (List.mem_append_left _ (List.mem_cons_of_mem _ (List.mem_append_right _ (List.mem_cons_self ..)))) (Ne.symm hr2d)
    have hr1m : (r1, listOf v1.toArray n1) ∈ off r2 (((la, listOf (A.map Value.ref).toArray nl) :: (R ++ [(d, od)])) ++ own) := mem_off (List.mem_append_left _ (List.mem_cons_of_mem _ (List.mem_append_left _ (List.mem_of_getElem? hR1)))) hr12
    generalize hoffd : off r2 (((la, listOf (A.map Value.ref).toArray nl) :: (R ++ [(d, od)])) ++ own) = rest at *
    clear N2
    try k_fold
    k_steps
    rename Fr _ _ _ _ => F4
    rename News _ _ _ _ => N4
    rename IsRange _ _ _ _ _ _ _ _ => G4
    unfold Stop
    with_unfolding_all refine loopR1 (S := List Value × List Int × Int × Tok) (n := ys.length) [Str.ofString "last_left", Str.ofString "last_right"] (Str.ofString "last_right_buf") (fun σ => .int σ.2.2.1 σ.2.2.2) (fun σ => (r2, listOf σ.1.toArray n2) :: rest) (fun j σ => IntsAre σ.1 σ.2.1 ∧ σ.2.1.length = ys.length + 1 ∧ ∀ c, c ≤ j → σ.2.1.getD c 0 = DD cost xs ys (i + 1) c) (v2, g.getD (i + 1) [], 0, _) (by rfl) G4 (by omega) (by omega) F4 N4 ⟨iv2, hS.2 (i + 1) (by omega), ?_⟩ (fun _ h => h) (by rfl) ?_ ?_
    · intro c hc'
      have e : c = 0 := by omega
      subst e
      have := hc (i + 1) 0 (by omega) (by omega) (Or.inr rfl)
      unfold cell at this
      exact this
    · clear F2 N3 F4 N4 G4 iv2
      intro j tj σ u2 h2 tk2 own2 hj hI hoff2 F5 N5
      obtain ⟨v2, row, b, tb⟩ := σ
      obtain ⟨iv2, hrow, hd⟩ := hI
      dsimp only at iv2 hrow hd N5 hoff2 F5
      try k_fold
      k_steps
      all_goals (
        rename News _ _ _ _ => N6
        rename Fr _ _ _ _ => F6
        unfold Stop
        have s1 : ∀ p ∈ rest ++ own2, p.1 ≠ r2 := fun p hp => (List.mem_append.mp hp).elim (hne p) fun hp => by have := hoff2 p hp _ (List.mem_cons_self ..); exact this
        have s2 : (A.map Value.ref)[(1 + (i : Int) - 1).toNat]? = some (.ref r1) := by rw [show (1 + (i : Int) - 1).toNat = i by omega, List.getElem?_map, hA1]; rfl
        have s3 : (A.map Value.ref)[(1 + (i : Int)).toNat]? = some (.ref r2) := by rw [show (1 + (i : Int)).toNat = i + 1 by omega, List.getElem?_map, hA2]; rfl
        k_dflt (refine FnC.use (step_c w _ _ _ _ _ (rest ++ own2) la r1 r2 l1 l2 (A.map Value.ref) v1 v2 vs1 vs2 nl n1 n2 (g.getD i []) row xs ys (1 + (i : Int)) (1 + (j : Int)) cost _ _ _ _ _ _ _ (List.mem_append_left _ hl) (List.mem_append_left _ hr1m) s1 s2 s3 iv1 iv2 i1 i2 (by omega) (by omega) (by omega) (by omega) (hS.2 i (by omega)) hrow) (by k_asm) F6 (by k_asm) N6 (by k_asm) rfl (by ktr_room) (by ktr_units) ⟨hl1, hl2, ?_⟩)
        · clear s1 s2 s3
          intro z tz h7 tk7 hz F7 N7
          rw [show (1 + (j : Int)).toNat = j + 1 by omega] at hz N7
          rw [show (1 + (j : Int) - 1).toNat = j by omega, show (1 + (i : Int) - 1).toNat = i by omega] at hz
          have hz' : z = DD cost xs ys (i + 1) (j + 1) := by
            have a1 := hc i (j + 1) (by omega) (by omega) (Or.inl (Nat.le_refl _))
            have a2 := hc i j (by omega) (by omega) (Or.inl (Nat.le_refl _))
            have a3 := hd j (Nat.le_refl _)
            unfold cell at a1 a2
            rw [hz, a1, a2, a3, DD]
          clear hz
          k_sweep
          try k_fold
          k_steps
          have iv := ints_set (x := z) (u := tz) iv2 (j + 1)
          rename Fr _ _ _ _ => F8
          obtain ⟨b', tb', e1, e2⟩ := int_at F8 (Str.ofString "last_right_buf") rfl
          refine Leaves.fin (v2.set (j + 1) (.int z tz), row.set (j + 1) z, b', tb') F8 (by assumption) ⟨iv, by rw [List.length_set]; exact hrow, ?_⟩ ?_ ?_ ?_ (fun y hy hs => by
              have q1 := not_stored hs (List.mem_cons_self ..)
              have q2 := not_stored hs (List.mem_cons_of_mem _ (List.mem_cons_self ..))
              by_cases hb : y = Str.ofString "last_right_buf"
              · subst hb; cases e1; cases e2; rfl
              · simp only [if_neg hy, if_neg q1, if_neg q2, if_neg hb, hs, Bool.false_eq_true, if_false])
          · intro c hcj
            dsimp only
            by_cases e : j + 1 = c
            · subst e; rw [getD_set_self (by rw [hrow]; omega)]; exact hz'
            · rw [getD_set_ne e]; exact hd c (by omega)
          · intro p hp
            exact List.mem_append_left _ hp
          · intro p hp
            exact List.mem_cons_of_mem _ (List.mem_append_right _ hp)
          · intro p hp q hq
            rcases List.mem_cons.mp hq with rfl | hq
            · have := hoff2 p hp _ (List.mem_cons_self ..); exact this
            · exact hoff2 p hp q (List.mem_cons_of_mem _ hq))
    · clear F2 N3 F4 N4 G4 iv2
      intro σ u2 h3 tk3 hI F5 N5
      obtain ⟨v3, row, b, tb⟩ := σ
      obtain ⟨iv2, hrow, hd⟩ := hI
      dsimp only at iv2 hrow hd N5 F5
      try k_fold
      k_steps
      unfold Stop
      have N9 := focus N5 (r := d) (o := od) (List.mem_cons_of_mem _ hdm)
      rename Fr _ _ _ _ => F8
      refine idict_set F8 N9 off_ne hdict (by omega) ?_
      intro h9 o9 F10 N10 hd9
      clear N5 F8 N9
      k_steps
      subst hoffd
      have hndR : (R.map (·.1)).Nodup := hM.adr ▸ hnd
      have hM' := hM.put hR2 (n := n2) iv2
      have hps := put_sub (la := la) (V := listOf (A.map Value.ref).toArray nl) (o' := listOf v3.toArray n2) (own := own) hndR hR2 (Ne.symm hr2la) (base := [(d, od)]) (fun p hp => by rw [List.mem_singleton.mp hp]; exact Ne.symm hr2d)
      refine Leaves.fin (R.set (i + 1) (r2, listOf v3.toArray n2), g.set (i + 1) row, o9) F10 N10 ⟨hM', hS.put (by omega) hrow, ?_, hd9⟩ ?_ ?_ ?_ ?_
      · intro r c hr hc' h
        dsimp only
        unfold cell
        by_cases e : i + 1 = r
        · subst e
          rw [getD_set_self (by rw [hS.1]; omega)]
          exact hd c hc'
        · rw [getD_set_ne e]
          exact hc r c hr hc' (by omega)
      · intro p hp
        have key : ∀ p ∈ (la, listOf (A.map Value.ref).toArray nl) :: R.set (i + 1) (r2, listOf v3.toArray n2), p.1 ≠ d := by
          intro p hp
          rcases List.mem_cons.mp hp with rfl | hp
          · exact hld
          · exact hAd p.1 (by rw [← hM'.adr]; exact List.mem_map_of_mem hp)
        rcases List.mem_cons.mp hp with rfl | hp
        · exact List.mem_cons_of_mem _ (mem_off (hps _ (List.mem_cons_self ..)) (key _ (List.mem_cons_self ..)))
        · rcases List.mem_append.mp hp with hp | hp
          · exact List.mem_cons_of_mem _ (mem_off (hps _ (List.mem_cons_of_mem _ (List.mem_append_left _ hp))) (key _ (List.mem_cons_of_mem _ hp)))
          · rw [List.mem_singleton.mp hp]; exact List.mem_cons_self ..
      · intro p hp
        have hd' := hoff p hp (d, od) (List.mem_cons_of_mem _ (List.mem_append_right _ (List.mem_cons_self ..)))
        exact List.mem_cons_of_mem _ (mem_off (put_own hoff hR2 p hp) hd')
      · intro p hp q hq
        have h0 := put_off (o' := listOf v3.toArray n2) hndR hoff hR2 p hp
        rcases List.mem_cons.mp hq with rfl | hq
        · exact h0 _ (List.mem_cons_self ..)
        · rcases List.mem_append.mp hq with hq | hq
          · exact h0 q (List.mem_cons_of_mem _ (List.mem_append_left _ hq))
          · rw [List.mem_singleton.mp hq]
            have := h0 _ (List.mem_cons_of_mem _ (List.mem_append_right _ (List.mem_cons_self ..))); exact this
      · intro y hy hs
        have q1 := not_stored hs (List.mem_cons_self ..)
        have q2 := not_stored hs (List.mem_cons_of_mem _ (List.mem_cons_self ..))
        have q3 := not_stored hs (List.mem_cons_of_mem _ (List.mem_cons_of_mem _ (List.mem_cons_self ..)))
        have q4 := not_stored hs (List.mem_cons_of_mem _ (List.mem_cons_of_mem _ (List.mem_cons_of_mem _ (List.mem_cons_self ..))))
        simp only [if_neg hy, if_neg q1, if_neg q2, contains_two q3 q4, hs, Bool.false_eq_true, if_false]
  · clear F1 N1 G1 hM hS hc0 hr0 hne5 hdict
    intro σ u h tk hI F2 N2
    obtain ⟨R, g, od⟩ := σ
    obtain ⟨hM, hS, hc, hdict⟩ := hI
    dsimp only at hM hS hc hdict N2
    obtain ⟨r2, v2, n2, hR2, iv2, hA2⟩ := hM.row hS (show xs.length < xs.length + 1 by omega)
    have hm2 : (r2, listOf v2.toArray n2) ∈ (la, listOf (A.map Value.ref).toArray nl) :: (R ++ [(d, od)]) := List.mem_cons_of_mem _ (List.mem_append_left _ (List.mem_of_getElem? hR2))
    have hx2 : (A.map Value.ref)[(xs.length : Int).toNat]? = some (.ref r2) := by rw [Int.toNat_natCast, List.getElem?_map, hA2]; rfl
    have hrow := hS.2 xs.length (by omega)
    try k_fold
    k_steps
    have e := hc xs.length ys.length (Nat.le_refl _) (Nat.le_refl _) (Or.inl (Nat.le_refl _))
    unfold cell at e
    show Lz _ _ _ _
    exact ⟨F2.keep, hret _ _ _ F2.keep ⟨_, congrArg (fun z => Value.int z _) (by rw [Int.toNat_natCast]; exact e)⟩⟩
end Mine
namespace Mine
local macro_rules | `(tactic| k_mem) => `(tactic| first | assumption | exact List.mem_cons_self | (refine List.mem_cons_of_mem _ ?_; k_mem))
local macro_rules | `(tactic| k_all) => `(tactic| assumption)
local macro_rules | `(tactic| is_list) => `(tactic| exact News.isList (by assumption) (by k_mem))
local macro_rules | `(tactic| walk_at "subscriptTail") => `(tactic| (k_here; (with_reducible show wpAny _ _ (subscriptTail _ _ (Value.ref _) (Value.int _ _)) _ _ _); k_dflt (refine' sub_ref ?k1 ?k2 ?k3 ?k4 ?k5 ?_ ?k7; (case k1 => k_asm); (case k2 => k_mem); (case k5 => assumption); (case k3 => omega); (case k4 => omega); (case k7 => with_unfolding_all rfl); k_whole)))
local macro_rules | `(tactic| walk_at "pyIter ref") => `(tactic| ((with_reducible show wpAny _ _ (pyIter (Value.ref _)) (fun it s₂ => LoopAtV _ _ _ _ _ _ _ _ _ it s₂) _ _); refine Stop.out ?_))
local macro_rules | `(tactic| size_fits) => `(tactic| assumption)
local macro_rules | `(tactic| cell_enter) => `(tactic| (refine' code_def ?k1 ?k2 ?k3 ?k4 ?k5 ?kA ?kF ?kK ?k6 ?k7 ?k8 ?k9 ?kB ?_ ?c2 ?c3 ?c4 ?c5; (case kA => exact rfl); (case kF => exact rfl); (case kK => assumption); (case k1 => k_asm); (case k2 => k_asm); (case k3 => k_asm); (case k4 => k_asm); (case k5 => k_asm); (case k6 => k_is); (case k7 => k_is); (case k8 => ktr_room); (case k9 => first | exact BindsTo.of_eq rfl | exact binds_K (by k_in) rfl (by k_is) rfl rfl rfl); (case c5 => decide); (case kB => exact locs rfl); (case c2 => exact rfl); (case c3 => exact rfl); (case c4 => exact rfl); k_whole; intro g' L' h' FG' F' N' B' X' T'; (try dsimp only); (try k_lift B'); (try k_fold)))
local macro_rules | `(tactic| ktr_enter) => `(tactic| (refine' code_frz ?k1 ?k2 ?k3 ?k5 ?kA ?kF ?kK ?k6 ?k7 ?k8 ?k9 ?kB ?_ ?c2 ?c3 ?c4 ?c5; (case kA => exact rfl); (case kF => exact rfl); (case kK => assumption); (case k1 => k_asm); (case k2 => k_asm); (case k3 => k_asm); (case k5 => k_asm); (case k6 => k_is); (case k7 => k_is); (case k8 => ktr_room); (case k9 => first | exact BindsTo.of_eq rfl | exact binds_K (by k_in) rfl (by k_is) rfl rfl rfl); (case c5 => decide); (case kB => exact locs rfl); (case c2 => exact rfl); (case c3 => exact rfl); (case c4 => exact rfl); k_whole; intro L' h' F' N' B' X' T'; (try dsimp only); (try k_fold)))

local macro_rules | `(tactic| walk_at "call ref") => `(tactic| refine Stop.out ?_)
local macro_rules | `(tactic| walk_at "setItem ref int") => `(tactic| refine Stop.out ?_)
local macro_rules | `(tactic| walk_at "subscriptTail") => `(tactic| (k_here; (with_reducible show wpAny _ _ (subscriptTail _ _ (Value.ref _) (Value.int _ _)) _ _ _); k_dflt (refine' idict_item ?k1 ?k2 ?k3 ?k4 ?_ ?k5 ?k6; (case k1 => k_asm); (case k2 => k_mem); (case k3 => assumption); (case k4 => first | exact mem_getR (by omega) (by omega) | exact mem_getL (by omega) (by omega)); (case k5 => with_unfolding_all rfl); (case k6 => (intro _; with_unfolding_all rfl)); k_whole); intro z' t'))
theorem edit_cK (w : World) (p : Program) (loose : List Str) (mean : ExcName → Option Value) (mg mb : Str → Option Value) (l1 l2 : Addr) (vs1 vs2 : List Value) (xs ys : List Int) (i1 : IntsAre vs1 xs) (i2 : IntsAre vs2 ys) (h1 : xs.length < 900) (h2 : ys.length < 900) (cost : Int) (tc : Tok) :
   FzC PySem.Challenge.pw_fe5011_01 w (hd1.heap_39 w.params) p loose mean mg mb 49 [.ref l1, .ref l2] [(Str.ofString "substitution_cost", .int cost tc)] 2
     (fun h => h.IsList l1 vs1.toArray ∧ h.IsList l2 vs2.toArray) (fun _ _ v => ∃ t, v = .int (DD cost xs ys xs.length ys.length) t) := by
  intro dp un gd cn cs a ccd cl outer A₀ base h₀ L m s Q E B F X T hk hd hu hls hret
  obtain ⟨hl1, hl2⟩ := hls
  refine wpAny_call ?_
  k_dflt ktr_enter
  k_steps
  unfold Stop
  k_dflt (refine' FzC.use (check_c _ _ _ _ _ _ _ _ _ _ _ _ ?i1 ?i2 ?b1 ?b2 _ _) ?k1 ?k2 ?k3 ?k4 ?k5 ?kK ?kd ?ku ?kp ?_; (case k1 => k_asm); (case k2 => k_asm); (case k3 => k_asm); (case k4 => k_asm); (case k5 => k_asm); (case kK => exact rfl); (case i1 => exact i1); (case i2 => exact i2); (case b1 => omega); (case b2 => omega); (case kd => ktr_room); (case ku => ktr_units); (case kp => exact ⟨Fr.lst (by assumption) hl1, Fr.lst (by assumption) hl2⟩))
  intro v h' tk' F2 N2 _ P
  obtain rfl := P
  k_sweep
  try k_fold
  k_steps
  unfold Stop
  k_dflt (refine' FnC.use (init_c _ _ _ _ _ _ _ (xs.length + 1) (ys.length + 1) _ _ ?z1 ?z2 ?b1 ?b2 _ _) ?k1 ?k2 ?k3 ?k4 ?k5 ?kK ?kd ?ku ?_; (case k1 => k_asm); (case k2 => k_asm); (case k3 => k_asm); (case k4 => k_asm); (case k5 => k_asm); (case kK => exact rfl); (case z1 => omega); (case z2 => omega); (case b1 => omega); (case b2 => omega); (case kd => ktr_room); (case ku => ktr_units))
  intro la nl A R g h' tk' hM hS hc0 hr0 hnd hA hn F2 N2
  clear hn
  k_sweep
  try k_fold
  k_steps
  unfold Stop
  rename News _ _ _ _ => N3
  rename Fr _ _ _ _ => F3
  rename IntsAre _ (xs ++ ys) => i3
  rename _ < _ ∧ AllLt _ _ => l3
  obtain ⟨D, oD, hD, hoD⟩ := head_at N3
  subst hD
  k_dflt (refine' FzC.use (lastinit_c _ _ _ _ _ _ _ _ _ i3 ?b1) ?k1 ?k2 ?k3 ?k4 ?k5 ?kK ?kd ?ku ?kp ?_; (case k1 => k_asm); (case k2 => exact F3); (case k3 => k_asm); (case k4 => exact N3); (case k5 => k_asm); (case kK => exact rfl); (case b1 => simp only [List.length_append]; omega); (case kd => ktr_room); (case ku => ktr_units); (case kp => exact News.isList N3 (List.mem_cons_self ..)))
  intro v h' tk' F4 N4 keep P
  obtain ⟨d, od, hv, hnew, hlive, hdict⟩ := P
  subst hv
  obtain ⟨N5, hne5⟩ := fresh_news F3 N3 keep hnew hlive
  clear N4 keep hnew hlive
  k_sweep
  try k_fold
  k_steps
  rename Fr _ _ _ _ => F1
  rename News _ _ _ _ => N1
  rename IsRange _ _ _ _ _ _ _ _ => G1
  unfold Stop
  have hAd : ∀ a ∈ A, a ≠ d := by
    intro a ha
    rw [← hM.adr] at ha
    obtain ⟨q, hq, rfl⟩ := List.mem_map.mp ha
    exact hne5 q (List.mem_cons_of_mem _ (List.mem_cons_of_mem _ (List.mem_append_left _ hq)))
  have hld : la ≠ d := by have := hne5 _ (List.mem_cons_of_mem _ (List.mem_cons_self ..)); exact this
  with_unfolding_all refine loopR0 (S := List (Addr × Obj) × List (List Int) × Obj) (n := xs.length) [Str.ofString "last_right_buf", Str.ofString "j", Str.ofString "last_left", Str.ofString "last_right"] (fun σ => (la, listOf (A.map Value.ref).toArray nl) :: (σ.1 ++ [(d, σ.2.2)])) (fun i σ => Mat A σ.1 σ.2.1 ∧ Shape σ.2.1 (xs.length + 1) (ys.length + 1) ∧ (∀ r c, r ≤ xs.length → c ≤ ys.length → (r ≤ i ∨ c = 0) → cell σ.2.1 r c = DD cost xs ys r c) ∧ IntDict PySem.Challenge.pw_fe5011_01 w σ.2.2 (xs ++ ys) (2000 + i)) (R, g, od) (by rfl) G1 (by omega) (by omega) F1 N1 ⟨hM, hS, ?_, hdict⟩ ?_ ?_ ?_
  · intro r c hr hc h
    rcases h with h | h
    · have e : r = 0 := by omega
      subst e
      dsimp only
      rw [hc0 c (by omega), DD]
    · subst h
      dsimp only
      rw [hr0 r (by omega)]
      cases r with
      | zero => simp [DD]
      | succ r => rw [DD]; omega
  · intro q hq
    rcases List.mem_cons.mp hq with rfl | hq
    · exact List.mem_cons_of_mem _ (List.mem_cons_of_mem _ (List.mem_cons_self ..))
    · rcases List.mem_append.mp hq with hq | hq
      · exact List.mem_cons_of_mem _ (List.mem_cons_of_mem _ (List.mem_cons_of_mem _ (List.mem_append_left _ hq)))
      · rw [List.mem_singleton.mp hq]; exact List.mem_cons_self ..
  · clear F1 N1 G1 hM hS hc0 hr0 hne5 hdict
    intro i t σ u h tk own hi hI hoff F2 N2
    obtain ⟨R, g, od⟩ := σ
    obtain ⟨hM, hS, hc, hdict⟩ := hI
    dsimp only at hM hS hc hdict N2 hoff
    obtain ⟨r1, v1, n1, hR1, iv1, hA1⟩ := hM.row hS (show i < xs.length + 1 by omega)
    obtain ⟨r2, v2, n2, hR2, iv2, hA2⟩ := hM.row hS (show i + 1 < xs.length + 1 by omega)
    have N3 := focus N2 (r := r2) (o := listOf v2.toArray n2) (List.mem_append_left _ (List.mem_cons_of_mem _ (List.mem_append_left _ (List.mem_of_getElem? hR2))))
    have hne := off_ne (r := r2) (l := ((la, listOf (A.map Value.ref).toArray nl) :: (R ++ [(d, od)])) ++ own)
    have hr2la : r2 ≠ la := (hA r2 (List.mem_of_getElem? hA2)).1
    have hr2d : r2 ≠ d := hAd r2 (List.mem_of_getElem? hA2)
    have hr12 : r1 ≠ r2 := by
      rintro rfl
      have hlA : i < A.length := (List.getElem?_eq_some_iff.mp hA1).1
      have := (List.getElem?_inj hlA hnd).mp (hA1.trans hA2.symm)
      omega
    have hl : (la, listOf (A.map Value.ref).toArray nl) ∈ off r2 (((la, listOf (A.map Value.ref).toArray nl) :: (R ++ [(d, od)])) ++ own) := mem_off (List.mem_append_left _ (List.mem_cons_self ..)) (Ne.symm hr2la)
    have hdm : (d, od) ∈ off r2 (((la, listOf (A.map Value.ref).toArray nl) :: (R ++ [(d, od)])) ++ own) := mem_off (List.mem_append_left _ (List.mem_cons_of_mem _ (List.mem_append_right _ (List.mem_cons_self ..)))) (Ne.symm hr2d)
    have hr1m : (r1, listOf v1.toArray n1) ∈ off r2 (((la, listOf (A.map Value.ref).toArray nl) :: (R ++ [(d, od)])) ++ own) := mem_off (List.mem_append_left _ (List.mem_cons_of_mem _ (List.mem_append_left _ (List.mem_of_getElem? hR1)))) hr12
    generalize hoffd : off r2 (((la, listOf (A.map Value.ref).toArray nl) :: (R ++ [(d, od)])) ++ own) = rest at *
    clear N2
    try k_fold
    k_steps
    rename Fr _ _ _ _ => F4
    rename News _ _ _ _ => N4
    rename IsRange _ _ _ _ _ _ _ _ => G4
    unfold Stop
    with_unfolding_all refine loopR1 (S := List Value × List Int × Int × Tok) (n := ys.length) [Str.ofString "last_left", Str.ofString "last_right"] (Str.ofString "last_right_buf") (fun σ => .int σ.2.2.1 σ.2.2.2) (fun σ => (r2, listOf σ.1.toArray n2) :: rest) (fun j σ => IntsAre σ.1 σ.2.1 ∧ σ.2.1.length = ys.length + 1 ∧ ∀ c, c ≤ j → σ.2.1.getD c 0 = DD cost xs ys (i + 1) c) (v2, g.getD (i + 1) [], 0, _) (by rfl) G4 (by omega) (by omega) F4 N4 ⟨iv2, hS.2 (i + 1) (by omega), ?_⟩ (fun _ h => h) (by rfl) ?_ ?_
    · intro c hc'
      have e : c = 0 := by omega
      subst e
      have := hc (i + 1) 0 (by omega) (by omega) (Or.inr rfl)
      unfold cell at this
      exact this
    · clear F2 N3 F4 N4 G4 iv2
      intro j tj σ u2 h2 tk2 own2 hj hI hoff2 F5 N5
      obtain ⟨v2, row, b, tb⟩ := σ
      obtain ⟨iv2, hrow, hd⟩ := hI
      dsimp only at iv2 hrow hd N5 hoff2 F5
      try k_fold
      k_steps
      all_goals (
        rename News _ _ _ _ => N6
        rename Fr _ _ _ _ => F6
        unfold Stop
        have s1 : ∀ p ∈ rest ++ own2, p.1 ≠ r2 := fun p hp => (List.mem_append.mp hp).elim (hne p) fun hp => by have := hoff2 p hp _ (List.mem_cons_self ..); exact this
        have s2 : (A.map Value.ref)[(1 + (i : Int) - 1).toNat]? = some (.ref r1) := by rw [show (1 + (i : Int) - 1).toNat = i by omega, List.getElem?_map, hA1]; rfl
        have s3 : (A.map Value.ref)[(1 + (i : Int)).toNat]? = some (.ref r2) := by rw [show (1 + (i : Int)).toNat = i + 1 by omega, List.getElem?_map, hA2]; rfl
        k_dflt (refine FnC.use (step_c w _ _ _ _ _ (rest ++ own2) la r1 r2 l1 l2 (A.map Value.ref) v1 v2 vs1 vs2 nl n1 n2 (g.getD i []) row xs ys (1 + (i : Int)) (1 + (j : Int)) cost _ _ _ _ _ _ _ (List.mem_append_left _ hl) (List.mem_append_left _ hr1m) s1 s2 s3 iv1 iv2 i1 i2 (by omega) (by omega) (by omega) (by omega) (hS.2 i (by omega)) hrow) (by k_asm) F6 (by k_asm) N6 (by k_asm) rfl (by ktr_room) (by ktr_units) ⟨hl1, hl2, ?_⟩)
        · clear s1 s2 s3
          intro z tz h7 tk7 hz F7 N7
          rw [show (1 + (j : Int)).toNat = j + 1 by omega] at hz N7
          rw [show (1 + (j : Int) - 1).toNat = j by omega, show (1 + (i : Int) - 1).toNat = i by omega] at hz
          have hz' : z = DD cost xs ys (i + 1) (j + 1) := by
            have a1 := hc i (j + 1) (by omega) (by omega) (Or.inl (Nat.le_refl _))
            have a2 := hc i j (by omega) (by omega) (Or.inl (Nat.le_refl _))
            have a3 := hd j (Nat.le_refl _)
            unfold cell at a1 a2
            rw [hz, a1, a2, a3, DD]
          clear hz
          k_sweep
          try k_fold
          k_steps
          have iv := ints_set (x := z) (u := tz) iv2 (j + 1)
          rename Fr _ _ _ _ => F8
          obtain ⟨b', tb', e1, e2⟩ := int_at F8 (Str.ofString "last_right_buf") rfl
          refine Leaves.fin (v2.set (j + 1) (.int z tz), row.set (j + 1) z, b', tb') F8 (by assumption) ⟨iv, by rw [List.length_set]; exact hrow, ?_⟩ ?_ ?_ ?_ (fun y hy hs => by
              have q1 := not_stored hs (List.mem_cons_self ..)
              have q2 := not_stored hs (List.mem_cons_of_mem _ (List.mem_cons_self ..))
              by_cases hb : y = Str.ofString "last_right_buf"
              · subst hb; cases e1; cases e2; rfl
              · simp only [if_neg hy, if_neg q1, if_neg q2, if_neg hb, hs, Bool.false_eq_true, if_false])
          · intro c hcj
            dsimp only
            by_cases e : j + 1 = c
            · subst e; rw [getD_set_self (by rw [hrow]; omega)]; exact hz'
            · rw [getD_set_ne e]; exact hd c (by omega)
          · intro p hp
            exact List.mem_append_left _ hp
          · intro p hp
            exact List.mem_cons_of_mem _ (List.mem_append_right _ hp)
          · intro p hp q hq
            rcases List.mem_cons.mp hq with rfl | hq
            · have := hoff2 p hp _ (List.mem_cons_self ..); exact this
            · exact hoff2 p hp q (List.mem_cons_of_mem _ hq))
    · clear F2 N3 F4 N4 G4 iv2
      intro σ u2 h3 tk3 hI F5 N5
      obtain ⟨v3, row, b, tb⟩ := σ
      obtain ⟨iv2, hrow, hd⟩ := hI
      dsimp only at iv2 hrow hd N5 F5
      try k_fold
      k_steps
      unfold Stop
      have N9 := focus N5 (r := d) (o := od) (List.mem_cons_of_mem _ hdm)
      rename Fr _ _ _ _ => F8
      refine idict_set F8 N9 off_ne hdict (by omega) ?_
      intro h9 o9 F10 N10 hd9
      clear N5 F8 N9
      k_steps
      subst hoffd
      have hndR : (R.map (·.1)).Nodup := hM.adr ▸ hnd
      have hM' := hM.put hR2 (n := n2) iv2
      have hps := put_sub (la := la) (V := listOf (A.map Value.ref).toArray nl) (o' := listOf v3.toArray n2) (own := own) hndR hR2 (Ne.symm hr2la) (base := [(d, od)]) (fun p hp => by rw [List.mem_singleton.mp hp]; exact Ne.symm hr2d)
      refine Leaves.fin (R.set (i + 1) (r2, listOf v3.toArray n2), g.set (i + 1) row, o9) F10 N10 ⟨hM', hS.put (by omega) hrow, ?_, hd9⟩ ?_ ?_ ?_ ?_
      · intro r c hr hc' h
        dsimp only
        unfold cell
        by_cases e : i + 1 = r
        · subst e
          rw [getD_set_self (by rw [hS.1]; omega)]
          exact hd c hc'
        · rw [getD_set_ne e]
          exact hc r c hr hc' (by omega)
      · intro p hp
        have key : ∀ p ∈ (la, listOf (A.map Value.ref).toArray nl) :: R.set (i + 1) (r2, listOf v3.toArray n2), p.1 ≠ d := by
          intro p hp
          rcases List.mem_cons.mp hp with rfl | hp
          · exact hld
          · exact hAd p.1 (by rw [← hM'.adr]; exact List.mem_map_of_mem hp)
        rcases List.mem_cons.mp hp with rfl | hp
        · exact List.mem_cons_of_mem _ (mem_off (hps _ (List.mem_cons_self ..)) (key _ (List.mem_cons_self ..)))
        · rcases List.mem_append.mp hp with hp | hp
          · exact List.mem_cons_of_mem _ (mem_off (hps _ (List.mem_cons_of_mem _ (List.mem_append_left _ hp))) (key _ (List.mem_cons_of_mem _ hp)))
          · rw [List.mem_singleton.mp hp]; exact List.mem_cons_self ..
      · intro p hp
        have hd' := hoff p hp (d, od) (List.mem_cons_of_mem _ (List.mem_append_right _ (List.mem_cons_self ..)))
        exact List.mem_cons_of_mem _ (mem_off (put_own hoff hR2 p hp) hd')
      · intro p hp q hq
        have h0 := put_off (o' := listOf v3.toArray n2) hndR hoff hR2 p hp
        rcases List.mem_cons.mp hq with rfl | hq
        · exact h0 _ (List.mem_cons_self ..)
        · rcases List.mem_append.mp hq with hq | hq
          · exact h0 q (List.mem_cons_of_mem _ (List.mem_append_left _ hq))
          · rw [List.mem_singleton.mp hq]
            have := h0 _ (List.mem_cons_of_mem _ (List.mem_append_right _ (List.mem_cons_self ..))); exact this
      · intro y hy hs
        have q1 := not_stored hs (List.mem_cons_self ..)
        have q2 := not_stored hs (List.mem_cons_of_mem _ (List.mem_cons_self ..))
        have q3 := not_stored hs (List.mem_cons_of_mem _ (List.mem_cons_of_mem _ (List.mem_cons_self ..)))
        have q4 := not_stored hs (List.mem_cons_of_mem _ (List.mem_cons_of_mem _ (List.mem_cons_of_mem _ (List.mem_cons_self ..))))
        simp only [if_neg hy, if_neg q1, if_neg q2, contains_two q3 q4, hs, Bool.false_eq_true, if_false]
  · clear F1 N1 G1 hM hS hc0 hr0 hne5 hdict
    intro σ u h tk hI F2 N2
    obtain ⟨R, g, od⟩ := σ
    obtain ⟨hM, hS, hc, hdict⟩ := hI
    dsimp only at hM hS hc hdict N2
    obtain ⟨r2, v2, n2, hR2, iv2, hA2⟩ := hM.row hS (show xs.length < xs.length + 1 by omega)
    have hm2 : (r2, listOf v2.toArray n2) ∈ (la, listOf (A.map Value.ref).toArray nl) :: (R ++ [(d, od)]) := List.mem_cons_of_mem _ (List.mem_append_left _ (List.mem_of_getElem? hR2))
    have hx2 : (A.map Value.ref)[(xs.length : Int).toNat]? = some (.ref r2) := by rw [Int.toNat_natCast, List.getElem?_map, hA2]; rfl
    have hrow := hS.2 xs.length (by omega)
    try k_fold
    k_steps
    have e := hc xs.length ys.length (Nat.le_refl _) (Nat.le_refl _) (Or.inl (Nat.le_refl _))
    unfold cell at e
    show Lz _ _ _ _
    exact ⟨F2.keep, hret _ _ _ F2.keep ⟨_, congrArg (fun z => Value.int z _) (by rw [Int.toNat_natCast]; exact e)⟩⟩
end Mine
namespace Mine
local macro_rules | `(tactic| k_mem) => `(tactic| first | assumption | exact List.mem_cons_self | (refine List.mem_cons_of_mem _ ?_; k_mem))
local macro_rules | `(tactic| k_all) => `(tactic| assumption)
local macro_rules | `(tactic| is_list) => `(tactic| exact News.isList (by assumption) (by k_mem))
local macro_rules | `(tactic| walk_at "subscriptTail") => `(tactic| (k_here; (with_reducible show wpAny _ _ (subscriptTail _ _ (Value.ref _) (Value.int _ _)) _ _ _); k_dflt (refine' sub_ref ?k1 ?k2 ?k3 ?k4 ?k5 ?_ ?k7; (case k1 => k_asm); (case k2 => k_mem); (case k5 => assumption); (case k3 => omega); (case k4 => omega); (case k7 => with_unfolding_all rfl); k_whole)))
local macro_rules | `(tactic| walk_at "pyIter ref") => `(tactic| ((with_reducible show wpAny _ _ (pyIter (Value.ref _)) (fun it s₂ => LoopAtV _ _ _ _ _ _ _ _ _ it s₂) _ _); refine Stop.out ?_))
local macro_rules | `(tactic| size_fits) => `(tactic| assumption)
local macro_rules | `(tactic| cell_enter) => `(tactic| (refine' code_def ?k1 ?k2 ?k3 ?k4 ?k5 ?kA ?kF ?kK ?k6 ?k7 ?k8 ?k9 ?kB ?_ ?c2 ?c3 ?c4 ?c5; (case kA => exact rfl); (case kF => exact rfl); (case kK => assumption); (case k1 => k_asm); (case k2 => k_asm); (case k3 => k_asm); (case k4 => k_asm); (case k5 => k_asm); (case k6 => k_is); (case k7 => k_is); (case k8 => ktr_room); (case k9 => first | exact BindsTo.of_eq rfl | exact binds_K (by k_in) rfl (by k_is) rfl rfl rfl); (case c5 => decide); (case kB => exact locs rfl); (case c2 => exact rfl); (case c3 => exact rfl); (case c4 => exact rfl); k_whole; intro g' L' h' FG' F' N' B' X' T'; (try dsimp only); (try k_lift B'); (try k_fold)))
local macro_rules | `(tactic| ktr_enter) => `(tactic| (refine' code_frz ?k1 ?k2 ?k3 ?k5 ?kA ?kF ?kK ?k6 ?k7 ?k8 ?k9 ?kB ?_ ?c2 ?c3 ?c4 ?c5; (case kA => exact rfl); (case kF => exact rfl); (case kK => assumption); (case k1 => k_asm); (case k2 => k_asm); (case k3 => k_asm); (case k5 => k_asm); (case k6 => k_is); (case k7 => k_is); (case k8 => ktr_room); (case k9 => first | exact BindsTo.of_eq rfl | exact binds_K (by k_in) rfl (by k_is) rfl rfl rfl); (case c5 => decide); (case kB => exact locs rfl); (case c2 => exact rfl); (case c3 => exact rfl); (case c4 => exact rfl); k_whole; intro L' h' F' N' B' X' T'; (try dsimp only); (try k_fold)))
local macro_rules | `(tactic| k_enter) => `(tactic| (refine' code_frzC ?k1 ?k2 ?k3 ?k5 ?kA ?kF ?kK ?k6 ?k7 ?k8 ?k9 ?kB ?kD ?_ ?c2 ?c3 ?c4; (case kA => exact rfl); (case kF => exact rfl); (case kK => assumption); (case k1 => k_asm); (case k2 => k_asm); (case k3 => k_asm); (case k5 => k_asm); (case k6 => k_is); (case k7 => k_is); (case k8 => ktr_room); (case k9 => first | exact BindsTo.of_eq rfl | exact binds_K (by k_in) rfl (by k_is) rfl rfl rfl); (case kB => exact rfl); (case kD => decide +kernel); (case c2 => exact rfl); (case c3 => exact rfl); (case c4 => exact rfl); k_whole; intro L' h' tk' cells' F' N' Y' B' X' T'; k_cells Y'; (try simp only [List.cons_append, List.nil_append] at N'); (try dsimp only); (try k_fold)))

local macro_rules | `(tactic| walk_at "exec While") => `(tactic| refine Stop.out ?_)
local macro_rules | `(tactic| walk_at "exec While Compare") => `(tactic| refine Stop.out ?_)
local macro_rules | `(tactic| walk_at "exec While Compare cons nil") => `(tactic| refine Stop.out ?_)
local macro_rules | `(tactic| walk_at "last exec While") => `(tactic| refine Stop.out ?_)
local macro_rules | `(tactic| walk_at "KswEnd") => `(tactic| refine Stop.out ?_)
theorem numbers_c (w : World) (p : Program) (loose : List Str) (mean : ExcName → Option Value) (mg mb : Str → Option Value) (l1 : Addr) (vs1 : List Value) (xs : List Int) (i1 : IntsAre vs1 xs) (h1 : xs.length < 900) (t : Tok) :
   FzC PySem.Challenge.pw_fe5011_01 w (hd1.heap_39 w.params) p loose mean mg mb 54 [.ref l1, .int 15 t] [] 1
     (fun h => h.IsList l1 vs1.toArray) (fun h h' v => ∃ d vs n ns, v = .ref d ∧ h.get? d = none ∧ h'.get? d = some (listOf (List.toArray vs) n) ∧ IntsAre vs ns ∧ ns.length = 15) := by
  intro dp un gd cn cs a ccd cl outer A₀ base h₀ L m s Q E B F X T hk hd hu hl1 hret
  refine wpAny_call ?_
  k_dflt ktr_enter
  k_steps
  rename Fr _ _ _ _ => F1
  rename News _ _ _ _ => N1
  rename IntsAre _ (List.map _ _) => I1
  unfold Stop
  obtain ⟨D, o, hD, ho⟩ := head_at N1
  subst hD
  rename List Value => yv
  obtain ⟨la, tla, hla, htla⟩ := int_at F1 (Str.ofString "last") rfl
  with_unfolding_all refine ksw_while (σ := List Value × List Int × Nat × Int × Tok) (fun c => [(D, listOf c.1.toArray c.2.2.1)]) (fun c => [(Str.ofString "last", Value.int c.2.2.2.1 c.2.2.2.2)]) (fun c => IntsAre c.1 c.2.1) [] (fun c => c.2.1.length ≤ 15 ∧ 0 ≤ c.2.2.2.1 ∧ c.2.2.2.1 ≤ 2147483647) (fun c => 15 - c.2.1.length) (yv, _, yv.length, la, tla) F1 (sub_news N1 ?_) I1 ?_ ?_ ?_
  · intro p hp
    rw [List.mem_singleton.mp hp]
    exact List.mem_cons_self ..
  · intro p hp
    rw [List.mem_singleton.mp hp]
    cases hla; cases htla; rfl
  · refine ⟨?_, ?_, ?_⟩
    · simp only [List.map_id', List.length_take]; omega
    · dsimp only; omega
    · dsimp only; omega
  · clear F1 N1 I1
    intro c u h tk hI hP F2 N2
    obtain ⟨vs, ns, n, last, tl⟩ := c
    obtain ⟨hlen, h0, hhi⟩ := hP
    dsimp only at hI hlen h0 hhi F2 N2
    try k_fold
    k_steps
    · unfold Stop
      rename Fr _ _ _ _ => F3
      rename News _ _ _ _ => N3
      have hb1 := fmod_lo (last * 48271 + 11) (n := 2147483647) (by omega)
      have hb2 := fmod_hi (last * 48271 + 11) (n := 2147483647) (by omega)
      obtain ⟨la2, tl2, e1, e2⟩ := int_at F3 (Str.ofString "last") rfl
      obtain ⟨D3, o3, e3, e4⟩ := head_at N3
      obtain ⟨q, tq, e5, _⟩ := pushed e4
      refine ksw_end (vs ++ [Value.int q tq], ns ++ [q], n + 1, la2, tl2) F3 N3 ?_ (ints_snoc hI q tq) ?_ ?_ ?_ ?_
      · intro p hp
        rw [List.mem_singleton.mp hp]
        dsimp only
        rw [← e5, e4]
        exact List.mem_cons_self ..
      · intro p hp
        rw [List.mem_singleton.mp hp]
        cases e1; cases e2; rfl
      · intro z hz _
        have q1 : z ≠ Str.ofString "last" := hz _ (List.mem_cons_self ..)
        simp only [kstB, if_neg q1]
        rfl
      · refine ⟨?_, ?_, ?_⟩
        · simp only [List.length_append, List.length_cons, List.length_nil]; omega
        · dsimp only; rw [e1]; exact hb1
        · dsimp only; rw [e1]; omega
      · simp only [List.length_append, List.length_cons, List.length_nil]; omega
    · show Lz _ _ _ _
      refine ⟨F2.keep, hret _ _ _ F2.keep ⟨D, vs, n, ns, rfl, (N2 _ (List.mem_cons_self ..)).2.2, (N2 _ (List.mem_cons_self ..)).1, hI, by omega⟩⟩
end Mine
namespace Mine
open PySem.SeqAt PyProof.V in
theorem readsAll_rows {h : Heap} : ∀ {R : List (Addr × Obj)} {g : List (List Int)}, RowsAre R g → (∀ p ∈ R, h.get? p.1 = some p.2) → ∃ as, ReadsAll h ((R.map (·.1)).map Value.ref) (g.map fun ns => PyData.list (ns.map PyData.int)) as
  | _, _, .nil, _ => ⟨[], .nil⟩
  | _, _, .cons (a := a) (vs := vs) (ns := ns) (n := n) hi r, hk => by
    obtain ⟨as, ha⟩ := readsAll_rows r (fun p hp => hk p (List.mem_cons_of_mem _ hp))
    have h1 : h.IsList a vs.toArray := ⟨_, hk _ (List.mem_cons_self ..), rfl, n, rfl⟩
    exact ⟨_, ReadsAll.cons (reads_of_ints h1 hi) ha⟩
theorem canLay_rows : ∀ g : List (List Int), PyData.canLayAll0 (g.map fun ns => PyData.list (ns.map PyData.int)) = true
  | [] => by simp [PyData.canLayAll0]
  | n :: r => by
    simp only [List.map_cons, PyData.canLayAll0, PyData.canLay0, canLayAll0_ints, canLay_rows r, Bool.and_self]
theorem depth_rows : ∀ g : List (List Int), PyData.depthAll (g.map fun ns => PyData.list (ns.map PyData.int)) ≤ 2
  | [] => by simp [PyData.depthAll]
  | n :: r => by
    have h1 := depth_rows r
    have h2 := PySem.W.depthAll_ints n
    simp only [List.map_cons, PyData.depthAll, PyData.depth]
    omega
open PySem.SeqAt PyProof.V in
theorem shaped_rows (g : List (List Int)) : shaped (.list (g.map fun ns => PyData.list (ns.map PyData.int))) = true := by
  have h1 := depth_rows g
  have h2 : PyData.depth (.list (g.map fun ns => PyData.list (ns.map PyData.int))) ≤ 64 := by simp only [PyData.depth]; omega
  show (PyData.canLay0 (.list (g.map fun ns => PyData.list (ns.map PyData.int))) && decide (PyData.depth (.list (g.map fun ns => PyData.list (ns.map PyData.int))) ≤ 64)) = true
  rw [Bool.and_eq_true]
  exact ⟨by simp only [PyData.canLay0]; exact canLay_rows g, decide_eq_true h2⟩
open PySem.SeqAt PyProof.V in
theorem ne_rows {prog : Program} {w : World} {A : Around} {E : Value → Shared → Prop} {s : Shared} {a b : Addr} {R : List (Addr × Obj)} {g : List (List Int)} {Q : Value → Shared → Prop}
   (hl : s.heap.IsList a ((R.map (·.1)).map Value.ref).toArray) (hR : RowsAre R g) (hk : ∀ p ∈ R, s.heap.get? p.1 = some p.2) (hl' : s.heap.IsList b (([] : List Value)).toArray) (hu : A.units + 64 < cLine)
    (h : Q (.bool (!decide (g = []))) s) : wpAny (model prog w) A (compareOp .NotEq (.ref a) (.ref b)) Q E s := by
  obtain ⟨as, ha⟩ := readsAll_rows hR hk
  obtain ⟨o, ho, hc, n, hd⟩ := hl
  refine ne_dataH_same (Reads.list ho hc hd (by simpa using ha)) (reads_of_ints hl' IntsAre.nil) (shaped_rows g) (shaped_ints []) hu ?_ ?_
  · cases g <;> simp [noMix, noMixAll]
  · have e : PySem.Spec.same (.list (g.map fun ns => PyData.list (ns.map PyData.int))) (.list (([] : List Int).map PyData.int)) = decide (g = []) := by
      cases g <;> simp [PySem.Spec.same, PySem.Spec.sameAll]
    rw [e]; exact h
section
variable {prog : Program} {w : World} {A : Around} {E : Value → Shared → Prop} {s : Shared} {env : Env} {h₀ : Heap} {x : Str} {body : List Stmt} {Q : Flow → Shared → Prop}
/-- a loop over a list of ints that lies in the base -/
theorem loopL {S : Type} {l : Addr} {vs : List Value} {ns : List Int} {m₀ : Str → Option Value} {news : List (Addr × Obj)} (stored : List Str) (led : S → List (Addr × Obj)) (I : Nat → S → Prop) (σ₀ : S)
    (hh : A.handled = none) (hl : h₀.IsList l vs.toArray) (hi : IntsAre vs ns) (F : Fr h₀ env.locals s.heap m₀) (N : News h₀ env.locals s.heap news)
    (h0 : I 0 σ₀) (hled : ∀ p ∈ led σ₀, p ∈ news)
    (turn : ∀ i n t σ (u : Str → Option Value) h tk own, ns[i]? = some n → I i σ → TbOff own (led σ) → Fr h₀ env.locals h (fun z => if z = x then some (.int n t) else if stored.contains z then u z else m₀ z) → News h₀ env.locals h (led σ ++ own) →
      wpAny (model prog w) A (execs body env) (TbPost h₀ env.locals (Leaves stored x (fun _ => m₀) led (I (i + 1))) own { s with heap := h, toks := tk } Q) E { s with heap := h, toks := tk })
    (done : ∀ σ (u : Str → Option Value) h tk, I ns.length σ → Fr h₀ env.locals h (fun z => if z = x then u z else if stored.contains z then u z else m₀ z) → News h₀ env.locals h (led σ) → Q .next { s with heap := h, toks := tk }) :
    wpAny (model prog w) A (pyIter (.ref l)) (fun it s₂ => LoopAtV prog w A h₀ env x body Q E it s₂) E s := by
  refine tb_invG (news := led σ₀) (fun i m nx => Leaves stored x (fun _ => m₀) led (I i) m nx) hh hl hi F (fun p hp => N p (hled p hp)) ⟨σ₀, h0, rfl, fun _ _ _ => rfl⟩ ?_ ?_
  · rintro i n t m₁ nx h tk own hk hoff ⟨σ, hI, rfl, hm₁⟩ F₁ N₁
    rw [frame_split hm₁] at F₁
    exact turn i n t σ m₁ h tk own hk hI hoff F₁ N₁
  · rintro m₁ nx h tk ⟨σ, hI, rfl, hm₁⟩ F₁ N₁
    rw [frame_split' hm₁] at F₁
    exact done σ m₁ h tk hI F₁ N₁
end
/-- where the bumped number goes: behind all that may stand before it -/
def seek (strict : Bool) (out : Int) : List Int → Nat
  | [] => 0
  | x :: l => if x < out ∨ (x = out ∧ strict = false) then seek strict out l + 1 else 0
theorem seek_le (strict : Bool) (out : Int) : ∀ l, seek strict out l ≤ l.length
  | [] => Nat.le_refl _
  | x :: l => by
    have := seek_le strict out l
    unfold seek
    split <;> simp only [List.length_cons] <;> omega
theorem seek_stop (strict : Bool) (out : Int) : ∀ (l : List Int) (a : Nat), a < l.length → ¬ (l.getD a 0 < out ∨ (l.getD a 0 = out ∧ strict = false)) → (∀ b, b < a → (l.getD b 0 < out ∨ (l.getD b 0 = out ∧ strict = false))) → seek strict out l = a
  | [], a, h, _, _ => by simp at h
  | x :: l, 0, _, hn, _ => by
    unfold seek; exact if_neg hn
  | x :: l, a + 1, h, hn, hb => by
    unfold seek
    have h0 := hb 0 (by omega)
    rw [List.getD_cons_zero] at h0
    rw [if_pos h0, seek_stop strict out l a (by simpa using h) (by simpa using hn) (fun b hb' => by simpa using hb (b + 1) (by omega))]
theorem seek_end (strict : Bool) (out : Int) : ∀ (l : List Int), (∀ b, b < l.length → (l.getD b 0 < out ∨ (l.getD b 0 = out ∧ strict = false))) → seek strict out l = l.length
  | [], _ => rfl
  | x :: l, hb => by
    unfold seek
    have h0 := hb 0 (by simp)
    rw [List.getD_cons_zero] at h0
    rw [if_pos h0, seek_end strict out l (fun b hb' => by simpa using hb (b + 1) (by simpa using hb'))]
    rfl
def bump (strict : Bool) : List (List Int) → Int → List (List Int)
  | [], out => [[out]]
  | l :: g, out => if seek strict out l = l.length then (l ++ [out]) :: g else l.set (seek strict out l) out :: bump strict g (l.getD (seek strict out l) 0)
def tableau (strict : Bool) (row : List Int) : List (List Int) := row.foldl (bump strict) []
end Mine
namespace Mine
local macro_rules | `(tactic| k_mem) => `(tactic| first | assumption | exact List.mem_cons_self | (refine List.mem_cons_of_mem _ ?_; k_mem))
local macro_rules | `(tactic| k_all) => `(tactic| assumption)
local macro_rules | `(tactic| is_list) => `(tactic| exact News.isList (by assumption) (by k_mem))
local macro_rules | `(tactic| walk_at "subscriptTail") => `(tactic| (k_here; (with_reducible show wpAny _ _ (subscriptTail _ _ (Value.ref _) (Value.int _ _)) _ _ _); k_dflt (refine' sub_ref ?k1 ?k2 ?k3 ?k4 ?k5 ?_ ?k7; (case k1 => k_asm); (case k2 => k_mem); (case k5 => assumption); (case k3 => omega); (case k4 => omega); (case k7 => with_unfolding_all rfl); k_whole)))
local macro_rules | `(tactic| walk_at "pyIter ref") => `(tactic| ((with_reducible show wpAny _ _ (pyIter (Value.ref _)) (fun it s₂ => LoopAtV _ _ _ _ _ _ _ _ _ it s₂) _ _); refine Stop.out ?_))
local macro_rules | `(tactic| size_fits) => `(tactic| assumption)
local macro_rules | `(tactic| cell_enter) => `(tactic| (refine' code_def ?k1 ?k2 ?k3 ?k4 ?k5 ?kA ?kF ?kK ?k6 ?k7 ?k8 ?k9 ?kB ?_ ?c2 ?c3 ?c4 ?c5; (case kA => exact rfl); (case kF => exact rfl); (case kK => assumption); (case k1 => k_asm); (case k2 => k_asm); (case k3 => k_asm); (case k4 => k_asm); (case k5 => k_asm); (case k6 => k_is); (case k7 => k_is); (case k8 => ktr_room); (case k9 => first | exact BindsTo.of_eq rfl | exact binds_K (by k_in) rfl (by k_is) rfl rfl rfl); (case c5 => decide); (case kB => exact locs rfl); (case c2 => exact rfl); (case c3 => exact rfl); (case c4 => exact rfl); k_whole; intro g' L' h' FG' F' N' B' X' T'; (try dsimp only); (try k_lift B'); (try k_fold)))
local macro_rules | `(tactic| ktr_enter) => `(tactic| (refine' code_frz ?k1 ?k2 ?k3 ?k5 ?kA ?kF ?kK ?k6 ?k7 ?k8 ?k9 ?kB ?_ ?c2 ?c3 ?c4 ?c5; (case kA => exact rfl); (case kF => exact rfl); (case kK => assumption); (case k1 => k_asm); (case k2 => k_asm); (case k3 => k_asm); (case k5 => k_asm); (case k6 => k_is); (case k7 => k_is); (case k8 => ktr_room); (case k9 => first | exact BindsTo.of_eq rfl | exact binds_K (by k_in) rfl (by k_is) rfl rfl rfl); (case c5 => decide); (case kB => exact locs rfl); (case c2 => exact rfl); (case c3 => exact rfl); (case c4 => exact rfl); k_whole; intro L' h' F' N' B' X' T'; (try dsimp only); (try k_fold)))
local macro_rules | `(tactic| k_enter) => `(tactic| (refine' code_frzC ?k1 ?k2 ?k3 ?k5 ?kA ?kF ?kK ?k6 ?k7 ?k8 ?k9 ?kB ?kD ?_ ?c2 ?c3 ?c4; (case kA => exact rfl); (case kF => exact rfl); (case kK => assumption); (case k1 => k_asm); (case k2 => k_asm); (case k3 => k_asm); (case k5 => k_asm); (case k6 => k_is); (case k7 => k_is); (case k8 => ktr_room); (case k9 => first | exact BindsTo.of_eq rfl | exact binds_K (by k_in) rfl (by k_is) rfl rfl rfl); (case kB => exact rfl); (case kD => decide +kernel); (case c2 => exact rfl); (case c3 => exact rfl); (case c4 => exact rfl); k_whole; intro L' h' tk' cells' F' N' Y' B' X' T'; k_cells Y'; (try simp only [List.cons_append, List.nil_append] at N'); (try dsimp only); (try k_fold)))
local macro_rules | `(tactic| walk_at "compareOp NotEq ref ref") => `(tactic| refine Stop.out ?_)
theorem first_c (w : World) (p : Program) (loose : List Str) (mean : ExcName → Option Value) (mg mb : Str → Option Value) (l1 : Addr) (R : List (Addr × Obj)) (g : List (List Int)) (hR : RowsAre R g) (hg : g.length < 900) (hg2 : ∀ r ∈ g, r.length < 900) :
   FzC PySem.Challenge.pw_fe5011_01 w (hd1.heap_39 w.params) p loose mean mg mb 68 [.ref l1] [] 10
     (fun h => h.IsList l1 ((R.map (·.1)).map Value.ref).toArray ∧ ∀ p ∈ R, h.get? p.1 = some p.2) (fun h h' v => ∃ t, v = .int (g.headD []).length t) := by
  intro dp un gd cn cs a ccd cl outer A₀ base h₀ L m s Q E B F X T hk hd hu hls hret
  obtain ⟨hl1, hl2⟩ := hls
  refine wpAny_call ?_
  k_dflt ktr_enter
  k_steps
  unfold Stop
  rename Fr _ _ _ _ => F1
  rename News _ _ _ _ => N1
  obtain ⟨D, o, hD, ho⟩ := head_at N1
  subst hD
  refine ne_rows (R := R) (Fr.lst F1 hl1) hR (fun p hp => F1.keep _ _ (hl2 p hp)) (News.isList N1 (by k_mem)) (by ktr_units) ?_
  cases g with
  | nil =>
    simp only [decide_true, Bool.not_true]
    k_steps
    all_goals (try exact ⟨Fr.keep (by assumption), hret _ _ _ (Fr.keep (by assumption)) ⟨_, rfl⟩⟩)
  | cons r g =>
    cases hR with
    | cons hi hR =>
    have hlen := hi.length
    have hr := hg2 _ (List.mem_cons_self ..)
    have e : decide (r :: g = []) = false := by simp
    rw [e]
    simp only [Bool.not_false]
    simp only [List.map_cons] at hl1
    have hrl := (hl2 _ (List.mem_cons_self ..))
    rename List Value => rvs
    have hrl2 : Heap.IsList s.heap _ rvs.toArray := ⟨_, hrl, rfl, _, rfl⟩
    k_steps
    all_goals (try exact ⟨Fr.keep (by assumption), hret _ _ _ (Fr.keep (by assumption)) ⟨_, rfl⟩⟩)
end Mine
namespace Mine
local macro_rules | `(tactic| keq_rows) => `(tactic| first | assumption | exact List.mem_cons_self | (refine List.mem_cons_of_mem _ ?_; keq_rows) | (refine List.mem_append_left _ ?_; keq_rows))
local macro_rules | `(tactic| k_mem) => `(tactic| keq_rows)
local macro_rules | `(tactic| k_all) => `(tactic| assumption)
local macro_rules | `(tactic| is_list) => `(tactic| exact News.isList (by assumption) (by k_mem))
local macro_rules | `(tactic| walk_at "subscriptTail") => `(tactic| (k_here; (with_reducible show wpAny _ _ (subscriptTail _ _ (Value.ref _) (Value.int _ _)) _ _ _); k_dflt (refine' sub_ref ?k1 ?k2 ?k3 ?k4 ?k5 ?_ ?k7; (case k1 => k_asm); (case k2 => k_mem); (case k5 => assumption); (case k3 => omega); (case k4 => omega); (case k7 => with_unfolding_all rfl); k_whole)))
local macro_rules | `(tactic| walk_at "pyIter ref") => `(tactic| ((with_reducible show wpAny _ _ (pyIter (Value.ref _)) (fun it s₂ => LoopAtV _ _ _ _ _ _ _ _ _ it s₂) _ _); refine Stop.out ?_))
local macro_rules | `(tactic| size_fits) => `(tactic| assumption)
local macro_rules | `(tactic| cell_enter) => `(tactic| (refine' code_def ?k1 ?k2 ?k3 ?k4 ?k5 ?kA ?kF ?kK ?k6 ?k7 ?k8 ?k9 ?kB ?_ ?c2 ?c3 ?c4 ?c5; (case kA => exact rfl); (case kF => exact rfl); (case kK => assumption); (case k1 => k_asm); (case k2 => k_asm); (case k3 => k_asm); (case k4 => k_asm); (case k5 => k_asm); (case k6 => k_is); (case k7 => k_is); (case k8 => ktr_room); (case k9 => first | exact BindsTo.of_eq rfl | exact binds_K (by k_in) rfl (by k_is) rfl rfl rfl); (case c5 => decide); (case kB => exact locs rfl); (case c2 => exact rfl); (case c3 => exact rfl); (case c4 => exact rfl); k_whole; intro g' L' h' FG' F' N' B' X' T'; (try dsimp only); (try k_lift B'); (try k_fold)))
local macro_rules | `(tactic| ktr_enter) => `(tactic| (refine' code_frz ?k1 ?k2 ?k3 ?k5 ?kA ?kF ?kK ?k6 ?k7 ?k8 ?k9 ?kB ?_ ?c2 ?c3 ?c4 ?c5; (case kA => exact rfl); (case kF => exact rfl); (case kK => assumption); (case k1 => k_asm); (case k2 => k_asm); (case k3 => k_asm); (case k5 => k_asm); (case k6 => k_is); (case k7 => k_is); (case k8 => ktr_room); (case k9 => first | exact BindsTo.of_eq rfl | exact binds_K (by k_in) rfl (by k_is) rfl rfl rfl); (case c5 => decide); (case kB => exact locs rfl); (case c2 => exact rfl); (case c3 => exact rfl); (case c4 => exact rfl); k_whole; intro L' h' F' N' B' X' T'; (try dsimp only); (try k_fold)))
local macro_rules | `(tactic| k_enter) => `(tactic| (refine' code_frzC ?k1 ?k2 ?k3 ?k5 ?kA ?kF ?kK ?k6 ?k7 ?k8 ?k9 ?kB ?kD ?_ ?c2 ?c3 ?c4; (case kA => exact rfl); (case kF => exact rfl); (case kK => assumption); (case k1 => k_asm); (case k2 => k_asm); (case k3 => k_asm); (case k5 => k_asm); (case k6 => k_is); (case k7 => k_is); (case k8 => ktr_room); (case k9 => first | exact BindsTo.of_eq rfl | exact binds_K (by k_in) rfl (by k_is) rfl rfl rfl); (case kB => exact rfl); (case kD => decide +kernel); (case c2 => exact rfl); (case c3 => exact rfl); (case c4 => exact rfl); k_whole; intro L' h' tk' cells' F' N' Y' B' X' T'; k_cells Y'; (try simp only [List.cons_append, List.nil_append] at N'); (try dsimp only); (try k_fold)))
local macro_rules | `(tactic| walk_at "call builtin:len") => `(tactic| (k_here; (with_reducible show wpAny _ _ (call (Value.builtin "len") [Value.ref _]) _ _ _); k_dflt (refine' kun_lenL ?k1 ?k2 ?k3 ?_; (case k1 => exact News.isList (by k_asm) (by k_mem)); (case k2 => assumption); (case k3 => omega); k_whole)))
local macro_rules | `(tactic| walk_at "exec For") => `(tactic| (k_here; (rename Fr _ _ _ _ => lF'); (with_unfolding_all refine' For_invVF lF' ?k1 ?k2 ?_; (case k1 => exact rfl); (case k2 => exact rfl); k_whole)))
local macro_rules | `(tactic| walk_at "exec While") => `(tactic| refine Stop.out ?_)
local macro_rules | `(tactic| walk_at "exec While Compare") => `(tactic| refine Stop.out ?_)
local macro_rules | `(tactic| walk_at "exec While Compare cons nil") => `(tactic| refine Stop.out ?_)
local macro_rules | `(tactic| walk_at "last exec While") => `(tactic| refine Stop.out ?_)
local macro_rules | `(tactic| walk_at "KswEnd") => `(tactic| refine Stop.out ?_)
theorem bump_new (b : Bool) (out : Int) : bump b [[]] out = bump b [] out := by
  simp [bump, seek]
structure Turn (b : Bool) (h₀ : Heap) (L : Addr) (h : Heap) (la : Addr) (own : List (Addr × Obj)) (i : Nat) (fin : List (List Int)) (k out : Int) (R : List (Addr × Obj)) (g : List (List Int)) (n0 : Nat) : Prop where
  rows : RowsAre R g
  nd : (R.map (·.1)).Nodup
  la_ne : ∀ a ∈ R.map (·.1), a ≠ la
  off : ∀ p ∈ own, ∀ a ∈ R.map (·.1), p.1 ≠ a
  la_off : ∀ p ∈ own, p.1 ≠ la
  lt : k.toNat < g.length
  eq : g.take k.toNat ++ bump b (g.drop k.toNat) out = fin
  n1 : g.length ≤ i + 1
  n2 : ∀ r ∈ g, r.length ≤ i
  small : g.length = n0 ∨ g.getD k.toNat [] = []
  news : News h₀ L h ((la, listOf ((R.map (·.1)).map Value.ref).toArray R.length) :: (R ++ own))
theorem Turn.of_new {b : Bool} {h₀ : Heap} {L : Addr} {h : Heap} {la D : Addr} {own : List (Addr × Obj)} {i : Nat} {fin : List (List Int)} {k out : Int} {R : List (Addr × Obj)} {g : List (List Int)}
   (N : News h₀ L h ((D, listOf #[] 0) :: (la, listOf ((List.map Value.ref (List.map (fun x => x.fst) R)).toArray.push (Value.ref D)) (R.length + 1)) :: (R ++ own)))
   (hR : RowsAre R g) (hnd : (R.map (·.1)).Nodup) (hla : ∀ a ∈ R.map (·.1), a ≠ la) (hoff : ∀ p ∈ own, ∀ a ∈ R.map (·.1), p.1 ≠ a) (hap : ∀ p ∈ R ++ own, p.1 ≠ la)
   (l1 : la < D) (l2 : AllLt D (R ++ own)) (hk : k = g.length) (he : g.take k.toNat ++ bump b (g.drop k.toNat) out = fin) (n1 : g.length ≤ i) (n2 : ∀ r ∈ g, r.length ≤ i) :
   ∃ R g', Turn b h₀ L h la own i fin k out R g' g.length := by
  have hk' : k.toNat = g.length := by omega
  have l4 := allLt_mem l2
  refine ⟨R ++ [(D, listOf #[] 0)], g ++ [[]], ?_, ?_, ?_, ?_, ?_, ?_, ?_, ?_, ?_, ?_, ?_⟩
  · exact hR.snoc (vs := []) IntsAre.nil
  · rw [List.map_append, List.nodup_append]
    refine ⟨hnd, by simp, ?_⟩
    intro a ha c hc
    simp only [List.map_cons, List.map_nil, List.mem_singleton] at hc
    subst hc
    obtain ⟨p, hp, rfl⟩ := List.mem_map.mp ha
    exact Nat.ne_of_lt (l4 p (List.mem_append_left _ hp))
  · intro a ha
    rw [List.map_append] at ha
    rcases List.mem_append.mp ha with ha | ha
    · exact hla a ha
    · simp only [List.map_cons, List.map_nil, List.mem_singleton] at ha
      subst ha
      exact Nat.ne_of_gt l1
  · intro p hp a ha
    rw [List.map_append] at ha
    rcases List.mem_append.mp ha with ha | ha
    · exact hoff p hp a ha
    · simp only [List.map_cons, List.map_nil, List.mem_singleton] at ha
      subst ha
      exact Nat.ne_of_lt (l4 p (List.mem_append_right _ hp))
  · intro p hp
    exact hap p (List.mem_append_right _ hp)
  · rw [List.length_append]; simp only [List.length_cons, List.length_nil]; omega
  · rw [hk', List.take_left', List.drop_left']
    · rw [hk', List.take_length, List.drop_length] at he
      rw [bump_new]; exact he
    · rfl
    · rfl
  · rw [List.length_append]; simp only [List.length_cons, List.length_nil]; omega
  · intro r hr
    rcases List.mem_append.mp hr with hr | hr
    · exact n2 r hr
    · rw [List.mem_singleton.mp hr]; exact Nat.zero_le _
  · right
    rw [hk']
    simp [List.getD_eq_getElem?_getD]
  · intro p hp
    refine N p ?_
    simp only [List.map_append, List.map_cons, List.map_nil, List.length_append, List.length_cons, List.length_nil, List.mem_cons, List.mem_append, List.push_toArray, Nat.zero_add, List.not_mem_nil, or_false] at hp ⊢
    rcases hp with h | (h | h) | h
    · exact Or.inr (Or.inl h)
    · exact Or.inr (Or.inr (Or.inl h))
    · exact Or.inl h
    · exact Or.inr (Or.inr (Or.inr h))
theorem Turn.of_old {b : Bool} {h₀ : Heap} {L : Addr} {h : Heap} {la : Addr} {own : List (Addr × Obj)} {i : Nat} {fin : List (List Int)} {k out : Int} {R : List (Addr × Obj)} {g : List (List Int)}
   (N : News h₀ L h ((la, listOf ((R.map (·.1)).map Value.ref).toArray R.length) :: (R ++ own)))
   (hR : RowsAre R g) (hnd : (R.map (·.1)).Nodup) (hla : ∀ a ∈ R.map (·.1), a ≠ la) (hoff : ∀ p ∈ own, ∀ a ∈ R.map (·.1), p.1 ≠ a) (hap : ∀ p ∈ R ++ own, p.1 ≠ la)
   (hk0 : 0 ≤ k) (hk1 : k ≤ g.length) (hk : ¬ k = g.length) (he : g.take k.toNat ++ bump b (g.drop k.toNat) out = fin) (n1 : g.length ≤ i) (n2 : ∀ r ∈ g, r.length ≤ i) :
   ∃ R g', Turn b h₀ L h la own i fin k out R g' g.length :=
  ⟨R, g, hR, hnd, hla, hoff, fun p hp => hap p (List.mem_append_right _ hp), by omega, he, by omega, n2, Or.inl rfl, N⟩
theorem set_fst {R : List (Addr × Obj)} {k : Nat} {a : Addr} {o o' : Obj} (hRi : R[k]? = some (a, o)) : (R.set k (a, o')).map (·.1) = R.map (·.1) := by
  rw [List.map_set]
  apply List.ext_getElem?
  intro j
  by_cases e : k = j
  · subst e
    have hl : k < (R.map (·.1)).length := by rw [List.length_map]; exact (List.getElem?_eq_some_iff.mp hRi).1
    rw [List.getElem?_set_self hl, List.getElem?_map, hRi]; rfl
  · rw [List.getElem?_set_ne e]
theorem Turn.led {b : Bool} {h₀ : Heap} {L : Addr} {h : Heap} {la a : Addr} {own : List (Addr × Obj)} {i : Nat} {fin : List (List Int)} {k out : Int} {R : List (Addr × Obj)} {g : List (List Int)} {o o' : Obj} {n0 : Nat} (T : Turn b h₀ L h la own i fin k out R g n0) (hRi : R[k.toNat]? = some (a, o)) :
    ∀ p ∈ (la, listOf (((R.set k.toNat (a, o')).map (·.1)).map Value.ref).toArray (R.set k.toNat (a, o')).length) :: (R.set k.toNat (a, o') ++ own), p ∈ (a, o') :: Mine.off a ((la, listOf ((R.map (·.1)).map Value.ref).toArray R.length) :: (R ++ own)) := by
  intro p hp
  have hm : a ∈ R.map (·.1) := List.mem_map_of_mem (List.mem_of_getElem? hRi)
  rw [set_fst hRi, List.length_set] at hp
  rcases List.mem_cons.mp hp with hp | hp
  · rw [hp]
    exact List.mem_cons_of_mem _ (mem_off (List.mem_cons_self ..) (Ne.symm (T.la_ne a hm)))
  · rcases List.mem_append.mp hp with hp | hp
    · rcases mem_set_off T.nd hRi p hp with h | ⟨h, hne⟩
      · rw [h]; exact List.mem_cons_self ..
      · exact List.mem_cons_of_mem _ (mem_off (List.mem_cons_of_mem _ (List.mem_append_left _ h)) hne)
    · exact List.mem_cons_of_mem _ (mem_off (List.mem_cons_of_mem _ (List.mem_append_right _ hp)) (T.off p hp a hm))
theorem drop_at {g : List (List Int)} {k : Nat} (h : k < g.length) : g.drop k = g.getD k [] :: g.drop (k + 1) := by
  rw [List.drop_eq_getElem_cons h]
  simp [List.getD_eq_getElem?_getD, h]
theorem Turn.app {b : Bool} {h₀ : Heap} {L : Addr} {h : Heap} {la : Addr} {own : List (Addr × Obj)} {i : Nat} {fin : List (List Int)} {k out : Int} {R : List (Addr × Obj)} {g : List (List Int)} {ns : List Int} {n0 : Nat} (T : Turn b h₀ L h la own i fin k out R g n0) (hns : g.getD k.toNat [] = ns) (hs : seek b out ns = ns.length) :
    g.set k.toNat (ns ++ [out]) = fin := by
  rw [← T.eq, drop_at T.lt, hns]
  conv => rhs; rw [bump, if_pos hs]
  rw [List.set_eq_take_append_cons_drop, if_pos T.lt]
theorem Turn.put {b : Bool} {h₀ : Heap} {L : Addr} {h : Heap} {la : Addr} {own : List (Addr × Obj)} {i : Nat} {fin : List (List Int)} {k out : Int} {R : List (Addr × Obj)} {g : List (List Int)} {ns : List Int} {at4 : Nat} {n0 : Nat} (T : Turn b h₀ L h la own i fin k out R g n0) (hns : g.getD k.toNat [] = ns) (hs : seek b out ns = at4) (hl : at4 < ns.length) (hk : 0 ≤ k) :
    (g.set k.toNat (ns.set at4 out)).take (k + 1).toNat ++ bump b ((g.set k.toNat (ns.set at4 out)).drop (k + 1).toNat) (ns.getD at4 0) = fin := by
  have e : (k + 1).toNat = k.toNat + 1 := by omega
  have hlt := T.lt
  rw [← T.eq, drop_at T.lt, hns]
  conv => rhs; rw [bump, if_neg (by omega), hs]
  rw [e, List.set_eq_take_append_cons_drop, if_pos T.lt]
  have l1 : (g.take k.toNat ++ [ns.set at4 out]).length = k.toNat + 1 := by simp; omega
  have e2 : g.take k.toNat ++ ns.set at4 out :: g.drop (k.toNat + 1) = (g.take k.toNat ++ [ns.set at4 out]) ++ g.drop (k.toNat + 1) := by simp
  rw [e2, List.take_left' l1, List.drop_left' l1]
  simp
structure Mark : Prop where
  mk ::
local macro_rules | `(tactic| walk_at "subscriptTail") => `(tactic| ((rename Mark => _mk); refine Stop.out ?_))
theorem tableau_c (b : Bool) (w : World) (p : Program) (loose : List Str) (mean : ExcName → Option Value) (mg mb : Str → Option Value) (l1 : Addr) (vs1 : List Value) (xs : List Int) (i1 : IntsAre vs1 xs) (h1 : xs.length < 900) :
   FzC PySem.Challenge.pw_fe5011_01 w (hd1.heap_39 w.params) p loose mean mg mb 61 [.ref l1, .bool b] [] 3
     (fun h => h.IsList l1 vs1.toArray) (fun h h' v => ∃ d R n, v = .ref d ∧ h.get? d = none ∧ h'.get? d = some (listOf ((R.map (·.1)).map Value.ref).toArray n) ∧ RowsAre R (tableau b xs) ∧ ∀ p ∈ R, h.get? p.1 = none ∧ h'.get? p.1 = some p.2) := by
  intro dp un gd cn cs a ccd cl outer A₀ base h₀ L m s Q E B F X T hk hd hu hl1 hret
  refine wpAny_call ?_
  k_dflt ktr_enter
  have i2 : True → IntsAre vs1 xs := fun _ => i1
  clear i1
  k_steps
  rename Fr _ _ _ _ => F1
  rename News _ _ _ _ => N1
  unfold Stop
  obtain ⟨la, hl⟩ := ref_at F1 (Str.ofString "lines") rfl
  subst hl
  with_unfolding_all refine loopL (S := List (Addr × Obj) × List (List Int)) [Str.ofString "out", Str.ofString "k", Str.ofString "line", Str.ofString "at", Str.ofString "kept"] (fun σ => (la, listOf ((σ.1.map (·.1)).map Value.ref).toArray σ.1.length) :: σ.1) (fun i σ => RowsAre σ.1 σ.2 ∧ σ.2 = (xs.take i).foldl (bump b) [] ∧ (σ.1.map (·.1)).Nodup ∧ (∀ a ∈ σ.1.map (·.1), a ≠ la) ∧ σ.2.length ≤ i ∧ ∀ r ∈ σ.2, r.length ≤ i) ([], []) (by rfl) hl1 (i2 trivial) F1 N1 ⟨.nil, rfl, .nil, by simp, by simp, by simp⟩ (by simp) ?_ ?_
  · clear F1 N1
    intro i q t σ u h tk own hi hI hoff F2 N2
    obtain ⟨R, g⟩ := σ
    obtain ⟨hR, hg, hnd, hla, hn1, hn2⟩ := hI
    dsimp only at hR hg hnd hla hn1 hn2 N2 hoff
    try k_fold
    k_steps
    rename Fr _ _ _ _ => F3
    rename News _ _ _ _ => N3
    unfold Stop
    obtain ⟨k0, tk0, ek, etk⟩ := int_at F3 (Str.ofString "k") rfl
    obtain ⟨out0, to0, eo, eto⟩ := int_at F3 (Str.ofString "out") rfl
    have hlen := hR.length
    with_unfolding_all refine ksw_while (σ := List (Addr × Obj) × List (List Int) × Int × Tok × Int × Tok) (fun c => (la, listOf ((c.1.map (·.1)).map Value.ref).toArray c.1.length) :: (c.1 ++ own)) (fun c => [(Str.ofString "k", Value.int c.2.2.1 c.2.2.2.1), (Str.ofString "out", Value.int c.2.2.2.2.1 c.2.2.2.2.2)]) (fun c => RowsAre c.1 c.2.1) [Str.ofString "line", Str.ofString "at", Str.ofString "kept"] (fun c => (c.1.map (·.1)).Nodup ∧ (∀ a ∈ c.1.map (·.1), a ≠ la) ∧ (∀ p ∈ own, ∀ a ∈ c.1.map (·.1), p.1 ≠ a) ∧ ((0 ≤ c.2.2.1 ∧ c.2.2.1 ≤ c.2.1.length ∧ c.2.1.take c.2.2.1.toNat ++ bump b (c.2.1.drop c.2.2.1.toNat) c.2.2.2.2.1 = bump b g q ∧ c.2.1.length ≤ i ∧ ∀ r ∈ c.2.1, r.length ≤ i) ∨ (c.2.2.1 = -1 ∧ c.2.1 = bump b g q ∧ c.2.1.length ≤ i + 1 ∧ ∀ r ∈ c.2.1, r.length ≤ i + 1))) (fun c => if c.2.2.1 < 0 then 0 else (c.2.1.length - c.2.2.1).toNat + 1) (R, g, k0, tk0, out0, to0) F3 N3 hR ?_ ?_ ?_
    · intro p hp
      rcases List.mem_cons.mp hp with hp | hp
      · subst hp; rw [← ek, ← etk]; rfl
      · rw [List.mem_singleton.mp hp, ← eo, ← eto]; rfl
    · refine ⟨hnd, hla, ?_, Or.inl ⟨by dsimp only; omega, by dsimp only; omega, ?_, hn1, hn2⟩⟩
      · intro p hp a ha
        obtain ⟨q1, hq1, rfl⟩ := List.mem_map.mp ha
        exact hoff p hp _ (List.mem_cons_of_mem _ hq1)
      · dsimp only; rw [ek, eo]; rfl
    · clear F3 N3
      intro c u2 h2 tk2 hR2 hP F4 N4
      obtain ⟨R2, g2, k2, tk3, out2, to2⟩ := c
      dsimp only at hR2 hP F4 N4
      obtain ⟨hnd2, hla2, hoff2, hP⟩ := hP
      have hlen2 := hR2.length
      have hL2 : (List.map Value.ref (List.map (·.1) R2)).length = g2.length := by simp [hlen2]
      have hLen2 : (((List.map Value.ref (List.map (·.1) R2)).toArray.size : Nat) : Int) = (g2.length : Int) := by rw [List.size_toArray, hL2]
      have hi900 : i < xs.length := by
        rename xs[i]? = some q => hq
        exact (List.getElem?_eq_some_iff.mp hq).1
      have hfit : (List.map Value.ref (List.map (·.1) R2)).toArray.size ≤ sizeLine := by rw [List.size_toArray, hL2, sizeLine_eq]; omega
      have hap : ∀ p ∈ R2 ++ own, p.1 ≠ la := by
        intro p hp
        rcases List.mem_append.mp hp with hp | hp
        · exact hla2 _ (List.mem_map_of_mem hp)
        · have hh := hoff p hp _ (List.mem_cons_self ..); exact hh
      rcases hP with ⟨k0', k1', hbump, hn3, hn4⟩ | ⟨k0', hbump, hn3, hn4⟩
      · have mk := Mark.mk
        rcases Decidable.em (k2 = g2.length) with hk2 | hk2 <;> (try k_fold) <;> k_steps
        all_goals (try (exfalso; omega))
        all_goals (
          rename Fr _ _ _ _ => F5
          rename News _ _ _ _ => N5
          rename Mark => mk2
          clear mk2
          first | (rename _ < _ ∧ AllLt _ _ => l3; have T := Turn.of_new N5 hR2 hnd2 hla2 hoff2 hap l3.1 l3.2 hk2 hbump hn3 hn4) | have T := Turn.of_old N5 hR2 hnd2 hla2 hoff2 hap k0' k1' hk2 hbump hn3 hn4
          clear N5
          obtain ⟨R3, g3, T⟩ := T
          have T1 := T.n1
          have T2 := T.lt
          have hgk : g3[k2.toNat]? = some (g3.getD k2.toNat []) := by rw [List.getD_eq_getElem?_getD, List.getElem?_eq_getElem T2]; rfl
          obtain ⟨a3, vs3, n3, hRi, his⟩ := T.rows.get hgk
          have hA : (List.map Value.ref (List.map (fun x => x.fst) R3))[k2.toNat]? = some (.ref a3) := by rw [List.getElem?_map, List.getElem?_map, hRi]; rfl
          have hmem : a3 ∈ R3.map (·.1) := List.mem_map_of_mem (List.mem_of_getElem? hRi)
          have N7 := focus T.news (r := a3) (o := listOf vs3.toArray n3) (List.mem_cons_of_mem _ (List.mem_append_left _ (List.mem_of_getElem? hRi)))
          have hl := mem_off (r := a3) (List.mem_cons_self (a := (la, listOf ((R3.map (·.1)).map Value.ref).toArray R3.length)) (l := R3 ++ own)) (Ne.symm (T.la_ne a3 hmem))
          generalize hns : g3.getD k2.toNat [] = ns3 at his
          have hlen3 := his.length
          have hn3len : ns3.length ≤ i := by rw [← hns]; exact T.n2 _ (List.mem_of_getElem? hgk)
          generalize hrest : off a3 ((la, listOf ((R3.map (·.1)).map Value.ref).toArray R3.length) :: (R3 ++ own)) = rest at N7 hl
          unfold Stop
          k_steps
          rename Fr _ _ _ _ => F8
          rename News _ _ _ _ => N8
          unfold Stop
          obtain ⟨at0, ta0, ea, eta⟩ := int_at F8 (Str.ofString "at") rfl
          with_unfolding_all refine ksw_while (σ := Int × Tok) (fun _ => (a3, listOf vs3.toArray n3) :: rest) (fun c => [(Str.ofString "at", Value.int c.1 c.2)]) (fun _ => IntsAre vs3 ns3) [] (fun c => 0 ≤ c.1 ∧ c.1 ≤ ns3.length ∧ ∀ x, x < c.1.toNat → (ns3.getD x 0 < out2 ∨ (ns3.getD x 0 = out2 ∧ b = false))) (fun c => (ns3.length - c.1).toNat) (at0, ta0) F8 N8 his ?_ ?_ ?_
          · intro p hp
            rw [List.mem_singleton.mp hp, ← ea, ← eta]; rfl
          · refine ⟨by dsimp only; omega, by dsimp only; omega, fun x hx => by dsimp only at hx; omega⟩
          · clear F8 N8
            intro c u3 h3 tk4 _ hP3 F9 N9
            obtain ⟨a4, ta4⟩ := c
            obtain ⟨a40, a41, a42⟩ := hP3
            dsimp only at a40 a41 a42 F9 N9
            have hLen3 : ((vs3.toArray.size : Nat) : Int) = (ns3.length : Int) := by rw [List.size_toArray, hlen3]
            have hne3 : ∀ p ∈ rest, p.1 ≠ a3 := by rw [← hrest]; exact off_ne
            have hfit3 : vs3.toArray.size ≤ sizeLine := by rw [List.size_toArray, hlen3, sizeLine_eq]; omega
            try k_fold
            k_steps
            all_goals (try (exfalso; omega))
            all_goals unfold Stop
            all_goals rename Fr _ _ _ _ => F10
            all_goals rename News _ _ _ _ => N10
            all_goals first
              | (obtain ⟨at1, tat1, e1, e2⟩ := int_at F10 (Str.ofString "at") rfl
                 refine ksw_end (at1, tat1) F10 N10 (fun p hp => hp) his ?_ ?_ ?_ ?_
                 · intro p hp
                   rw [List.mem_singleton.mp hp]
                   cases e1; cases e2; rfl
                 · intro z hz _
                   have q1 : z ≠ Str.ofString "at" := hz _ (List.mem_cons_self ..)
                   simp only [kstB, if_neg q1]
                   rfl
                 · refine ⟨by dsimp only; omega, by dsimp only; omega, fun x hx => ?_⟩
                   dsimp only at hx
                   by_cases hx2 : x < a4.toNat
                   · exact a42 x hx2
                   · have hx3 : x = a4.toNat := by omega
                     subst hx3
                     first
                       | exact Or.inl (by assumption)
                       | exact Or.inr ⟨by assumption, by assumption⟩
                 · dsimp only; omega)
              | skip
            all_goals obtain ⟨D3, o3, e3, e4⟩ := head_at N10
            all_goals obtain ⟨kk, tkk, e7, e8⟩ := int_at F10 (Str.ofString "k") rfl
            all_goals obtain ⟨oo, too, e9, e10⟩ := int_at F10 (Str.ofString "out") rfl
            all_goals first
              | (obtain ⟨qv, tq, e5, e6⟩ := pushed e4
                 have hseek : seek b out2 ns3 = ns3.length := seek_end b out2 ns3 (fun x hx => a42 x (by omega))
                 have hfin := T.app hns hseek
                 subst e6
                 have hrow := T.rows.set (a := a3) (n := n3 + 1) (ints_snoc his qv tq) k2.toNat
                 skip)
              | (have hstop : ¬ (ns3.getD a4.toNat 0 < out2 ∨ (ns3.getD a4.toNat 0 = out2 ∧ b = false)) := by
                   rintro (h | ⟨h, h'⟩)
                   · first | contradiction | omega
                   · first | contradiction | (subst h'; contradiction) | (rename b = true => hb; rw [hb] at h'; cases h')
                 have hlt : a4.toNat < ns3.length := by omega
                 have hseek : seek b out2 ns3 = a4.toNat := seek_stop b out2 ns3 a4.toNat hlt hstop a42
                 have hfin := T.put hns hseek hlt k0'
                 have hg23 : g3.length = g2.length := by
                   rcases T.small with h | h
                   · exact h
                   · rw [hns] at h; rw [h] at hlt; exact absurd hlt (Nat.not_lt_zero _)
                 have his' : IntsAre (vs3.set a4.toNat (Value.int out2 to2)) (ns3.set a4.toNat out2) := by assumption
                 have hrow := T.rows.set (a := a3) (n := n3) his' k2.toNat
                 obtain ⟨vv, ev⟩ := ints_at his'
                 rw [← ev] at hrow e4)
            · refine ksw_end (R3.set k2.toNat (a3, listOf vv.toArray n3), g3.set k2.toNat (ns3.set a4.toNat out2), kk, tkk, oo, too) F10 N10 ?_ hrow ?_ ?_ ?_ ?_
              · intro p hp
                have hh := T.led (o' := listOf vv.toArray n3) hRi p hp
                rw [hrest, ev] at hh
                exact hh
              · intro p hp
                rcases List.mem_cons.mp hp with hp | hp
                · subst hp; cases e7; cases e8; rfl
                · rw [List.mem_singleton.mp hp]; cases e9; cases e10; rfl
              · intro z hz hs
                have q1 : z ≠ Str.ofString "k" := hz _ (List.mem_cons_self ..)
                have q2 : z ≠ Str.ofString "out" := hz _ (List.mem_cons_of_mem _ (List.mem_cons_self ..))
                have r1 := not_stored hs (List.mem_cons_self ..)
                have r2 := not_stored hs (List.mem_cons_of_mem _ (List.mem_cons_self ..))
                have r3 := not_stored hs (List.mem_cons_of_mem _ (List.mem_cons_of_mem _ (List.mem_cons_self ..)))
                simp only [kstB, if_neg q1, if_neg q2, if_neg r1, if_neg r2, if_neg r3, contains_three r1 r2 r3, List.contains_nil, Bool.false_eq_true, if_false]
              · refine ⟨by dsimp only; rw [set_fst hRi]; exact T.nd, by dsimp only; rw [set_fst hRi]; exact T.la_ne, by dsimp only; rw [set_fst hRi]; exact T.off, Or.inl ⟨by dsimp only; omega, by dsimp only; rw [List.length_set]; omega, ?_, by dsimp only; rw [List.length_set]; omega, ?_⟩⟩
                · dsimp only
                  rw [e7, e9]
                  exact hfin
                intro r hr
                rcases List.mem_or_eq_of_mem_set hr with hr | hr
                · exact T.n2 r hr
                · rw [hr, List.length_set]; exact hn3len
              · dsimp only
                rw [if_neg (by omega), if_neg (by omega), List.length_set]
                omega
            · refine ksw_end (R3.set k2.toNat (a3, listOf vv.toArray n3), g3.set k2.toNat (ns3.set a4.toNat out2), kk, tkk, oo, too) F10 N10 ?_ hrow ?_ ?_ ?_ ?_
              · intro p hp
                have hh := T.led (o' := listOf vv.toArray n3) hRi p hp
                rw [hrest, ev] at hh
                exact hh
              · intro p hp
                rcases List.mem_cons.mp hp with hp | hp
                · subst hp; cases e7; cases e8; rfl
                · rw [List.mem_singleton.mp hp]; cases e9; cases e10; rfl
              · intro z hz hs
                have q1 : z ≠ Str.ofString "k" := hz _ (List.mem_cons_self ..)
                have q2 : z ≠ Str.ofString "out" := hz _ (List.mem_cons_of_mem _ (List.mem_cons_self ..))
                have r1 := not_stored hs (List.mem_cons_self ..)
                have r2 := not_stored hs (List.mem_cons_of_mem _ (List.mem_cons_self ..))
                have r3 := not_stored hs (List.mem_cons_of_mem _ (List.mem_cons_of_mem _ (List.mem_cons_self ..)))
                simp only [kstB, if_neg q1, if_neg q2, if_neg r1, if_neg r2, if_neg r3, contains_three r1 r2 r3, List.contains_nil, Bool.false_eq_true, if_false]
              · refine ⟨by dsimp only; rw [set_fst hRi]; exact T.nd, by dsimp only; rw [set_fst hRi]; exact T.la_ne, by dsimp only; rw [set_fst hRi]; exact T.off, Or.inl ⟨by dsimp only; omega, by dsimp only; rw [List.length_set]; omega, ?_, by dsimp only; rw [List.length_set]; omega, ?_⟩⟩
                · dsimp only
                  rw [e7, e9]
                  exact hfin
                intro r hr
                rcases List.mem_or_eq_of_mem_set hr with hr | hr
                · exact T.n2 r hr
                · rw [hr, List.length_set]; exact hn3len
              · dsimp only
                rw [if_neg (by omega), if_neg (by omega), List.length_set]
                omega
            · refine ksw_end (R3.set k2.toNat (a3, listOf (List.toArray (vs3 ++ [Value.int qv tq])) (n3 + 1)), g3.set k2.toNat (ns3 ++ [qv]), kk, tkk, oo, too) F10 N10 ?_ hrow ?_ ?_ ?_ ?_
              · intro p hp
                have hh := T.led (o' := listOf (List.toArray (vs3 ++ [Value.int qv tq])) (n3 + 1)) hRi p hp
                rw [hrest, ← e5, e4] at hh
                exact hh
              · intro p hp
                rcases List.mem_cons.mp hp with hp | hp
                · subst hp; cases e7; cases e8; rfl
                · rw [List.mem_singleton.mp hp]; cases e9; cases e10; rfl
              · intro z hz hs
                have q1 : z ≠ Str.ofString "k" := hz _ (List.mem_cons_self ..)
                have q2 : z ≠ Str.ofString "out" := hz _ (List.mem_cons_of_mem _ (List.mem_cons_self ..))
                have r1 := not_stored hs (List.mem_cons_self ..)
                have r2 := not_stored hs (List.mem_cons_of_mem _ (List.mem_cons_self ..))
                have r3 := not_stored hs (List.mem_cons_of_mem _ (List.mem_cons_of_mem _ (List.mem_cons_self ..)))
                simp only [kstB, if_neg q1, if_neg q2, if_neg r1, if_neg r2, if_neg r3, contains_three r1 r2 r3, List.contains_nil, Bool.false_eq_true, if_false]
              · refine ⟨by dsimp only; rw [set_fst hRi]; exact T.nd, by dsimp only; rw [set_fst hRi]; exact T.la_ne, by dsimp only; rw [set_fst hRi]; exact T.off, Or.inr ⟨by dsimp only; omega, hfin, by dsimp only; rw [List.length_set]; exact T.n1, ?_⟩⟩
                intro r hr
                rcases List.mem_or_eq_of_mem_set hr with hr | hr
                · exact Nat.le_succ_of_le (T.n2 r hr)
                · rw [hr, List.length_append]; simp only [List.length_cons, List.length_nil]; omega
              · dsimp only
                rw [if_pos (by omega), if_neg (by omega)]
                omega)
      · try k_fold
        k_steps
        rename Fr _ _ _ _ => F5
        rename News _ _ _ _ => N5
        refine Leaves.fin (R2, g2) F5 N5 ⟨hR2, ?_, hnd2, hla2, hn3, hn4⟩ (fun p hp => by rcases List.mem_cons.mp hp with h | h; exact h ▸ List.mem_cons_self ..; exact List.mem_cons_of_mem _ (List.mem_append_left _ h)) (fun p hp => List.mem_cons_of_mem _ (List.mem_append_right _ hp)) ?_ ?_
        · rename xs[i]? = some q => hq
          rw [List.take_succ, hq]
          dsimp only
          rw [hbump, hg]
          simp only [Option.toList_some, List.foldl_append, List.foldl_cons, List.foldl_nil]
        · intro p hp z hz
          rcases List.mem_cons.mp hz with hz | hz
          · rw [hz]; have hh := hoff p hp _ (List.mem_cons_self ..); exact hh
          · exact hoff2 p hp _ (List.mem_map_of_mem hz)
        · intro z h1 hs
          have q1 := not_stored hs (List.mem_cons_self ..)
          have q2 := not_stored hs (List.mem_cons_of_mem _ (List.mem_cons_self ..))
          have q3 := not_stored hs (List.mem_cons_of_mem _ (List.mem_cons_of_mem _ (List.mem_cons_self ..)))
          have q4 := not_stored hs (List.mem_cons_of_mem _ (List.mem_cons_of_mem _ (List.mem_cons_of_mem _ (List.mem_cons_self ..))))
          have q5 := not_stored hs (List.mem_cons_of_mem _ (List.mem_cons_of_mem _ (List.mem_cons_of_mem _ (List.mem_cons_of_mem _ (List.mem_cons_self ..)))))
          simp only [kstB, if_neg h1, if_neg q1, if_neg q2, contains_three q3 q4 q5, hs, Bool.false_eq_true, if_false]
  · clear F1 N1
    intro σ u h tk hI F2 N2
    obtain ⟨R, g⟩ := σ
    obtain ⟨hR, hg, hnd, hla, hn1, hn2⟩ := hI
    dsimp only at hR hg hnd hla hn1 hn2 N2
    try k_fold
    k_steps
    show Lz _ _ _ _
    rw [List.take_length] at hg
    refine ⟨F2.keep, hret _ _ _ F2.keep ⟨la, R, R.length, rfl, (N2 _ (List.mem_cons_self ..)).2.2, (N2 _ (List.mem_cons_self ..)).1, (show RowsAre R ((xs).foldl (bump b) []) from hg ▸ hR), fun p hp => ⟨(N2 _ (List.mem_cons_of_mem _ hp)).2.2, (N2 _ (List.mem_cons_of_mem _ hp)).1⟩⟩⟩
end Mine
namespace Mine
theorem range_down (a b : Int) : Builtin.Range.rangeSize a b (-1) = ((a - b).toNat : Int) := by
  unfold Builtin.Range.rangeSize
  simp only [show ¬ ((-1 : Int) > 0) by decide, if_false]
  split <;> simp_all <;> omega
theorem small_down {a b : Int} (ha : -(2 ^ 62) ≤ a) (ha' : a < 2 ^ 62) (hb : -(2 ^ 62) ≤ b) (hb' : b < 2 ^ 62) : Builtin.Range.small a b (-1) = true := by
  unfold Builtin.Range.small
  rw [range_down]
  simp only [Builtin.Range.rangeFitsLong, Bool.and_eq_true, Bool.or_eq_true, decide_eq_true_eq, beq_iff_eq, show ¬ ((-1 : Int) > 0) by decide, if_false]
  omega
section
variable {prog : Program} {w : World} {A : Around} {E : Value → Shared → Prop} {s : Shared} {env : Env} {h₀ : Heap} {x : Str} {body : List Stmt} {Q : Flow → Shared → Prop}
/-- a loop down a range -/
theorem loopN {S : Type} {r : Addr} {a₀ b₀ : Int} {t₀ u₀ v₀ : Tok} {n : Nat} {m₀ : Str → Option Value} {news : List (Addr × Obj)} (stored : List Str) (led : S → List (Addr × Obj)) (I : Nat → S → Prop) (σ₀ : S)
    (hh : A.handled = none) (hr : IsRange s.heap r a₀ b₀ (-1) t₀ u₀ v₀) (hb : -1000000 ≤ a₀ ∧ a₀ ≤ 1000000 ∧ -1000000 ≤ b₀ ∧ b₀ ≤ 1000000) (hn : n = (a₀ - b₀).toNat) (F : Fr h₀ env.locals s.heap m₀) (N : News h₀ env.locals s.heap news)
    (h0 : I 0 σ₀) (hled : ∀ p ∈ led σ₀, p ∈ news)
    (turn : ∀ i t σ (u : Str → Option Value) h tk own, i < n → I i σ → TbOff own (led σ) → Fr h₀ env.locals h (fun z => if z = x then some (.int (a₀ - (i : Int)) t) else if stored.contains z then u z else m₀ z) → News h₀ env.locals h (led σ ++ own) →
      wpAny (model prog w) A (execs body env) (TbPost h₀ env.locals (Leaves stored x (fun _ => m₀) led (I (i + 1))) own { s with heap := h, toks := tk } Q) E { s with heap := h, toks := tk })
    (done : ∀ σ (u : Str → Option Value) h tk, I n σ → Fr h₀ env.locals h (fun z => if z = x then u z else if stored.contains z then u z else m₀ z) → News h₀ env.locals h (led σ) → Q .next { s with heap := h, toks := tk }) :
    wpAny (model prog w) A (pyIter (.ref r)) (fun it s₂ => LoopAtV prog w A h₀ env x body Q E it s₂) E s := by
  refine wpAny_pyIter_range hr (small_down (by omega) (by omega) (by omega) (by omega)) ?_
  have hsz : Builtin.Range.rangeSize a₀ b₀ (-1) = (n : Int) := hn ▸ range_down a₀ b₀
  have W : Walks prog w A s.heap.objs.size [s.heap.objs.size] [s.heap.objs.size] n (fun i v => i < n ∧ ∃ t, v = .int (a₀ + i * (-1)) t)
      (fun i h => IsRangeIter h s.heap.objs.size (a₀ + (i : Nat) * (-1)) ((n : Int) - (i : Nat)) (-1)) := (Walks.range hh _ a₀ (-1) n).bound
  refine tbr_loop (news := led σ₀) (fun i m nx => Leaves stored x (fun _ => m₀) led (I i) m nx) W (fun _ h => h) (fun _ h => h) ?_ ?_ ?_ ?_ (by show IsRangeIter _ _ _ _ _; rw [hsz]; simpa using Heap.get?_push_size _ rfl) (F.push _) (fun p hp => ⟨Heap.get?_push_of_some _ (N p (hled p hp)).1, (N p (hled p hp)).2⟩) ⟨σ₀, h0, rfl, fun _ _ _ => rfl⟩ ?_ ?_
  · intro i h hi b hb
    rw [List.mem_singleton.mp hb]
    exact ⟨_, hi⟩
  · intro hm
    exact absurd F.ns.lt ((List.mem_singleton.mp hm) ▸ Nat.lt_irrefl _)
  · intro b hb
    rw [List.mem_singleton.mp hb]
    exact next_is_new F
  · intro p hp hI
    exact absurd (Heap.lt_size (N p (hled p hp)).1) ((List.mem_singleton.mp hI) ▸ Nat.lt_irrefl _)
  · rintro i v m₁ nx h tk own hi ⟨_, t, rfl⟩ hoff ⟨σ, hI, rfl, hm₁⟩ F₁ N₁
    have e1 : a₀ + (i : Int) * (-1) = a₀ - (i : Int) := by omega
    rw [e1, frame_split hm₁] at F₁
    exact turn i t σ m₁ h tk own hi hI hoff F₁ N₁
  · rintro m₁ nx h tk ⟨σ, hI, rfl, hm₁⟩ F₁ N₁
    rw [frame_split' hm₁] at F₁
    exact done σ m₁ h tk hI F₁ N₁
end
/-- the places of x in two, the last place first, the first k turns -/
def fplaces (x : Int) (two : List Int) (k : Nat) : List Int := (List.range k).flatMap fun i => if two.getD (two.length - 1 - i) 0 = x then [((two.length - 1 - i : Nat) : Int)] else []
def places (one two : List Int) : List Int := one.flatMap fun x => fplaces x two two.length
theorem fplaces_succ (x : Int) (two : List Int) (k : Nat) : fplaces x two (k + 1) = fplaces x two k ++ (if two.getD (two.length - 1 - k) 0 = x then [((two.length - 1 - k : Nat) : Int)] else []) := by
  unfold fplaces
  rw [List.range_succ, List.flatMap_append, List.flatMap_singleton]
theorem fplaces_len (x : Int) (two : List Int) : ∀ k, (fplaces x two k).length ≤ k
  | 0 => Nat.le_refl _
  | k + 1 => by
    have := fplaces_len x two k
    rw [fplaces_succ, List.length_append]
    split <;> simp <;> omega
theorem places_snoc (one two : List Int) (x : Int) : places (one ++ [x]) two = places one two ++ fplaces x two two.length := by
  unfold places
  rw [List.flatMap_append, List.flatMap_singleton]
theorem places_len (two : List Int) : ∀ one : List Int, (places one two).length ≤ one.length * two.length
  | [] => by simp [places]
  | x :: one => by
    have h1 := places_len two one
    have h2 := fplaces_len x two two.length
    unfold places at h1 ⊢
    rw [List.flatMap_cons, List.length_append, List.length_cons, Nat.add_mul]
    omega
theorem bump_len (b : Bool) (n : Nat) : ∀ (g : List (List Int)) (out : Int), (∀ r ∈ g, r.length ≤ n) → (bump b g out).length ≤ g.length + 1 ∧ ∀ r ∈ bump b g out, r.length ≤ n + 1
  | [], out, _ => by
    refine ⟨by simp [bump], fun r hr => ?_⟩
    simp only [bump, List.mem_singleton] at hr
    rw [hr]; simp
  | l :: g, out, h => by
    have hl := h l (List.mem_cons_self ..)
    unfold bump
    split
    · refine ⟨by simp, fun r hr => ?_⟩
      rcases List.mem_cons.mp hr with hr | hr
      · rw [hr]; simp; exact hl
      · exact Nat.le_succ_of_le (h r (List.mem_cons_of_mem _ hr))
    · have ih := bump_len b n g (l.getD (seek b out l) 0) (fun r hr => h r (List.mem_cons_of_mem _ hr))
      refine ⟨by simp only [List.length_cons]; omega, fun r hr => ?_⟩
      rcases List.mem_cons.mp hr with hr | hr
      · rw [hr, List.length_set]; omega
      · exact ih.2 r hr
theorem fold_len (b : Bool) : ∀ (xs : List Int) (n : Nat) (g : List (List Int)), g.length ≤ n → (∀ r ∈ g, r.length ≤ n) → (xs.foldl (bump b) g).length ≤ n + xs.length ∧ ∀ r ∈ xs.foldl (bump b) g, r.length ≤ n + xs.length
  | [], n, g, h1, h2 => ⟨h1, h2⟩
  | x :: xs, n, g, h1, h2 => by
    have h3 := bump_len b n g x h2
    have ih := fold_len b xs (n + 1) (bump b g x) (by omega) h3.2
    rw [List.foldl_cons, List.length_cons]
    exact ⟨by omega, fun r hr => by have := ih.2 r hr; omega⟩
theorem tableau_len (b : Bool) (xs : List Int) : (tableau b xs).length ≤ xs.length ∧ ∀ r ∈ tableau b xs, r.length ≤ xs.length := by
  have := fold_len b xs 0 [] (Nat.le_refl _) (by simp)
  simpa [tableau] using this
end Mine
namespace Mine
local macro_rules | `(tactic| keq_rows) => `(tactic| first | assumption | exact List.mem_cons_self | (refine List.mem_cons_of_mem _ ?_; keq_rows) | (refine List.mem_append_left _ ?_; keq_rows))
local macro_rules | `(tactic| k_mem) => `(tactic| keq_rows)
local macro_rules | `(tactic| k_all) => `(tactic| assumption)
local macro_rules | `(tactic| is_list) => `(tactic| exact News.isList (by assumption) (by k_mem))
local macro_rules | `(tactic| walk_at "subscriptTail") => `(tactic| (k_here; (with_reducible show wpAny _ _ (subscriptTail _ _ (Value.ref _) (Value.int _ _)) _ _ _); k_dflt (refine' sub_ref ?k1 ?k2 ?k3 ?k4 ?k5 ?_ ?k7; (case k1 => k_asm); (case k2 => k_mem); (case k5 => assumption); (case k3 => omega); (case k4 => omega); (case k7 => with_unfolding_all rfl); k_whole)))
local macro_rules | `(tactic| walk_at "pyIter ref") => `(tactic| ((with_reducible show wpAny _ _ (pyIter (Value.ref _)) (fun it s₂ => LoopAtV _ _ _ _ _ _ _ _ _ it s₂) _ _); refine Stop.out ?_))
local macro_rules | `(tactic| size_fits) => `(tactic| assumption)
local macro_rules | `(tactic| cell_enter) => `(tactic| (refine' code_def ?k1 ?k2 ?k3 ?k4 ?k5 ?kA ?kF ?kK ?k6 ?k7 ?k8 ?k9 ?kB ?_ ?c2 ?c3 ?c4 ?c5; (case kA => exact rfl); (case kF => exact rfl); (case kK => assumption); (case k1 => k_asm); (case k2 => k_asm); (case k3 => k_asm); (case k4 => k_asm); (case k5 => k_asm); (case k6 => k_is); (case k7 => k_is); (case k8 => ktr_room); (case k9 => first | exact BindsTo.of_eq rfl | exact binds_K (by k_in) rfl (by k_is) rfl rfl rfl); (case c5 => decide); (case kB => exact locs rfl); (case c2 => exact rfl); (case c3 => exact rfl); (case c4 => exact rfl); k_whole; intro g' L' h' FG' F' N' B' X' T'; (try dsimp only); (try k_lift B'); (try k_fold)))
local macro_rules | `(tactic| ktr_enter) => `(tactic| (refine' code_frz ?k1 ?k2 ?k3 ?k5 ?kA ?kF ?kK ?k6 ?k7 ?k8 ?k9 ?kB ?_ ?c2 ?c3 ?c4 ?c5; (case kA => exact rfl); (case kF => exact rfl); (case kK => assumption); (case k1 => k_asm); (case k2 => k_asm); (case k3 => k_asm); (case k5 => k_asm); (case k6 => k_is); (case k7 => k_is); (case k8 => ktr_room); (case k9 => first | exact BindsTo.of_eq rfl | exact binds_K (by k_in) rfl (by k_is) rfl rfl rfl); (case c5 => decide); (case kB => exact locs rfl); (case c2 => exact rfl); (case c3 => exact rfl); (case c4 => exact rfl); k_whole; intro L' h' F' N' B' X' T'; (try dsimp only); (try k_fold)))
local macro_rules | `(tactic| k_enter) => `(tactic| (refine' code_frzC ?k1 ?k2 ?k3 ?k5 ?kA ?kF ?kK ?k6 ?k7 ?k8 ?k9 ?kB ?kD ?_ ?c2 ?c3 ?c4; (case kA => exact rfl); (case kF => exact rfl); (case kK => assumption); (case k1 => k_asm); (case k2 => k_asm); (case k3 => k_asm); (case k5 => k_asm); (case k6 => k_is); (case k7 => k_is); (case k8 => ktr_room); (case k9 => first | exact BindsTo.of_eq rfl | exact binds_K (by k_in) rfl (by k_is) rfl rfl rfl); (case kB => exact rfl); (case kD => decide +kernel); (case c2 => exact rfl); (case c3 => exact rfl); (case c4 => exact rfl); k_whole; intro L' h' tk' cells' F' N' Y' B' X' T'; k_cells Y'; (try simp only [List.cons_append, List.nil_append] at N'); (try dsimp only); (try k_fold)))
local macro_rules | `(tactic| walk_at "exec For") => `(tactic| (k_here; (rename Fr _ _ _ _ => lF'); (with_unfolding_all refine' For_invVF lF' ?k1 ?k2 ?_; (case k1 => exact rfl); (case k2 => exact rfl); k_whole)))
local macro_rules | `(tactic| walk_at "call ref") => `(tactic| refine Stop.out ?_)
theorem stay_c (w : World) (p : Program) (loose : List Str) (mean : ExcName → Option Value) (mg mb : Str → Option Value) (l1 l2 : Addr) (vs1 vs2 : List Value) (xs ys : List Int) (i1 : IntsAre vs1 xs) (i2 : IntsAre vs2 ys) (h1 : xs.length ≤ 20) (h2 : ys.length ≤ 20) :
   FzC PySem.Challenge.pw_fe5011_01 w (hd1.heap_39 w.params) p loose mean mg mb 80 [.ref l1, .ref l2] [] 11
     (fun h => h.IsList l1 vs1.toArray ∧ h.IsList l2 vs2.toArray) (fun h h' v => ∃ t, v = .int ((tableau true (places xs ys)).headD []).length t) := by
  intro dp un gd cn cs a ccd cl outer A₀ base h₀ L m s Q E B F X T hk hd hu hls hret
  obtain ⟨hl1, hl2⟩ := hls
  refine wpAny_call ?_
  k_dflt ktr_enter
  have i1' : True → IntsAre vs1 xs := fun _ => i1
  clear i1
  have hlen2 := i2.length
  k_steps
  rename Fr _ _ _ _ => F1
  rename News _ _ _ _ => N1
  unfold Stop
  obtain ⟨la, hl⟩ := ref_at F1 (Str.ofString "places") rfl
  subst hl
  with_unfolding_all refine loopL (S := List Value × List Int × Nat) [Str.ofString "j"] (fun σ => [(la, listOf σ.1.toArray σ.2.2)]) (fun i σ => IntsAre σ.1 σ.2.1 ∧ σ.2.1 = places (xs.take i) ys ∧ i ≤ xs.length) ([], [], 0) (by rfl) hl1 (i1' trivial) F1 N1 ⟨IntsAre.nil, rfl, Nat.zero_le _⟩ (by simp) ?_ ?_
  · clear F1 N1
    intro i q t σ u h tk own hi hI hoff F2 N2
    obtain ⟨vs, ns, n⟩ := σ
    obtain ⟨hv, hns, hix⟩ := hI
    dsimp only at hv hns N2 hoff
    try k_fold
    k_steps
    rename Fr _ _ _ _ => F3
    rename News _ _ _ _ => N3
    rename IsRange _ _ _ _ _ _ _ _ => G3
    unfold Stop
    have hpl := places_len ys (xs.take i)
    have hti : (xs.take i).length ≤ 20 := by rw [List.length_take]; omega
    have hpl2 : (places (xs.take i) ys).length ≤ 400 := Nat.le_trans hpl (Nat.le_trans (Nat.mul_le_mul hti h2) (by omega))
    with_unfolding_all refine loopN (S := List Value × List Int × Nat) (n := ys.length) [] (fun σ => (la, listOf σ.1.toArray σ.2.2) :: own) (fun k σ => IntsAre σ.1 σ.2.1 ∧ σ.2.1 = places (xs.take i) ys ++ fplaces q ys k) (vs, ns, n) (by rfl) G3 ⟨by omega, by omega, by omega, by omega⟩ (by omega) F3 N3 ⟨hv, by dsimp only; rw [hns]; simp [fplaces]⟩ (fun p hp => hp) ?_ ?_
    · clear F3 N3 G3
      intro k t2 σ u2 h2 tk2 own2 hk2 hI2 hoff2 F4 N4
      obtain ⟨vs4, ns4, n4⟩ := σ
      obtain ⟨hv4, hns4⟩ := hI2
      dsimp only at hv4 hns4 N4 hoff2
      have hfl := fplaces_len q ys k
      have hl4 := hv4.length
      have hfit : vs4.toArray.size ≤ sizeLine := by rw [List.size_toArray, hl4, hns4, List.length_append, sizeLine_eq]; omega
      simp only [List.cons_append] at N4
      have hap : ∀ p ∈ own ++ own2, p.1 ≠ la := by
        intro p hp
        rcases List.mem_append.mp hp with hp | hp
        · exact hoff p hp _ (List.mem_cons_self ..)
        · exact hoff2 p hp _ (List.mem_cons_self ..)
      have hk0 : (0 : Int) ≤ (ys.length : Int) - 1 - (k : Int) := by omega
      have hk1 : (ys.length : Int) - 1 - (k : Int) < (ys.length : Int) := by omega
      try k_fold
      k_steps
      · rename Fr _ _ _ _ => F5
        rename News _ _ _ _ => N5
        rename ys.getD _ _ = q => hq
        obtain ⟨D, o, hD, ho⟩ := head_at N5
        subst hD
        obtain ⟨qv, tq, e5, e6⟩ := pushed ho
        rw [← ho, e5] at N5
        have hqt : ((ys.length : Int) - 1 - (k : Int)).toNat = ys.length - 1 - k := by omega
        rw [hqt] at hq
        refine Leaves.fin (vs4 ++ [Value.int qv tq], ns4 ++ [qv], n4 + 1) F5 N5 ⟨ints_snoc hv4 qv tq, ?_⟩ (fun p hp => ?_) (fun p hp => List.mem_cons_of_mem _ (List.mem_append_right _ hp)) ?_ (fun z hz _ => by simp only [if_neg hz, List.contains_nil, Bool.false_eq_true, if_false])
        · dsimp only
          rw [hns4, fplaces_succ, if_pos hq, e6, List.append_assoc]
          congr 3
          omega
        · rcases List.mem_cons.mp hp with hp | hp
          · rw [hp]; exact List.mem_cons_self ..
          · exact List.mem_cons_of_mem _ (List.mem_append_left _ hp)
        · intro p hp z hz
          rcases List.mem_cons.mp hz with hz | hz
          · rw [hz]; have hh := hoff2 p hp _ (List.mem_cons_self ..); exact hh
          · exact hoff2 p hp _ (List.mem_cons_of_mem _ hz)
      · rename ys.getD _ _ ≠ q => hq
        have hqt : ((ys.length : Int) - 1 - (k : Int)).toNat = ys.length - 1 - k := by omega
        rw [hqt] at hq
        refine Leaves.fin (vs4, ns4, n4) F4 N4 ⟨hv4, ?_⟩ (fun p hp => ?_) (fun p hp => List.mem_cons_of_mem _ (List.mem_append_right _ hp)) ?_ (fun z hz _ => by simp only [if_neg hz, List.contains_nil, Bool.false_eq_true, if_false])
        · dsimp only
          rw [hns4, fplaces_succ, if_neg hq, List.append_nil]
        · rcases List.mem_cons.mp hp with hp | hp
          · rw [hp]; exact List.mem_cons_self ..
          · exact List.mem_cons_of_mem _ (List.mem_append_left _ hp)
        · exact hoff2
    · clear F3 N3 G3
      intro σ u2 h2 tk2 hI2 F4 N4
      obtain ⟨vs4, ns4, n4⟩ := σ
      obtain ⟨hv4, hns4⟩ := hI2
      dsimp only at hv4 hns4 N4
      try k_fold
      k_steps
      rename Fr _ _ _ _ => F5
      rename News _ _ _ _ => N5
      rename xs[i]? = some q => hq
      have hiq := (List.getElem?_eq_some_iff.mp hq).1
      refine Leaves.fin (vs4, ns4, n4) F5 N5 ⟨hv4, ?_, hiq⟩ (fun p hp => ?_) (fun p hp => List.mem_cons_of_mem _ hp) ?_ ?_
      · dsimp only
        rw [hns4, List.take_add_one, hq, Option.toList_some, places_snoc]
      · rw [List.mem_singleton.mp hp]; exact List.mem_cons_self ..
      · intro p hp z hz
        rw [List.mem_singleton.mp hz]
        have hh := hoff p hp _ (List.mem_cons_self ..)
        exact hh
      · intro z h1 hs
        have q1 := not_stored hs (List.mem_cons_self ..)
        simp only [if_neg h1, if_neg q1, List.contains_nil, Bool.false_eq_true, if_false, hs]
  · clear F1 N1
    intro σ u h tk hI F2 N2
    obtain ⟨vs, ns, n⟩ := σ
    obtain ⟨hv, hns, _⟩ := hI
    dsimp only at hv hns N2
    rw [List.take_length] at hns
    subst hns
    have hpl := places_len ys xs
    have hpl2 : (places xs ys).length ≤ 400 := Nat.le_trans hpl (Nat.le_trans (Nat.mul_le_mul h1 h2) (by omega))
    have hlp := News.isList N2 (List.mem_cons_self ..)
    have htl := tableau_len true (places xs ys)
    try k_fold
    k_steps
    unfold Stop
    rename Fr _ _ _ _ => F3
    rename News _ _ _ _ => N3
    k_dflt (refine FzC.use (tableau_c true w p loose mean mg mb la vs (places xs ys) hv (by omega)) (by k_asm) F3 (by k_asm) N3 (by k_asm) rfl (by ktr_room) (by ktr_units) hlp ?_)
    intro v h' tk' F4 N4 keep P
    obtain ⟨d, R, n', rfl, hd1, hd2, hR, hRR⟩ := P
    k_steps
    unfold Stop
    rename Fr _ _ _ _ => F5
    rename News _ _ _ _ => N5
    k_dflt (refine FzC.use (first_c w p loose mean mg mb d R (tableau true (places xs ys)) hR (by omega) (fun r hr => by have := htl.2 r hr; omega)) (by k_asm) F5 (by k_asm) N5 (by k_asm) rfl (by ktr_room) (by ktr_units) ⟨⟨_, hd2, rfl, _, rfl⟩, fun p hp => (hRR p hp).2⟩ ?_)
    intro v h2 tk2 F6 N6 keep2 P2
    obtain ⟨t2, rfl⟩ := P2
    k_steps
    all_goals (try exact ⟨Fr.keep (by assumption), hret _ _ _ (Fr.keep (by assumption)) ⟨_, rfl⟩⟩)
end Mine
namespace Mine
local macro_rules | `(tactic| keq_rows) => `(tactic| first | assumption | exact List.mem_cons_self | (refine List.mem_cons_of_mem _ ?_; keq_rows) | (refine List.mem_append_left _ ?_; keq_rows))
local macro_rules | `(tactic| k_mem) => `(tactic| keq_rows)
local macro_rules | `(tactic| k_all) => `(tactic| assumption)
local macro_rules | `(tactic| is_list) => `(tactic| exact News.isList (by assumption) (by k_mem))
local macro_rules | `(tactic| walk_at "subscriptTail") => `(tactic| (k_here; (with_reducible show wpAny _ _ (subscriptTail _ _ (Value.ref _) (Value.int _ _)) _ _ _); k_dflt (refine' sub_ref ?k1 ?k2 ?k3 ?k4 ?k5 ?_ ?k7; (case k1 => k_asm); (case k2 => k_mem); (case k5 => assumption); (case k3 => omega); (case k4 => omega); (case k7 => with_unfolding_all rfl); k_whole)))
local macro_rules | `(tactic| walk_at "pyIter ref") => `(tactic| ((with_reducible show wpAny _ _ (pyIter (Value.ref _)) (fun it s₂ => LoopAtV _ _ _ _ _ _ _ _ _ it s₂) _ _); refine Stop.out ?_))
local macro_rules | `(tactic| size_fits) => `(tactic| assumption)
local macro_rules | `(tactic| cell_enter) => `(tactic| (refine' code_def ?k1 ?k2 ?k3 ?k4 ?k5 ?kA ?kF ?kK ?k6 ?k7 ?k8 ?k9 ?kB ?_ ?c2 ?c3 ?c4 ?c5; (case kA => exact rfl); (case kF => exact rfl); (case kK => assumption); (case k1 => k_asm); (case k2 => k_asm); (case k3 => k_asm); (case k4 => k_asm); (case k5 => k_asm); (case k6 => k_is); (case k7 => k_is); (case k8 => ktr_room); (case k9 => first | exact BindsTo.of_eq rfl | exact binds_K (by k_in) rfl (by k_is) rfl rfl rfl); (case c5 => decide); (case kB => exact locs rfl); (case c2 => exact rfl); (case c3 => exact rfl); (case c4 => exact rfl); k_whole; intro g' L' h' FG' F' N' B' X' T'; (try dsimp only); (try k_lift B'); (try k_fold)))
local macro_rules | `(tactic| ktr_enter) => `(tactic| (refine' code_frz ?k1 ?k2 ?k3 ?k5 ?kA ?kF ?kK ?k6 ?k7 ?k8 ?k9 ?kB ?_ ?c2 ?c3 ?c4 ?c5; (case kA => exact rfl); (case kF => exact rfl); (case kK => assumption); (case k1 => k_asm); (case k2 => k_asm); (case k3 => k_asm); (case k5 => k_asm); (case k6 => k_is); (case k7 => k_is); (case k8 => ktr_room); (case k9 => first | exact BindsTo.of_eq rfl | exact binds_K (by k_in) rfl (by k_is) rfl rfl rfl); (case c5 => decide); (case kB => exact locs rfl); (case c2 => exact rfl); (case c3 => exact rfl); (case c4 => exact rfl); k_whole; intro L' h' F' N' B' X' T'; (try dsimp only); (try k_fold)))
local macro_rules | `(tactic| k_enter) => `(tactic| (refine' code_frzC ?k1 ?k2 ?k3 ?k5 ?kA ?kF ?kK ?k6 ?k7 ?k8 ?k9 ?kB ?kD ?_ ?c2 ?c3 ?c4; (case kA => exact rfl); (case kF => exact rfl); (case kK => assumption); (case k1 => k_asm); (case k2 => k_asm); (case k3 => k_asm); (case k5 => k_asm); (case k6 => k_is); (case k7 => k_is); (case k8 => ktr_room); (case k9 => first | exact BindsTo.of_eq rfl | exact binds_K (by k_in) rfl (by k_is) rfl rfl rfl); (case kB => exact rfl); (case kD => decide +kernel); (case c2 => exact rfl); (case c3 => exact rfl); (case c4 => exact rfl); k_whole; intro L' h' tk' cells' F' N' Y' B' X' T'; k_cells Y'; (try simp only [List.cons_append, List.nil_append] at N'); (try dsimp only); (try k_fold)))
local macro_rules | `(tactic| walk_at "call ref") => `(tactic| refine Stop.out ?_)
local macro_rules | `(tactic| walk_at "binaryOp Mod int int") => `(tactic| (k_here; (with_reducible refine mod_int' (by assumption) ?_)))
structure MarkR : Prop where
  mk ::
local macro_rules | `(tactic| walk_at "exec If") => `(tactic| ((rename MarkR => _mk); refine Stop.out ?_))
def PlainR (h₀ : Heap) (L : Addr) (m : Str → Option Value) (s : Shared) (df : Addr) (vf : List Value) (nf : Nat) (f : Flow) (s₂ : Shared) : Prop :=
  f = .next ∧ ∃ h tk d vs ns n, s₂ = { s with heap := h, toks := tk } ∧ Fr h₀ L h (fun y => if y = Str.ofString "plain" then some (.ref d) else m y) ∧ News h₀ L h [(df, listOf (List.toArray vf) nf), (d, listOf (List.toArray vs) n)] ∧ IntsAre vs ns ∧ ns.length = 15
theorem join_plainR {prog : Program} {w : World} {A : Around} {t : Sem Flow} {h₀ : Heap} {L : Addr} {m : Str → Option Value} {s : Shared} {Q : Flow → Shared → Prop} {E : Value → Shared → Prop} (_F : Fr h₀ L s.heap m) (df : Addr) (vf : List Value) (nf : Nat)
   (h1 : wpAny (model prog w) A t (PlainR h₀ L m s df vf nf) E s)
   (h2 : ∀ h tk d vs ns n, Fr h₀ L h (fun y => if y = Str.ofString "plain" then some (.ref d) else m y) → News h₀ L h [(df, listOf (List.toArray vf) nf), (d, listOf (List.toArray vs) n)] → IntsAre vs ns → ns.length = 15 → Q .next { s with heap := h, toks := tk }) : wpAny (model prog w) A t Q E s :=
  wpAny_mono h1 (fun f s₂ p => by
    obtain ⟨rfl, h, tk, d, vs, ns, n, rfl, F, N, i, l⟩ := p
    exact h2 h tk d vs ns n F N i l) (fun _ _ x => x)
theorem tail_gen {h₀ h : Heap} {L : Addr} {q : Addr × Obj} {l : List (Addr × Obj)} (N : News h₀ L h (q :: l)) : ∃ r, r = l ∧ News h₀ L h (q :: r) := ⟨l, rfl, N⟩
theorem rows_c (w : World) (p : Program) (loose : List Str) (mean : ExcName → Option Value) (mg mb : Str → Option Value) (l1 : Addr) (vs1 : List Value) (xs : List Int) (i1 : IntsAre vs1 xs) (h1 : xs.length < 900) :
   FzC PySem.Challenge.pw_fe5011_01 w (hd1.heap_39 w.params) p loose mean mg mb 73 [.ref l1] [] 2
     (fun h => h.IsList l1 vs1.toArray)
     (fun h h' v => ∃ (tp d1 d2 : Addr) (v1 v2 : List Value) (n1 n2 nT : Nat) (as bs : List Int) (cost : Int) (tc : Tok), v = .ref tp ∧ h.get? tp = none ∧ h.get? d1 = none ∧ h.get? d2 = none ∧ h'.get? tp = some { cls := .type "tuple", data := .seq #[.ref d1, .ref d2, .int cost tc] nT } ∧ h'.get? d1 = some (listOf v1.toArray n1) ∧ h'.get? d2 = some (listOf v2.toArray n2) ∧
        IntsAre v1 as ∧ IntsAre v2 bs ∧ as.length ≤ 6 ∧ bs.length ≤ 6 ∧ 2 ≤ cost) := by
  intro dp un gd cn cs a ccd cl outer A₀ base h₀ L m s Q E B F X T hk hd hu hl1 hret
  refine wpAny_call ?_
  k_dflt k_enter
  k_steps
  rename Fr _ _ _ _ => F1
  rename News _ _ _ _ => N1
  rename IntsAre _ _ => iS
  unfold Stop
  k_dflt (refine FzC.use (numbers_c _ _ _ _ _ _ _ _ _ iS h1 _) (by k_asm) F1 (by k_asm) N1 (by k_asm) rfl (by ktr_room) (by ktr_units) (Fr.lst F1 hl1) ?_)
  intro v h' tk' F2 N2 keep P
  obtain ⟨df, vf, nf, found, hv, hnew, hlive, iF, hlF⟩ := P
  subst hv
  obtain ⟨N3, hne3⟩ := fresh_news F1 N1 keep hnew hlive
  clear N2 N1 F1 keep hnew hlive
  have mki := MarkR.mk
  try k_fold
  k_steps
  rename MarkR => mk2
  clear mk2
  rename Fr _ _ _ _ => F4
  rename News _ _ _ _ => N4
  unfold Stop
  k_dflt (refine join_plainR F4 df vf nf ?_ ?_)
  · k_steps
    all_goals (
      rename Fr _ _ _ _ => F5
      rename News _ _ _ _ => N5
      first
        | exact ⟨rfl, _, _, _, _, _, _, rfl, F5, sub_news N5 (fun p hp => by rcases List.mem_cons.mp hp with h | h; exact h ▸ (by k_mem); rw [List.mem_singleton.mp h]; k_mem), iF, hlF⟩
        | (rename IntsAre _ (List.map _ _) => iP; exact ⟨rfl, _, _, _, _, _, _, rfl, F5, sub_news N5 (fun p hp => by rcases List.mem_cons.mp hp with h | h; exact h ▸ (by k_mem); rw [List.mem_singleton.mp h]; k_mem), iP, by simp only [List.length_map]; exact hlF⟩))
  clear F4 N4
  intro h4 tk4 dP vP nsP nP F5 N5 iP lP
  try k_fold
  k_steps
  rename IntsAre _ (List.take _ (List.drop 3 _)) => iA
  rename Fr _ _ _ _ => F6
  rename News _ _ _ _ => N6
  rename IsRange _ _ _ _ _ _ _ _ => G6
  rename _ < _ ∧ _ < _ ∧ _ < _ ∧ _ < _ => l4
  unfold Stop
  obtain ⟨nI, tn, en, etn⟩ := int_at F6 (Str.ofString "n") rfl
  obtain ⟨mI, tm, em, etm⟩ := int_at F6 (Str.ofString "m") rfl
  obtain ⟨d1, hd1⟩ := ref_at F6 (Str.ofString "one") rfl
  obtain ⟨d2, hd2⟩ := ref_at F6 (Str.ofString "two") rfl
  have n0 : 0 ≤ nI := by rw [en]; exact fmod_lo _ (by omega)
  have n1 : nI < 7 := by rw [en]; exact fmod_hi _ (by omega)
  have m0 : 0 ≤ mI := by rw [em]; exact fmod_lo _ (by omega)
  have m1 : mI < 7 := by rw [em]; exact fmod_hi _ (by omega)
  generalize hAs : List.take _ (List.drop 3 _) = as at iA
  have hAl : as.length = nI.toNat := by
    rw [← hAs, en]
    simp only [List.length_take, List.length_drop, lP]
    have e1 := fmod_lo (found.getD 1 0) (n := 7) (by omega)
    have e2 := fmod_hi (found.getD 1 0) (n := 7) (by omega)
    have e3 : Int.toNat 1 = 1 := rfl
    rw [e3]
    omega
  rw [← em, ← en, ← hd1, ← hd2] at F6
  rw [← em] at G6
  rw [← hd1, ← hd2] at N6
  rw [← hd2, ← hd1] at l4
  clear em en etm etn
  obtain ⟨rest, hrest, N7⟩ := tail_gen N6
  obtain ⟨va, eva⟩ := ints_at iA
  subst eva
  have hne : ∀ p ∈ rest, p.1 ≠ d2 := by
    rw [hrest]
    intro p hp
    simp only [List.mem_cons, List.not_mem_nil, or_false] at hp
    rcases hp with rfl | rfl | rfl | rfl <;> first | exact Nat.ne_of_lt l4.1 | exact Nat.ne_of_lt l4.2.1 | exact Nat.ne_of_lt l4.2.2.1 | exact Nat.ne_of_lt l4.2.2.2
  obtain ⟨nA, memA⟩ : ∃ e, (d1, listOf va.toArray e) ∈ rest := ⟨_, by rw [hrest]; k_mem⟩
  have memF : (df, listOf vf.toArray nf) ∈ rest := by rw [hrest]; k_mem
  have memP : (dP, listOf vP.toArray nP) ∈ rest := by rw [hrest]; k_mem
  clear N6 hrest hd1 hd2
  have lA := iA.length
  have lF := iF.length
  have lPP := iP.length
  with_unfolding_all refine loopR0 (S := List Value × List Int × Nat) (n := mI.toNat) [] (fun σ => (d2, listOf σ.1.toArray σ.2.2) :: rest) (fun i σ => IntsAre σ.1 σ.2.1 ∧ σ.2.1.length = i) ([], [], 0) (by rfl) G6 (by omega) (by omega) F6 N7 ⟨IntsAre.nil, rfl⟩ (fun p hp => hp) ?_ ?_
  · clear F6 N7 G6
    intro i t σ u h tk own hi hI hoff F7 N7
    obtain ⟨vs, ns, n⟩ := σ
    obtain ⟨hv, hns⟩ := hI
    dsimp only at hv hns N7 hoff
    simp only [List.cons_append] at N7
    have hvl := hv.length
    have hfit : vs.toArray.size ≤ sizeLine := by rw [List.size_toArray, hvl, hns, sizeLine_eq]; omega
    have hap : ∀ p ∈ rest ++ own, p.1 ≠ d2 := by
      intro p hp
      rcases List.mem_append.mp hp with hp | hp
      · exact hne p hp
      · have hh := hoff p hp _ (List.mem_cons_self ..); exact hh
    have k0 : (0 : Int) ≤ 9 + (i : Int) := by omega
    have k1 : 9 + (i : Int) < 15 := by omega
    rcases Decidable.em (0 < nI) with hn | hn
    · have hne0 : nI ≠ 0 := by omega
      have q0 := fmod_lo ((found.getD (9 + (i : Int)).toNat 0).fdiv 3) hn
      have q1 := fmod_hi ((found.getD (9 + (i : Int)).toNat 0).fdiv 3) hn
      try k_fold
      k_steps
      all_goals (
        rename Fr _ _ _ _ => F9
        rename News _ _ _ _ => N9
        obtain ⟨D, o, hD, ho⟩ := head_at N9
        subst hD
        obtain ⟨qv, tq, e5, e6⟩ := pushed ho
        rw [← ho, e5] at N9
        refine Leaves.fin (vs ++ [Value.int qv tq], ns ++ [qv], n + 1) F9 N9 ⟨ints_snoc hv qv tq, ?_⟩ (fun p hp => ?_) (fun p hp => List.mem_cons_of_mem _ (List.mem_append_right _ hp)) ?_ (fun z hz _ => by simp only [if_neg hz, List.contains_nil, Bool.false_eq_true, if_false])
        · dsimp only
          rw [List.length_append, hns]
          rfl
        · rcases List.mem_cons.mp hp with hp | hp
          · rw [hp]; exact List.mem_cons_self ..
          · exact List.mem_cons_of_mem _ (List.mem_append_left _ hp)
        · intro p hp z hz
          rcases List.mem_cons.mp hz with hz | hz
          · rw [hz]; have hh := hoff p hp _ (List.mem_cons_self ..); exact hh
          · exact hoff p hp _ (List.mem_cons_of_mem _ hz))
    · try k_fold
      k_steps
      all_goals (
        rename Fr _ _ _ _ => F9
        rename News _ _ _ _ => N9
        obtain ⟨D, o, hD, ho⟩ := head_at N9
        subst hD
        obtain ⟨qv, tq, e5, e6⟩ := pushed ho
        rw [← ho, e5] at N9
        refine Leaves.fin (vs ++ [Value.int qv tq], ns ++ [qv], n + 1) F9 N9 ⟨ints_snoc hv qv tq, ?_⟩ (fun p hp => ?_) (fun p hp => List.mem_cons_of_mem _ (List.mem_append_right _ hp)) ?_ (fun z hz _ => by simp only [if_neg hz, List.contains_nil, Bool.false_eq_true, if_false])
        · dsimp only
          rw [List.length_append, hns]
          rfl
        · rcases List.mem_cons.mp hp with hp | hp
          · rw [hp]; exact List.mem_cons_self ..
          · exact List.mem_cons_of_mem _ (List.mem_append_left _ hp)
        · intro p hp z hz
          rcases List.mem_cons.mp hz with hz | hz
          · rw [hz]; have hh := hoff p hp _ (List.mem_cons_self ..); exact hh
          · exact hoff p hp _ (List.mem_cons_of_mem _ hz))
  · clear F6 N7 G6
    intro σ u h tk hI F7 N7
    obtain ⟨vs, ns, n⟩ := σ
    obtain ⟨hv, hns⟩ := hI
    dsimp only at hv hns N7
    try k_fold
    k_steps
    rename Fr _ _ _ _ => F8
    rename News _ _ _ _ => N8
    obtain ⟨tp, ot, e1, e2⟩ := head_at N8
    subst e1
    have p1 := N8 _ (List.mem_cons_self ..)
    have p2 := N8 _ (List.mem_cons_of_mem _ (List.mem_cons_self ..))
    have p3 := N8 _ (List.mem_cons_of_mem _ (List.mem_cons_of_mem _ memA))
    have qc := fmod_lo ((found.getD (Int.toNat 0) 0).fdiv 4) (n := 3) (by omega)
    exact ⟨F8.keep, hret _ _ _ F8.keep ⟨tp, d1, d2, va, vs, _, _, _, as, ns, _, _, rfl, p1.2.2, p3.2.2, p2.2.2, p1.1, p3.1, p2.1, iA, hv, by omega, by omega, by omega⟩⟩
end Mine
namespace Mine
/-- the longest common subsequence of the first r and the first c letters -/
def LL (hit : Nat → Nat → Bool) : Nat → Nat → Int
  | 0, _ => 0
  | _ + 1, 0 => 0
  | r + 1, c + 1 => if hit r c then LL hit r c + 1 else max (LL hit (r + 1) c) (LL hit r (c + 1))
theorem LL_zero (hit : Nat → Nat → Bool) (r : Nat) : LL hit r 0 = 0 := by cases r <;> simp [LL]
theorem LL_step (hit : Nat → Nat → Bool) : ∀ r c, (LL hit r c ≤ LL hit (r + 1) c ∧ LL hit (r + 1) c ≤ LL hit r c + 1) ∧ (LL hit r c ≤ LL hit r (c + 1) ∧ LL hit r (c + 1) ≤ LL hit r c + 1)
  | 0, 0 => by simp [LL]
  | 0, c + 1 => by
    have h := (LL_step hit 0 c).1
    simp only [LL] at h ⊢
    split <;> omega
  | r + 1, 0 => by
    have h := (LL_step hit r 0).2
    have h0 := LL_zero hit r
    have h2 := LL_zero hit (r + 1)
    have h3 := LL_zero hit (r + 1 + 1)
    have h4 : LL hit (r + 1) (0 + 1) = if hit r 0 then LL hit r 0 + 1 else max (LL hit (r + 1) 0) (LL hit r (0 + 1)) := by rw [h2, LL, h2]
    have h5 := (LL_step hit r 0).1
    split at h4 <;> omega
  | r + 1, c + 1 => by
    have h1 := LL_step hit r (c + 1)
    have h2 := LL_step hit (r + 1) c
    have h3 := LL_step hit r c
    have e1 : LL hit (r + 1 + 1) (c + 1) = if hit (r + 1) c then LL hit (r + 1) c + 1 else max (LL hit (r + 1 + 1) c) (LL hit (r + 1) (c + 1)) := by rw [LL]
    have e2 : LL hit (r + 1) (c + 1 + 1) = if hit r (c + 1) then LL hit r (c + 1) + 1 else max (LL hit (r + 1) (c + 1)) (LL hit r (c + 1 + 1)) := by rw [LL]
    rw [e1, e2]
    constructor
    · split <;> omega
    · split <;> omega
theorem LL_congr {f g : Nat → Nat → Bool} : ∀ r c, (∀ x y, x < r → y < c → f x y = g x y) → LL f r c = LL g r c
  | 0, _, _ => by simp [LL]
  | _ + 1, 0, _ => by simp [LL]
  | r + 1, c + 1, h => by
    have h1 := LL_congr r c (fun x y hx hy => h x y (by omega) (by omega))
    have h2 := LL_congr (r + 1) c (fun x y hx hy => h x y (by omega) (by omega))
    have h3 := LL_congr r (c + 1) (fun x y hx hy => h x y (by omega) (by omega))
    simp only [LL, h r c (by omega) (by omega), h1, h2, h3]
theorem DD_LL {cost : Int} (hc : 2 ≤ cost) (xs ys : List Int) : ∀ r c, DD cost xs ys r c = (r : Int) + c - 2 * LL (fun x y => decide (xs.getD x 0 = ys.getD y 0)) r c
  | 0, c => by simp [DD, LL]
  | r + 1, 0 => by simp [DD, LL]
  | r + 1, c + 1 => by
    have h1 := DD_LL hc xs ys r c
    have h2 := DD_LL hc xs ys (r + 1) c
    have h3 := DD_LL hc xs ys r (c + 1)
    have h4 := LL_step (fun x y => decide (xs.getD x 0 = ys.getD y 0)) r c
    rw [DD, h1, h2, h3]
    simp only [LL]
    by_cases e : xs.getD r 0 = ys.getD c 0
    · rw [if_pos e, if_pos (decide_eq_true e)]; push_cast; omega
    · rw [if_neg e, if_neg (by rw [decide_eq_true_iff]; exact e)]; push_cast; omega
theorem LL_turn (hit : Nat → Nat → Bool) : ∀ r c, LL (fun x y => hit y x) c r = LL hit r c
  | 0, 0 => by simp [LL]
  | 0, _ + 1 => by simp [LL]
  | _ + 1, 0 => by simp [LL]
  | r + 1, c + 1 => by
    have h1 := LL_turn hit r c
    have h2 := LL_turn hit (r + 1) c
    have h3 := LL_turn hit r (c + 1)
    simp only [LL, h1, h2, h3]
    split
    · rfl
    · omega
/-- how many lie below c -/
def cnt (l : List Int) (c : Int) : Nat := l.countP fun t => decide (t < c)
theorem cnt_nil (c : Int) : cnt [] c = 0 := rfl
theorem cnt_cons (x : Int) (l : List Int) (c : Int) : cnt (x :: l) c = cnt l c + if x < c then 1 else 0 := by
  unfold cnt
  rw [List.countP_cons]
  simp only [decide_eq_true_eq]
theorem cnt_append (l k : List Int) (c : Int) : cnt (l ++ k) c = cnt l c + cnt k c := by
  unfold cnt; rw [List.countP_append]
theorem cnt_mono : ∀ (l : List Int) {c d : Int}, c ≤ d → cnt l c ≤ cnt l d
  | [], _, _, _ => Nat.le_refl _
  | x :: l, c, d, h => by
    have := cnt_mono l h
    rw [cnt_cons, cnt_cons]
    split <;> split <;> omega
theorem cnt_zero : ∀ (l : List Int) {c : Int}, (∀ y ∈ l, c ≤ y) → cnt l c = 0
  | [], _, _ => rfl
  | x :: l, c, h => by
    rw [cnt_cons, cnt_zero l (fun y hy => h y (List.mem_cons_of_mem _ hy)), if_neg (by have := h x (List.mem_cons_self ..); omega)]
theorem cnt_all : ∀ (l : List Int) {c : Int}, (∀ y ∈ l, y < c) → cnt l c = l.length
  | [], _, _ => rfl
  | x :: l, c, h => by
    rw [cnt_cons, cnt_all l (fun y hy => h y (List.mem_cons_of_mem _ hy)), if_pos (h x (List.mem_cons_self ..)), List.length_cons]
theorem cnt_le (l : List Int) (c : Int) : cnt l c ≤ l.length := List.countP_le_length
/-- where an insertion stops -/
def key (b : Bool) (v : Int) : Int := if b = true then v else v + 1
theorem key_le (b : Bool) (v : Int) : v ≤ key b v ∧ key b v ≤ v + 1 := by unfold key; split <;> omega
theorem key_iff (b : Bool) (x v : Int) : (x < v ∨ (x = v ∧ b = false)) ↔ x < key b v := by
  unfold key
  cases b <;> simp <;> omega
def insr (b : Bool) : List Int → Int → List Int
  | [], v => [v]
  | x :: l, v => if x < key b v then x :: insr b l v else v :: l
theorem insr_mem (b : Bool) : ∀ (l : List Int) (v y : Int), y ∈ insr b l v → y = v ∨ y ∈ l
  | [], v, y, h => by simp only [insr, List.mem_singleton] at h; exact Or.inl h
  | x :: l, v, y, h => by
    unfold insr at h
    split at h
    · rcases List.mem_cons.mp h with h | h
      · exact Or.inr (h ▸ List.mem_cons_self ..)
      · rcases insr_mem b l v y h with h | h
        · exact Or.inl h
        · exact Or.inr (List.mem_cons_of_mem _ h)
    · rcases List.mem_cons.mp h with h | h
      · exact Or.inl h
      · exact Or.inr (List.mem_cons_of_mem _ h)
theorem insr_sorted (b : Bool) : ∀ (l : List Int) (v : Int), l.Pairwise (fun a c => a ≤ c) → (insr b l v).Pairwise (fun a c => a ≤ c)
  | [], v, _ => by simp [insr]
  | x :: l, v, h => by
    rw [List.pairwise_cons] at h
    have hk := key_le b v
    unfold insr
    split
    · rw [List.pairwise_cons]
      refine ⟨fun y hy => ?_, insr_sorted b l v h.2⟩
      rcases insr_mem b l v y hy with e | e
      · omega
      · exact h.1 y e
    · rw [List.pairwise_cons]
      refine ⟨fun y hy => ?_, h.2⟩
      have := h.1 y hy
      omega
theorem cnt_insr (b : Bool) : ∀ (l : List Int) (v c : Int), l.Pairwise (fun a c => a ≤ c) → cnt (insr b l v) c = if c ≤ v then cnt l c else max (cnt l c) (cnt l (key b v) + 1)
  | [], v, c, _ => by
    simp only [insr, cnt_cons, cnt_nil]
    split <;> split <;> omega
  | x :: l, v, c, h => by
    rw [List.pairwise_cons] at h
    have hk := key_le b v
    unfold insr
    by_cases hx : x < key b v
    · rw [if_pos hx, cnt_cons, cnt_insr b l v c h.2, cnt_cons, cnt_cons, if_pos hx]
      by_cases hc : c ≤ v
      · rw [if_pos hc, if_pos hc]
      · rw [if_neg hc, if_neg hc, if_pos (by omega)]
        omega
    · have z : cnt l (key b v) = 0 := cnt_zero l (fun y hy => by have := h.1 y hy; omega)
      rw [if_neg hx, cnt_cons, cnt_cons, cnt_cons, if_neg hx, z]
      by_cases hc : c ≤ v
      · rw [if_pos hc, if_neg (by omega), if_neg (by omega)]
      · rw [if_neg hc, if_pos (by omega)]
        by_cases hy : x < c
        · rw [if_pos hy]; omega
        · rw [if_neg hy, cnt_zero l (fun y hy' => by have := h.1 y hy'; omega)]
          rfl
theorem seek_insr (b : Bool) (v : Int) : ∀ l : List Int, (if seek b v l = l.length then l ++ [v] else l.set (seek b v l) v) = insr b l v
  | [] => by simp [seek, insr]
  | x :: l => by
    have ih := seek_insr b v l
    unfold seek insr
    by_cases h : x < v ∨ (x = v ∧ b = false)
    · rw [if_pos h, if_pos ((key_iff b x v).mp h), ← ih]
      simp only [List.length_cons, Nat.add_right_cancel_iff]
      split
      · rfl
      · rfl
    · rw [if_neg h, if_neg (fun q => h ((key_iff b x v).mpr q)), if_neg (by simp)]
      rfl
theorem head_bump (b : Bool) (g : List (List Int)) (v : Int) : (bump b g v).headD [] = insr b (g.headD []) v := by
  cases g with
  | nil => simp [bump, insr]
  | cons l g =>
    show (bump b (l :: g) v).headD [] = insr b l v
    have e := seek_insr b v l
    unfold bump
    by_cases h : seek b v l = l.length
    · rw [if_pos h] at e ⊢; exact e
    · rw [if_neg h] at e ⊢; exact e
def frow (b : Bool) (xs : List Int) : List Int := xs.foldl (insr b) []
theorem head_fold (b : Bool) : ∀ (xs : List Int) (g : List (List Int)), (xs.foldl (bump b) g).headD [] = xs.foldl (insr b) (g.headD [])
  | [], _ => rfl
  | x :: xs, g => by
    rw [List.foldl_cons, List.foldl_cons, head_fold b xs, head_bump]
theorem head_tableau (b : Bool) (xs : List Int) : (tableau b xs).headD [] = frow b xs := head_fold b xs []
theorem fold_insr_sorted (b : Bool) : ∀ (xs l : List Int), l.Pairwise (fun a c => a ≤ c) → (xs.foldl (insr b) l).Pairwise (fun a c => a ≤ c)
  | [], _, h => h
  | x :: xs, l, h => fold_insr_sorted b xs _ (insr_sorted b l x h)
theorem fold_insr_mem (b : Bool) : ∀ (xs l : List Int) (y : Int), y ∈ xs.foldl (insr b) l → y ∈ xs ∨ y ∈ l
  | [], _, _, h => Or.inr h
  | x :: xs, l, y, h => by
    rcases fold_insr_mem b xs _ y h with h | h
    · exact Or.inl (List.mem_cons_of_mem _ h)
    · rcases insr_mem b l x y h with h | h
      · exact Or.inl (h ▸ List.mem_cons_self ..)
      · exact Or.inr h
end Mine
namespace Mine
/-- a row of the table of common subsequences, from b on -/
def RR (hit : Nat → Bool) (f : Nat → Int) (b : Nat) : Nat → Int
  | 0 => f b
  | d + 1 => if hit (b + d) then f (b + d) + 1 else max (RR hit f b d) (f (b + d + 1))
theorem RR_zero (hit : Nat → Nat → Bool) (r : Nat) : ∀ c, RR (hit r) (LL hit r) 0 c = LL hit (r + 1) c
  | 0 => by simp only [RR, LL_zero]
  | c + 1 => by
    have ih := RR_zero hit r c
    simp only [RR, LL, Nat.zero_add, ih]
theorem RR_down {hit : Nat → Bool} {f : Nat → Int} (h1 : ∀ c, f c ≤ f (c + 1) ∧ f (c + 1) ≤ f c + 1) (b : Nat) : ∀ d, RR hit f b (d + 1) = if hit b then max (RR hit f (b + 1) d) (f b + 1) else RR hit f (b + 1) d
  | 0 => by
    have := h1 b
    simp only [RR, Nat.add_zero]
    split <;> omega
  | d + 1 => by
    have ih := RR_down (hit := hit) h1 b d
    have hm : f b ≤ f (b + (d + 1)) := by
      clear ih
      induction d with
      | zero => exact (h1 b).1
      | succ d ih => have := (h1 (b + (d + 1))).1; rw [← Nat.add_assoc b (d + 1) 1]; omega
    have e : b + 1 + d = b + (d + 1) := by omega
    rw [RR, ih]
    conv => rhs; rw [RR, e]
    by_cases hb : hit b = true
    · simp only [if_pos hb]
      split <;> omega
    · simp only [if_neg hb]
/-- the places of one letter, put in one after the other -/
theorem row_places {m : Nat} (x : Int) (ys : List Int) (hm : m = ys.length) (f : Nat → Int) (h1 : ∀ c, f c ≤ f (c + 1) ∧ f (c + 1) ≤ f c + 1) (l : List Int) (hl : l.Pairwise (fun a c => a ≤ c)) (hf : ∀ c : Nat, c ≤ m → (cnt l (c : Int) : Int) = f c) : ∀ k, k ≤ m →
    (∀ c : Nat, c ≤ m - k → (cnt ((fplaces x ys k).foldl (insr true) l) (c : Int) : Int) = f c) ∧ ∀ d : Nat, m - k + d ≤ m → (cnt ((fplaces x ys k).foldl (insr true) l) ((m - k + d : Nat) : Int) : Int) = RR (fun j => decide (ys.getD j 0 = x)) f (m - k) d
  | 0, _ => by
    refine ⟨fun c hc => hf c (by omega), fun d hd => ?_⟩
    have : d = 0 := by omega
    subst this
    exact hf m (Nat.le_refl _)
  | k + 1, hk => by
    obtain ⟨i1, i2⟩ := row_places x ys hm f h1 l hl hf k (by omega)
    have hs := fold_insr_sorted true (fplaces x ys k) l hl
    have e1 : m - k = m - (k + 1) + 1 := by omega
    have e2 : ys.length - 1 - k = m - (k + 1) := by omega
    rw [fplaces_succ, List.foldl_append, e2]
    generalize hL : (fplaces x ys k).foldl (insr true) l = L at *
    generalize hb : m - (k + 1) = b at *
    rw [e1] at i1 i2
    have hd := RR_down (hit := fun j => decide (ys.getD j 0 = x)) h1 b
    by_cases hx : ys.getD b 0 = x
    · rw [if_pos hx]
      simp only [List.foldl_cons, List.foldl_nil]
      have hc := fun c => cnt_insr true L (b : Int) c hs
      refine ⟨fun c hcb => ?_, fun d hdm => ?_⟩
      · rw [hc, if_pos (by omega)]
        exact i1 c (by omega)
      · cases d with
        | zero =>
          rw [hc, if_pos (by omega)]
          exact i1 b (by omega)
        | succ d =>
          have j1 := i1 b (by omega)
          have j2 := i2 d (by omega)
          have e3 : b + 1 + d = b + (d + 1) := by omega
          rw [e3] at j2
          rw [hc, if_neg (by omega), hd, if_pos (decide_eq_true hx)]
          have e4 : key true (b : Int) = (b : Int) := rfl
          rw [e4]
          omega
    · rw [if_neg hx]
      simp only [List.foldl_nil]
      refine ⟨fun c hcb => i1 c (by omega), fun d hdm => ?_⟩
      cases d with
      | zero => exact i1 b (by omega)
      | succ d =>
        have j2 := i2 d (by omega)
        have e3 : b + 1 + d = b + (d + 1) := by omega
        rw [e3] at j2
        rw [hd, if_neg (by simp only [decide_eq_true_eq]; exact hx)]
        exact j2
theorem places_take (xs ys : List Int) (r : Nat) (h : r < xs.length) : places (xs.take (r + 1)) ys = places (xs.take r) ys ++ fplaces (xs.getD r 0) ys ys.length := by
  rw [List.take_add_one, List.getElem?_eq_getElem h, Option.toList_some, places_snoc]
  congr 2
  simp [List.getD_eq_getElem?_getD, h]
theorem row_all (xs ys : List Int) : ∀ r, r ≤ xs.length → ∀ c : Nat, c ≤ ys.length → (cnt (frow true (places (xs.take r) ys)) (c : Int) : Int) = LL (fun i j => decide (ys.getD j 0 = xs.getD i 0)) r c
  | 0, _, c, _ => by simp [places, frow, cnt, LL]
  | r + 1, hr, c, hc => by
    have ih := row_all xs ys r (by omega)
    rw [places_take xs ys r (by omega)]
    unfold frow at ih ⊢
    rw [List.foldl_append]
    have hs := fold_insr_sorted true (places (xs.take r) ys) [] .nil
    have h := (row_places (m := ys.length) (xs.getD r 0) ys rfl (fun c => LL (fun i j => decide (ys.getD j 0 = xs.getD i 0)) r c) (fun c => (LL_step _ r c).2) _ hs ih ys.length (Nat.le_refl _)).2 c (by omega)
    have e : ys.length - ys.length = 0 := by omega
    rw [e] at h
    simp only [Nat.zero_add] at h
    rw [h]
    exact RR_zero (fun i j => decide (ys.getD j 0 = xs.getD i 0)) r c
theorem fplaces_lt (x : Int) (ys : List Int) : ∀ k, k ≤ ys.length → ∀ y ∈ fplaces x ys k, y < (ys.length : Int)
  | 0, _, y, h => by simp [fplaces] at h
  | k + 1, hk, y, h => by
    rw [fplaces_succ] at h
    rcases List.mem_append.mp h with h | h
    · exact fplaces_lt x ys k (by omega) y h
    · split at h
      · rw [List.mem_singleton.mp h]; omega
      · cases h
theorem places_lt (xs ys : List Int) : ∀ y ∈ places xs ys, y < (ys.length : Int) := by
  intro y hy
  unfold places at hy
  obtain ⟨x, _, hx⟩ := List.mem_flatMap.mp hy
  exact fplaces_lt x ys _ (Nat.le_refl _) y hx
theorem row_len (xs ys : List Int) : (((tableau true (places xs ys)).headD []).length : Int) = LL (fun i j => decide (ys.getD j 0 = xs.getD i 0)) xs.length ys.length := by
  have h := row_all xs ys xs.length (Nat.le_refl _) ys.length (Nat.le_refl _)
  rw [List.take_length] at h
  rw [← h, head_tableau, cnt_all]
  intro y hy
  rcases fold_insr_mem true _ _ y hy with h | h
  · exact places_lt xs ys y h
  · cases h
theorem law1 (cost : Int) (hc : 2 ≤ cost) (xs ys : List Int) : DD cost xs ys xs.length ys.length = (xs.length : Int) + ys.length - 2 * (((tableau true (places xs ys)).headD []).length : Int) := by
  rw [row_len, DD_LL hc]
  congr 2
  exact LL_congr _ _ (fun x y _ _ => by simp only [decide_eq_decide]; exact eq_comm)
theorem law1' (cost : Int) (hc : 2 ≤ cost) (xs ys : List Int) : DD cost ys xs ys.length xs.length = (xs.length : Int) + ys.length - 2 * (((tableau true (places xs ys)).headD []).length : Int) := by
  rw [row_len, DD_LL hc, ← LL_turn]
  omega
end Mine
namespace Mine
/-- the thresholds of the longest rising part -/
def stepU (f : Int → Nat) (v : Int) : Int → Nat := fun c => if c ≤ v then f c else max (f c) (f (v + 1) + 1)
def UU (xs : List Int) : Int → Nat := xs.foldl stepU (fun _ => 0)
theorem UU_snoc (xs : List Int) (v : Int) : UU (xs ++ [v]) = stepU (UU xs) v := by
  unfold UU; rw [List.foldl_append]; rfl
theorem UU_row : ∀ (xs l : List Int) (f : Int → Nat), l.Pairwise (fun a c => a ≤ c) → (∀ c, cnt l c = f c) → ∀ c, cnt (xs.foldl (insr false) l) c = xs.foldl stepU f c
  | [], _, _, _, h, c => h c
  | x :: xs, l, f, hl, h, c => by
    rw [List.foldl_cons, List.foldl_cons]
    refine UU_row xs _ _ (insr_sorted false l x hl) (fun c => ?_) c
    rw [cnt_insr false l x c hl]
    unfold stepU
    rw [h c]
    have e : key false x = x + 1 := rfl
    rw [e, h (x + 1)]
theorem UU_frow (xs : List Int) (c : Int) : cnt (frow false xs) c = UU xs c := UU_row xs [] _ .nil (fun _ => rfl) c
theorem cnt_perm {l k : List Int} (h : l.Perm k) (c : Int) : cnt l c = cnt k c := by
  unfold cnt; exact h.countP_eq _
/-- in a sorted list: below v are the first ones -/
theorem sorted_lt : ∀ (rs : List Int) (v : Int), rs.Pairwise (fun a c => a ≤ c) → ∀ c, c < rs.length → (rs.getD c 0 < v ↔ c < cnt rs v)
  | [], _, _, c, h => by simp at h
  | y :: l, v, hs, c, h => by
    rw [List.pairwise_cons] at hs
    rw [cnt_cons]
    cases c with
    | zero =>
      rw [List.getD_cons_zero]
      by_cases hy : y < v
      · rw [if_pos hy]; omega
      · rw [if_neg hy, cnt_zero l (fun z hz => by have := hs.1 z hz; omega)]; omega
    | succ c =>
      rw [List.getD_cons_succ]
      have hc : c < l.length := by simpa using h
      have ih := sorted_lt l v hs.2 c hc
      by_cases hy : y < v
      · rw [if_pos hy]; omega
      · have z := cnt_zero l (c := v) (fun z hz => by have := hs.1 z hz; omega)
        rw [if_neg hy]
        omega
theorem sorted_hit (rs : List Int) (hs : rs.Pairwise (fun a c => a ≤ c)) (x : Int) (c : Nat) (h : c < rs.length) : x = rs.getD c 0 ↔ (cnt rs x ≤ c ∧ c < cnt rs (x + 1)) := by
  have h1 := sorted_lt rs x hs c h
  have h2 := sorted_lt rs (x + 1) hs c h
  omega
/-- hits that lie in an interval -/
def hin (p q : Nat) (c : Nat) : Bool := decide (p ≤ c ∧ c < q)
theorem LL_mono (hit : Nat → Nat → Bool) (r : Nat) : ∀ c d, LL hit r c ≤ LL hit r (c + d)
  | c, 0 => Int.le_refl _
  | c, d + 1 => Int.le_trans (LL_mono hit r c d) (LL_step hit r (c + d)).2.1
section
variable {hit : Nat → Nat → Bool} {r p q : Nat} (hh : ∀ c, hit r c = hin p q c) (hpq : p < q)
include hh
theorem seg_below : ∀ c, c ≤ p → LL hit (r + 1) c = LL hit r c
  | 0, _ => by rw [LL_zero, LL_zero]
  | c + 1, h => by
    have ih := seg_below c (by omega)
    have hm := (LL_step hit r c).2.1
    rw [LL, hh, if_neg (by unfold hin; simp only [decide_eq_true_eq]; omega), ih]
    omega
theorem seg_in (c : Nat) (h1 : p ≤ c) (h2 : c < q) : LL hit (r + 1) (c + 1) = LL hit r c + 1 := by
  rw [LL, hh, if_pos (by unfold hin; simp only [decide_eq_true_eq]; omega)]
include hpq
theorem seg_above : ∀ d, LL hit (r + 1) (q + d) = max (LL hit r (q + d)) (LL hit r (q - 1) + 1)
  | 0 => by
    have e : q = (q - 1) + 1 := by omega
    have h := seg_in hh (q - 1) (by omega) (by omega)
    rw [← e] at h
    have hm := (LL_step hit r (q - 1)).2.2
    rw [← e] at hm
    show LL hit (r + 1) q = max (LL hit r q) (LL hit r (q - 1) + 1)
    rw [h]
    omega
  | d + 1 => by
    have ih := seg_above d
    have hm := (LL_step hit r (q + d)).2.1
    have e : q + (d + 1) = (q + d) + 1 := by omega
    rw [e, LL, hh, if_neg (by unfold hin; simp only [decide_eq_true_eq]; omega), ih]
    omega
end
theorem cnt_succ (l : List Int) (x : Int) : cnt l (x + 1) = cnt l x + l.count x := by
  induction l with
  | nil => rfl
  | cons y l ih =>
    rw [cnt_cons, cnt_cons, List.count_cons, ih]
    by_cases h : y = x
    · subst h
      rw [if_pos (by omega), if_neg (by omega)]
      simp
      omega
    · have : (y == x) = false := by simpa using h
      rw [this]
      split <;> split <;> simp <;> omega
/-- the common part with the sorted word -/
theorem lcs_sorted (xs rs : List Int) (hp : rs.Perm xs) (hs : rs.Pairwise (fun a c => a ≤ c)) (hit : Nat → Nat → Bool) (hh : ∀ r c, r < xs.length → hit r c = hin (cnt rs (xs.getD r 0)) (cnt rs (xs.getD r 0 + 1)) c) : ∀ r, r ≤ xs.length →
    (∀ v, LL hit r (cnt rs v) = (UU (xs.take r) v : Int)) ∧ ∀ v, LL hit r (cnt rs v + (xs.take r).count v) = LL hit r (cnt rs (v + 1))
  | 0, _ => by simp [LL, UU]
  | r + 1, hr => by
    obtain ⟨i1, i2⟩ := lcs_sorted xs rs hp hs hit hh r (by omega)
    have hlt : r < xs.length := by omega
    have e : xs.take (r + 1) = xs.take r ++ [xs.getD r 0] := by
      rw [List.take_add_one, List.getElem?_eq_getElem hlt, Option.toList_some]
      simp [List.getD_eq_getElem?_getD, hlt]
    rw [e, UU_snoc]
    have hx := hh r
    generalize xs.getD r 0 = x at *
    have hcount : (xs.take r ++ [x]).count x ≤ xs.count x := by rw [← e]; exact (List.take_sublist _ _).count_le _
    have hcr : rs.count x = xs.count x := hp.count_eq x
    rw [List.count_append] at hcount
    have hone : [x].count x = 1 := by simp
    have hsx := cnt_succ rs x
    have hx' := fun c => hx c hlt
    have hpq : cnt rs x < cnt rs (x + 1) := by omega
    have hs1 : LL hit r (cnt rs (x + 1) - 1) = LL hit r (cnt rs (x + 1)) := by
      have a1 := LL_mono hit r (cnt rs x + (xs.take r).count x) (cnt rs (x + 1) - 1 - (cnt rs x + (xs.take r).count x))
      have a2 := LL_mono hit r (cnt rs (x + 1) - 1) 1
      have a3 := i2 x
      have e1 : cnt rs x + (xs.take r).count x + (cnt rs (x + 1) - 1 - (cnt rs x + (xs.take r).count x)) = cnt rs (x + 1) - 1 := by omega
      have e2 : cnt rs (x + 1) - 1 + 1 = cnt rs (x + 1) := by omega
      rw [e1] at a1
      rw [e2] at a2
      omega
    have above : ∀ c, cnt rs (x + 1) ≤ c → LL hit (r + 1) c = max (LL hit r c) (LL hit r (cnt rs (x + 1)) + 1) := by
      intro c hc
      have h := seg_above hx' hpq (c - cnt rs (x + 1))
      have e1 : cnt rs (x + 1) + (c - cnt rs (x + 1)) = c := by omega
      rw [e1, hs1] at h
      exact h
    have below : ∀ c, c ≤ cnt rs x → LL hit (r + 1) c = LL hit r c := fun c hc => seg_below hx' c hc
    refine ⟨fun v => ?_, fun v => ?_⟩
    · unfold stepU
      by_cases hv : v ≤ x
      · rw [if_pos hv, below _ (cnt_mono rs hv), i1]
      · rw [if_neg hv, above _ (cnt_mono rs (by omega)), i1, i1]
        omega
    · rw [List.count_append]
      by_cases hv : v = x
      · subst hv
        rw [hone, ← Nat.add_assoc, seg_in hx' _ (by omega) (by omega), i2, above _ (Nat.le_refl _)]
        omega
      · have hz : [x].count v = 0 := by simp [List.count_cons]; omega
        have e0 : cnt rs v + ((xs.take r).count v + [x].count v) = cnt rs v + (xs.take r).count v := by rw [hz]; rfl
        rw [e0]
        have hb : cnt rs v + (xs.take r).count v ≤ cnt rs (v + 1) := by
          have c1 := cnt_succ rs v
          have c2 : rs.count v = xs.count v := hp.count_eq v
          have c3 : (xs.take r).count v ≤ xs.count v := (List.take_sublist _ _).count_le _
          omega
        rcases Int.lt_or_gt_of_ne hv with hv | hv
        · have m1 := cnt_mono rs (c := v + 1) (d := x) (by omega)
          rw [below _ (by omega), below _ m1, i2]
        · have m1 := cnt_mono rs (c := x + 1) (d := v) (by omega)
          have m2 := cnt_mono rs (c := v) (d := v + 1) (by omega)
          rw [above _ (by omega), above _ (by omega), i2]
theorem exists_above (l : List Int) : ∃ C : Int, ∀ y ∈ l, y < C := by
  induction l with
  | nil => exact ⟨0, by simp⟩
  | cons x l ih =>
    obtain ⟨C, hC⟩ := ih
    refine ⟨max C (x + 1), fun y hy => ?_⟩
    rcases List.mem_cons.mp hy with h | h
    · omega
    · have := hC y h; omega
theorem lcs_UU (xs rs : List Int) (hp : rs.Perm xs) (hs : rs.Pairwise (fun a c => a ≤ c)) (C : Int) (hC : ∀ y ∈ xs, y < C) : LL (fun i j => decide (xs.getD i 0 = rs.getD j 0)) xs.length rs.length = (UU xs C : Int) := by
  have h := (lcs_sorted xs rs hp hs (fun i j => hin (cnt rs (xs.getD i 0)) (cnt rs (xs.getD i 0 + 1)) j) (fun _ _ _ => rfl) xs.length (Nat.le_refl _)).1 C
  rw [List.take_length, cnt_all rs (fun y hy => hC y (hp.mem_iff.mp hy))] at h
  rw [← h]
  refine LL_congr _ _ (fun i j hi hj => ?_)
  unfold hin
  simp only [decide_eq_decide]
  exact sorted_hit rs hs (xs.getD i 0) j hj
theorem law2 (cost : Int) (hc : 2 ≤ cost) (xs rs : List Int) (hp : rs.Perm xs) (hs : rs.Pairwise (fun a b => a ≤ b)) : DD cost xs rs xs.length rs.length = 2 * ((xs.length : Int) - (((tableau false xs).headD []).length : Int)) := by
  obtain ⟨C, hC⟩ := exists_above xs
  rw [DD_LL hc, lcs_UU xs rs hp hs C hC, ← UU_frow, ← head_tableau, cnt_all, hp.length_eq]
  · omega
  · intro y hy
    rw [head_tableau] at hy
    rcases fold_insr_mem false xs [] y hy with h | h
    · exact hC y h
    · cases h
end Mine
namespace Mine
/-- the longest that goes on behind one of T at c or above -/
def MX (G : Int → Nat) : List Int → Int → Nat
  | [], _ => 0
  | x :: l, c => if c ≤ x then max (G x + 1) (MX G l c) else MX G l c
theorem MX_append (G : Int → Nat) (k : List Int) (c : Int) : ∀ l, MX G (l ++ k) c = max (MX G l c) (MX G k c)
  | [] => by simp [MX]
  | x :: l => by
    have ih := MX_append G k c l
    rw [List.cons_append]
    simp only [MX]
    split <;> omega
theorem MX_zero (G : Int → Nat) (c : Int) : ∀ l : List Int, (∀ t ∈ l, t < c) → MX G l c = 0
  | [], _ => rfl
  | x :: l, h => by
    rw [MX, if_neg (by have := h x (List.mem_cons_self ..); omega), MX_zero G c l (fun t ht => h t (List.mem_cons_of_mem _ ht))]
theorem MX_congr {G H : Int → Nat} (c : Int) : ∀ l : List Int, (∀ t ∈ l, G t = H t) → MX G l c = MX H l c
  | [], _ => rfl
  | x :: l, h => by
    rw [MX, MX, h x (List.mem_cons_self ..), MX_congr c l (fun t ht => h t (List.mem_cons_of_mem _ ht))]
theorem MX_le {G : Int → Nat} {m : Nat} (c : Int) : ∀ l : List Int, (∀ t ∈ l, G t + 1 ≤ m) → MX G l c ≤ m
  | [], _ => Nat.zero_le _
  | x :: l, h => by
    have h1 := h x (List.mem_cons_self ..)
    have h2 := MX_le (G := G) c l (fun t ht => h t (List.mem_cons_of_mem _ ht))
    rw [MX]
    split <;> omega
theorem MX_two {G H : Int → Nat} {m : Nat} (c : Int) : ∀ l : List Int, (∀ t ∈ l, G t ≤ H t ∧ H t ≤ max (G t) m) → MX G l c ≤ MX H l c ∧ MX H l c ≤ max (MX G l c) (m + 1)
  | [], _ => by simp [MX]
  | x :: l, h => by
    have h1 := h x (List.mem_cons_self ..)
    have h2 := MX_two (G := G) (H := H) (m := m) c l (fun t ht => h t (List.mem_cons_of_mem _ ht))
    rw [MX, MX]
    split <;> omega
/-- the longest falling part with all at c or above, told by the tableau -/
def HT : List (List Int) → Int → Nat
  | [], _ => 0
  | T :: g, c => max (HT g c) (MX (HT g) T c)
theorem MX_anti (G : Int → Nat) {c d : Int} (h : c ≤ d) : ∀ l, MX G l d ≤ MX G l c
  | [] => Nat.le_refl _
  | x :: l => by
    have := MX_anti G h l
    rw [MX, MX]
    split <;> split <;> omega
theorem HT_anti : ∀ (g : List (List Int)) {c d : Int}, c ≤ d → HT g d ≤ HT g c
  | [], _, _, _ => Nat.le_refl _
  | T :: g, c, d, h => by
    have h1 := HT_anti g h
    have h2 := MX_anti (HT g) h T
    rw [HT, HT]
    omega
theorem seek_lt (v : Int) : ∀ (l : List Int), (∀ t ∈ l.take (seek true v l), t < v) ∧ (seek true v l < l.length → v ≤ l.getD (seek true v l) 0)
  | [] => by simp [seek]
  | x :: l => by
    obtain ⟨h1, h2⟩ := seek_lt v l
    unfold seek
    by_cases h : x < v ∨ (x = v ∧ true = false)
    · rw [if_pos h]
      have hx : x < v := by
        rcases h with h | h
        · exact h
        · exact absurd h.2 (by simp)
      refine ⟨fun t ht => ?_, fun hl => ?_⟩
      · rw [List.take_succ_cons] at ht
        rcases List.mem_cons.mp ht with h | h
        · rw [h]; exact hx
        · exact h1 t h
      · rw [List.getD_cons_succ]
        exact h2 (by simpa using hl)
    · rw [if_neg h]
      refine ⟨by simp, fun _ => ?_⟩
      rw [List.getD_cons_zero]
      have : ¬ x < v := fun q => h (Or.inl q)
      omega
/-- one turn of the strict insertion in one line -/
theorem bump_cases (v : Int) (T : List Int) (g : List (List Int)) : (bump true (T :: g) v = (T ++ [v]) :: g ∧ ∀ t ∈ T, t < v) ∨
    ∃ A B t, T = A ++ t :: B ∧ bump true (T :: g) v = (A ++ v :: B) :: bump true g t ∧ (∀ a ∈ A, a < v) ∧ v ≤ t := by
  obtain ⟨h1, h2⟩ := seek_lt v T
  have h3 := seek_le true v T
  by_cases h : seek true v T = T.length
  · left
    refine ⟨by rw [bump, if_pos h], fun t ht => h1 t ?_⟩
    rw [h, List.take_length]; exact ht
  · right
    have hl : seek true v T < T.length := by omega
    refine ⟨T.take (seek true v T), T.drop (seek true v T + 1), T.getD (seek true v T) 0, ?_, ?_, h1, h2 hl⟩
    · conv => lhs; rw [← List.take_append_drop (seek true v T) T]
      rw [List.drop_eq_getElem_cons hl]
      simp [List.getD_eq_getElem?_getD, hl]
    · rw [bump, if_neg h, List.set_eq_take_append_cons_drop, if_pos hl]
/-- the tableau's lines: rising, none empty, none begins above one that lies below -/
def TP : List (List Int) → Prop
  | [] => True
  | T :: g => (T.Pairwise (fun a b => a < b) ∧ T ≠ [] ∧ ∀ r ∈ g, ∀ y ∈ r, T.headD 0 ≤ y) ∧ TP g
theorem bump_mem : ∀ (g : List (List Int)) (v : Int), ∀ r ∈ bump true g v, ∀ y ∈ r, y = v ∨ ∃ r' ∈ g, y ∈ r'
  | [], v, r, hr, y, hy => by
    simp only [bump, List.mem_singleton] at hr
    subst hr
    exact Or.inl (List.mem_singleton.mp hy)
  | T :: g, v, r, hr, y, hy => by
    rcases bump_cases v T g with ⟨e, _⟩ | ⟨A, B, t, eT, e, _, _⟩
    · rw [e] at hr
      rcases List.mem_cons.mp hr with hr | hr
      · subst hr
        rcases List.mem_append.mp hy with h | h
        · exact Or.inr ⟨T, List.mem_cons_self .., h⟩
        · exact Or.inl (List.mem_singleton.mp h)
      · exact Or.inr ⟨r, List.mem_cons_of_mem _ hr, hy⟩
    · rw [e] at hr
      rcases List.mem_cons.mp hr with hr | hr
      · subst hr
        rcases List.mem_append.mp hy with h | h
        · exact Or.inr ⟨T, List.mem_cons_self .., by rw [eT]; exact List.mem_append_left _ h⟩
        · rcases List.mem_cons.mp h with h | h
          · exact Or.inl h
          · exact Or.inr ⟨T, List.mem_cons_self .., by rw [eT]; exact List.mem_append_right _ (List.mem_cons_of_mem _ h)⟩
      · rcases bump_mem g t r hr y hy with h | ⟨r', h1, h2⟩
        · exact Or.inr ⟨T, List.mem_cons_self .., by rw [eT, h]; exact List.mem_append_right _ (List.mem_cons_self ..)⟩
        · exact Or.inr ⟨r', List.mem_cons_of_mem _ h1, h2⟩
theorem TP_bump : ∀ (g : List (List Int)) (v : Int), TP g → TP (bump true g v)
  | [], v, _ => by simp [bump, TP]
  | T :: g, v, ⟨⟨h1, h2, h3⟩, h4⟩ => by
    rcases bump_cases v T g with ⟨e, hA⟩ | ⟨A, B, t, eT, e, hA, hv⟩
    · rw [e]
      refine ⟨⟨?_, by simp, ?_⟩, h4⟩
      · rw [List.pairwise_append]
        refine ⟨h1, by simp, fun a ha b hb => ?_⟩
        rw [List.mem_singleton.mp hb]; exact hA a ha
      · intro r hr y hy
        have := h3 r hr y hy
        cases T with
        | nil => exact absurd rfl h2
        | cons x l => exact this
    · rw [e]
      have hp := h1
      rw [eT, List.pairwise_append, List.pairwise_cons] at hp
      obtain ⟨p1, ⟨p2, p3⟩, p4⟩ := hp
      have ih := TP_bump g t h4
      refine ⟨⟨?_, by simp, ?_⟩, ih⟩
      · rw [List.pairwise_append, List.pairwise_cons]
        refine ⟨p1, ⟨fun b hb => ?_, p3⟩, fun a ha b hb => ?_⟩
        · have := p2 b hb; omega
        · rcases List.mem_cons.mp hb with h | h
          · rw [h]; exact hA a ha
          · exact p4 a ha b (List.mem_cons_of_mem _ h)
      · intro r hr y hy
        have hy' : t ≤ y ∨ T.headD 0 ≤ y := by
          rcases bump_mem g t r hr y hy with h | ⟨r', q1, q2⟩
          · left; omega
          · exact Or.inr (h3 r' q1 y q2)
        rw [eT] at hy'
        cases A with
        | nil =>
          simp only [List.nil_append, List.headD_cons] at hy' ⊢
          omega
        | cons a A =>
          simp only [List.cons_append, List.headD_cons] at hy' ⊢
          have := hA a (List.mem_cons_self ..)
          omega
/-- what an insertion does to the falling parts -/
theorem max_help {a b d X Y P Q : Nat} (h1 : Y ≤ X) (h2 : X ≤ max Y (b + 1 + 1)) (h3 : P ≤ b + 1) (h4 : Q ≤ b + 1) :
    max (max a (b + 1)) (max X (max (max d (b + 1) + 1) P)) = max (max a (max Y (max (b + 1) P))) (max d (max 0 (max (b + 1) Q)) + 1) := by
  have e1 : max (b + 1) P = b + 1 := by omega
  have e2 : max (b + 1) Q = b + 1 := by omega
  have e3 : max 0 (b + 1) = b + 1 := by omega
  rw [e1, e2, e3]
  have e4 : max (max d (b + 1) + 1) P = max d (b + 1) + 1 := by omega
  rw [e4]
  have e5 : b + 2 ≤ max d (b + 1) + 1 := by omega
  generalize max d (b + 1) + 1 = M at *
  omega
theorem HT_bump : ∀ (g : List (List Int)) (v : Int), TP g → ∀ c, HT (bump true g v) c = if c ≤ v then max (HT g c) (HT g v + 1) else HT g c
  | [], v, _, c => by
    simp only [bump, HT, MX]
    split <;> omega
  | T :: g, v, ⟨⟨h1, h2, h3⟩, h4⟩, c => by
    have an := fun {a b : Int} (h : a ≤ b) => HT_anti g h
    rcases bump_cases v T g with ⟨e, hA⟩ | ⟨A, B, t, eT, e, hA, hv⟩
    · rw [e]
      simp only [HT, MX_append, MX]
      have z := MX_zero (HT g) v T hA
      rw [z]
      by_cases hc : c ≤ v
      · simp only [if_pos hc]; omega
      · simp only [if_neg hc]; omega
    · have hp := h1
      rw [eT, List.pairwise_append, List.pairwise_cons] at hp
      obtain ⟨p1, ⟨p2, p3⟩, p4⟩ := hp
      have ih := HT_bump g t h4
      have eB : ∀ c, MX (HT (bump true g t)) B c = MX (HT g) B c := fun c => MX_congr c B (fun b hb => by rw [ih, if_neg (by have := p2 b hb; omega)])
      have lB : ∀ c, MX (HT g) B c ≤ HT g t + 1 := fun c => MX_le c B (fun b hb => by have := an (Int.le_of_lt (p2 b hb)); omega)
      have zA : ∀ {G : Int → Nat} {d : Int}, v ≤ d → MX G A d = 0 := fun {G d} h => MX_zero G d A (fun a ha => by have := hA a ha; omega)
      rw [e, eT]
      simp only [HT, MX_append, MX, eB]
      by_cases hc : c ≤ v
      · have tw := MX_two (G := HT g) (H := HT (bump true g t)) (m := HT g t + 1) c A (fun a ha => by
          rw [ih, if_pos (by have := hA a ha; omega)]; omega)
        have b1 := lB c
        have b2 := lB v
        have z := zA (G := HT g) (d := v) (Int.le_refl _)
        rw [ih c, ih v, if_pos (show c ≤ t by omega), if_pos hv, if_pos hc, if_pos hc, if_pos (show c ≤ t by omega), z, if_pos hv]
        exact max_help tw.1 tw.2 b1 b2
      · have z1 := zA (G := HT g) (d := c) (by omega)
        have z2 := zA (G := HT (bump true g t)) (d := c) (by omega)
        rw [z1, z2, ih c, if_neg hc, if_neg hc]
        by_cases hct : c ≤ t
        · rw [if_pos hct, if_pos hct]; omega
        · rw [if_neg hct, if_neg hct]
theorem HT_len : ∀ (g : List (List Int)) (c : Int), TP g → (∀ r ∈ g, ∀ y ∈ r, c ≤ y) → HT g c = g.length
  | [], _, _, _ => rfl
  | T :: g, c, ⟨⟨h1, h2, h3⟩, h4⟩, hc => by
    have ih := HT_len g c h4 (fun r hr => hc r (List.mem_cons_of_mem _ hr))
    cases T with
    | nil => exact absurd rfl h2
    | cons x l =>
      rw [List.pairwise_cons] at h1
      have ix := HT_len g x h4 (fun r hr y hy => h3 r hr y hy)
      have hx := hc _ (List.mem_cons_self ..) x (List.mem_cons_self ..)
      have hl := MX_le (G := HT g) (m := HT g x + 1) c l (fun t ht => by have := HT_anti g (Int.le_of_lt (h1.1 t ht)); omega)
      rw [HT, MX, if_pos hx, ih, ix, List.length_cons]
      omega
theorem TP_fold : ∀ (xs : List Int) (g : List (List Int)), TP g → TP (xs.foldl (bump true) g)
  | [], _, h => h
  | x :: xs, g, h => TP_fold xs _ (TP_bump g x h)
theorem HT_fold : ∀ (xs : List Int) (g : List (List Int)) (f : Int → Nat), TP g → (∀ c, HT g c = f (1 - c)) → ∀ c, HT (xs.foldl (bump true) g) c = (xs.map fun x => -x).foldl stepU f (1 - c)
  | [], _, _, _, h, c => h c
  | x :: xs, g, f, ht, h, c => by
    rw [List.map_cons, List.foldl_cons, List.foldl_cons]
    refine HT_fold xs _ _ (TP_bump g x ht) (fun c => ?_) c
    rw [HT_bump g x ht c, h c, h x]
    unfold stepU
    have e : -x + 1 = 1 - x := by omega
    rw [e]
    by_cases hc : c ≤ x
    · rw [if_pos hc, if_neg (by omega)]
    · rw [if_neg hc, if_pos (by omega)]
theorem fold_mem : ∀ (xs : List Int) (g : List (List Int)), ∀ r ∈ xs.foldl (bump true) g, ∀ y ∈ r, y ∈ xs ∨ ∃ r' ∈ g, y ∈ r'
  | [], _, r, hr, y, hy => Or.inr ⟨r, hr, hy⟩
  | x :: xs, g, r, hr, y, hy => by
    rcases fold_mem xs _ r hr y hy with h | ⟨r', h1, h2⟩
    · exact Or.inl (List.mem_cons_of_mem _ h)
    · rcases bump_mem g x r' h1 y h2 with h | h
      · exact Or.inl (h ▸ List.mem_cons_self ..)
      · exact Or.inr h
theorem lines_UU (xs : List Int) (C : Int) (hC : ∀ y ∈ xs.map (fun x => -x), y < C) : (tableau true xs).length = UU (xs.map fun x => -x) C := by
  have h := HT_fold xs [] (fun _ => 0) trivial (fun _ => rfl) (1 - C)
  have e : 1 - (1 - C) = C := by omega
  rw [e] at h
  unfold UU
  rw [← h]
  refine (HT_len _ _ (TP_fold xs [] trivial) (fun r hr y hy => ?_)).symm
  rcases fold_mem xs [] r hr y hy with q | ⟨r', q, _⟩
  · have := hC (-y) (List.mem_map_of_mem q)
    omega
  · cases q
theorem neg_getD (l : List Int) (i : Nat) : (l.map fun x => -x).getD i 0 = - l.getD i 0 := by
  simp only [List.getD_eq_getElem?_getD, List.getElem?_map]
  cases l[i]? <;> simp
theorem law3 (cost : Int) (hc : 2 ≤ cost) (xs rs : List Int) (hp : rs.Perm xs) (hs : rs.Pairwise (fun a b => a ≤ b)) : DD cost xs rs.reverse xs.length rs.reverse.length = 2 * ((xs.length : Int) - ((tableau true xs).length : Int)) := by
  obtain ⟨C, hC⟩ := exists_above (xs.map fun x => -x)
  have hp' : (rs.reverse.map fun x => -x).Perm (xs.map fun x => -x) := ((List.reverse_perm rs).trans hp).map _
  have hs' : (rs.reverse.map fun x => -x).Pairwise (fun a b => a ≤ b) := by
    rw [List.pairwise_map, List.pairwise_reverse]
    exact hs.imp (fun {a b} h => by omega)
  have h := lcs_UU _ _ hp' hs' C hC
  simp only [List.length_map] at h
  rw [DD_LL hc, lines_UU xs C hC, ← h, LL_congr (g := fun i j => decide ((xs.map fun x => -x).getD i 0 = (rs.reverse.map fun x => -x).getD j 0)) _ _ (fun x y _ _ => by
    rw [neg_getD, neg_getD]; simp only [decide_eq_decide]; omega), List.length_reverse, hp.length_eq]
  omega
end Mine
namespace Mine
/-- each line holds no more below c than the line above it -/
def CP : List (List Int) → Prop
  | [] => True
  | T :: g => (T.Pairwise (fun a b => a ≤ b) ∧ ∀ c, cnt (g.headD []) c ≤ cnt T c) ∧ CP g
theorem CP_head : ∀ {g : List (List Int)}, CP g → (g.headD []).Pairwise (fun a b => a ≤ b)
  | [], _ => .nil
  | _ :: _, h => h.1.1
theorem CP_bump : ∀ (g : List (List Int)) (v : Int), CP g → CP (bump true g v)
  | [], v, _ => by simp [bump, CP, cnt]
  | T :: g, v, ⟨⟨h1, h2⟩, h3⟩ => by
    have hs := insr_sorted true T v h1
    have hh := head_bump true (T :: g) v
    rw [List.headD_cons] at hh
    rcases bump_cases v T g with ⟨e, hA⟩ | ⟨A, B, t, eT, e, hA, hv⟩
    · rw [e, List.headD_cons] at hh
      rw [e]
      refine ⟨⟨hh ▸ hs, fun c => ?_⟩, h3⟩
      rw [cnt_append]
      exact Nat.le_trans (h2 c) (Nat.le_add_right _ _)
    · rw [e, List.headD_cons] at hh
      rw [e]
      refine ⟨⟨hh ▸ hs, fun c => ?_⟩, CP_bump g t h3⟩
      have k1 := h2 c
      have k2 := h2 t
      have m1 := cnt_mono A (c := t) (d := c)
      have m2 := cnt_mono B (c := t) (d := c)
      have et : key true t = t := rfl
      rw [head_bump, cnt_insr true _ t c (CP_head h3), et]
      rw [eT, cnt_append, cnt_cons] at k1 k2
      rw [cnt_append, cnt_cons]
      rw [if_neg (show ¬ t < t by omega)] at k2
      by_cases hc : c ≤ t
      · rw [if_pos hc]
        rw [if_neg (show ¬ t < c by omega)] at k1
        omega
      · have m1' := m1 (by omega)
        have m2' := m2 (by omega)
        rw [if_neg hc, if_pos (show v < c by omega)]
        rw [if_pos (show t < c by omega)] at k1
        omega
theorem CP_fold : ∀ (xs : List Int) (g : List (List Int)), CP g → CP (xs.foldl (bump true) g)
  | [], _, h => h
  | x :: xs, g, h => CP_fold xs _ (CP_bump g x h)
theorem len_of_cnt {S T : List Int} (h : ∀ c, cnt S c ≤ cnt T c) : S.length ≤ T.length := by
  obtain ⟨C, hC⟩ := exists_above S
  have := h C
  rw [cnt_all S hC] at this
  exact Nat.le_trans this (cnt_le T C)
def cells : List (List Int) → Nat
  | [] => 0
  | T :: g => T.length + cells g
theorem cells_le : ∀ (g : List (List Int)), CP g → cells g ≤ g.length * (g.headD []).length
  | [], _ => Nat.le_refl _
  | T :: g, ⟨⟨_, h2⟩, h3⟩ => by
    have ih := cells_le g h3
    have hl := len_of_cnt h2
    have h4 : g.length * (g.headD []).length ≤ g.length * T.length := Nat.mul_le_mul (Nat.le_refl _) hl
    rw [cells, List.length_cons, List.headD_cons, Nat.add_mul]
    omega
theorem cells_bump : ∀ (g : List (List Int)) (v : Int), cells (bump true g v) = cells g + 1
  | [], v => rfl
  | T :: g, v => by
    rcases bump_cases v T g with ⟨e, _⟩ | ⟨A, B, t, eT, e, _, _⟩
    · rw [e, cells, cells, List.length_append]
      simp only [List.length_cons, List.length_nil]
      omega
    · rw [e, cells, cells, cells_bump g t, eT]
      simp only [List.length_append, List.length_cons]
      omega
theorem cells_fold : ∀ (xs : List Int) (g : List (List Int)), cells (xs.foldl (bump true) g) = cells g + xs.length
  | [], _ => rfl
  | x :: xs, g => by
    rw [List.foldl_cons, cells_fold xs, cells_bump, List.length_cons]
    omega
theorem rows_le : ∀ (xs S T : List Int), S.Pairwise (fun a b => a ≤ b) → T.Pairwise (fun a b => a ≤ b) → (∀ c, cnt S c ≤ cnt T c) → ∀ c, cnt (xs.foldl (insr true) S) c ≤ cnt (xs.foldl (insr false) T) c
  | [], _, _, _, _, h, c => h c
  | x :: xs, S, T, hS, hT, h, c => by
    rw [List.foldl_cons, List.foldl_cons]
    refine rows_le xs _ _ (insr_sorted true S x hS) (insr_sorted false T x hT) (fun c => ?_) c
    have h1 := h c
    have h2 := h x
    have h3 := cnt_mono T (c := x) (d := x + 1) (by omega)
    have e1 : key true x = x := rfl
    have e2 : key false x = x + 1 := rfl
    rw [cnt_insr true S x c hS, cnt_insr false T x c hT, e1, e2]
    split
    · exact h1
    · omega
theorem law4 (xs : List Int) : xs.length ≤ ((tableau false xs).headD []).length * (tableau true xs).length := by
  have h1 := cells_le _ (CP_fold xs [] trivial)
  have h2 := cells_fold xs []
  have h3 := len_of_cnt (rows_le xs [] [] .nil .nil (fun _ => Nat.le_refl _))
  have e1 := head_tableau true xs
  have e2 := head_tableau false xs
  unfold frow at e1 e2
  rw [← e1, ← e2] at h3
  have h4 : (tableau true xs).length * ((tableau true xs).headD []).length ≤ (tableau true xs).length * ((tableau false xs).headD []).length := Nat.mul_le_mul (Nat.le_refl _) h3
  have h5 : cells (tableau true xs) = xs.length := by
    have : cells (tableau true xs) = cells [] + xs.length := h2
    rw [this, cells]; omega
  have h6 : cells (tableau true xs) ≤ (tableau true xs).length * ((tableau true xs).headD []).length := h1
  rw [Nat.mul_comm]
  omega
theorem law5 {n a b : Nat} (h : n ≤ a * b) : 4 * (n : Int) ≤ (2 * (n : Int) - 2 * ((n : Int) - (a : Int))) * (2 * (n : Int) - 2 * ((n : Int) - (b : Int))) := by
  have h' : (n : Int) ≤ (a : Int) * b := by exact_mod_cast h
  have e1 : 2 * (n : Int) - 2 * ((n : Int) - (a : Int)) = 2 * a := by omega
  have e2 : 2 * (n : Int) - 2 * ((n : Int) - (b : Int)) = 2 * b := by omega
  rw [e1, e2]
  have e3 : 2 * (a : Int) * (2 * b) = 4 * (a * b) := by rw [Int.mul_assoc, Int.mul_left_comm (a : Int) 2 b, ← Int.mul_assoc]; rfl
  rw [e3]
  omega
end Mine
namespace Mine
local macro_rules | `(tactic| keq_rows) => `(tactic| first | assumption | exact List.mem_cons_self | (refine List.mem_cons_of_mem _ ?_; keq_rows) | (refine List.mem_append_left _ ?_; keq_rows))
local macro_rules | `(tactic| k_mem) => `(tactic| keq_rows)
local macro_rules | `(tactic| k_all) => `(tactic| assumption)
local macro_rules | `(tactic| is_list) => `(tactic| exact News.isList (by assumption) (by k_mem))
local macro_rules | `(tactic| walk_at "subscriptTail") => `(tactic| (k_here; (with_reducible show wpAny _ _ (subscriptTail _ _ (Value.ref _) (Value.int _ _)) _ _ _); k_dflt (refine' sub_ref ?k1 ?k2 ?k3 ?k4 ?k5 ?_ ?k7; (case k1 => k_asm); (case k2 => k_mem); (case k5 => assumption); (case k3 => omega); (case k4 => omega); (case k7 => with_unfolding_all rfl); k_whole)))
local macro_rules | `(tactic| walk_at "pyIter ref") => `(tactic| ((with_reducible show wpAny _ _ (pyIter (Value.ref _)) (fun it s₂ => LoopAtV _ _ _ _ _ _ _ _ _ it s₂) _ _); refine Stop.out ?_))
local macro_rules | `(tactic| size_fits) => `(tactic| assumption)
local macro_rules | `(tactic| cell_enter) => `(tactic| (refine' code_def ?k1 ?k2 ?k3 ?k4 ?k5 ?kA ?kF ?kK ?k6 ?k7 ?k8 ?k9 ?kB ?_ ?c2 ?c3 ?c4 ?c5; (case kA => exact rfl); (case kF => exact rfl); (case kK => assumption); (case k1 => k_asm); (case k2 => k_asm); (case k3 => k_asm); (case k4 => k_asm); (case k5 => k_asm); (case k6 => k_is); (case k7 => k_is); (case k8 => ktr_room); (case k9 => first | exact BindsTo.of_eq rfl | exact binds_K (by k_in) rfl (by k_is) rfl rfl rfl); (case c5 => decide); (case kB => exact locs rfl); (case c2 => exact rfl); (case c3 => exact rfl); (case c4 => exact rfl); k_whole; intro g' L' h' FG' F' N' B' X' T'; (try dsimp only); (try k_lift B'); (try k_fold)))
local macro_rules | `(tactic| ktr_enter) => `(tactic| (refine' code_frz ?k1 ?k2 ?k3 ?k5 ?kA ?kF ?kK ?k6 ?k7 ?k8 ?k9 ?kB ?_ ?c2 ?c3 ?c4 ?c5; (case kA => exact rfl); (case kF => exact rfl); (case kK => assumption); (case k1 => k_asm); (case k2 => k_asm); (case k3 => k_asm); (case k5 => k_asm); (case k6 => k_is); (case k7 => k_is); (case k8 => ktr_room); (case k9 => first | exact BindsTo.of_eq rfl | exact binds_K (by k_in) rfl (by k_is) rfl rfl rfl); (case c5 => decide); (case kB => exact locs rfl); (case c2 => exact rfl); (case c3 => exact rfl); (case c4 => exact rfl); k_whole; intro L' h' F' N' B' X' T'; (try dsimp only); (try k_fold)))
local macro_rules | `(tactic| k_enter) => `(tactic| (refine' code_frzC ?k1 ?k2 ?k3 ?k5 ?kA ?kF ?kK ?k6 ?k7 ?k8 ?k9 ?kB ?kD ?_ ?c2 ?c3 ?c4; (case kA => exact rfl); (case kF => exact rfl); (case kK => assumption); (case k1 => k_asm); (case k2 => k_asm); (case k3 => k_asm); (case k5 => k_asm); (case k6 => k_is); (case k7 => k_is); (case k8 => ktr_room); (case k9 => first | exact BindsTo.of_eq rfl | exact binds_K (by k_in) rfl (by k_is) rfl rfl rfl); (case kB => exact rfl); (case kD => decide +kernel); (case c2 => exact rfl); (case c3 => exact rfl); (case c4 => exact rfl); k_whole; intro L' h' tk' cells' F' N' Y' B' X' T'; k_cells Y'; (try simp only [List.cons_append, List.nil_append] at N'); (try dsimp only); (try k_fold)))
local macro_rules | `(tactic| walk_at "call ref") => `(tactic| refine Stop.out ?_)
local macro_rules | `(tactic| walk_at "call builtin:len") => `(tactic| (k_here; (with_reducible show wpAny _ _ (call (Value.builtin "len") [Value.ref _]) _ _ _); k_dflt (refine' kun_lenL ?k1 ?k2 ?k3 ?_; (case k1 => exact News.isList (by k_asm) (by k_mem)); (case k2 => assumption); (case k3 => omega); k_whole)))
theorem main1 : PySem.Challenge.rw_fe5011_01.Holds := hd1 (by
  k_go0
  all_goals (try k_fold)
  k_steps
  unfold Stop
  rename IntsAre _ _ => iS
  rename Heap.IsList _ _ _ => hS
  rename ¬ (_ < _) => hlen
  rename Ground _ _ _ _ _ _ _ _ _ => cG
  rename Flt.MathXP _ _ _ => cX
  rename LooseAre _ _ _ => cV
  rename Glob _ _ _ _ _ _ _ _ => cGL
  rename Tables _ _ _ _ => cB
  rename TopE _ _ _ _ => cTE
  rename TopW _ _ _ => cTW
  rename BMod _ _ _ _ _ => cM
  rename Heap.CodeRec _ _ _ => cHcd
  rename Dflts _ _ _ _ _ _ => cD
  rename Well _ _ _ _ => cW
  rename ReadsAllW _ _ _ _ _ _ => cRW
  clear cG cX cV cGL cB cTE cTW cM cHcd cD cW cRW
  rename Fr _ _ _ _ => F1
  rename News _ _ _ _ => N1
  k_dflt (refine FzC.use (rows_c _ _ _ _ _ _ _ _ _ iS (by omega)) (by k_asm) F1 (by k_asm) N1 (by k_asm) rfl (by ktr_room) (by ktr_units) (Fr.lst F1 hS) ?_)
  intro v h' tk' F2 N2 keep P
  obtain ⟨tp, d1, d2, v1, v2, n1, n2, nT, xs, ys, cost, tc, hv, g1, g2, g3, b1, b2, b3, iX, iY, lX, lY, hc⟩ := P
  subst hv
  have N3 := fresh_three F1 N1 keep g1 g2 g3 b1 b2 b3
  clear N2 N1 F1 keep g1 g2 g3 b1 b2 b3
  try k_fold
  k_steps
  unfold Stop
  rename Fr _ _ _ _ => F4
  rename News _ _ _ _ => N4
  k_dflt (refine FzC.use (stay_c _ _ _ _ _ _ _ _ _ _ _ _ iX iY (by omega) (by omega)) (by k_asm) F4 (by k_asm) N4 (by k_asm) rfl (by ktr_room) (by ktr_units) ⟨News.isList N4 (by k_mem), News.isList N4 (by k_mem)⟩ ?_)
  intro v h' tk' F5 N5 keep P
  obtain ⟨tq, hv⟩ := P
  subst hv
  clear keep N4 F4
  generalize hS1 : ((tableau true (places xs ys)).headD []).length = S1 at *
  try k_fold
  k_steps
  unfold Stop
  rename Fr _ _ _ _ => F6
  rename News _ _ _ _ => N6
  k_dflt (refine FzC.use (edit_cK _ _ _ _ _ _ _ _ _ _ _ _ iX iY (by omega) (by omega) _ _) (by k_asm) F6 (by k_asm) N6 (by k_asm) rfl (by ktr_room) (by ktr_units) ⟨News.isList N6 (by k_mem), News.isList N6 (by k_mem)⟩ ?_)
  intro v h' tk' F7 N7 keep P
  obtain ⟨tq, hv⟩ := P
  subst hv
  clear keep N6 F6
  rw [law1 cost hc, hS1]
  try k_fold
  k_steps
  unfold Stop
  rename Fr _ _ _ _ => F8
  rename News _ _ _ _ => N8
  k_dflt (refine FzC.use (edit_c _ _ _ _ _ _ _ _ _ _ _ _ iY iX (by omega) (by omega) _ _) (by k_asm) F8 (by k_asm) N8 (by k_asm) rfl (by ktr_room) (by ktr_units) ⟨News.isList N8 (by k_mem), News.isList N8 (by k_mem)⟩ ?_)
  intro v h' tk' F9 N9 keep P
  obtain ⟨tq, hv⟩ := P
  subst hv
  clear keep N8 F8
  rw [law1' cost hc, hS1]
  try k_fold
  k_steps
  unfold Stop
  rename List.Perm _ _ => hp
  rename List.Pairwise _ _ => ho
  rename IntsAre _ (List.reverse _) => iD
  rename List Int => rs
  rename IntsAre _ rs => iR
  rename Fr _ _ _ _ => F10
  rename News _ _ _ _ => N10
  have lR := hp.length_eq
  have lD : rs.reverse.length = rs.length := List.length_reverse
  k_dflt (refine FzC.use (edit_c _ _ _ _ _ _ _ _ _ _ _ _ iX iR (by omega) (by omega) _ _) (by k_asm) F10 (by k_asm) N10 (by k_asm) rfl (by ktr_room) (by ktr_units) ⟨News.isList N10 (by k_mem), News.isList N10 (by k_mem)⟩ ?_)
  intro v h' tk' F11 N11 keep P
  obtain ⟨tq, hv⟩ := P
  subst hv
  clear keep N10 F10
  rw [law2 cost hc xs rs hp ho]
  have hA4 := law4 xs
  have tlF := tableau_len false xs
  have tlT := tableau_len true xs
  try k_fold
  k_steps
  unfold Stop
  rename Fr _ _ _ _ => F12
  rename News _ _ _ _ => N12
  k_dflt (refine FzC.use (edit_c _ _ _ _ _ _ _ _ _ _ _ _ iX iD (by omega) (by omega) _ _) (by k_asm) F12 (by k_asm) N12 (by k_asm) rfl (by ktr_room) (by ktr_units) ⟨News.isList N12 (by k_mem), News.isList N12 (by k_mem)⟩ ?_)
  intro v h' tk' F13 N13 keep P
  obtain ⟨tq, hv⟩ := P
  subst hv
  clear keep N12 F12
  rw [law3 cost hc xs rs hp ho]
  try k_fold
  k_steps
  unfold Stop
  rename Fr _ _ _ _ => F14
  rename News _ _ _ _ => N14
  k_dflt (refine FzC.use (tableau_c false _ _ _ _ _ _ _ _ _ iX (by omega)) (by k_asm) F14 (by k_asm) N14 (by k_asm) rfl (by ktr_room) (by ktr_units) (News.isList N14 (by k_mem)) ?_)
  intro v h' tk' F15 N15 keep P
  obtain ⟨dT, R, nR, hv, hd1, hd2, hR, hRR⟩ := P
  subst hv
  clear keep N14 F14
  try k_fold
  k_steps
  unfold Stop
  rename Fr _ _ _ _ => F16
  rename News _ _ _ _ => N16
  k_dflt (refine FzC.use (first_c _ _ _ _ _ _ dT R (tableau false xs) hR (by omega) (fun r hr => by have := tlF.2 r hr; omega)) (by k_asm) F16 (by k_asm) N16 (by k_asm) rfl (by ktr_room) (by ktr_units) ⟨⟨_, hd2, rfl, _, rfl⟩, fun p hp => (hRR p hp).2⟩ ?_)
  intro v h' tk' F17 N17 keep P
  obtain ⟨tq, hv⟩ := P
  subst hv
  clear keep N16 F16
  try k_fold
  k_steps
  unfold Stop
  rename Fr _ _ _ _ => F18
  rename News _ _ _ _ => N18
  k_dflt (refine FzC.use (tableau_c true _ _ _ _ _ _ _ _ _ iX (by omega)) (by k_asm) F18 (by k_asm) N18 (by k_asm) rfl (by ktr_room) (by ktr_units) (News.isList N18 (by k_mem)) ?_)
  intro v h' tk' F19 N19 keep P
  obtain ⟨dU, R2, nR2, hv, hu1, hu2, hR2, hRR2⟩ := P
  subst hv
  obtain ⟨N20, hne20⟩ := fresh_news F18 N18 keep hu1 hu2
  have hLen2 : (((List.map Value.ref (List.map (·.1) R2)).toArray.size : Nat) : Int) = ((tableau true xs).length : Int) := by rw [List.size_toArray]; simp [hR2.length]
  clear keep N18 F18 N19
  have hfin := law5 hA4
  generalize ((tableau false xs).headD []).length = SA at *
  generalize (tableau true xs).length = SB at *
  try k_fold
  k_steps)
end Mine
theorem PySem.Challenge.cw_fe5011_01_holds : PySem.Challenge.rw_fe5011_01.Holds :=
  Mine.main1
