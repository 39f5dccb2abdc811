import PyProof.Rows.All
import Wide.All
import OpenK.AllK
import Wide.FinOn
import PySem.Challenge.RW_rs0013_01
set_option Elab.async false

section
/-! borders: plain -/
namespace Mine

/-- the first b signs of the first k are their last b, too -/
abbrev B (c : Nat → Nat) (k b : Nat) : Prop := ∀ t, t < b → c t = c (k - b + t)
/-- the longest such that is less than all -/
def LB (c : Nat → Nat) (k b : Nat) : Prop := b < k ∧ B c k b ∧ ∀ b', b < b' → b' < k → ¬ B c k b'
theorem LB.unique {c : Nat → Nat} {k b b' : Nat} (h : LB c k b) (h' : LB c k b') : b = b' := by
  rcases Nat.lt_trichotomy b b' with x | x | x
  · exact absurd h'.2.1 (h.2.2 b' x h'.1)
  · exact x
  · exact absurd h.2.1 (h'.2.2 b x h.1)
def bord (c : Nat → Nat) (k : Nat) : Nat := ((List.range k).find? (fun i => decide (B c k (k - 1 - i)))).elim 0 (fun i => k - 1 - i)
theorem bord_LB {c : Nat → Nat} {k : Nat} (hk : 0 < k) : LB c k (bord c k) := by
  unfold bord
  cases e : (List.range k).find? (fun i => decide (B c k (k - 1 - i))) with
  | none =>
    rw [List.find?_eq_none] at e
    have := e (k - 1) (List.mem_range.mpr (by omega))
    exact absurd (decide_eq_true (by rw [Nat.sub_self]; exact fun t ht => absurd ht (Nat.not_lt_zero t))) this
  | some i =>
    rw [List.find?_range_eq_some] at e
    obtain ⟨h1, h2, h3⟩ := e
    have hi := List.mem_range.mp h2
    refine ⟨by show k - 1 - i < k; omega, of_decide_eq_true h1, fun b' hb hk' hB => ?_⟩
    have hb' : k - 1 - i < b' := hb
    have := h3 (k - 1 - b') (by omega)
    rw [show k - 1 - (k - 1 - b') = b' by omega] at this
    simp only [Bool.not_eq_true', decide_eq_false_iff_not] at this
    exact this hB
theorem bord_eq {c : Nat → Nat} {k b : Nat} (h : LB c k b) : bord c k = b := (bord_LB (Nat.lt_of_le_of_lt (Nat.zero_le _) h.1)).unique h

theorem B.zero {c : Nat → Nat} {k : Nat} : B c k 0 := fun t ht => absurd ht (Nat.not_lt_zero t)
theorem B.succ {c : Nat → Nat} {i b : Nat} (hb : b < i) : B c (i + 1) (b + 1) ↔ B c i b ∧ c b = c i := by
  constructor
  · intro h
    refine ⟨fun t ht => ?_, ?_⟩
    · have := h t (by omega)
      rwa [show i + 1 - (b + 1) + t = i - b + t by omega] at this
    · have := h b (by omega)
      rwa [show i + 1 - (b + 1) + b = i by omega] at this
  · rintro ⟨h, e⟩ t ht
    rcases Nat.lt_succ_iff_lt_or_eq.mp ht with h' | rfl
    · rw [show i + 1 - (b + 1) + t = i - b + t by omega]; exact h t h'
    · rw [show i + 1 - (t + 1) + t = i by omega]; exact e
theorem B.nest {c : Nat → Nat} {i a b : Nat} (hba : b < a) (ha : a < i) (h : B c i a) (h' : B c i b) : B c a b := fun t ht => by
  have e1 := h' t ht
  have e2 := h (a - b + t) (by omega)
  rw [show i - a + (a - b + t) = i - b + t by omega] at e2
  rw [e1, e2]
theorem B.trans {c : Nat → Nat} {i a b : Nat} (hba : b < a) (ha : a < i) (h : B c i a) (h' : B c a b) : B c i b := fun t ht => by
  have e1 := h' t ht
  have e2 := h (a - b + t) (by omega)
  rw [show i - a + (a - b + t) = i - b + t by omega] at e2
  rw [e1, e2]

/-- what the inner loop keeps -/
structure Cand (c : Nat → Nat) (i idx : Nat) : Prop where
  lt : idx < i
  b : B c i idx
  none : ∀ b', idx < b' → b' < i → B c i b' → c b' ≠ c i
theorem Cand.start {c : Nat → Nat} {i : Nat} (hi : 0 < i) : Cand c i (bord c i) := by
  have h := bord_LB (c := c) hi
  exact ⟨h.1, h.2.1, fun b' h1 h2 h3 => absurd h3 (h.2.2 b' h1 h2)⟩
theorem Cand.step {c : Nat → Nat} {i idx : Nat} (x : Cand c i idx) (h0 : idx ≠ 0) (hne : c i ≠ c idx) : Cand c i (bord c idx) := by
  have h := bord_LB (c := c) (Nat.pos_of_ne_zero h0)
  have hlt := x.lt
  refine ⟨Nat.lt_trans h.1 hlt, B.trans h.1 hlt x.b h.2.1, fun b' h1 h2 h3 => ?_⟩
  rcases Nat.lt_trichotomy b' idx with y | y | y
  · exact absurd (B.nest y hlt x.b h3) (h.2.2 b' h1 y)
  · subst y; exact Ne.symm hne
  · exact x.none b' y h2 h3
theorem Cand.hit {c : Nat → Nat} {i idx : Nat} (x : Cand c i idx) (he : c i = c idx) : bord c (i + 1) = idx + 1 := by
  have hlt := x.lt
  refine bord_eq ⟨by omega, (B.succ hlt).mpr ⟨x.b, he.symm⟩, fun b' h1 h2 h3 => ?_⟩
  obtain ⟨b, rfl⟩ : ∃ b, b' = b + 1 := ⟨b' - 1, by omega⟩
  obtain ⟨h4, h5⟩ := (B.succ (by omega)).mp h3
  exact x.none b (by omega) (by omega) h4 h5
theorem Cand.miss {c : Nat → Nat} {i : Nat} (x : Cand c i 0) (hne : c i ≠ c 0) : bord c (i + 1) = 0 := by
  refine bord_eq ⟨by omega, B.zero, fun b' h1 h2 h3 => ?_⟩
  obtain ⟨b, rfl⟩ : ∃ b, b' = b + 1 := ⟨b' - 1, by omega⟩
  obtain ⟨h4, h5⟩ := (B.succ (by omega)).mp h3
  rcases Nat.eq_zero_or_pos b with rfl | hb
  · exact hne h5.symm
  · exact x.none b hb (by omega) h4 h5
theorem bord_one (c : Nat → Nat) : bord c 1 = 0 := bord_eq ⟨by decide, B.zero, fun b' h1 h2 => by omega⟩

/-- the table, as far as i -/
def tab (c : Nat → Nat) (n i : Nat) : List Int := (List.range n).map fun j => if j < i then ((bord c (j + 1) : Nat) : Int) else 0
theorem tab_len (c : Nat → Nat) (n i : Nat) : (tab c n i).length = n := by simp [tab]
theorem tab_get {c : Nat → Nat} {n i j : Nat} (hj : j < n) (hi : j < i) : (tab c n i).getD j 0 = ((bord c (j + 1) : Nat) : Int) := by
  simp [tab, List.getD_eq_getElem?_getD, hj, hi]
theorem tab_start (c : Nat → Nat) (n : Nat) : tab c n 1 = List.replicate n 0 := by
  apply List.ext_getElem
  · simp [tab]
  · intro j h1 h2
    simp only [tab, List.getElem_map, List.getElem_range, List.getElem_replicate]
    split
    · have : j = 0 := by omega
      subst this
      rw [bord_one]; rfl
    · rfl
theorem tab_set {c : Nat → Nat} {n i : Nat} (hi : i < n) : (tab c n i).set i ((bord c (i + 1) : Nat) : Int) = tab c n (i + 1) := by
  apply List.ext_getElem
  · simp [tab]
  · intro j h1 h2
    rw [List.getElem_set]
    simp only [tab, List.getElem_map, List.getElem_range]
    split
    · rename_i e
      subst e
      rw [if_pos (by omega)]
    · rename_i e
      by_cases h : j < i
      · rw [if_pos h, if_pos (by omega)]
      · rw [if_neg h, if_neg (by omega)]
end Mine
end

section
open PySem PySem.W PyProof.Rows
set_option Elab.async false
set_option linter.unusedVariables false
namespace Mine

/-- the heap only grows -/
abbrev Keep (h h' : Heap) : Prop := ∀ b o, h.get? b = some o → h'.get? b = some o
/-- what is a list or a tuple stays -/
def KeepSeq (h h' : Heap) : Prop := ∀ b o xs n, o.data = .seq xs n → h.get? b = some o → h'.get? b = some o

theorem Keep.seq {h h' : Heap} (k : Keep h h') : KeepSeq h h' := fun b o _ _ _ e => k b o e
theorem Keep.rfl' {h : Heap} : Keep h h := fun _ _ e => e
theorem Keep.tr {h h' h'' : Heap} (k : Keep h h') (k' : Keep h' h'') : Keep h h'' := fun b o e => k' b o (k b o e)
theorem KeepSeq.tr {h h' h'' : Heap} (k : KeepSeq h h') (k' : KeepSeq h' h'') : KeepSeq h h'' := fun b o xs n d e => k' b o xs n d (k b o xs n d e)
theorem KeepSeq.ns {h h' : Heap} {L : Addr} {m : Str → Option Value} (hn : h.Ns L m) (hs : Heap.SameBut L h h') : KeepSeq h h' := fun b o xs n d e => by
  refine (hs.2 b ?_).trans e
  rintro rfl
  obtain ⟨o', es, ep, ho', hd, _⟩ := hn
  rw [e] at ho'; cases ho'; rw [d] at hd; cases hd

/-- the state only grows -/
def Gr (s s' : Shared) : Prop := Keeps s s'
theorem Gr.refl (s : Shared) : Gr s s := ⟨s.heap, s.toks, rfl, fun _ _ e => e⟩
theorem Gr.tr {s s' s'' : Shared} (k : Gr s s') (k' : Gr s' s'') : Gr s s'' := by
  obtain ⟨h, t, rfl, a⟩ := k
  obtain ⟨h', t', rfl, a'⟩ := k'
  exact ⟨h', t', rfl, fun b o e => a' b o (a b o e)⟩
theorem Gr.keep {s s' : Shared} (k : Gr s s') : Keep s.heap s'.heap := by obtain ⟨h, t, rfl, a⟩ := k; exact a
theorem Gr.toks {s : Shared} (t : Nat) : Gr s { s with toks := t } := ⟨s.heap, t, rfl, fun _ _ e => e⟩
theorem Gr.push {s : Shared} (o : Obj) : Gr s { s with heap := s.heap.push o } := ⟨_, s.toks, rfl, fun _ _ e => Heap.get?_push_of_some _ e⟩
theorem Gr.mk' {s : Shared} {h : Heap} {t : Nat} (k : Keep s.heap h) : Gr s { s with heap := h, toks := t } := ⟨h, t, rfl, k⟩

/-- plain data -/
inductive Dt where
  | int (i : Int) | bool (b : Bool) | str (x : Str) | li (l : List Int) | ls (l : List Str) | pr (a b : Int) | prs (l : List (Int × Int)) | bys (b : Array UInt8)

def PairAt (h : Heap) (v : Value) (p : Int × Int) : Prop := ∃ a t u, v = .ref a ∧ IsTup h a #[.int p.1 t, .int p.2 u]

/-- a value bears a datum -/
def Rd (h : Heap) (v : Value) : Dt → Prop
  | .int i => ∃ t, v = .int i t
  | .bool b => v = .bool b
  | .str x => ∃ t, v = .str x t
  | .bys b => ∃ t, v = .bytes b t
  | .li l => ∃ a vs, v = .ref a ∧ h.PlainList a vs ∧ IntsAre vs.toList l
  | .ls l => ∃ a vs, v = .ref a ∧ h.PlainList a vs ∧ StrsAre vs.toList l
  | .pr a b => PairAt h v (a, b)
  | .prs l => ∃ a vs, v = .ref a ∧ h.PlainList a vs ∧ Paired (PairAt h) vs.toList l

theorem Paired.imp {α β : Type} {F G : α → β → Prop} {l₁ : List α} {l₂ : List β} (h : Paired F l₁ l₂) (i : ∀ a b, F a b → G a b) : Paired G l₁ l₂ := by
  induction h with
  | nil => exact .nil
  | cons h _ ih => exact .cons (i _ _ h) ih

theorem PairAt.up {h h' : Heap} {v : Value} {p : Int × Int} (x : PairAt h v p) (k : KeepSeq h h') : PairAt h' v p := by
  obtain ⟨a, t, u, e, o, ho, hc, n, hd⟩ := x
  exact ⟨a, t, u, e, o, k a o _ _ hd ho, hc, n, hd⟩
theorem plain_up {h h' : Heap} {a : Addr} {vs : Array Value} (x : h.PlainList a vs) (k : KeepSeq h h') : h'.PlainList a vs := by
  obtain ⟨n, e⟩ := x
  exact ⟨n, k a _ _ _ rfl e⟩
theorem Rd.up {h h' : Heap} {v : Value} {d : Dt} (x : Rd h v d) (k : KeepSeq h h') : Rd h' v d := by
  cases d with
  | int i => exact x
  | bool b => exact x
  | str y => exact x
  | bys b => exact x
  | li l => obtain ⟨a, vs, e, p, i⟩ := x; exact ⟨a, vs, e, plain_up p k, i⟩
  | ls l => obtain ⟨a, vs, e, p, i⟩ := x; exact ⟨a, vs, e, plain_up p k, i⟩
  | pr a b => exact PairAt.up x k
  | prs l => obtain ⟨a, vs, e, p, i⟩ := x; exact ⟨a, vs, e, plain_up p k, Paired.imp i fun _ _ q => q.up k⟩

/-- room for n more frames -/
structure Room (A : Around) (n : Nat) : Prop where
  handled : A.handled = none
  depth : A.depth + n < recursionLimit
  units : A.units + 16 * n + 80 < cLine

theorem Room.deeper {A : Around} {n : Nat} {env : Env} (r : Room A (n + 1)) : Room (A.deeper env) n := ⟨r.handled, by have := r.depth; show A.depth + 1 + n < _; omega, by have := r.units; show A.units + 3 + 16 * n + 80 < _; omega⟩
theorem Room.le {A : Around} {n m : Nat} (r : Room A n) (h : m ≤ n) : Room A m := ⟨r.handled, by have := r.depth; omega, by have := r.units; omega⟩
theorem Room.u {A : Around} {n : Nat} (r : Room A n) : A.units < cLine := by have := r.units; omega
theorem Room.u64 {A : Around} {n : Nat} (r : Room A n) : A.units + 64 < cLine := by have := r.units; omega
theorem Room.d {A : Around} {n : Nat} (r : Room A n) : A.depth < recursionLimit := by have := r.depth; omega

/-- a context that stays when the heap grows -/
def Kp (C : Heap → Prop) : Prop := ∀ h h', C h → Keep h h' → C h'

variable {prog : Program} {w : World} {A : Around} {env : Env} {C : Heap → Prop}

/-- e gives d -/
def Ev (prog : Program) (w : World) (A : Around) (env : Env) (C : Heap → Prop) (e : Expr) (d : Dt) : Prop :=
  ∀ (s : Shared) (Q : Value → Shared → Prop) (E : Value → Shared → Prop), C s.heap → (∀ v s', Gr s s' → Rd s'.heap v d → Q v s') → wpAny (model prog w) A (eval e env) Q E s
/-- e gives the value V -/
def EvV (prog : Program) (w : World) (A : Around) (env : Env) (C : Heap → Prop) (e : Expr) (V : Value) : Prop :=
  ∀ (s : Shared) (Q : Value → Shared → Prop) (E : Value → Shared → Prop), C s.heap → (∀ s', Gr s s' → Q V s') → wpAny (model prog w) A (eval e env) Q E s
/-- e's truth is b -/
def Tst (prog : Program) (w : World) (A : Around) (env : Env) (C : Heap → Prop) (e : Expr) (b : Bool) : Prop :=
  ∀ (s : Shared) (Q : Bool → Shared → Prop) (E : Value → Shared → Prop), C s.heap → (∀ s', Gr s s' → Q b s') → wpAny (model prog w) A (isTrue e env (eval e env)) Q E s

theorem Ev.imp {C C' : Heap → Prop} {e : Expr} {d : Dt} (h : Ev prog w A env C e d) (i : ∀ x, C' x → C x) : Ev prog w A env C' e d := fun s Q E c q => h s Q E (i _ c) q
theorem Tst.imp {C C' : Heap → Prop} {e : Expr} {d : Bool} (h : Tst prog w A env C e d) (i : ∀ x, C' x → C x) : Tst prog w A env C' e d := fun s Q E c q => h s Q E (i _ c) q

theorem Ev.constInt {i : Int} {k : Nat} {p : Pos} : Ev prog w A env C (.Constant (.int i) k p) (.int i) := fun s Q E _ q => wpAny_Constant_int (q _ _ (Gr.toks _) ⟨_, rfl⟩)
theorem Ev.constStr {x : Str} {k : Nat} {p : Pos} : Ev prog w A env C (.Constant (.str x) k p) (.str x) := fun s Q E _ q => by
  show wpAny _ _ (mkText x) _ _ _
  exact wpAny_mkText (q _ _ (Gr.toks _) ⟨_, rfl⟩)

theorem Ev.local {x : Str} {p : Pos} {d : Dt} (hk : env.scope.kind = .function) (hx : env.kindOf x = some .local)
    (hC : ∀ h, C h → ∃ m v, h.Ns env.locals m ∧ m x = some v ∧ Rd h v d) (hd : (x == ("__debug__" : Str)) = false := by decide) : Ev prog w A env C (.Name x p) d := fun s Q E c q => by
  obtain ⟨m, v, hn, hv, r⟩ := hC _ c
  exact wpAny_Name (wpAny_loadName_local hk hx hn hv (q _ _ (Gr.refl _) r)) hd
theorem Ev.cell {x : Str} {p : Pos} {d : Dt} {a : Addr} (hk : env.scope.kind = .function) (hx : env.kindOf x = some .cell) (hc : env.cells.lookup x = some a)
    (hC : ∀ h, C h → ∃ v, h.IsCell a (some v) ∧ Rd h v d) (hd : (x == ("__debug__" : Str)) = false := by decide) : Ev prog w A env C (.Name x p) d := fun s Q E c q => by
  obtain ⟨v, hv, r⟩ := hC _ c
  exact wpAny_Name (wpAny_loadName_cell hk hx hc hv (q _ _ (Gr.refl _) r)) hd

theorem EvV.global {x : Str} {p : Pos} {V : Value} (hk : env.scope.kind = .function) (hx : env.kindOf x = some .globalImplicit)
    (hC : ∀ h, C h → ∃ mg, h.Ns env.globals mg ∧ mg x = some V) (hd : (x == ("__debug__" : Str)) = false := by decide) : EvV prog w A env C (.Name x p) V := fun s Q E c q => by
  obtain ⟨mg, hn, hv⟩ := hC _ c
  exact Calls.Name_function_global hk hx (Calls.loadGlobal_global hn hv (q _ (Gr.refl _))) hd
theorem EvV.builtin {x : Str} {p : Pos} {V : Value} (hk : env.scope.kind = .function) (hx : env.kindOf x = some .globalImplicit)
    (hC : ∀ h, C h → ∃ mg mb, h.Ns env.globals mg ∧ mg x = none ∧ h.Ns env.builtins mb ∧ mb x = some V) (hd : (x == ("__debug__" : Str)) = false := by decide) : EvV prog w A env C (.Name x p) V := fun s Q E c q => by
  obtain ⟨mg, mb, hn, hv, hb, hv'⟩ := hC _ c
  exact Calls.Name_function_global hk hx (Calls.loadGlobal_builtin hn hv hb hv' (q _ (Gr.refl _))) hd

/-- an operation on two data -/
def Op2 (prog : Program) (w : World) (A : Around) (op : Operator) (a b d : Dt) : Prop :=
  ∀ (s : Shared) (Q : Value → Shared → Prop) (E : Value → Shared → Prop) (v u : Value), Rd s.heap v a → Rd s.heap u b → (∀ r s', Gr s s' → Rd s'.heap r d → Q r s') → wpAny (model prog w) A (binaryOp op v u) Q E s
def Cmp2 (prog : Program) (w : World) (A : Around) (op : CmpOp) (a b : Dt) (r : Bool) : Prop :=
  ∀ (s : Shared) (Q : Value → Shared → Prop) (E : Value → Shared → Prop) (v u : Value), Rd s.heap v a → Rd s.heap u b → (∀ s', Gr s s' → Q (.bool r) s') → wpAny (model prog w) A (compareOp op v u) Q E s

theorem Ev.bin {l r : Expr} {op : Operator} {p : Pos} {a b d : Dt} (kc : Kp C) (hl : Ev prog w A env C l a) (hr : Ev prog w A env C r b) (ho : Op2 prog w A op a b d) : Ev prog w A env C (.BinOp l op r p) d := fun s Q E c q =>
  wpAny_BinOp (hl s _ E c fun v s₁ k₁ r₁ => hr s₁ _ E (kc _ _ c k₁.keep) fun u s₂ k₂ r₂ => ho s₂ _ E v u (r₁.up k₂.keep.seq) r₂ fun x s₃ k₃ r₃ => q x s₃ (Gr.tr (Gr.tr k₁ k₂) k₃) r₃)
theorem Ev.cmp {l r : Expr} {op : CmpOp} {p : Pos} {a b : Dt} {d : Bool} (kc : Kp C) (hl : Ev prog w A env C l a) (hr : Ev prog w A env C r b) (ho : Cmp2 prog w A op a b d)
    (hm : behindInMarks op r = false := by with_unfolding_all rfl) : Ev prog w A env C (.Compare l [op] [r] p) (.bool d) := fun s Q E c q =>
  wpAny_Compare1 (hl s _ E c fun v s₁ k₁ r₁ => hr s₁ _ E (kc _ _ c k₁.keep) fun u s₂ k₂ r₂ => ho s₂ _ E v u (r₁.up k₂.keep.seq) r₂ fun s₃ k₃ => q _ s₃ (Gr.tr (Gr.tr k₁ k₂) k₃) rfl) hm
theorem Tst.cmp {l r : Expr} {op : CmpOp} {p : Pos} {a b : Dt} {d : Bool} (kc : Kp C) (hl : Ev prog w A env C l a) (hr : Ev prog w A env C r b) (ho : Cmp2 prog w A op a b d)
    (hm : behindInMarks op r = false := by with_unfolding_all rfl) : Tst prog w A env C (.Compare l [op] [r] p) d := fun s Q E c q =>
  wpAny_isTrue_Compare1 (hl s _ E c fun v s₁ k₁ r₁ => hr s₁ _ E (kc _ _ c k₁.keep) fun u s₂ k₂ r₂ => ho s₂ _ E v u (r₁.up k₂.keep.seq) r₂ fun s₃ k₃ => wpAny_truthy_bool (q s₃ (Gr.tr (Gr.tr k₁ k₂) k₃))) hm

theorem Op2.addInt {a b : Int} : Op2 prog w A .Add (.int a) (.int b) (.int (a + b)) := fun s Q E v u ⟨t, e⟩ ⟨t', e'⟩ q => by subst e; subst e'; exact wpAny_add_int (q _ _ (Gr.toks _) ⟨_, rfl⟩)
theorem Op2.subInt {a b : Int} : Op2 prog w A .Sub (.int a) (.int b) (.int (a - b)) := fun s Q E v u ⟨t, e⟩ ⟨t', e'⟩ q => by subst e; subst e'; exact sub_int' (q _ _ (Gr.toks _) ⟨_, rfl⟩)
theorem Op2.modInt {a b : Int} (hb : b ≠ 0) : Op2 prog w A .Mod (.int a) (.int b) (.int (a.fmod b)) := fun s Q E v u ⟨t, e⟩ ⟨t', e'⟩ q => by
  subst e; subst e'; exact mod_int' hb (q _ _ (Gr.toks _) ⟨_, rfl⟩)
theorem Op2.xorInt {a b : Int} : Op2 prog w A .BitXor (.int a) (.int b) (.int (Builtin.bitXor a b)) := fun s Q E v u ⟨t, e⟩ ⟨t', e'⟩ q => by subst e; subst e'; exact xor_int (q _ _ (Gr.toks _) ⟨_, rfl⟩)
theorem Cmp2.ltInt {a b : Int} : Cmp2 prog w A .Lt (.int a) (.int b) (decide (a < b)) := fun s Q E v u ⟨t, e⟩ ⟨t', e'⟩ q => by subst e; subst e'; exact wpAny_lt_int (q _ (Gr.refl _))
theorem Cmp2.leInt {a b : Int} : Cmp2 prog w A .LtE (.int a) (.int b) (decide (a ≤ b)) := fun s Q E v u ⟨t, e⟩ ⟨t', e'⟩ q => by subst e; subst e'; exact le_int (q _ (Gr.refl _))
theorem Cmp2.geInt {a b : Int} : Cmp2 prog w A .GtE (.int a) (.int b) (decide (b ≤ a)) := fun s Q E v u ⟨t, e⟩ ⟨t', e'⟩ q => by subst e; subst e'; exact ge_int (q _ (Gr.refl _))
theorem Cmp2.gtInt {a b : Int} : Cmp2 prog w A .Gt (.int a) (.int b) (decide (b < a)) := fun s Q E v u ⟨t, e⟩ ⟨t', e'⟩ q => by subst e; subst e'; exact gt_int (q _ (Gr.refl _))
theorem Cmp2.eqInt {a b : Int} : Cmp2 prog w A .Eq (.int a) (.int b) (a == b) := fun s Q E v u ⟨t, e⟩ ⟨t', e'⟩ q => by subst e; subst e'; exact wpAny_eq_int (q _ (Gr.refl _))
theorem Cmp2.neInt {a b : Int} : Cmp2 prog w A .NotEq (.int a) (.int b) (a != b) := fun s Q E v u ⟨t, e⟩ ⟨t', e'⟩ q => by subst e; subst e'; exact ne_int (q _ (Gr.refl _))
theorem Cmp2.neStr {a b : Str} : Cmp2 prog w A .NotEq (.str a) (.str b) (a != b) := fun s Q E v u ⟨t, e⟩ ⟨t', e'⟩ q => by subst e; subst e'; exact ne_str (q _ (Gr.refl _))

theorem Tst.ite {t b o : Expr} {p : Pos} {x : Bool} {d : Dt} (kc : Kp C) (ht : Tst prog w A env C t x) (h1 : x = true → Ev prog w A env C b d) (h2 : x = false → Ev prog w A env C o d) : Ev prog w A env C (.IfExp t b o p) d := fun s Q E c q =>
  wpAny_IfExp (ht s _ E c fun s₁ k₁ => by
    cases x with
    | true => exact h1 rfl s₁ _ E (kc _ _ c k₁.keep) fun v s₂ k₂ r => q v s₂ (Gr.tr k₁ k₂) r
    | false => exact h2 rfl s₁ _ E (kc _ _ c k₁.keep) fun v s₂ k₂ r => q v s₂ (Gr.tr k₁ k₂) r)
end Mine
end

section
open PySem PySem.W PyProof.Rows
set_option Elab.async false
set_option linter.unusedVariables false
namespace Mine

/-- data without a list in it -/
def Flat : Dt → Prop
  | .li _ | .ls _ | .prs _ => False
  | _ => True
/-- the tuples stay -/
def KeepTup (h h' : Heap) : Prop := ∀ b o xs n, o.cls = .type "tuple" → o.data = .seq xs n → h.get? b = some o → h'.get? b = some o
theorem Keep.tup {h h' : Heap} (k : Keep h h') : KeepTup h h' := fun b o _ _ _ _ e => k b o e
theorem KeepSeq.tup {h h' : Heap} (k : KeepSeq h h') : KeepTup h h' := fun b o xs n _ d e => k b o xs n d e
theorem KeepTup.tr {h h' h'' : Heap} (k : KeepTup h h') (k' : KeepTup h' h'') : KeepTup h h'' := fun b o xs n c d e => k' b o xs n c d (k b o xs n c d e)
theorem PairAt.upT {h h' : Heap} {v : Value} {p : Int × Int} (x : PairAt h v p) (k : KeepTup h h') : PairAt h' v p := by
  obtain ⟨a, t, u, e, o, ho, hc, n, hd⟩ := x
  exact ⟨a, t, u, e, o, k a o _ _ hc hd ho, hc, n, hd⟩
theorem Rd.upT {h h' : Heap} {v : Value} {d : Dt} (x : Rd h v d) (f : Flat d) (k : KeepTup h h') : Rd h' v d := by
  cases d with
  | int i => exact x
  | bool b => exact x
  | str y => exact x
  | bys b => exact x
  | li l => exact f.elim
  | ls l => exact f.elim
  | pr a b => exact PairAt.upT x k
  | prs l => exact f.elim
theorem KeepTup.list {h h' : Heap} {D : Addr} {ys : Array Value} (hl : h.PlainList D ys) (hs : Heap.SameBut D h h') : KeepTup h h' := fun b o xs n c d e => by
  refine (hs.2 b ?_).trans e
  rintro rfl
  obtain ⟨n', e'⟩ := hl
  rw [e'] at e; cases e
  exact absurd (Value.type.inj c) (by decide)
/-- an iterator's object, which is no list and no tuple -/
def IsFs (h : Heap) (I : Addr) : Prop := ∃ o fs, h.get? I = some o ∧ o.data = .fields fs
theorem KeepSeq.fs {h h' : Heap} {I : Addr} (hI : IsFs h I) (hs : ∀ b o, b ≠ I → h.get? b = some o → h'.get? b = some o) : KeepSeq h h' := fun b o xs n d e => by
  refine hs b o ?_ e
  rintro rfl
  obtain ⟨o', fs, e', d'⟩ := hI
  rw [e'] at e; cases e; rw [d'] at d; cases d

variable {prog : Program} {w : World} {A : Around} {env : Env} {C : Heap → Prop} {R : Result → Shared → Prop}

/-- the tests of a clause -/
abbrev tests (ifs : List Expr) (cenv : Env) : Sem Bool := forIn ifs true fun c r => if r = true then do let ok ← isTrue c cenv (eval c cenv); pure (ForInStep.yield ok) else pure (ForInStep.yield r)

theorem comp_loop {s : Shared} {elt iter : Expr} {x : Str} {px : Pos} {ifs : List Expr} {scope : Scope} {pos : Pos} {I D : Addr} {fp : List Addr} {n : Nat} {P : Nat → Value → Prop} {St : Nat → Heap → Prop}
    {cenv : Env} {m : Str → Option Value} (W : Walks prog w A I fp [I] n P St) (hI : ∀ i h, St i h → IsFs h I) (p : Nat → Bool) (Rr : Nat → Dt) (hfl : ∀ i, i < n → Flat (Rr i))
    (hx : cenv.kindOf x = some .local) (hp : (cenv.scope.kind == .class || (cenv.scope.kind == .module && cenv.locals != cenv.globals)) = false)
    (hDC : D ≠ cenv.locals) (hDf : D ∉ fp) (hCf : cenv.locals ∉ fp)
    (hst : St 0 s.heap) (hacc : s.heap.PlainList D #[]) (hn : s.heap.Ns cenv.locals m)
    (htests : ∀ i v s₂ m₂ E', i < n → P i v → s₂.heap.Ns cenv.locals m₂ → m₂ x = some v → (∀ b o, b ≠ cenv.locals → b ≠ I → b ≠ D → s.heap.get? b = some o → s₂.heap.get? b = some o) →
      wpAny (model prog w) A (tests ifs cenv) (fun ok s₃ => ok = p i ∧ Gr s₂ s₃) E' s₂)
    (helt : ∀ i v s₂ m₂ E', i < n → P i v → p i = true → s₂.heap.Ns cenv.locals m₂ → m₂ x = some v → (∀ b o, b ≠ cenv.locals → b ≠ I → b ≠ D → s.heap.get? b = some o → s₂.heap.get? b = some o) →
      wpAny (model prog w) A (eval elt cenv) (fun y s₃ => Rd s₃.heap y (Rr i) ∧ Gr s₂ s₃) E' s₂)
    (hR : ∀ h' tk m' ys, h'.Ns cenv.locals m' → h'.PlainList D ys → Paired (fun i y => Rd h' y (Rr i)) ((List.range n).filter p) ys.toList →
      (∀ b o, b ≠ cenv.locals → b ≠ I → b ≠ D → s.heap.get? b = some o → h'.get? b = some o) → R (.ok .next) { s with heap := h', toks := tk })
    (hsz : n ≤ sizeLine) :
    codeAny (model prog w) A (.compLoop (.ListComp elt [⟨.Name x px, iter, ifs, 0⟩] scope pos) 0 (.ref I) (.ref D) cenv) R s := by
  refine codeAny_compLoop_tests
    (fun k s' => ∃ h' tk m' ys i, s' = { s with heap := h', toks := tk } ∧ St i h' ∧ h'.PlainList D ys ∧ h'.Ns cenv.locals m' ∧
      Paired (fun i y => i < n ∧ Rd h' y (Rr i)) ((List.range i).filter p) ys.toList ∧ i ≤ n ∧ k = n + 1 - i ∧
      (∀ b o, b ≠ cenv.locals → b ≠ I → b ≠ D → s.heap.get? b = some o → h'.get? b = some o)) ?_ (n + 1)
    ⟨s.heap, s.toks, m, #[], 0, rfl, hst, hacc, hn, Paired.nil, Nat.zero_le _, rfl, fun _ _ _ _ _ e => e⟩
  rintro k s' ⟨H, tk, m', ys, i, rfl, hst', hacc', hn', hF, hi, rfl, hk⟩
  have hIf : I ∈ fp := W.sub I (List.mem_singleton.mpr rfl)
  have hCw : cenv.locals ≠ I := fun h => hCf (h ▸ hIf)
  have hDw : D ≠ I := fun h => hDf (h ▸ hIf)
  by_cases hlt : i < n
  · refine W.item i _ _ _ hlt hst' fun v h₁ tk₁ hPv hst₁ hk₁ => ?_
    have hk₁' : ∀ b o, b ≠ I → H.get? b = some o → h₁.get? b = some o := fun b o hb e => hk₁ b o (fun h => hb (List.mem_singleton.mp h)) e
    have hn₁ := hn'.at' fun o e => hk₁' _ o hCw e
    refine wpAny_assign_Name (wpAny_storeName_local hx hn₁ (fun h₂ hn₂ hs₂ => ?_) hp)
    have up₂ : ∀ b o, b ≠ cenv.locals → b ≠ I → H.get? b = some o → h₂.get? b = some o := fun b o hbC hbf e => hs₂.extBut b o hbC (hk₁' b o hbf e)
    have hst₂ : St (i + 1) h₂ := W.frame _ _ _ hst₁ fun b hb o e => hs₂.extBut b o (fun h => hCf (h ▸ hb)) e
    have kt₂ : KeepTup H h₂ := ((KeepSeq.fs (hI _ _ hst') hk₁').tr (KeepSeq.ns hn₁ hs₂)).tup
    refine wpAny_mono (htests i v _ _ _ hlt hPv hn₂ (by simp) (fun b o hbC hbf hbD e => up₂ b o hbC hbf (hk b o hbC hbf hbD e))) (fun ok s₃ h₃ => ?_) fun _ _ e => e
    obtain ⟨rfl, h₃, tk₃, rfl, hk₃⟩ := h₃
    have hst₃ : St (i + 1) h₃ := W.frame _ _ _ hst₂ fun b _ o e => hk₃ b o e
    have hacc₃ : h₃.PlainList D ys := hacc'.at fun o e => hk₃ _ o (up₂ D o hDC hDw e)
    have hn₃ := hn₂.keeps hk₃
    have kt₃ : KeepTup H h₃ := kt₂.tr (Keep.tup hk₃)
    have hlen : ys.size ≤ i := by
      have e1 := hF.length
      have e2 : ((List.range i).filter p).length ≤ (List.range i).length := List.length_filter_le _ _
      have e4 : ys.toList.length = ys.size := by simp
      simp only [List.length_range] at e2
      omega
    cases hpv : p i with
    | false =>
      simp only [Bool.false_eq_true, if_false]
      refine ⟨n + 1 - (i + 1), by omega, h₃, tk₃, _, ys, i + 1, rfl, hst₃, hacc₃, hn₃, ?_, hlt, rfl, fun b o hbC hbf hbD e => hk₃ b o (up₂ b o hbC hbf (hk b o hbC hbf hbD e))⟩
      rw [List.range_succ, List.filter_append]
      have : [i].filter p = [] := by simp [hpv]
      rw [this, List.append_nil]
      exact Paired.imp hF fun j y ⟨hj, r⟩ => ⟨hj, r.upT (hfl j hj) kt₃⟩
    | true =>
      simp only [if_true]
      refine wpAny_mono (helt i v _ _ _ hlt hPv hpv hn₃ (by simp) (fun b o hbC hbf hbD e => hk₃ b o (up₂ b o hbC hbf (hk b o hbC hbf hbD e)))) (fun y s₄ h₄ => ?_) fun _ _ e => e
      obtain ⟨hFy, h₄, tk₄, rfl, hk₄⟩ := h₄
      refine wpAny_list_append_plain (hsz := Nat.le_trans hlen (Nat.le_trans hi hsz)) (hacc₃.at fun o e => hk₄ _ o e) fun h₅ hl₅ hs₅ => ?_
      have kt₅ : KeepTup h₄ h₅ := KeepTup.list (hacc₃.at fun o e => hk₄ _ o e) hs₅
      refine ⟨n + 1 - (i + 1), by omega, h₅, tk₄, _, ys.push y, i + 1, rfl, ?_, hl₅, (hn₃.keeps hk₄).sameBut hs₅ (Ne.symm hDC), ?_, hlt, rfl,
        fun b o hbC hbf hbD e => hs₅.extBut b o hbD (hk₄ b o (hk₃ b o (up₂ b o hbC hbf (hk b o hbC hbf hbD e))))⟩
      · exact W.frame _ _ h₅ hst₃ fun b hb o e => hs₅.extBut b o (fun h => hDf (h ▸ hb)) (hk₄ b o e)
      · rw [List.range_succ, List.filter_append]
        have : [i].filter p = [i] := by simp [hpv]
        rw [this, Array.toList_push]
        exact PySem.Paired.snoc (Paired.imp hF fun j y ⟨hj, r⟩ => ⟨hj, r.upT (hfl j hj) (kt₃.tr ((Keep.tup hk₄).tr kt₅))⟩) ⟨hlt, hFy.upT (hfl i hlt) kt₅⟩
  · have hin : i = n := by omega
    subst hin
    refine W.done _ _ _ hst' fun h₁ tk₁ hk₁ => ?_
    have hk₁' : ∀ b o, b ≠ I → H.get? b = some o → h₁.get? b = some o := fun b o hb e => hk₁ b o (fun h => hb (List.mem_singleton.mp h)) e
    exact hR h₁ tk₁ m' ys (hn'.at' fun o e => hk₁' _ o hCw e) (hacc'.at fun o e => hk₁' _ o hDw e)
      (Paired.imp hF fun j y ⟨hj, r⟩ => r.upT (hfl j hj) (KeepSeq.fs (hI _ _ hst') hk₁').tup) fun b o hbC hbf hbD e => hk₁' b o hbf (hk b o hbC hbf hbD e)
end Mine
end

section
open PySem PySem.W PyProof.Rows
set_option Elab.async false
set_option linter.unusedVariables false
namespace Mine
variable {prog : Program} {w : World} {A : Around} {env : Env} {C : Heap → Prop}

/-- an iterator over n data, laid since h₀ -/
structure Iter (prog : Program) (w : World) (A : Around) (h₀ : Heap) (I : Addr) (n : Nat) (D : Nat → Dt) (h : Heap) : Prop where
  ex : ∃ fp P St, Walks prog w A I fp [I] n P St ∧ (∀ i h, St i h → IsFs h I) ∧ St 0 h ∧ (∀ b ∈ fp, b < h.objs.size) ∧ (∀ i v, i < n → P i v → Rd h v (D i))
  new : h₀.get? I = none
/-- e is a source of n data -/
def Src (prog : Program) (w : World) (A : Around) (env : Env) (C : Heap → Prop) (e : Expr) (n : Nat) (D : Nat → Dt) : Prop :=
  ∀ (s : Shared) (Q : Value → Shared → Prop) (E : Value → Shared → Prop), C s.heap → (∀ I s', Gr s s' → Iter prog w A s.heap I n D s'.heap → Q (.ref I) s') →
    wpAny (model prog w) A (eval e env) (fun xv s₁ => wpAny (model prog w) A (pyIter xv) Q E s₁) E s

/-- the same, all that it reads being new -/
structure IterN (prog : Program) (w : World) (A : Around) (h₀ : Heap) (I : Addr) (n : Nat) (D : Nat → Dt) (h : Heap) : Prop where
  ex : ∃ fp P St, Walks prog w A I fp [I] n P St ∧ (∀ i h, St i h → IsFs h I) ∧ St 0 h ∧ (∀ b ∈ fp, b < h.objs.size) ∧ (∀ i v, i < n → P i v → Rd h v (D i)) ∧ (∀ b ∈ fp, h₀.get? b = none)
  new : h₀.get? I = none
theorem IterN.iter {h₀ h : Heap} {I : Addr} {n : Nat} {D : Nat → Dt} (x : IterN prog w A h₀ I n D h) : Iter prog w A h₀ I n D h := by
  obtain ⟨⟨fp, P, St, a, b, c, d, e, _⟩, g⟩ := x
  exact ⟨⟨fp, P, St, a, b, c, d, e⟩, g⟩
def SrcN (prog : Program) (w : World) (A : Around) (env : Env) (C : Heap → Prop) (e : Expr) (n : Nat) (D : Nat → Dt) : Prop :=
  ∀ (s : Shared) (Q : Value → Shared → Prop) (E : Value → Shared → Prop), C s.heap → (∀ I s', Gr s s' → IterN prog w A s.heap I n D s'.heap → Q (.ref I) s') →
    wpAny (model prog w) A (eval e env) (fun xv s₁ => wpAny (model prog w) A (pyIter xv) Q E s₁) E s
theorem SrcN.src {e : Expr} {n : Nat} {D : Nat → Dt} (h : SrcN prog w A env C e n D) : Src prog w A env C e n D := fun s Q E c q => h s Q E c fun I s' k i => q I s' k i.iter

/-- a name of the block's bears a datum -/
def Bnd (h : Heap) (K : Addr) (x : Str) (d : Dt) : Prop := ∃ m v, h.Ns K m ∧ m x = some v ∧ Rd h v d
theorem Bnd.keeps {h h' : Heap} {K : Addr} {x : Str} {d : Dt} (b : Bnd h K x d) (k : Keep h h') : Bnd h' K x d := by
  obtain ⟨m, v, hn, hv, r⟩ := b
  exact ⟨m, v, hn.keeps k, hv, r.up k.seq⟩
theorem Kp.bnd (kc : Kp C) {K : Addr} {x : Str} {d : Dt} : Kp (fun h => C h ∧ Bnd h K x d) := fun h h' ⟨a, b⟩ k => ⟨kc _ _ a k, b.keeps k⟩

/-- the tests' word -/
def TestsAre (prog : Program) (w : World) (A : Around) (env : Env) (C : Heap → Prop) (ifs : List Expr) (b : Bool) : Prop :=
  ∀ (s : Shared) (Q : Bool → Shared → Prop) (E : Value → Shared → Prop), C s.heap → (∀ s', Gr s s' → Q b s') → wpAny (model prog w) A (tests ifs env) Q E s
theorem TestsAre.nil : TestsAre prog w A env C [] true := fun s Q E c q => by
  show wpAny _ _ (pure true) _ _ _
  exact wpAny_pure (q _ (Gr.refl _))
theorem TestsAre.one {t : Expr} {b : Bool} (h : Tst prog w A env C t b) : TestsAre prog w A env C [t] b := fun s Q E c q => by
  show wpAny _ _ (forIn [t] true _) _ _ _
  rw [List.forIn_cons, if_pos rfl]
  refine wpAny_bind (wpAny_bind (h s _ _ c fun s' k => wpAny_pure ?_))
  show wpAny _ _ (forIn [] b _) _ _ _
  rw [List.forIn_nil]
  exact wpAny_pure (q s' k)

/-- e gives a list of data -/
def EvL (prog : Program) (w : World) (A : Around) (env : Env) (C : Heap → Prop) (e : Expr) (is : List Nat) (Rr : Nat → Dt) : Prop :=
  ∀ (s : Shared) (Q : Value → Shared → Prop) (E : Value → Shared → Prop), C s.heap → (∀ a ys s', Gr s s' → s'.heap.PlainList a ys → Paired (fun i y => Rd s'.heap y (Rr i)) is ys.toList → Q (.ref a) s') → wpAny (model prog w) A (eval e env) Q E s

theorem intsOf {h : Heap} {r : Nat → Int} {Rr : Nat → Dt} {is : List Nat} {ys : List Value} (x : Paired (fun i y => Rd h y (Rr i)) is ys) (e : ∀ i ∈ is, Rr i = .int (r i)) : IntsAre ys (is.map r) := by
  induction x with
  | nil => exact .nil
  | cons a _ ih =>
    rw [e _ List.mem_cons_self] at a
    obtain ⟨t, rfl⟩ := a
    exact .cons _ t (ih fun i hi => e i (List.mem_cons_of_mem _ hi))
theorem strsOf {h : Heap} {r : Nat → Str} {Rr : Nat → Dt} {is : List Nat} {ys : List Value} (x : Paired (fun i y => Rd h y (Rr i)) is ys) (e : ∀ i ∈ is, Rr i = .str (r i)) : StrsAre ys (is.map r) := by
  induction x with
  | nil => exact .nil
  | cons a _ ih =>
    rw [e _ List.mem_cons_self] at a
    obtain ⟨t, rfl⟩ := a
    exact .cons _ t (ih fun i hi => e i (List.mem_cons_of_mem _ hi))
theorem pairsOf {h : Heap} {r : Nat → Int × Int} {Rr : Nat → Dt} {is : List Nat} {ys : List Value} (x : Paired (fun i y => Rd h y (Rr i)) is ys) (e : ∀ i ∈ is, Rr i = .pr (r i).1 (r i).2) : Paired (PairAt h) ys (is.map r) := by
  induction x with
  | nil => exact .nil
  | cons a _ ih =>
    rw [e _ List.mem_cons_self] at a
    exact .cons a (ih fun i hi => e i (List.mem_cons_of_mem _ hi))
theorem EvL.li {e : Expr} {is : List Nat} {r : Nat → Int} (h : EvL prog w A env C e is fun i => .int (r i)) : Ev prog w A env C e (.li (is.map r)) := fun s Q E c q =>
  h s Q E c fun a ys s' k p x => q _ _ k ⟨a, ys, rfl, p, intsOf x fun _ _ => rfl⟩
theorem EvL.ls {e : Expr} {is : List Nat} {r : Nat → Str} (h : EvL prog w A env C e is fun i => .str (r i)) : Ev prog w A env C e (.ls (is.map r)) := fun s Q E c q =>
  h s Q E c fun a ys s' k p x => q _ _ k ⟨a, ys, rfl, p, strsOf x fun _ _ => rfl⟩
theorem EvL.prs {e : Expr} {is : List Nat} {r : Nat → Int × Int} (h : EvL prog w A env C e is fun i => .pr (r i).1 (r i).2) : Ev prog w A env C e (.prs (is.map r)) := fun s Q E c q =>
  h s Q E c fun a ys s' k p x => q _ _ k ⟨a, ys, rfl, p, pairsOf x fun _ _ => rfl⟩

theorem EvL.comp {elt iter : Expr} {x : Str} {px : Pos} {ifs : List Expr} {scope : Scope} {cl : List (Str × Addr)} {pos : Pos} {n : Nat} {D Rr : Nat → Dt} {p : Nat → Bool} (kc : Kp C)
    (hclos : closureFor scope env = pure cl) (hcell : ∀ y ∈ scope.names, y.2 ≠ .cell) (hkind : scope.kind = .function)
    (hnames : ∀ y ∈ scope.names, y.2 = .local → scope.names.lookup y.1 = some .local) (hx : scope.names.lookup x = some .local)
    (src : Src prog w A env C iter n D) (hsz : n ≤ sizeLine) (hfl : ∀ i, i < n → Flat (Rr i))
    (ht : ∀ K i, i < n → TestsAre prog w A (compEnvC scope cl K env) (fun h => C h ∧ Bnd h K x (D i)) ifs (p i))
    (he : ∀ K i, i < n → p i = true → Ev prog w A (compEnvC scope cl K env) (fun h => C h ∧ Bnd h K x (D i)) elt (Rr i))
    (hs : ∀ x, foldedSetIterable iter env x = pure x) :
    EvL prog w A env C (.ListComp elt [⟨.Name x px, iter, ifs, 0⟩] scope pos) ((List.range n).filter p) Rr := by
  intro s Q E c q
  rw [eval_ListComp]
  refine wpAny_comprehension_free (use := none) rfl hs hclos hkind hnames (src s _ E c fun I s₂ k₂ it => ?_)
  obtain ⟨⟨fp, P, St, W, hI, hst, hfp, hD⟩, hnew⟩ := it
  refine wpAny_newObj_type (wpAny_newFunctionEnv hcell (by intro y hy; simp at hy) (fun h₁ hns₁ hsb₁ => ?_) hkind)
  dsimp only at hns₁ hsb₁ ⊢
  generalize hH2 : s₂.heap.push { cls := .type "list", dict := none, data := .seq ([] : List Value).toArray } = H2 at hns₁ hsb₁ ⊢
  have hC : H2.objs.size = s₂.heap.objs.size + 1 := by rw [← hH2, Heap.size_push]
  have hDC : s₂.heap.objs.size ≠ H2.objs.size := by rw [hC]; exact Nat.ne_of_lt (Nat.lt_succ_self _)
  have below : ∀ b, b < s₂.heap.objs.size → b ≠ H2.objs.size ∧ b ≠ s₂.heap.objs.size := fun b hb => ⟨by rw [hC]; exact Nat.ne_of_lt (Nat.lt_succ_of_lt hb), Nat.ne_of_lt hb⟩
  have hDf : s₂.heap.objs.size ∉ fp := fun hm => Nat.lt_irrefl _ (hfp _ hm)
  have hCf : H2.objs.size ∉ fp := fun hm => by have := hfp _ hm; rw [hC] at this; exact Nat.lt_irrefl _ (Nat.lt_of_succ_lt this)
  have old : ∀ b o, s₂.heap.get? b = some o → h₁.get? b = some o := fun b o e => hsb₁.extBut b o (below b (Heap.lt_size e)).1 (Heap.get?_push_of_some _ (hH2 ▸ Heap.get?_push_of_some _ e))
  have hacc : h₁.PlainList s₂.heap.objs.size #[] := ⟨_, hsb₁.extBut _ _ hDC (Heap.get?_push_of_some _ (hH2 ▸ Heap.get?_push_size _ rfl))⟩
  have hst₁ : St 0 h₁ := W.frame _ _ _ hst fun b _ o e => old b o e
  have fresh : ∀ a, s₂.heap.objs.size ≤ a → s₂.heap.get? a = none := fun a ha => by
    cases e : s₂.heap.get? a with
    | none => rfl
    | some o' => exact absurd (Heap.lt_size e) (Nat.not_lt.mpr ha)
  -- what a turn sees
  have sees : ∀ (g : Heap) (b : Addr) (o : Obj), (∀ b o, b ≠ H2.objs.size → b ≠ I → b ≠ s₂.heap.objs.size → h₁.get? b = some o → g.get? b = some o) → b ≠ I → s₂.heap.get? b = some o → g.get? b = some o := fun g b o hk hb e =>
    hk b o (below b (Heap.lt_size e)).1 hb (below b (Heap.lt_size e)).2 (old b o e)
  have ctx : ∀ (g : Heap), (∀ b o, b ≠ H2.objs.size → b ≠ I → b ≠ s₂.heap.objs.size → h₁.get? b = some o → g.get? b = some o) → Keep s.heap g := fun g hk b o e =>
    sees g b o hk (by rintro rfl; rw [hnew] at e; cases e) (k₂.keep b o e)
  have dat : ∀ (g : Heap) (i : Nat) (v : Value), (∀ b o, b ≠ H2.objs.size → b ≠ I → b ≠ s₂.heap.objs.size → h₁.get? b = some o → g.get? b = some o) → i < n → P i v → Rd g v (D i) := fun g i v hk hi hv =>
    (hD i v hi hv).up (KeepSeq.fs (hI _ _ hst) fun b o hb e => sees g b o hk hb e)
  have loop : ∀ s₃ : Shared, s₃ = { s₂ with heap := h₁, toks := s₂.toks + ([] : List (Str × Value)).length } →
      codeAny (model prog w) A (.compLoop (.ListComp elt [⟨.Name x px, iter, ifs, 0⟩] scope pos) 0 (.ref I) (.ref s₂.heap.objs.size) (compEnvC scope cl H2.objs.size env))
        (compPost (model prog w) A E none Q (.ref s₂.heap.objs.size) H2.objs.size) s₃ := by
    rintro s₃ rfl
    refine comp_loop (hsz := hsz) (cenv := compEnvC scope cl H2.objs.size env) W hI p Rr hfl (lookup_relabel_local hx) (by simp [compEnvC, relabel, hkind]) hDC hDf hCf hst₁ hacc hns₁ ?_ ?_ ?_
    · intro i v s₃ m₃ E' hi hv hn hm hk
      exact ht _ i hi s₃ _ E' ⟨kc _ _ c (ctx _ hk), m₃, v, hn, hm, dat _ i v hk hi hv⟩ fun s' k => ⟨rfl, k⟩
    · intro i v s₃ m₃ E' hi hv hpi hn hm hk
      exact he _ i hi hpi s₃ _ E' ⟨kc _ _ c (ctx _ hk), m₃, v, hn, hm, dat _ i v hk hi hv⟩ fun y s' k r => ⟨r, k⟩
    · intro h' tk m' ys hn hl hF hk
      refine ⟨m', hn, fun h'' hs'' => ?_⟩
      have kt : KeepSeq h' h'' := KeepSeq.ns hn hs''
      refine q _ ys _ ⟨h'', tk, ?_, fun b o e => ?_⟩ (plain_up hl kt) (Paired.imp hF fun i y r => r.up kt)
      · obtain ⟨h2, t2, rfl, _⟩ := k₂
        rfl
      · refine hs''.extBut b o ?_ (ctx h' hk b o e)
        rintro rfl
        have := Heap.lt_size (k₂.keep _ _ e)
        rw [hC] at this
        exact Nat.lt_irrefl _ (Nat.lt_of_succ_lt this)
  exact codeAny_compStart_list (loop _ rfl) (W.self 0 _ _ _ hst₁ (loop _ rfl))
end Mine
end

section
open PySem PySem.W PyProof.Rows
set_option Elab.async false
set_option linter.unusedVariables false
namespace Mine
variable {prog : Program} {w : World} {A : Around} {env : Env} {C : Heap → Prop}

/-! ### lists as such -/
structure Lst (d : Dt) (n : Nat) (D : Nat → Dt) : Prop where
  at' : ∀ h v, Rd h v d → ∃ a vs, v = .ref a ∧ h.PlainList a vs ∧ vs.size = n ∧ ∀ i x, vs[i]? = some x → Rd h x (D i)

theorem intsGet {vs : List Value} {ns : List Int} (h : IntsAre vs ns) : ∀ (i : Nat) (x : Value), vs[i]? = some x → ∃ t, x = Value.int (ns.getD i 0) t := by
  induction h with
  | nil => intro i x e; simp at e
  | cons n t _ ih =>
    intro i x e
    cases i with
    | zero => simp at e; exact ⟨t, by simp [e.symm]⟩
    | succ i => simpa using ih i x (by simpa using e)
theorem strsGet {vs : List Value} {ns : List Str} (h : StrsAre vs ns) : ∀ (i : Nat) (x : Value), vs[i]? = some x → ∃ t, x = Value.str (ns.getD i Str.empty) t := by
  induction h with
  | nil => intro i x e; simp at e
  | cons n t _ ih =>
    intro i x e
    cases i with
    | zero => simp at e; exact ⟨t, by simp [e.symm]⟩
    | succ i => simpa using ih i x (by simpa using e)
theorem strsLen {vs : List Value} {ns : List Str} (h : StrsAre vs ns) : vs.length = ns.length := by
  induction h with
  | nil => rfl
  | cons n t _ ih => simp [ih]
theorem intsLen {vs : List Value} {ns : List Int} (h : IntsAre vs ns) : vs.length = ns.length := by
  induction h with
  | nil => rfl
  | cons n t _ ih => simp [ih]
theorem pairs_get {h : Heap} {vs : List Value} {ns : List (Int × Int)} (x : Paired (PairAt h) vs ns) : ∀ (i : Nat) (y : Value), vs[i]? = some y → PairAt h y (ns.getD i (0, 0)) := by
  induction x with
  | nil => intro i x e; simp at e
  | cons a _ ih =>
    intro i x e
    cases i with
    | zero => simp at e; subst e; simpa using a
    | succ i => simpa using ih i x (by simpa using e)

theorem Lst.li {l : List Int} : Lst (.li l) l.length fun i => .int (l.getD i 0) := ⟨fun h v r => by
  obtain ⟨a, vs, e, p, i⟩ := r
  exact ⟨a, vs, e, p, by rw [← Array.length_toList]; exact intsLen i, fun j x q => intsGet i j x (by simpa using q)⟩⟩
theorem Lst.ls {l : List Str} : Lst (.ls l) l.length fun i => .str (l.getD i Str.empty) := ⟨fun h v r => by
  obtain ⟨a, vs, e, p, i⟩ := r
  exact ⟨a, vs, e, p, by rw [← Array.length_toList]; exact strsLen i, fun j x q => strsGet i j x (by simpa using q)⟩⟩
theorem Lst.prs {l : List (Int × Int)} : Lst (.prs l) l.length fun i => .pr (l.getD i (0, 0)).1 (l.getD i (0, 0)).2 := ⟨fun h v r => by
  obtain ⟨a, vs, e, p, i⟩ := r
  exact ⟨a, vs, e, p, by rw [← Array.length_toList]; exact i.length, fun j x q => pairs_get i j x (by simpa using q)⟩⟩

/-! ### sources -/
theorem Src.list {e : Expr} {d : Dt} {n : Nat} {D : Nat → Dt} (hh : A.handled = none) (l : Lst d n D) (h : Ev prog w A env C e d) : Src prog w A env C e n D := by
  intro s Q E c q
  refine h s _ E c fun v s₁ k₁ r => ?_
  obtain ⟨a, vs, rfl, p, hn, g⟩ := l.at' _ _ r
  have hlt : a < s₁.heap.objs.size := by obtain ⟨_, e⟩ := p; exact Heap.lt_size e
  refine wpAny_pyIter_list p.isList (q _ _ (Gr.tr k₁ (Gr.push _)) ⟨⟨[s₁.heap.objs.size, a], _, _, hn ▸ Walks.list hh s₁.heap.objs.size a (Nat.ne_of_lt hlt) vs, ?_, ?_, ?_, ?_⟩, ?_⟩)
  · rintro i h ⟨⟨o, ho, _, hd⟩, _⟩
    exact ⟨o, _, ho, hd⟩
  · exact ⟨⟨_, Heap.get?_push_size _ rfl, rfl, rfl⟩, p.isList.push _⟩
  · intro b hb
    show b < (s₁.heap.push _).objs.size
    rw [Heap.size_push]
    rcases List.mem_cons.mp hb with rfl | hb
    · exact Nat.lt_succ_self _
    · rw [List.mem_singleton.mp hb]; exact Nat.lt_succ_of_lt hlt
  · intro i v _ e
    exact (g i v e).up (Gr.push (s := s₁) _).keep.seq
  · cases e : s.heap.get? s₁.heap.objs.size with
    | none => rfl
    | some o => exact absurd (Heap.lt_size (k₁.keep _ _ e)) (Nat.lt_irrefl _)

theorem Src.str {e : Expr} {x : Str} (hh : A.handled = none) (h : Ev prog w A env C e (.str x)) : Src prog w A env C e x.length fun i => .str ⟨#[x.cps.getD i 0]⟩ := by
  intro s Q E c q
  refine h s _ E c fun v s₁ k₁ r => ?_
  obtain ⟨t, rfl⟩ := r
  have new : s.heap.get? s₁.heap.objs.size = none := by
    cases e : s.heap.get? s₁.heap.objs.size with
    | none => rfl
    | some o => exact absurd (Heap.lt_size (k₁.keep _ _ e)) (Nat.lt_irrefl _)
  have fpb : ∀ o : Obj, ∀ b ∈ [s₁.heap.objs.size], b < (s₁.heap.push o).objs.size := fun o b hb => by
    rw [List.mem_singleton.mp hb, Heap.size_push]; exact Nat.lt_succ_self _
  have sign : ∀ (h : Heap) i v, i < x.length → SignAt x i v → Rd h v (.str ⟨#[x.cps.getD i 0]⟩) := by
    intro h i v hi hs
    obtain ⟨c, t, e, rfl⟩ := hs
    exact ⟨t, by rw [Array.getD_eq_getD_getElem?, e]; rfl⟩
  cases ha : x.cps.all (· < 128) with
  | true =>
    refine wpAny_pyIter_ascii ha (q _ _ (Gr.tr k₁ (Gr.push _)) ⟨⟨[s₁.heap.objs.size], _, _, Walks.strAscii hh s₁.heap.objs.size x t, ?_, ?_, fpb _, sign _⟩, new⟩)
    · rintro i h ⟨o, ho, _, hd⟩; exact ⟨o, _, ho, hd⟩
    · exact ⟨_, Heap.get?_push_size _ rfl, rfl, rfl⟩
  | false =>
    refine wpAny_pyIter_wide ha (q _ _ (Gr.tr k₁ (Gr.push _)) ⟨⟨[s₁.heap.objs.size], _, _, Walks.strWide hh s₁.heap.objs.size x t, ?_, ?_, fpb _, sign _⟩, new⟩)
    · rintro i h ⟨o, ho, _, hd⟩; exact ⟨o, _, ho, hd⟩
    · exact ⟨_, Heap.get?_push_size _ rfl, rfl, rfl⟩

theorem iter_range {s s₁ : Shared} {r : Addr} {a b c : Int} {t u v : Tok} {n : Nat} {Q : Value → Shared → Prop} {E : Value → Shared → Prop} (hh : A.handled = none) (k₁ : Gr s s₁)
    (hr : IsRange s₁.heap r a b c t u v) (hsm : Builtin.Range.small a b c = true) (hn : Builtin.Range.rangeSize a b c = ((n : Nat) : Int))
    (q : ∀ I s', Gr s s' → IterN prog w A s.heap I n (fun i => .int (a + i * c)) s'.heap → Q (.ref I) s') : wpAny (model prog w) A (pyIter (.ref r)) Q E s₁ := by
  refine wpAny_pyIter_range hr hsm (q _ _ (Gr.tr k₁ (Gr.push _)) ⟨⟨[s₁.heap.objs.size], _, _, Walks.range hh s₁.heap.objs.size a c n, ?_, ?_, ?_, ?_, ?_⟩, ?_⟩)
  · intro i h st; exact ⟨_, _, st, rfl⟩
  · show IsRangeIter _ _ _ _ _
    rw [hn]
    simpa using Heap.get?_push_size _ rfl
  · intro b hb
    rw [List.mem_singleton.mp hb]
    show _ < (s₁.heap.push _).objs.size
    rw [Heap.size_push]; exact Nat.lt_succ_self _
  · rintro i v _ ⟨t, rfl⟩
    exact ⟨t, rfl⟩
  · intro b hb
    rw [List.mem_singleton.mp hb]
    cases e : s.heap.get? s₁.heap.objs.size with
    | none => rfl
    | some o => exact absurd (Heap.lt_size (k₁.keep _ _ e)) (Nat.lt_irrefl _)
  · cases e : s.heap.get? s₁.heap.objs.size with
    | none => rfl
    | some o => exact absurd (Heap.lt_size (k₁.keep _ _ e)) (Nat.lt_irrefl _)
end Mine
end

section
open PySem PySem.W PyProof.Rows
set_option Elab.async false
set_option linter.unusedVariables false
namespace Mine
variable {prog : Program} {w : World} {A : Around} {env : Env} {C : Heap → Prop}

/-! ### arguments -/
def Rds (h : Heap) (vs : List Value) (ds : List Dt) : Prop := Paired (fun v d => Rd h v d) vs ds
theorem Rds.up {h h' : Heap} {vs : List Value} {ds : List Dt} (x : Rds h vs ds) (k : KeepSeq h h') : Rds h' vs ds := Paired.imp x fun _ _ r => r.up k
def trees (es : List Expr) (env : Env) : List (Bool × Sem Value) := es.map fun e => (false, eval e env)
def Evs (prog : Program) (w : World) (A : Around) (env : Env) (C : Heap → Prop) (es : List Expr) (ds : List Dt) : Prop :=
  ∀ (s : Shared) (Q : List Value → Shared → Prop) (E : Value → Shared → Prop), C s.heap → (∀ vs s', Gr s s' → Rds s'.heap vs ds → Q vs s') → wpAny (model prog w) A (spliced (trees es env)) Q E s
theorem Evs.nil : Evs prog w A env C [] [] := fun s Q E c q => Calls.spliced_nil (q _ _ (Gr.refl _) .nil)
theorem Evs.cons {e : Expr} {d : Dt} {es : List Expr} {ds : List Dt} (kc : Kp C) (h : Ev prog w A env C e d) (hs : Evs prog w A env C es ds) : Evs prog w A env C (e :: es) (d :: ds) := fun s Q E c q =>
  Calls.spliced_cons (h s _ E c fun v s₁ k₁ r₁ => hs s₁ _ E (kc _ _ c k₁.keep) fun vs s₂ k₂ r₂ => q _ _ (Gr.tr k₁ k₂) (.cons (r₁.up k₂.keep.seq) r₂))
theorem Evs.one {e : Expr} {d : Dt} (kc : Kp C) (h : Ev prog w A env C e d) : Evs prog w A env C [e] [d] := Evs.cons kc h Evs.nil
theorem Evs.two {e e' : Expr} {d d' : Dt} (kc : Kp C) (h : Ev prog w A env C e d) (h' : Ev prog w A env C e' d') : Evs prog w A env C [e, e'] [d, d'] := Evs.cons kc h (Evs.one kc h')
theorem Evs.three {e e' e'' : Expr} {d d' d'' : Dt} (kc : Kp C) (h : Ev prog w A env C e d) (h' : Ev prog w A env C e' d') (h'' : Ev prog w A env C e'' d'') : Evs prog w A env C [e, e', e''] [d, d', d''] := Evs.cons kc h (Evs.two kc h' h'')

/-! ### calls -/
def PlainV (C : Heap → Prop) (V : Value) : Prop := (∃ id, V = .builtin id) ∨ (∃ T, V = .type T) ∨ ∃ a, V = .ref a ∧ ∀ h, C h → ∃ o fd, h.get? a = some o ∧ o.data = .func fd
def Fn (prog : Program) (w : World) (A : Around) (C : Heap → Prop) (V : Value) (ds : List Dt) (r : Dt) : Prop :=
  ∀ (s : Shared) (Q : Value → Shared → Prop) (E : Value → Shared → Prop) (vs : List Value), C s.heap → Rds s.heap vs ds → (∀ v s', Gr s s' → Rd s'.heap v r → Q v s') → wpAny (model prog w) A (call V vs) Q E s

theorem callWith_ev {V : Value} {pos : Pos} {e : Expr} {es : List Expr} {ds : List Dt} {s : Shared} {Q : Value → Shared → Prop} {E : Value → Shared → Prop} (kc : Kp C) (pv : PlainV C V) (c : C s.heap)
    (ha : Evs prog w A env C (e :: es) ds) (h : ∀ vs s', Gr s s' → Rds s'.heap vs ds → wpAny (model prog w) A (call V vs) Q E s') : wpAny (model prog w) A (callWith pos V [] (trees (e :: es) env) []) Q E s := by
  have hp : (trees (e :: es) env).any (·.1) = false := by simp [trees]
  rcases pv with ⟨id, rfl⟩ | ⟨T, rfl⟩ | ⟨a, rfl, ho⟩
  · exact Calls.callWith_builtin hp (Calls.evalArgs_plain (ha s _ E c fun vs s' k r => h vs s' k r))
  · exact PySem.callWith_type hp (Calls.evalArgs_plain (ha s _ E c fun vs s' k r => h vs s' k r))
  · obtain ⟨o, fd, e1, e2⟩ := ho _ c
    exact Calls.callWith_function (o := o) (fd := fd) (Calls.evalArgs_plain (ha s _ E c fun vs s' k r => ⟨⟨k.keep _ _ e1, e2⟩, h vs s' k r⟩))

theorem Ev.call {f : Str} {p pos : Pos} {e : Expr} {es : List Expr} {ds : List Dt} {r : Dt} {V : Value} (kc : Kp C) (hf : EvV prog w A env C (.Name f p) V) (pv : PlainV C V)
    (ha : Evs prog w A env C (e :: es) ds) (hc : Fn prog w A C V ds r) (hb : backTo pos (starEach (e :: es) env) = trees (e :: es) env) : Ev prog w A env C (.Call (.Name f p) (e :: es) [] pos) r := fun s Q E c q => by
  refine wpAny_Call_NameR (hf s _ E c fun s₁ k₁ => ?_)
  rw [hb]
  exact callWith_ev kc pv (kc _ _ c k₁.keep) ha fun vs s₂ k₂ r₂ => hc s₂ _ E vs (kc _ _ (kc _ _ c k₁.keep) k₂.keep) r₂ fun v s₃ k₃ r₃ => q v s₃ (Gr.tr k₁ (Gr.tr k₂ k₃)) r₃

/-! ### the built-ins -/
theorem Rds.one {h : Heap} {vs : List Value} {d : Dt} (x : Rds h vs [d]) : ∃ v, vs = [v] ∧ Rd h v d := by
  cases x with | cons a b => cases b; exact ⟨_, rfl, a⟩
theorem Rds.two {h : Heap} {vs : List Value} {d d' : Dt} (x : Rds h vs [d, d']) : ∃ v v', vs = [v, v'] ∧ Rd h v d ∧ Rd h v' d' := by
  cases x with | cons a b => obtain ⟨v, rfl, r⟩ := Rds.one b; exact ⟨_, _, rfl, a, r⟩
theorem Rds.three {h : Heap} {vs : List Value} {d d' d'' : Dt} (x : Rds h vs [d, d', d'']) : ∃ v v' v'', vs = [v, v', v''] ∧ Rd h v d ∧ Rd h v' d' ∧ Rd h v'' d'' := by
  cases x with | cons a b => obtain ⟨v, v', rfl, r, r'⟩ := Rds.two b; exact ⟨_, _, _, rfl, a, r, r'⟩

theorem Fn.lenL {d : Dt} {n : Nat} {D : Nat → Dt} (l : Lst d n D) (hn : (n : Int) < 2 ^ 63) : Fn prog w A C (.builtin "len") [d] (.int n) := fun s Q E vs c r q => by
  obtain ⟨v, rfl, r'⟩ := Rds.one r
  obtain ⟨a, us, rfl, p, e, _⟩ := l.at' _ _ r'
  subst e
  exact Calls.call_len_list p.isList hn (q _ _ (Gr.toks _) ⟨_, rfl⟩)
theorem Fn.lenS {x : Str} (hn : (x.length : Int) < 2 ^ 63) : Fn prog w A C (.builtin "len") [.str x] (.int x.length) := fun s Q E vs c r q => by
  obtain ⟨v, rfl, t, rfl⟩ := Rds.one r
  exact PySem.P.len_str (Int.not_le.mpr hn) (q _ _ (Gr.toks _) ⟨_, rfl⟩)
theorem Fn.chr {i : Int} (h0 : 0 ≤ i) (h1 : i ≤ 1114111) : Fn prog w A C (.builtin "chr") [.int i] (.str ⟨#[i.toNat]⟩) := fun s Q E vs c r q => by
  obtain ⟨v, rfl, t, rfl⟩ := Rds.one r
  exact chr_of_range h0 h1 (q _ _ (Gr.toks _) ⟨_, rfl⟩)
theorem Fn.ord {c : Nat} : Fn prog w A C (.builtin "ord") [.str ⟨#[c]⟩] (.int c) := fun s Q E vs _ r q => by
  obtain ⟨v, rfl, t, rfl⟩ := Rds.one r
  exact PySem.P.ord_of_char (q _ _ (Gr.toks _) ⟨_, rfl⟩)

theorem preSum_li (l : List Int) : ∀ n, n ≤ l.length → preSum (fun i => l.getD i 0) n = (l.take n).sum := by
  intro n
  induction n with
  | zero => intro _; simp [preSum]
  | succ n ih =>
    intro hn
    rw [preSum, ih (by omega), List.take_succ_eq_append_getElem (by omega), List.sum_append]
    simp [List.getD_eq_getElem?_getD, List.getElem?_eq_getElem (show n < l.length by omega)]
theorem Fn.sum {l : List Int} (hh : A.handled = none) : Fn prog w A C (.builtin "sum") [.li l] (.int l.sum) := fun s Q E vs c r q => by
  obtain ⟨v, rfl, r'⟩ := Rds.one r
  obtain ⟨a, us, rfl, p, hi⟩ := r'
  have hlt : a < s.heap.objs.size := by obtain ⟨_, e⟩ := p; exact Heap.lt_size e
  refine call_sum_walkG (wpAny_pyIter_list p.isList ⟨s.heap.objs.size, _, _, _, _, _, fun i => l.getD i 0, rfl, Walks.list (A := A.in1) hh s.heap.objs.size a (Nat.ne_of_lt hlt) us, ?_, ?_, ?_, ?_⟩)
  · exact ⟨⟨_, Heap.get?_push_size _ rfl, rfl, rfl⟩, p.isList.push _⟩
  · intro b hb
    show b < (s.heap.push _).objs.size
    rw [Heap.size_push]
    rcases List.mem_cons.mp hb with rfl | hb
    · exact Nat.lt_succ_self _
    · rw [List.mem_singleton.mp hb]; exact Nat.lt_succ_of_lt hlt
  · intro i v e; exact intsGet hi i v (by simpa using e)
  · intro h' tk t' hk
    have hlen : us.size = l.length := by rw [← Array.length_toList]; exact intsLen hi
    refine q _ _ ⟨h', tk, rfl, fun b o e => hk b o ?_ (Heap.get?_push_of_some _ e)⟩ ⟨t', ?_⟩
    · intro hb; rw [List.mem_singleton.mp hb] at e; exact Nat.lt_irrefl _ (Heap.lt_size e)
    · rw [hlen, preSum_li l _ (Nat.le_refl _), List.take_length]

/-! ### displays -/
theorem intsAre_of {h : Heap} {vs : List Value} {ns : List Int} (x : Rds h vs (ns.map .int)) : IntsAre vs ns := by
  induction ns generalizing vs with
  | nil => cases x; exact .nil
  | cons n r ih => cases x with | cons a b => obtain ⟨t, rfl⟩ := a; exact .cons n t (ih b)
theorem pairs_of {h : Heap} {vs : List Value} {ns : List (Int × Int)} (x : Rds h vs (ns.map fun p => .pr p.1 p.2)) : Paired (PairAt h) vs ns := by
  induction ns generalizing vs with
  | nil => cases x; exact .nil
  | cons n r ih => cases x with | cons a b => exact .cons a (ih b)
theorem newList_pl {vs : List Value} {s : Shared} {Q : Value → Shared → Prop} {E : Value → Shared → Prop} (hsz : vs.length ≤ sizeLine)
    (h : ∀ s', Gr s s' → s'.heap.PlainList s.heap.objs.size vs.toArray → Q (.ref s.heap.objs.size) s') : wpAny (model prog w) A (newList vs) Q E s :=
  wpAny_newObj_type (h _ (Gr.push _) ⟨_, Heap.get?_push_size _ rfl⟩) (by show vs.toArray.size ≤ sizeLine; rw [List.size_toArray]; exact hsz)
theorem Ev.listI {es : List Expr} {ns : List Int} {pos : Pos} (ha : Evs prog w A env C es (ns.map .int)) (hb : backTo pos (starEach es env) = trees es env) (hsz : ns.length ≤ sizeLine) : Ev prog w A env C (.List es pos) (.li ns) := fun s Q E c q => by
  refine List_ ?_
  rw [hb]
  refine ha s _ E c fun vs s₁ k₁ r₁ => ?_
  have hi := intsAre_of r₁
  exact newList_pl (by rw [intsLen hi]; exact hsz) fun s₂ k₂ p => q _ _ (Gr.tr k₁ k₂) ⟨_, _, rfl, p, by simpa using hi⟩
theorem Ev.listP {es : List Expr} {ns : List (Int × Int)} {pos : Pos} (ha : Evs prog w A env C es (ns.map fun p => .pr p.1 p.2)) (hb : backTo pos (starEach es env) = trees es env) (hsz : ns.length ≤ sizeLine) : Ev prog w A env C (.List es pos) (.prs ns) := fun s Q E c q => by
  refine List_ ?_
  rw [hb]
  refine ha s _ E c fun vs s₁ k₁ r₁ => ?_
  have hi := pairs_of r₁
  exact newList_pl (by rw [hi.length]; exact hsz) fun s₂ k₂ p => q _ _ (Gr.tr k₁ k₂) ⟨_, _, rfl, p, by simpa using Paired.imp hi fun _ _ y => y.up k₂.keep.seq⟩
theorem Ev.pair {e e' : Expr} {a b : Int} {k : Nat} {pos : Pos} (kc : Kp C) (h : Ev prog w A env C e (.int a)) (h' : Ev prog w A env C e' (.int b)) (hb : backTo pos (starEach [e, e'] env) = trees [e, e'] env) : Ev prog w A env C (.Tuple [e, e'] k pos) (.pr a b) := fun s Q E c q => by
  refine Tuple_ ?_
  rw [hb]
  refine (Evs.two kc h h') s _ E c fun vs s₁ k₁ r₁ => ?_
  obtain ⟨v, v', rfl, ⟨t, rfl⟩, ⟨u, rfl⟩⟩ := Rds.two r₁
  refine wpAny_newObj_type (q _ _ (Gr.tr k₁ (Gr.push _)) ⟨_, t, u, rfl, ?_⟩)
  exact ⟨_, Heap.get?_push_size _ rfl, rfl, _, rfl⟩
end Mine
end

section
open PySem PySem.W PyProof.Rows
set_option Elab.async false
set_option linter.unusedVariables false
namespace Mine
variable {prog : Program} {w : World} {A : Around} {env : Env} {C : Heap → Prop}

/-! ### items -/
theorem Ev.sub {value slice : Expr} {pos : Pos} {dv di d : Dt} {T id : String} (kc : Kp C) (hv : Ev prog w A env C value dv) (hi : Ev prog w A env C slice di)
    (hT : ∀ (s : Shared) (v : Value), Rd s.heap v dv → s.TypeIs v T) (hl : typeLookup (.type T) "__getitem__" = pure (some (.builtin id)))
    (hg : ∀ (s : Shared) (Q : Value → Shared → Prop) (E : Value → Shared → Prop) (v i : Value), Rd s.heap v dv → Rd s.heap i di → (∀ r s', Gr s s' → Rd s'.heap r d → Q r s') → wpAny (model prog w) A (getItem v i) Q E s)
    (hs : ∀ o i, subscripted slice false o i = operate [o, i] (getItem o i)) : Ev prog w A env C (.Subscript value slice pos) d := fun s Q E c q =>
  Subscript_ (hv s _ E c fun v s₁ k₁ r₁ => hi s₁ _ E (kc _ _ c k₁.keep) fun i s₂ k₂ r₂ =>
    tail_any (hT s₂ v (r₁.up k₂.keep.seq)) hl (hg s₂ _ E v i (r₁.up k₂.keep.seq) r₂ fun r s₃ k₃ r₃ => q r s₃ (Gr.tr k₁ (Gr.tr k₂ k₃)) r₃) (hs v i))

theorem Ev.item {value slice : Expr} {pos : Pos} {dv : Dt} {n : Nat} {D : Nat → Dt} {k : Int} (kc : Kp C) (l : Lst dv n D) (hv : Ev prog w A env C value dv) (hi : Ev prog w A env C slice (.int k))
    (h0 : 0 ≤ k) (h1 : k < n) (hn : (n : Int) < 2 ^ 63) (hs : ∀ o i, subscripted slice false o i = operate [o, i] (getItem o i)) : Ev prog w A env C (.Subscript value slice pos) (D k.toNat) := by
  refine Ev.sub (T := "list") kc hv hi (fun s v r => ?_) list_getitem_lookup (fun s Q E v i r₁ r₂ q => ?_) hs
  · obtain ⟨a, vs, rfl, p, _⟩ := l.at' _ _ r
    exact p.isList.typeIs
  · obtain ⟨a, vs, rfl, p, hsz, g⟩ := l.at' _ _ r₁
    obtain ⟨t, rfl⟩ := r₂
    have hlt : k.toNat < vs.size := by omega
    have e : vs[k.toNat]? = some vs[k.toNat] := by simp [hlt]
    exact wpAny_getItem_list p.isList h0 (by omega) e (q _ _ (Gr.refl _) (g _ _ e))
theorem Ev.last {value slice : Expr} {pos : Pos} {dv : Dt} {n : Nat} {D : Nat → Dt} (kc : Kp C) (l : Lst dv n D) (hv : Ev prog w A env C value dv) (hi : Ev prog w A env C slice (.int (-1)))
    (h1 : 0 < n) (hs : ∀ o i, subscripted slice false o i = operate [o, i] (getItem o i)) : Ev prog w A env C (.Subscript value slice pos) (D (n - 1)) := by
  refine Ev.sub (T := "list") kc hv hi (fun s v r => ?_) list_getitem_lookup (fun s Q E v i r₁ r₂ q => ?_) hs
  · obtain ⟨a, vs, rfl, p, _⟩ := l.at' _ _ r
    exact p.isList.typeIs
  · obtain ⟨a, vs, rfl, p, hsz, g⟩ := l.at' _ _ r₁
    obtain ⟨t, rfl⟩ := r₂
    have hlt : n - 1 < vs.size := by omega
    have e : vs[n - 1]? = some vs[n - 1] := by simp [hlt]
    have e' : (-1 + (vs.size : Int)).toNat = n - 1 := by omega
    exact wpAny_getItem_list_neg p.isList (by decide) (by omega) (by decide) (by rw [e']; exact e) (q _ _ (Gr.refl _) (g _ _ e))
theorem Ev.fst {value slice : Expr} {pos : Pos} {a b : Int} (kc : Kp C) (hv : Ev prog w A env C value (.pr a b)) (hi : Ev prog w A env C slice (.int 0))
    (hs : ∀ o i, subscripted slice false o i = operate [o, i] (getItem o i)) : Ev prog w A env C (.Subscript value slice pos) (.int a) := by
  refine Ev.sub (T := "tuple") kc hv hi (fun s v r => ?_) PySem.F.slot_tuple_getitem.lookup (fun s Q E v i r₁ r₂ q => ?_) hs
  · obtain ⟨p, t, u, rfl, o, ho, hc, _⟩ := r
    exact ⟨o, ho, hc⟩
  · obtain ⟨p, t, u, rfl, ht⟩ := r₁
    obtain ⟨t', rfl⟩ := r₂
    exact PyProof.Rows.getItem_tuple (j := 0) ht (by decide) (by decide) rfl rfl (q _ _ (Gr.refl _) ⟨t, rfl⟩)
theorem Ev.snd {value slice : Expr} {pos : Pos} {a b : Int} (kc : Kp C) (hv : Ev prog w A env C value (.pr a b)) (hi : Ev prog w A env C slice (.int 1))
    (hs : ∀ o i, subscripted slice false o i = operate [o, i] (getItem o i)) : Ev prog w A env C (.Subscript value slice pos) (.int b) := by
  refine Ev.sub (T := "tuple") kc hv hi (fun s v r => ?_) PySem.F.slot_tuple_getitem.lookup (fun s Q E v i r₁ r₂ q => ?_) hs
  · obtain ⟨p, t, u, rfl, o, ho, hc, _⟩ := r
    exact ⟨o, ho, hc⟩
  · obtain ⟨p, t, u, rfl, ht⟩ := r₁
    obtain ⟨t', rfl⟩ := r₂
    exact PyProof.Rows.getItem_tuple (j := 1) ht (by decide) (by decide) rfl rfl (q _ _ (Gr.refl _) ⟨u, rfl⟩)
theorem Ev.sign {value slice : Expr} {pos : Pos} {x : Str} {k : Int} (kc : Kp C) (hv : Ev prog w A env C value (.str x)) (hi : Ev prog w A env C slice (.int k))
    (h0 : 0 ≤ k) (h1 : k < x.length) (hn : (x.length : Int) < 2 ^ 63) (hs : ∀ o i, subscripted slice false o i = operate [o, i] (getItem o i)) : Ev prog w A env C (.Subscript value slice pos) (.str ⟨#[x.cps.getD k.toNat 0]⟩) := by
  refine Ev.sub (T := "str") kc hv hi (fun s v r => ?_) PySem.F.slot_str_getitem.lookup (fun s Q E v i r₁ r₂ q => ?_) hs
  · obtain ⟨t, rfl⟩ := r
    exact typeIs_str _ _ _
  · obtain ⟨t, rfl⟩ := r₁
    obtain ⟨t', rfl⟩ := r₂
    have hlt : k.toNat < x.cps.size := by unfold PySem.Str.length at h1; omega
    refine PyProof.Rows.getItem_str (c := x.cps.getD k.toNat 0) ?_ (StrLaws.at_nonneg h0 (by simp [hlt])) (q _ _ (Gr.toks _) ⟨_, rfl⟩)
    simp only [Bool.or_eq_false_iff, decide_eq_false_iff_not]
    omega

/-! ### cuts -/
/-- a bound of a cut -/
def EvP (prog : Program) (w : World) (A : Around) (env : Env) (C : Heap → Prop) (e : Option Expr) (b : Option Int) : Prop := match e, b with
  | none, none => True
  | some e, some i => Ev prog w A env C e (.int i)
  | _, _ => False
theorem EvP.go {e : Option Expr} {b : Option Int} (h : EvP prog w A env C e b) {s : Shared} {Q : Value → Shared → Prop} {E : Value → Shared → Prop} (c : C s.heap)
    (q : ∀ v s', Gr s s' → IsPart v b → Q v s') : wpAny (model prog w) A (evalPart e env) Q E s := by
  cases e with
  | none =>
    cases b with
    | none => rw [evalPart_none]; exact wpAny_pure (q _ _ (Gr.refl _) .none)
    | some i => exact h.elim
  | some e =>
    cases b with
    | none => exact h.elim
    | some i => rw [evalPart_some]; exact h s _ E c fun v s' k r => by obtain ⟨t, rfl⟩ := r; exact q _ _ k (.int i t)

def cut {α : Type} (l : List α) (lo hi : Option Int) : List α := (l.drop (lo.elim 0 (clipAt l.length))).take (hi.elim l.length (clipAt l.length) - lo.elim 0 (clipAt l.length))

theorem ints_drop {vs : List Value} {ns : List Int} (h : IntsAre vs ns) (k : Nat) : IntsAre (vs.drop k) (ns.drop k) := by
  induction h generalizing k with
  | nil => simpa using IntsAre.nil
  | cons n t h ih => cases k with
    | zero => exact .cons n t h
    | succ k => simpa using ih k
theorem ints_take {vs : List Value} {ns : List Int} (h : IntsAre vs ns) (k : Nat) : IntsAre (vs.take k) (ns.take k) := by
  induction h generalizing k with
  | nil => simpa using IntsAre.nil
  | cons n t h ih => cases k with
    | zero => simpa using IntsAre.nil
    | succ k => simpa using IntsAre.cons n t (ih k)
theorem paired_drop {α β : Type} {F : α → β → Prop} {vs : List α} {ns : List β} (h : Paired F vs ns) (k : Nat) : Paired F (vs.drop k) (ns.drop k) := by
  induction h generalizing k with
  | nil => simpa using Paired.nil
  | cons a h ih => cases k with
    | zero => exact .cons a h
    | succ k => simpa using ih k
theorem paired_take {α β : Type} {F : α → β → Prop} {vs : List α} {ns : List β} (h : Paired F vs ns) (k : Nat) : Paired F (vs.take k) (ns.take k) := by
  induction h generalizing k with
  | nil => simpa using Paired.nil
  | cons a h ih => cases k with
    | zero => simpa using Paired.nil
    | succ k => simpa using Paired.cons a (ih k)

theorem cut_go {value : Expr} {lower upper : Option Expr} {p pos : Pos} {dv : Dt} {lo hi : Option Int} {s : Shared} {Q : Value → Shared → Prop} {E : Value → Shared → Prop} (kc : Kp C)
    (hv : Ev prog w A env C value dv) (hlo : EvP prog w A env C lower lo) (hhi : EvP prog w A env C upper hi) (c : C s.heap)
    (h : ∀ v s' vl vu, Gr s s' → Rd s'.heap v dv → IsPart vl lo → IsPart vu hi → (∃ T id, s'.TypeIs v T ∧ typeLookup (.type T) "__getitem__" = pure (some (.builtin id))) ∧
      wpAny (model prog w) A (getItem v (.ref s'.heap.objs.size)) Q E { s' with heap := s'.heap.push { cls := .type "slice", data := .fields #[vl, vu, .none] } }) :
    wpAny (model prog w) A (eval (.Subscript value (.Slice lower upper none p) pos) env) Q E s := by
  refine Subscript_ (hv s _ E c fun v s₁ k₁ r₁ => wpAny_Slice (hlo.go (kc _ _ c k₁.keep) fun vl s₂ k₂ pl => hhi.go (kc _ _ c (Gr.tr k₁ k₂).keep) fun vu s₃ k₃ pu => ?_))
  rw [evalPart_none]
  refine wpAny_pure ?_
  obtain ⟨⟨T, id, hT, hl⟩, hg⟩ := h v s₃ vl vu (Gr.tr k₁ (Gr.tr k₂ k₃)) (r₁.up (Gr.tr k₂ k₃).keep.seq) pl pu
  refine tail_any (ops := [.ref s₃.heap.objs.size, v]) (T := T) (id := id) ?_ hl hg rfl
  revert hT
  cases v <;> intro hT <;> first | exact hT | skip
  obtain ⟨o, e, hc⟩ := hT
  exact ⟨o, Heap.get?_push_of_some _ e, hc⟩

theorem cut_list {s : Shared} {a : Addr} {vs : Array Value} {vl vu : Value} {lo hi : Option Int} {Q : Value → Shared → Prop} {E : Value → Shared → Prop} (p : s.heap.IsList a vs) (hsz : vs.size ≤ sizeLine) (pl : IsPart vl lo) (pu : IsPart vu hi)
    (h : ∀ b s', Gr s s' → s'.heap.PlainList b (cut vs.toList lo hi).toArray → Q (.ref b) s') :
    wpAny (model prog w) A (getItem (.ref a) (.ref s.heap.objs.size)) Q E { s with heap := s.heap.push { cls := .type "slice", data := .fields #[vl, vu, .none] } } := by
  refine wpAny_getItem_list_slice (p.push _) (Heap.IsSliceOf.new ..) pl pu .none (by simp) ?_ hsz
  have e : slicePick vs lo hi none = (cut vs.toList lo hi).toArray := by rw [slicePick_plain]; simp [cut]
  rw [e]
  exact h _ _ ⟨_, _, rfl, fun b o e => Heap.get?_push_of_some _ (Heap.get?_push_of_some _ e)⟩ ⟨_, Heap.get?_push_size _ rfl⟩

theorem Ev.cutI {value : Expr} {lower upper : Option Expr} {p pos : Pos} {l : List Int} {lo hi : Option Int} (kc : Kp C) (hv : Ev prog w A env C value (.li l)) (hsz : l.length ≤ sizeLine)
    (hlo : EvP prog w A env C lower lo) (hhi : EvP prog w A env C upper hi) : Ev prog w A env C (.Subscript value (.Slice lower upper none p) pos) (.li (cut l lo hi)) := fun s Q E c q => by
  refine cut_go kc hv hlo hhi c fun v s' vl vu k r pl pu => ?_
  obtain ⟨a, vs, rfl, pp, hi'⟩ := r
  have hlen : vs.size = l.length := by rw [← Array.length_toList]; exact intsLen hi'
  refine ⟨⟨_, _, pp.isList.typeIs, list_getitem_lookup⟩, cut_list pp.isList (by omega) pl pu fun b s₂ k₂ pb => q _ _ (Gr.tr k k₂) ⟨b, _, rfl, pb, ?_⟩⟩
  simp only [cut, Array.length_toList, hlen]
  exact ints_take (ints_drop hi' _) _
theorem Ev.cutP {value : Expr} {lower upper : Option Expr} {p pos : Pos} {l : List (Int × Int)} {lo hi : Option Int} (kc : Kp C) (hv : Ev prog w A env C value (.prs l)) (hsz : l.length ≤ sizeLine)
    (hlo : EvP prog w A env C lower lo) (hhi : EvP prog w A env C upper hi) : Ev prog w A env C (.Subscript value (.Slice lower upper none p) pos) (.prs (cut l lo hi)) := fun s Q E c q => by
  refine cut_go kc hv hlo hhi c fun v s' vl vu k r pl pu => ?_
  obtain ⟨a, vs, rfl, pp, hi'⟩ := r
  have hlen : vs.size = l.length := by rw [← Array.length_toList]; exact hi'.length
  refine ⟨⟨_, _, pp.isList.typeIs, list_getitem_lookup⟩, cut_list pp.isList (by omega) pl pu fun b s₂ k₂ pb => q _ _ (Gr.tr k k₂) ⟨b, _, rfl, pb, ?_⟩⟩
  simp only [cut, Array.length_toList, hlen]
  exact Paired.imp (paired_take (paired_drop hi' _) _) fun _ _ y => y.up k₂.keep.seq

def strTake (x : Str) (k : Nat) : Str := ⟨(x.cps.toList.take k).toArray⟩
def strDrop (x : Str) (k : Nat) : Str := ⟨(x.cps.toList.drop k).toArray⟩

theorem cut_str {s : Shared} {x : Str} {t : Tok} {vl vu : Value} {lo hi : Option Int} {Q : Value → Shared → Prop} {E : Value → Shared → Prop} (hsz : x.length ≤ sizeLine) (pl : IsPart vl lo) (pu : IsPart vu hi)
    (h : ∀ u s', Gr s s' → Q (.str (StrLaws.sliceText x lo hi) u) s') :
    wpAny (model prog w) A (getItem (.str x t) (.ref s.heap.objs.size)) Q E { s with heap := s.heap.push { cls := .type "slice", data := .fields #[vl, vu, .none] } } := by
  have key : ∀ l u : Option (Int × Tok), vl = partValue l → vu = partValue u → lo = l.map (·.1) → hi = u.map (·.1) → wpAny (model prog w) A (getItem (.str x t) (.ref s.heap.objs.size)) Q E { s with heap := s.heap.push { cls := .type "slice", data := .fields #[vl, vu, .none] } } := by
    rintro l u rfl rfl rfl rfl
    refine wpAny_getItem_str_slice (l := l) (u := u) (st := none) ⟨_, Heap.get?_push_size _ rfl, rfl, rfl⟩ rfl ?_
    unfold sliceMade
    unfold StrLaws.sliceText at h
    split
    · rename_i hc
      rw [if_pos (by simpa [slicePicked] using hc)] at h
      exact h _ _ (Gr.push _)
    · rename_i hc
      rw [if_neg (by simpa [slicePicked] using hc)] at h
      have hle : ((Builtin.Str.strSliceIndices (l.map (·.1)) (u.map (·.1)) 1 x.length).filterMap (x.cps[·]?)).length ≤ x.length :=
        Nat.le_trans (List.length_filterMap_le _ _) (sliceIndices_le _ _ _)
      refine ⟨?_, h _ _ ⟨_, _, rfl, fun b o e => Heap.get?_push_of_some _ e⟩⟩
      show (List.toArray _).size ≤ sizeLine
      rw [List.size_toArray]
      exact Nat.le_trans hle hsz
  cases pl <;> cases pu
  · exact key none none rfl rfl rfl rfl
  · exact key none (some (_, _)) rfl rfl rfl rfl
  · exact key (some (_, _)) none rfl rfl rfl rfl
  · exact key (some (_, _)) (some (_, _)) rfl rfl rfl rfl

theorem Ev.cutTo {value : Expr} {e : Expr} {p pos : Pos} {x : Str} {k : Nat} (kc : Kp C) (hv : Ev prog w A env C value (.str x)) (hsz : x.length ≤ sizeLine)
    (he : Ev prog w A env C e (.int k)) (hk : k ≤ x.length) : Ev prog w A env C (.Subscript value (.Slice none (some e) none p) pos) (.str (strTake x k)) := fun s Q E c q => by
  refine cut_go (lo := none) (hi := some (k : Int)) kc hv trivial he c fun v s' vl vu kk r pl pu => ?_
  obtain ⟨t, rfl⟩ := r
  refine ⟨⟨_, _, typeIs_str _ _ _, PySem.F.slot_str_getitem.lookup⟩, cut_str hsz pl pu fun u s₂ k₂ => q _ _ (Gr.tr kk k₂) ⟨u, ?_⟩⟩
  rw [StrLaws.sliceText_to (by simp only [Array.length_toList]; unfold PySem.Str.length at hk; omega)]
  simp [strTake]
theorem Ev.cutFrom {value : Expr} {e : Expr} {p pos : Pos} {x : Str} {k : Nat} (kc : Kp C) (hv : Ev prog w A env C value (.str x)) (hsz : x.length ≤ sizeLine)
    (he : Ev prog w A env C e (.int k)) (hk : k ≤ x.length) : Ev prog w A env C (.Subscript value (.Slice (some e) none none p) pos) (.str (strDrop x k)) := fun s Q E c q => by
  refine cut_go (lo := some (k : Int)) (hi := none) kc hv he trivial c fun v s' vl vu kk r pl pu => ?_
  obtain ⟨t, rfl⟩ := r
  refine ⟨⟨_, _, typeIs_str _ _ _, PySem.F.slot_str_getitem.lookup⟩, cut_str hsz pl pu fun u s₂ k₂ => q _ _ (Gr.tr kk k₂) ⟨u, ?_⟩⟩
  rw [StrLaws.sliceText_from (by simp only [Array.length_toList]; unfold PySem.Str.length at hk; omega)]
  simp only [strDrop, Int.toNat_natCast]
  congr 2
  rw [List.take_of_length_le]
  simp
end Mine
end

section
open PySem PySem.W PyProof.Rows PySem.Spec PySem.SeqAt
set_option Elab.async false
set_option linter.unusedVariables false
namespace Mine
variable {prog : Program} {w : World} {A : Around} {env : Env} {C : Heap → Prop}

theorem Op2.divInt {a b : Int} (hb : b ≠ 0) (hp : Builtin.divisionGoesByPylong a b = false) : Op2 prog w A .FloorDiv (.int a) (.int b) (.int (a.fdiv b)) := fun s Q E v u ⟨t, e⟩ ⟨t', e'⟩ q => by
  subst e; subst e'; exact floordiv_int hb (q _ _ (Gr.toks _) ⟨_, rfl⟩) (Or.inl hp)
theorem Op2.addStr {a b : Str} (hsz : a.length + b.length ≤ sizeLine) : Op2 prog w A .Add (.str a) (.str b) (.str (a ++ b)) := fun s Q E v u ⟨t, e⟩ ⟨t', e'⟩ q => by
  subst e; subst e'; exact PyProof.Rows.add_str (fun t' tk => q _ _ (Gr.toks _) ⟨_, rfl⟩) hsz
theorem paired_append {α β : Type} {F : α → β → Prop} {a c : List α} {b d : List β} (h : Paired F a b) (h' : Paired F c d) : Paired F (a ++ c) (b ++ d) := by
  induction h with
  | nil => exact h'
  | cons x _ ih => exact .cons x ih
theorem Op2.addP {a b : List (Int × Int)} (hsz : a.length + b.length ≤ sizeLine) : Op2 prog w A .Add (.prs a) (.prs b) (.prs (a ++ b)) := fun s Q E v u r r' q => by
  obtain ⟨x, vs, rfl, ⟨n, p⟩, i⟩ := r
  obtain ⟨y, us, rfl, ⟨n', p'⟩, i'⟩ := r'
  have h1 : vs.size = a.length := by rw [← Array.length_toList]; exact i.length
  have h2 : us.size = b.length := by rw [← Array.length_toList]; exact i'.length
  refine PySem.P.add_list p p' (q _ _ (Gr.push _) ⟨_, _, rfl, ⟨_, Heap.get?_push_size _ rfl⟩, ?_⟩) (by omega)
  rw [Array.toList_append]
  exact paired_append (Paired.imp i fun _ _ z => z.up (Gr.push (s := s) _).keep.seq) (Paired.imp i' fun _ _ z => z.up (Gr.push (s := s) _).keep.seq)

theorem Cmp2.eqI {a b : List Int} (hu : A.units + 64 < cLine) : Cmp2 prog w A .Eq (.li a) (.li b) (decide (a = b)) := fun s Q E v u r r' q => by
  obtain ⟨x, vs, rfl, p, i⟩ := r
  obtain ⟨y, us, rfl, p', i'⟩ := r'
  exact eq_intsK (vs := vs.toList) (us := us.toList) (by simpa using p.isList) i (by simpa using p'.isList) i' hu (q _ (Gr.refl _))
theorem Cmp2.neI {a b : List Int} (hu : A.units + 64 < cLine) : Cmp2 prog w A .NotEq (.li a) (.li b) (!decide (a = b)) := fun s Q E v u r r' q => by
  obtain ⟨x, vs, rfl, p, i⟩ := r
  obtain ⟨y, us, rfl, p', i'⟩ := r'
  exact ne_intsK (vs := vs.toList) (us := us.toList) (by simpa using p.isList) i (by simpa using p'.isList) i' hu (q _ (Gr.refl _))

theorem readsAll_of_strs {h : Heap} : ∀ {vs : List Value} {ns : List Str}, StrsAre vs ns → ReadsAll h vs (ns.map PyData.str) []
  | _, _, .nil => .nil
  | _, _, .cons k t r => by
    have := ReadsAll.cons (Reads.str (h := h) k t) (readsAll_of_strs (h := h) r)
    simpa using this
theorem canLayAll0_strs : ∀ ns : List Str, (∀ x ∈ ns, PyData.strOk x = true) → PyData.canLayAll0 (ns.map PyData.str) = true
  | [], _ => by simp [PyData.canLayAll0]
  | n :: r, h => by simp [PyData.canLayAll0, PyData.canLay0, h n List.mem_cons_self, canLayAll0_strs r fun x hx => h x (List.mem_cons_of_mem _ hx)]
theorem depthAll_strs : ∀ ns : List Str, PyData.depthAll (ns.map PyData.str) ≤ 1
  | [] => by simp [PyData.depthAll]
  | n :: r => by
    have := depthAll_strs r
    simp only [List.map_cons, PyData.depthAll, PyData.depth]
    omega
theorem shaped_strs (ns : List Str) (hok : ∀ x ∈ ns, PyData.strOk x = true) : SeqAt.shaped (.list (ns.map PyData.str)) = true := by
  have h1 := depthAll_strs ns
  have h2 : PyData.depth (.list (ns.map PyData.str)) ≤ 64 := by simp only [PyData.depth]; omega
  show (PyData.canLay0 (.list (ns.map PyData.str)) && decide (PyData.depth (.list (ns.map PyData.str)) ≤ 64)) = true
  rw [Bool.and_eq_true]
  exact ⟨by simp only [PyData.canLay0]; exact canLayAll0_strs ns hok, decide_eq_true h2⟩
theorem noMix_strs : ∀ ns ms : List Str, noMixAll (ns.map PyData.str) (ms.map PyData.str) = true
  | [], [] => by simp [noMixAll]
  | [], _ :: _ => by simp [noMixAll]
  | _ :: _, [] => by simp [noMixAll]
  | _ :: r, _ :: q => by simp [noMixAll, noMix, noMix_strs r q]
theorem same_strs : ∀ ns ms : List Str, PySem.Spec.sameAll (ns.map PyData.str) (ms.map PyData.str) = decide (ns = ms)
  | [], [] => by simp [PySem.Spec.sameAll]
  | [], _ :: _ => by simp [PySem.Spec.sameAll]
  | _ :: _, [] => by simp [PySem.Spec.sameAll]
  | n :: r, k :: q => by
    simp only [List.map_cons, PySem.Spec.sameAll, PySem.Spec.same, same_strs r q]
    by_cases h : n = k <;> simp [h]
theorem reads_of_strs {h : Heap} {a : Addr} {vs : Array Value} {ns : List Str} (hl : h.IsList a vs) (hi : StrsAre vs.toList ns) : Reads h (.ref a) (.list (ns.map PyData.str)) [a] := by
  obtain ⟨o, ho, hc, n, hd⟩ := hl
  exact Reads.list ho hc hd (by simpa using readsAll_of_strs hi)
theorem Cmp2.neS {a b : List Str} (ha : ∀ x ∈ a, PyData.strOk x = true) (hb : ∀ x ∈ b, PyData.strOk x = true) (hu : A.units + 64 < cLine) : Cmp2 prog w A .NotEq (.ls a) (.ls b) (!decide (a = b)) := fun s Q E v u r r' q => by
  obtain ⟨x, vs, rfl, p, i⟩ := r
  obtain ⟨y, us, rfl, p', i'⟩ := r'
  exact ne_dataH_same (reads_of_strs p.isList i) (reads_of_strs p'.isList i') (shaped_strs a ha) (shaped_strs b hb) hu (by simp only [noMix]; exact noMix_strs a b) (by simp only [PySem.Spec.same]; rw [same_strs]; exact q _ (Gr.refl _))

/-! ### [0] * n -/
theorem mul_new {a : List Int} {x : Int} {s : Shared} {Q : Value → Shared → Prop} {E : Value → Shared → Prop} {v w' : Value} (h0 : 0 ≤ x) (hx : x < 2 ^ 63) (hne : a ≠ []) (hsz : a.length * x.toNat ≤ 2 ^ 24) (r : Rd s.heap v (.li a)) (r' : Rd s.heap w' (.int x))
    (q : ∀ vs s', Gr s s' → s'.heap.PlainList s.heap.objs.size vs → IntsAre vs.toList (List.replicate x.toNat a).flatten → Q (.ref s.heap.objs.size) s') : wpAny (model prog w) A (binaryOp .Mult v w') Q E s := by
  obtain ⟨l, items, rfl, ⟨k, hl⟩, i⟩ := r
  obtain ⟨u, rfl⟩ := r'
  have hlen : items.size = a.length := by rw [← Array.length_toList]; exact intsLen i
  have hemp : items.isEmpty = false := by
    cases ha : a with
    | nil => exact absurd ha hne
    | cons b c => simp [Array.isEmpty, hlen, ha]
  refine wpAny_binaryOp_repeat_ref (T := "list") (U := "int") (by decide) ⟨_, hl, rfl⟩ (fun s' => typeIs_int s' x u) noFill_list_mul PySem.F.fills_int_mul PySem.F.slot_int_rmul repeat_list PySem.F.slot_int_index.lookup
    (call_meets PySem.F.slot_int_rmul (typeIs_int s x u) PySem.F.entry_int_rmul (PySem.F.args_int_rmul_2 _ _) (int___rmul___int_list x u l items k)
      ⟨hl, rfl, ⟨_, hl, rfl⟩, call_meets PySem.F.slot_list_mul ⟨_, hl, rfl⟩ PySem.F.entry_list_mul (PySem.F.args_list_mul_2 _ _)
        (AutoListH.list___mul___list_int_3 l items k x u (by simp [Builtin.List.listFitsIndex]; omega) (by rw [hlen]; omega) (by simp [Builtin.List.listTooLong, sizeLine]; rw [hlen]; omega))
        ⟨hl, ?_⟩⟩)
  refine q _ _ (Gr.push _) ⟨_, Heap.get?_push_size _ rfl⟩ ?_
  rw [hemp]
  simp only [Bool.false_eq_true, if_false]
  have gen : ∀ (n : Nat) (acc : Array Value) (b : List Int), IntsAre acc.toList b → IntsAre (List.foldl (fun x1 x2 => x1 ++ x2) acc (List.replicate n items)).toList (b ++ (List.replicate n a).flatten) := by
    intro n
    induction n with
    | zero => intro acc b h; simpa using h
    | succ n ih =>
      intro acc b h
      rw [List.replicate_succ, List.foldl_cons, List.replicate_succ, List.flatten_cons, ← List.append_assoc]
      refine ih _ _ ?_
      rw [Array.toList_append]
      exact PyProof.Rows.IntsAre.append h i
  simpa using gen x.toNat #[] [] .nil

/-! ### unary, tests -/
theorem Ev.neg {e : Expr} {p : Pos} {a : Int} (h : Ev prog w A env C e (.int a)) : Ev prog w A env C (.UnaryOp .USub e p) (.int (-a)) := fun s Q E c q =>
  wpAny_UnaryOp (h s _ E c fun v s₁ k₁ r₁ => by obtain ⟨t, rfl⟩ := r₁; exact PyProof.Rows.neg_int (q _ _ (Gr.tr k₁ (Gr.toks _)) ⟨_, rfl⟩))
theorem Tst.or {a b : Expr} {p : Pos} {x y : Bool} (kc : Kp C) (h : Tst prog w A env C a x) (h' : x = false → Tst prog w A env C b y) : Tst prog w A env C (.BoolOp .Or [a, b] p) (x || y) := fun s Q E c q =>
  isTrue_or (h s _ E c fun s₁ k₁ => by
    cases x with
    | true => exact q _ k₁
    | false =>
      refine isTrue_or (h' rfl s₁ _ E (kc _ _ c k₁.keep) fun s₂ k₂ => ?_)
      cases y with
      | true => exact q _ (Gr.tr k₁ k₂)
      | false => exact isTrue_or_nil (q _ (Gr.tr k₁ k₂)))
theorem Tst.and {a b : Expr} {p : Pos} {x y : Bool} (kc : Kp C) (h : Tst prog w A env C a x) (h' : x = true → Tst prog w A env C b y) : Tst prog w A env C (.BoolOp .And [a, b] p) (x && y) := fun s Q E c q =>
  isTrue_and (h s _ E c fun s₁ k₁ => by
    cases x with
    | false => exact q _ k₁
    | true =>
      refine isTrue_and (h' rfl s₁ _ E (kc _ _ c k₁.keep) fun s₂ k₂ => ?_)
      cases y with
      | false => exact q _ (Gr.tr k₁ k₂)
      | true => exact isTrue_and_nil (q _ (Gr.tr k₁ k₂)))
theorem Tst.chain {l m r : Expr} {o o' : CmpOp} {p : Pos} {a b c : Dt} {x y : Bool} (kc : Kp C) (hl : Ev prog w A env C l a) (hm : Ev prog w A env C m b) (hr : x = true → Ev prog w A env C r c)
    (h : Cmp2 prog w A o a b x) (h' : Cmp2 prog w A o' b c y) (hmk : lastMarks [o, o'] [m, r] = false := by with_unfolding_all rfl) : Tst prog w A env C (.Compare l [o, o'] [m, r] p) (x && y) := fun s Q E cc q =>
  isTrue_chain (hl s _ E cc fun v s₁ k₁ r₁ => test_link (hm s₁ _ E (kc _ _ cc k₁.keep) fun u s₂ k₂ r₂ => h s₂ _ E v u (r₁.up k₂.keep.seq) r₂ fun s₃ k₃ => wpAny_truthy_bool (by
    cases x with
    | false => exact q _ (Gr.tr k₁ (Gr.tr k₂ k₃))
    | true =>
      refine test_last (hr rfl s₃ _ E (kc _ _ cc (Gr.tr k₁ (Gr.tr k₂ k₃)).keep) fun z s₄ k₄ r₄ => h' s₄ _ E u z (r₂.up (Gr.tr k₃ k₄).keep.seq) r₄ fun s₅ k₅ => wpAny_truthy_bool ?_)
      exact q _ (Gr.tr k₁ (Gr.tr k₂ (Gr.tr k₃ (Gr.tr k₄ k₅))))))) hmk

/-! ### ranges -/
theorem SrcN.range1 {f : Str} {p pos : Pos} {e : Expr} {b : Int} (hh : A.handled = none) (kc : Kp C) (hf : EvV prog w A env C (.Name f p) (.type "range")) (he : Ev prog w A env C e (.int b)) (h0 : 0 ≤ b) (h1 : b < 2 ^ 62)
    (hb : backTo pos (starEach [e] env) = trees [e] env) : SrcN prog w A env C (.Call (.Name f p) [e] [] pos) b.toNat fun i => .int i := fun s Q E c q => by
  refine wpAny_Call_NameR (hf s _ E c fun s₁ k₁ => ?_)
  rw [hb]
  refine callWith_ev kc (.inr (.inl ⟨_, rfl⟩)) (kc _ _ c k₁.keep) (Evs.one kc he) fun vs s₂ k₂ r₂ => ?_
  obtain ⟨v, rfl, t, rfl⟩ := Rds.one r₂
  refine call_range_1 (iter_range (n := b.toNat) hh (Gr.tr k₁ (Gr.tr k₂ ⟨_, _, rfl, fun b o e => Heap.get?_push_of_some _ e⟩)) (IsRange.new ..) (small_one (by decide) (by decide) (by omega) h1) (by rw [rangeSize_one]; split <;> omega) fun I s' k it => q I s' k ?_)
  simpa using it
theorem SrcN.range2 {f : Str} {p pos : Pos} {e e' : Expr} {a b : Int} (hh : A.handled = none) (kc : Kp C) (hf : EvV prog w A env C (.Name f p) (.type "range")) (he : Ev prog w A env C e (.int a)) (he' : Ev prog w A env C e' (.int b))
    (h0 : 0 ≤ a) (h0' : a < 2 ^ 62) (h1 : 0 ≤ b) (h1' : b < 2 ^ 62)
    (hb : backTo pos (starEach [e, e'] env) = trees [e, e'] env) : SrcN prog w A env C (.Call (.Name f p) [e, e'] [] pos) (b - a).toNat fun i => .int (a + i) := fun s Q E c q => by
  refine wpAny_Call_NameR (hf s _ E c fun s₁ k₁ => ?_)
  rw [hb]
  refine callWith_ev kc (.inr (.inl ⟨_, rfl⟩)) (kc _ _ c k₁.keep) (Evs.two kc he he') fun vs s₂ k₂ r₂ => ?_
  obtain ⟨v, v', rfl, ⟨t, rfl⟩, ⟨t', rfl⟩⟩ := Rds.two r₂
  refine call_range_2 (iter_range (n := (b - a).toNat) hh (Gr.tr k₁ (Gr.tr k₂ ⟨_, _, rfl, fun b o e => Heap.get?_push_of_some _ e⟩)) (IsRange.new ..) (small_one (by omega) h0' (by omega) h1') (by rw [rangeSize_one]; split <;> omega) fun I s' k it => q I s' k ?_)
  simpa using it
theorem SrcN.rangeDown {f : Str} {p pos : Pos} {e e' e'' : Expr} {a : Int} (hh : A.handled = none) (kc : Kp C) (hf : EvV prog w A env C (.Name f p) (.type "range")) (he : Ev prog w A env C e (.int a)) (he' : Ev prog w A env C e' (.int (-1))) (he'' : Ev prog w A env C e'' (.int (-1)))
    (h0 : -1 ≤ a) (h0' : a < 2 ^ 62) (hp : Builtin.divisionGoesByPylong (-1 - a) (-1) = false)
    (hb : backTo pos (starEach [e, e', e''] env) = trees [e, e', e''] env) : SrcN prog w A env C (.Call (.Name f p) [e, e', e''] [] pos) (a + 1).toNat fun i => .int (a - i) := fun s Q E c q => by
  refine wpAny_Call_NameR (hf s _ E c fun s₁ k₁ => ?_)
  rw [hb]
  refine callWith_ev kc (.inr (.inl ⟨_, rfl⟩)) (kc _ _ c k₁.keep) (Evs.three kc he he' he'') fun vs s₂ k₂ r₂ => ?_
  obtain ⟨v, v', v'', rfl, ⟨t, rfl⟩, ⟨t', rfl⟩, ⟨t'', rfl⟩⟩ := Rds.three r₂
  have hrs : Builtin.Range.rangeSize a (-1) (-1) = ((a + 1).toNat : Int) := by
    unfold Builtin.Range.rangeSize
    rw [if_neg (by decide), show (-(-1 : Int)) = 1 by decide, Int.ediv_one]
    split <;> omega
  have hsm : Builtin.Range.small a (-1) (-1) = true := by
    unfold Builtin.Range.small
    rw [hrs]
    simp only [Builtin.Range.rangeFitsLong, Bool.and_eq_true, Bool.or_eq_true, decide_eq_true_eq, beq_iff_eq, show ¬ (-1 : Int) > 0 by decide, if_false]
    omega
  refine PySem.call_range_3 (by decide) (iter_range (n := (a + 1).toNat) hh (Gr.tr k₁ (Gr.tr k₂ ⟨_, _, rfl, fun b o e => Heap.get?_push_of_some _ e⟩)) (IsRange.new ..) hsm hrs fun I s' k it => q I s' k ?_) (Or.inl hp)
  have e : (fun i : Nat => Dt.int (a + (i : Int) * (-1))) = fun i : Nat => Dt.int (a - i) := by funext i; congr 1; omega
  rw [← e]; exact it
end Mine
end

section
open PySem PySem.W PyProof.Rows
set_option Elab.async false
set_option linter.unusedVariables false
namespace Mine
variable {prog : Program} {w : World} {A : Around} {env : Env} {C : Heap → Prop}

/-- what a frame's names bear -/
abbrev Names := List (Str × Dt)
/-- the state within a call: s₀ at its start, ρ what the names bear -/
def St (env : Env) (s₀ : Shared) (ρ : Names) (s : Shared) : Prop := ∃ m cm, InCallC s₀ env.locals m env.cells cm s ∧ ∀ x d, ρ.lookup x = some d →
  ∃ v, Rd s.heap v d ∧ ((env.kindOf x = some .local ∧ m x = some v) ∨ (env.kindOf x = some .cell ∧ (∃ c, env.cells.lookup x = some c) ∧ cm x = some v))
/-- the same of its heap -/
def Fc (env : Env) (s₀ : Shared) (ρ : Names) (h : Heap) : Prop := St env s₀ ρ { s₀ with heap := h }

theorem InCallC.keeps' {s₀ s : Shared} {L : Addr} {m cm : Str → Option Value} {cs : List (Str × Addr)} (x : InCallC s₀ L m cs cm s) {h : Heap} {t : Nat} (k : Keep s.heap h) : InCallC s₀ L m cs cm { s with heap := h, toks := t } := by
  obtain ⟨h', t', rfl⟩ := x.toInCall.same
  exact ⟨⟨⟨h, t, rfl⟩, x.toInCall.ns.keeps k, fun b o e => k b o (x.toInCall.keep b o e), x.toInCall.fresh⟩, fun n c hc => (x.cell n c hc).keeps k, x.apart, x.above⟩
theorem St.fc {s₀ s : Shared} {ρ : Names} (x : St env s₀ ρ s) : Fc env s₀ ρ s.heap := by
  obtain ⟨m, cm, i, r⟩ := x
  obtain ⟨h', t', rfl⟩ := i.toInCall.same
  exact ⟨m, cm, by simpa using InCallC.keeps' (t := s₀.toks) i Keep.rfl', r⟩
theorem St.keeps {s₀ s s' : Shared} {ρ : Names} (x : St env s₀ ρ s) (k : Gr s s') : St env s₀ ρ s' := by
  obtain ⟨m, cm, i, r⟩ := x
  obtain ⟨h', t', rfl, kk⟩ := k
  exact ⟨m, cm, InCallC.keeps' i kk, fun x d e => by obtain ⟨v, rv, w⟩ := r x d e; exact ⟨v, rv.up (Keep.seq kk), w⟩⟩
theorem Fc.kp {s₀ : Shared} {ρ : Names} : Kp (Fc env s₀ ρ) := fun h h' x k => by
  have := St.keeps (s' := { s₀ with heap := h' }) x ⟨h', s₀.toks, rfl, k⟩
  exact this
theorem St.gr {s₀ s : Shared} {ρ : Names} (x : St env s₀ ρ s) : Gr s₀ s := by
  obtain ⟨m, cm, i, r⟩ := x
  obtain ⟨h', t', e, k⟩ := i.done
  exact ⟨h', t', e, k⟩
theorem Fc.keep {s₀ : Shared} {ρ : Names} {h : Heap} (x : Fc env s₀ ρ h) : Keep s₀.heap h := (St.gr x).keep
theorem Fc.base {B : Heap → Prop} (kb : Kp B) {s₀ : Shared} {ρ : Names} {h : Heap} (b : B s₀.heap) (x : Fc env s₀ ρ h) : B h := kb _ _ b x.keep

theorem Ev.var {s₀ : Shared} {ρ : Names} {x : Str} {p : Pos} {d : Dt} (hρ : ρ.lookup x = some d) (hk : env.scope.kind = .function) (hd : (x == ("__debug__" : Str)) = false := by decide) : Ev prog w A env (Fc env s₀ ρ) (.Name x p) d := fun s Q E c q => by
  obtain ⟨m, cm, i, r⟩ := c
  obtain ⟨v, rv, ⟨kl, hv⟩ | ⟨kc, ⟨c, hc⟩, hv⟩⟩ := r x d hρ
  · exact wpAny_Name (wpAny_loadName_local hk kl i.toInCall.ns hv (q _ _ (Gr.refl _) rv)) hd
  · exact wpAny_Name (wpAny_loadName_cell hk kc hc (hv ▸ i.cell x c hc) (q _ _ (Gr.refl _) rv)) hd
/-- a name of the frame's within a block -/
theorem Ev.outer {s₀ : Shared} {ρ : Names} {cenv : Env} {C' : Heap → Prop} {x : Str} {p : Pos} {d : Dt} {c : Addr} (hρ : ρ.lookup x = some d) (hC : ∀ h, C' h → Fc env s₀ ρ h) (hk : cenv.scope.kind = .function) (hx : cenv.kindOf x = some .cell)
    (hc : cenv.cells.lookup x = some c) (hx' : env.kindOf x = some .cell) (hc' : env.cells.lookup x = some c) (hd : (x == ("__debug__" : Str)) = false := by decide) : Ev prog w A cenv C' (.Name x p) d :=
  Ev.cell hk hx hc (fun h ch => by
    obtain ⟨m, cm, i, r⟩ := hC h ch
    obtain ⟨v, rv, ⟨kl, hv⟩ | ⟨kc, ⟨c', hc''⟩, hv⟩⟩ := r x d hρ
    · rw [hx'] at kl; cases kl
    · exact ⟨v, hv ▸ i.cell x c hc', rv⟩) hd
theorem Ev.inner {C' : Heap → Prop} {cenv : Env} {x : Str} {p : Pos} {d : Dt} (hC : ∀ h, C' h → Bnd h cenv.locals x d) (hk : cenv.scope.kind = .function) (hx : cenv.kindOf x = some .local) (hd : (x == ("__debug__" : Str)) = false := by decide) :
    Ev prog w A cenv C' (.Name x p) d := Ev.local hk hx (fun h ch => by obtain ⟨m, v, a, b, c⟩ := hC h ch; exact ⟨m, v, a, b, c⟩) hd

/-- what a frame changes -/
def Mut (env : Env) (b : Addr) : Prop := b = env.locals ∨ ∃ x, env.cells.lookup x = some b
/-- all but these stays -/
def Kb (mu : Addr → Prop) (h h' : Heap) : Prop := ∀ b o, ¬ mu b → h.get? b = some o → h'.get? b = some o
theorem Kb.tr {m : Addr → Prop} {h h' h'' : Heap} (k : Kb m h h') (k' : Kb m h' h'') : Kb m h h'' := fun b o n e => k' b o n (k b o n e)
theorem Keep.kb {m : Addr → Prop} {h h' : Heap} (k : Keep h h') : Kb m h h' := fun b o _ e => k b o e
theorem Kb.mono {m m' : Addr → Prop} {h h' : Heap} (k : Kb m h h') (i : ∀ b, m b → m' b) : Kb m' h h' := fun b o n e => k b o (fun x => n (i b x)) e

/-! ### stores -/
theorem store_ok {s₀ s : Shared} {ρ : Names} {x : Str} {v : Value} {d : Dt} {Q : Unit → Shared → Prop} {E : Value → Shared → Prop} (hs : St env s₀ ρ s) (hr : Rd s.heap v d) (hk : env.scope.kind = .function)
    (hx : env.kindOf x = some .local ∨ (env.kindOf x = some .cell ∧ ∃ c, env.cells.lookup x = some c)) (h : ∀ s', St env s₀ ((x, d) :: ρ) s' → Kb (Mut env) s.heap s'.heap → Q () s') : wpAny (model prog w) A (storeName env x v) Q E s := by
  obtain ⟨m, cm, i, r⟩ := hs
  rcases hx with hl | ⟨hc, c, hcc⟩
  · refine wpAny_storeName_local hl i.toInCall.ns (fun h' hn' hs' => h _ ?_ fun b o n e => hs'.extBut b o (fun q => n (.inl q)) e) (by rw [hk]; rfl)
    have ks : KeepSeq s.heap h' := KeepSeq.ns i.toInCall.ns hs'
    refine ⟨_, cm, ⟨⟨?_, hn', fun b o e => ?_, i.toInCall.fresh⟩, fun k c hc => ?_, i.apart, i.above⟩, fun y e he => ?_⟩
    · obtain ⟨h₁, tk, rfl⟩ := i.toInCall.same
      exact ⟨h', _, rfl⟩
    · exact hs'.extBut b o (Nat.ne_of_lt (Nat.lt_of_lt_of_le (Heap.lt_size e) i.toInCall.fresh)) (i.toInCall.keep b o e)
    · exact (i.cell k c hc).sameBut hs' (Nat.ne_of_gt (i.above k c (mem_of_lookup hc)))
    · rw [List.lookup_cons] at he
      cases hy : y == x with
      | true =>
        rw [hy] at he
        cases he
        rw [beq_iff_eq] at hy
        subst hy
        exact ⟨v, hr.up ks, .inl ⟨hl, by simp⟩⟩
      | false =>
        rw [hy] at he
        obtain ⟨u, ru, w'⟩ := r y e he
        refine ⟨u, ru.up ks, ?_⟩
        rcases w' with ⟨a, b⟩ | b
        · exact .inl ⟨a, by rw [beq_eq_false_iff_ne] at hy; simpa [hy] using b⟩
        · exact .inr b
  · have hLc := i.above x c (mem_of_lookup hcc)
    refine wpAny_storeName_cell hk hc hcc (i.cell x c hcc) fun h' hc' hs' => h _ ?_ fun b o n e => hs'.extBut b o (fun q => n (.inr ⟨x, q ▸ hcc⟩)) e
    have ks : KeepSeq s.heap h' := fun b o xs n dd e => by
      refine (hs'.2 b ?_).trans e
      rintro rfl
      obtain ⟨o', ho', hd'⟩ := i.cell x _ hcc
      rw [e] at ho'; cases ho'; rw [dd] at hd'; cases hd'
    refine ⟨m, fun y => if y = x then some v else cm y, ⟨⟨?_, i.toInCall.ns.sameBut hs' (Nat.ne_of_lt hLc), fun b o e => ?_, i.toInCall.fresh⟩, fun k c' hk' => ?_, i.apart, i.above⟩, fun y e he => ?_⟩
    · obtain ⟨h₁, tk, rfl⟩ := i.toInCall.same
      exact ⟨h', _, rfl⟩
    · exact hs'.extBut b o (Nat.ne_of_lt (Nat.lt_trans (Nat.lt_of_lt_of_le (Heap.lt_size e) i.toInCall.fresh) hLc)) (i.toInCall.keep b o e)
    · by_cases hkn : k = x
      · subst hkn
        rw [hcc] at hk'; cases hk'
        simpa using hc'
      · rw [if_neg hkn]
        exact (i.cell k c' hk').sameBut hs' fun e => hkn (name_of_addr i.apart (mem_of_lookup hk') (e ▸ mem_of_lookup hcc))
    · rw [List.lookup_cons] at he
      cases hy : y == x with
      | true =>
        rw [hy] at he
        cases he
        rw [beq_iff_eq] at hy
        subst hy
        exact ⟨v, hr.up ks, .inr ⟨hc, ⟨c, hcc⟩, by simp⟩⟩
      | false =>
        rw [hy] at he
        obtain ⟨u, ru, w'⟩ := r y e he
        refine ⟨u, ru.up ks, ?_⟩
        rcases w' with b | ⟨a, b, b'⟩
        · exact .inl b
        · exact .inr ⟨a, b, by rw [beq_eq_false_iff_ne] at hy; simpa [hy] using b'⟩

/-! ### statements -/
/-- a statement that goes on -/
def Ex (prog : Program) (w : World) (A : Around) (env : Env) (s₀ : Shared) (ρ : Names) (st : Stmt) (ρ' : Names) : Prop :=
  ∀ (s : Shared) (Q : Flow → Shared → Prop) (E : Value → Shared → Prop), St env s₀ ρ s → (∀ s', St env s₀ ρ' s' → Kb (Mut env) s.heap s'.heap → Q .next s') → wpAny (model prog w) A (exec st env) Q E s
def Exs (prog : Program) (w : World) (A : Around) (env : Env) (s₀ : Shared) (ρ : Names) (st : List Stmt) (ρ' : Names) : Prop :=
  ∀ (s : Shared) (Q : Flow → Shared → Prop) (E : Value → Shared → Prop), St env s₀ ρ s → (∀ s', St env s₀ ρ' s' → Kb (Mut env) s.heap s'.heap → Q .next s') → wpAny (model prog w) A (execs st env) Q E s
/-- a body that returns -/
def ExR (prog : Program) (w : World) (A : Around) (env : Env) (s₀ : Shared) (ρ : Names) (st : List Stmt) (r : Dt) : Prop :=
  ∀ (s : Shared) (Q : Flow → Shared → Prop) (E : Value → Shared → Prop), St env s₀ ρ s → (∀ v s', Gr s₀ s' → Rd s'.heap v r → Q (.ret v) s') → wpAny (model prog w) A (execs st env) Q E s

variable {s₀ : Shared} {ρ ρ' ρ'' : Names}
theorem Exs.nil : Exs prog w A env s₀ ρ [] ρ := fun s Q E hs q => wpAny_execs_nil (q s hs fun _ _ _ e => e)
theorem Exs.cons {st : Stmt} {rest : List Stmt} (h : Ex prog w A env s₀ ρ st ρ') (h' : Exs prog w A env s₀ ρ' rest ρ'') : Exs prog w A env s₀ ρ (st :: rest) ρ'' := fun s Q E hs q =>
  wpAny_execs_cons (h s _ E hs fun s₁ hs₁ k₁ => h' s₁ _ E hs₁ fun s₂ hs₂ k₂ => q s₂ hs₂ (k₁.tr k₂))
theorem ExR.cons {st : Stmt} {rest : List Stmt} {r : Dt} (h : Ex prog w A env s₀ ρ st ρ') (h' : ExR prog w A env s₀ ρ' rest r) : ExR prog w A env s₀ ρ (st :: rest) r := fun s Q E hs q =>
  wpAny_execs_cons (h s _ E hs fun s₁ hs₁ _ => h' s₁ _ E hs₁ q)
theorem ExR.ret {e : Expr} {p : Pos} {rest : List Stmt} {r : Dt} (h : Ev prog w A env (Fc env s₀ ρ) e r) : ExR prog w A env s₀ ρ (.Return (some e) p :: rest) r := fun s Q E hs q =>
  wpAny_execs_cons (wpAny_Return_some (h s _ E hs.fc fun v s₁ k₁ r₁ => q v s₁ (Gr.tr hs.gr k₁) r₁))
theorem Ex.assign {x : Str} {p' p : Pos} {e : Expr} {d : Dt} (h : Ev prog w A env (Fc env s₀ ρ) e d) (hk : env.scope.kind = .function)
    (hx : env.kindOf x = some .local ∨ (env.kindOf x = some .cell ∧ ∃ c, env.cells.lookup x = some c)) (hsw : swapsWith e (some (.Name x p')) p.line env = pure false) :
    Ex prog w A env s₀ ρ (.Assign [.Name x p'] e p) ((x, d) :: ρ) := fun s Q E hs q =>
  wpAny_Assign_Name (h s _ E hs.fc fun v s₁ k₁ r₁ => store_ok (hs.keeps k₁) r₁ hk hx fun s₂ hs₂ k₂ => q s₂ hs₂ (Kb.tr (Keep.kb k₁.keep) k₂)) hsw
theorem Ex.ite {t : Expr} {b b' : List Stmt} {p : Pos} {x : Bool} (ht : Tst prog w A env (Fc env s₀ ρ) t x) (h : x = true → Exs prog w A env s₀ ρ b ρ') (h' : x = false → Exs prog w A env s₀ ρ b' ρ') : Ex prog w A env s₀ ρ (.If t b b' p) ρ' := fun s Q E hs q =>
  wpAny_If (ht s _ E hs.fc fun s₁ k₁ => by
    cases x with
    | true => exact h rfl s₁ _ E (hs.keeps k₁) fun s₂ hs₂ k₂ => q s₂ hs₂ (Kb.tr (Keep.kb k₁.keep) k₂)
    | false => exact h' rfl s₁ _ E (hs.keeps k₁) fun s₂ hs₂ k₂ => q s₂ hs₂ (Kb.tr (Keep.kb k₁.keep) k₂))
/-- if t: return .. -/
theorem ExR.ite {t : Expr} {b rest : List Stmt} {p : Pos} {x : Bool} {r : Dt} (ht : Tst prog w A env (Fc env s₀ ρ) t x) (h : x = true → ExR prog w A env s₀ ρ b r) (h' : x = false → ExR prog w A env s₀ ρ rest r) : ExR prog w A env s₀ ρ (.If t b [] p :: rest) r := fun s Q E hs q =>
  wpAny_execs_cons (wpAny_If (ht s _ E hs.fc fun s₁ k₁ => by
    cases x with
    | true => exact h rfl s₁ _ E (hs.keeps k₁) q
    | false => exact wpAny_execs_nil (h' rfl s₁ _ E (hs.keeps k₁) q)))
end Mine
end

section
open PySem PySem.W PyProof.Rows
set_option Elab.async false
set_option linter.unusedVariables false
set_option maxRecDepth 100000
namespace Mine
variable {w : World} {A : Around}

/-! ### the text's defs -/
abbrev pg : Program := PySem.Challenge.rw_rs0013_01.row.prog
def dfn (i : Nat) : Stmt := (PySem.Challenge.pw_rs0013_01.main.body[i]?).getD (.Pass ⟨0, 0, 0, 0⟩)
def dBody : Stmt → List Stmt
  | .FunctionDef _ _ b _ _ _ _ _ _ _ => b
  | _ => []
def dScope : Stmt → Scope
  | .FunctionDef _ _ _ _ _ _ sc _ _ _ => sc
  | _ => { kind := .function, names := [], isGenerator := false, isCoroutine := false, more := [] }
def dArgs : Stmt → Arguments
  | .FunctionDef _ a _ _ _ _ _ _ _ _ => a
  | _ => ⟨[], [], none, [], [], none, []⟩
abbrev fnAt (i : Nat) (name qual : Str) (doc pm : Value) (an : Option Addr) (cdv ct : Value) : FuncData := fnOf name qual (dArgs (dfn i)) (dBody (dfn i)) (dScope (dfn i)) .none .none doc pm an cdv ct
/-- the def number i lies at a -/
def DefAt (i : Nat) (a : Addr) (h : Heap) : Prop := ∃ o name qual doc pm an cdv ct, h.get? a = some o ∧ o.data = .func (fnAt i name qual doc pm an cdv ct) ∧ h.CodeRec cdv qual
theorem DefAt.kp {i : Nat} {a : Addr} : Kp (DefAt i a) := fun h h' ⟨o, n, q, d, p, an, cd, ct, e, e', c⟩ k => ⟨o, n, q, d, p, an, cd, ct, k _ _ e, e', c.keeps k⟩

/-- the frame's names at the call's start -/
theorem start_names {env : Env} {s₀ s : Shared} {binds : List (Str × Value)} {ρ : Names} (x : InCallC s₀ env.locals (bindL env.kindOf binds fun _ => none) env.cells (bindC env.kindOf binds fun _ => none) s)
    (h : ∀ y d, ρ.lookup y = some d → ∃ v, Rd s₀.heap v d ∧ env.kindOf y = some .local ∧ bindL env.kindOf binds (fun _ => none) y = some v) : St env s₀ ρ s :=
  ⟨_, _, x, fun y d e => by
    obtain ⟨v, r, k, b⟩ := h y d e
    exact ⟨v, r.up (Keep.seq x.toInCall.keep), .inl ⟨k, b⟩⟩⟩

theorem call_def {i : Nat} {a : Addr} {s : Shared} {vs : List Value} {Q : Value → Shared → Prop} {E : Value → Shared → Prop} (hd : DefAt i a s.heap) (hlim : s.heap.NoLimit) (hroom : A.depth < recursionLimit)
    {xs : List Str} (hbind : ∀ n q d p an cd ct, bindArgs (fnAt i n q d p an cd ct) ⟨vs, []⟩ = pure (xs.zip vs)) (hloc : ∀ x ∈ xs, (dScope (dfn i)).names.lookup x = some .local)
    (hk : (dScope (dfn i)).kind = .function) (hco : (dScope (dfn i)).isCoroutine = false) (hgen : (dScope (dfn i)).isGenerator = false)
    (h : ∀ fd, (∃ n q d p an cd ct, fd = fnAt i n q d p an cd ct) → ∀ s', InCallC s (callEnvC fd s.heap.objs.size a).locals (bindL (callEnvC fd s.heap.objs.size a).kindOf (xs.zip vs) fun _ => none) (callEnvC fd s.heap.objs.size a).cells (bindC (callEnvC fd s.heap.objs.size a).kindOf (xs.zip vs) fun _ => none) s' →
      ∀ E', wpAny (model pg w) (A.deeper (callEnvC fd s.heap.objs.size a)) (execs (dBody (dfn i)) (callEnvC fd s.heap.objs.size a)) (fun f s'' => ∃ v, f = .ret v ∧ Q v s'') E' s') :
    wpAny (model pg w) A (call (.ref a) vs) Q E s := by
  obtain ⟨o, n, q, d, p, an, cd, ct, ho, hdata, hcd⟩ := hd
  refine wpAny_call (codeAny_call_function hroom ho hdata hco hgen rfl hcd ?_)
  rw [hbind]
  refine wpAny_pure (wpAny_newFunctionEnv_cells hk (fun x hx => .inl (hloc _ (List.of_mem_zip hx).1)) fun env he s' x => ?_)
  subst he
  refine ⟨hlim.keeps x.toInCall.keep, codeAny_func (wpAny_mono (h _ ⟨n, q, d, p, an, cd, ct, rfl⟩ s' x _) (fun f s'' hf => ?_) fun _ _ e => e)⟩
  obtain ⟨v, rfl, hq⟩ := hf
  exact hq
end Mine
end

section
open PySem PySem.W PyProof.Rows
set_option Elab.async false
set_option linter.unusedVariables false
set_option maxRecDepth 100000
namespace Mine
variable {w : World} {A : Around}

/-- what stands under the whole call -/
structure Base (F : Nat → Addr) (h : Heap) : Prop where
  lim : h.NoLimit
  g : ∃ mg, h.Ns mainGlobals mg ∧ mg "_sanitize" = some (.ref (F 1)) ∧ mg "_generate_overlap_table" = some (.ref (F 3)) ∧ mg "_law_family" = some (.ref (F 5)) ∧ mg "_law_octets" = some (.ref (F 6)) ∧
    mg "_law_places" = some (.ref (F 7)) ∧ mg "_law_overlap" = some (.ref (F 8)) ∧ mg "_law_text" = some (.ref (F 9))
  b : ∃ mg mb, h.Ns mainGlobals mg ∧ h.Ns builtinsNs mb ∧ (mg "len" = none ∧ mb "len" = some (.builtin "len")) ∧ (mg "range" = none ∧ mb "range" = some (.type "range")) ∧ (mg "chr" = none ∧ mb "chr" = some (.builtin "chr")) ∧
    (mg "ord" = none ∧ mb "ord" = some (.builtin "ord")) ∧ (mg "sum" = none ∧ mb "sum" = some (.builtin "sum")) ∧ (mg "isinstance" = none ∧ mb "isinstance" = some (.builtin "isinstance")) ∧ (mg "bool" = none ∧ mb "bool" = some (.type "bool"))
  defs : ∀ i, i ∈ [1, 3, 5, 6, 7, 8, 9] → DefAt i (F i) h
theorem Base.kp {F : Nat → Addr} : Kp (Base F) := fun h h' x k => by
  refine ⟨x.lim.keeps k, ?_, ?_, fun i hi => DefAt.kp _ _ (x.defs i hi) k⟩
  · obtain ⟨mg, a, b⟩ := x.g
    exact ⟨mg, a.keeps k, b⟩
  · obtain ⟨mg, mb, a, a', b⟩ := x.b
    exact ⟨mg, mb, a.keeps k, a'.keeps k, b⟩
variable {F : Nat → Addr}

/-- a sign's octets -/
def octs (c : Int) : List Int :=
  if c < 128 then [c] else if c < 2048 then [192 + c / 64, 128 + c % 64] else if c < 65536 then [224 + c / 4096, 128 + c / 64 % 64, 128 + c % 64]
  else [240 + c / 262144, 128 + c / 4096 % 64, 128 + c / 64 % 64, 128 + c % 64]

theorem fdiv_pos (a : Int) {b : Int} (hb : 0 < b) : a.fdiv b = a / b := Int.fdiv_eq_ediv_of_nonneg a (Int.le_of_lt hb)
theorem fmod_pos (a : Int) {b : Int} (hb : 0 < b) : a.fmod b = a % b := Int.fmod_eq_emod_of_nonneg a (Int.le_of_lt hb)
variable {prog : Program} {env : Env} {C : Heap → Prop}
theorem Op2.div' {a b : Int} (hb : 0 < b) (hp : Builtin.divisionGoesByPylong a b = false) : Op2 prog w A .FloorDiv (.int a) (.int b) (.int (a / b)) := fdiv_pos a hb ▸ Op2.divInt (Int.ne_of_gt hb) hp
theorem Op2.mod' {a b : Int} (hb : 0 < b) : Op2 prog w A .Mod (.int a) (.int b) (.int (a % b)) := fmod_pos a hb ▸ Op2.modInt (Int.ne_of_gt hb)

set_option maxHeartbeats 4000000 in
theorem octets_fn {c : Int} (h0 : 0 ≤ c) (h1 : c < 1114112) (hR : Room A 1) : Fn pg w A (Base F) (.ref (F 6)) [.int c] (.li (octs c)) := fun s Q E vs B r q => by
  obtain ⟨v, rfl, r'⟩ := Rds.one r
  refine call_def (i := 6) (xs := ["code"]) (B.defs 6 (by decide)) B.lim hR.d (fun _ _ _ _ _ _ _ => rfl) (by decide +kernel) rfl rfl rfl fun fd hfd s' x E' => ?_
  obtain ⟨n, qn, d, p, an, cd, ct, rfl⟩ := hfd
  generalize henv : callEnvC (fnAt 6 n qn d p an cd ct) s.heap.objs.size (F 6) = env at x ⊢
  have hk : env.scope.kind = .function := by rw [← henv]; rfl
  have hst : St env s [("code", .int c)] s' := start_names x fun y dd e => by
    rw [List.lookup_cons] at e
    cases hy : y == "code" with
    | true =>
      rw [hy] at e; cases e
      rw [beq_iff_eq] at hy; subst hy
      exact ⟨v, r', by rw [← henv]; rfl, by rw [← henv]; rfl⟩
    | false => rw [hy] at e; cases e
  have key : ExR pg w (A.deeper env) env s [("code", .int c)] (dBody (dfn 6)) (.li (octs c)) := by
    have kc : Kp (Fc env s [("code", .int c)]) := Fc.kp
    have code : ∀ pp, Ev pg w (A.deeper env) env (Fc env s [("code", .int c)]) (.Name "code" pp) (.int c) := fun pp => Ev.var rfl hk
    refine ExR.ite (x := decide (c < 128)) ?_ (fun h => ?_) (fun h => ?_)
    · exact Tst.cmp kc (code _) Ev.constInt Cmp2.ltInt
    · have e : octs c = [c] := by unfold octs; rw [if_pos (by simpa using h)]
      rw [e]
      exact ExR.ret (Ev.listI (ns := [c]) (Evs.one kc (code _)) rfl (by simp [sizeLine]))
    have h128 : ¬ c < 128 := by simpa using h
    refine ExR.ite (x := decide (c < 2048)) ?_ (fun h => ?_) (fun h => ?_)
    · exact Tst.cmp kc (code _) Ev.constInt Cmp2.ltInt
    · have e : octs c = [192 + c / 64, 128 + c % 64] := by unfold octs; rw [if_neg h128, if_pos (by simpa using h)]
      rw [e]
      refine ExR.ret (Ev.listI (ns := [192 + c / 64, 128 + c % 64]) (Evs.two kc ?_ ?_) rfl (by simp [sizeLine]))
      · exact Ev.bin kc Ev.constInt (Ev.bin kc (code _) Ev.constInt (Op2.div' (by decide) (PyProof.noPylong_small (by decide)))) Op2.addInt
      · exact Ev.bin kc Ev.constInt (Ev.bin kc (code _) Ev.constInt (Op2.mod' (by decide))) Op2.addInt
    have h2048 : ¬ c < 2048 := by simpa using h
    refine ExR.ite (x := decide (c < 65536)) ?_ (fun h => ?_) (fun h => ?_)
    · exact Tst.cmp kc (code _) Ev.constInt Cmp2.ltInt
    · have e : octs c = [224 + c / 4096, 128 + c / 64 % 64, 128 + c % 64] := by unfold octs; rw [if_neg h128, if_neg h2048, if_pos (by simpa using h)]
      rw [e]
      refine ExR.ret (Ev.listI (ns := [224 + c / 4096, 128 + c / 64 % 64, 128 + c % 64]) (Evs.three kc ?_ ?_ ?_) rfl (by simp [sizeLine]))
      · exact Ev.bin kc Ev.constInt (Ev.bin kc (code _) Ev.constInt (Op2.div' (by decide) (PyProof.noPylong_small (by decide)))) Op2.addInt
      · exact Ev.bin kc Ev.constInt (Ev.bin kc (Ev.bin kc (code _) Ev.constInt (Op2.div' (by decide) (PyProof.noPylong_small (by decide)))) Ev.constInt (Op2.mod' (by decide))) Op2.addInt
      · exact Ev.bin kc Ev.constInt (Ev.bin kc (code _) Ev.constInt (Op2.mod' (by decide))) Op2.addInt
    have h65536 : ¬ c < 65536 := by simpa using h
    have e : octs c = [240 + c / 262144, 128 + c / 4096 % 64, 128 + c / 64 % 64, 128 + c % 64] := by unfold octs; rw [if_neg h128, if_neg h2048, if_neg h65536]
    rw [e]
    refine ExR.ret (Ev.listI (ns := [240 + c / 262144, 128 + c / 4096 % 64, 128 + c / 64 % 64, 128 + c % 64]) (Evs.cons kc ?_ (Evs.three kc ?_ ?_ ?_)) rfl (by simp [sizeLine]))
    · exact Ev.bin kc Ev.constInt (Ev.bin kc (code _) Ev.constInt (Op2.div' (by decide) (PyProof.noPylong_small (by decide)))) Op2.addInt
    · exact Ev.bin kc Ev.constInt (Ev.bin kc (Ev.bin kc (code _) Ev.constInt (Op2.div' (by decide) (PyProof.noPylong_small (by decide)))) Ev.constInt (Op2.mod' (by decide))) Op2.addInt
    · exact Ev.bin kc Ev.constInt (Ev.bin kc (Ev.bin kc (code _) Ev.constInt (Op2.div' (by decide) (PyProof.noPylong_small (by decide)))) Ev.constInt (Op2.mod' (by decide))) Op2.addInt
    · exact Ev.bin kc Ev.constInt (Ev.bin kc (code _) Ev.constInt (Op2.mod' (by decide))) Op2.addInt
  exact key s' _ E' hst fun v s'' k r => ⟨v, rfl, q v s'' k r⟩
end Mine
end

section
open PySem PySem.W PyProof.Rows
set_option Elab.async false
set_option linter.unusedVariables false
set_option linter.unusedSimpArgs false
set_option maxRecDepth 100000
namespace Mine
variable {prog : Program} {w : World} {A : Around} {env : Env} {C : Heap → Prop} {F : Nat → Addr}

/-! ### starts -/
section
variable {s s' : Shared} {x y z : Str} {u v t : Value} {d e f : Dt}
theorem start1 (hx : env.kindOf x = some .local) (X : InCallC s env.locals (bindL env.kindOf [(x, v)] fun _ => none) env.cells (bindC env.kindOf [(x, v)] fun _ => none) s') (r : Rd s.heap v d) : St env s [(x, d)] s' :=
  start_names X fun a b h => by
    rw [List.lookup_cons] at h
    cases ha : a == x with
    | true => rw [ha] at h; cases h; rw [beq_iff_eq] at ha; subst ha; exact ⟨v, r, hx, by simp [bindL, hx]⟩
    | false => rw [ha] at h; cases h
theorem start2 (hxy : x ≠ y) (hx : env.kindOf x = some .local) (hy : env.kindOf y = some .local) (X : InCallC s env.locals (bindL env.kindOf [(x, v), (y, u)] fun _ => none) env.cells (bindC env.kindOf [(x, v), (y, u)] fun _ => none) s') (r : Rd s.heap v d) (r' : Rd s.heap u e) : St env s [(x, d), (y, e)] s' :=
  start_names X fun a b h => by
    rw [List.lookup_cons] at h
    cases ha : a == x with
    | true => rw [ha] at h; cases h; rw [beq_iff_eq] at ha; subst ha; exact ⟨v, r, hx, by simp [bindL, hx, hy, hxy]⟩
    | false =>
      rw [ha] at h
      dsimp only at h
      rw [List.lookup_cons] at h
      cases hb : a == y with
      | true => rw [hb] at h; cases h; rw [beq_iff_eq] at hb; subst hb; exact ⟨u, r', hy, by simp [bindL, hx, hy]⟩
      | false => rw [hb] at h; cases h
theorem start3 (hxy : x ≠ y) (hxz : x ≠ z) (hyz : y ≠ z) (hx : env.kindOf x = some .local) (hy : env.kindOf y = some .local) (hz : env.kindOf z = some .local) (X : InCallC s env.locals (bindL env.kindOf [(x, v), (y, u), (z, t)] fun _ => none) env.cells (bindC env.kindOf [(x, v), (y, u), (z, t)] fun _ => none) s') (r : Rd s.heap v d) (r' : Rd s.heap u e) (r'' : Rd s.heap t f) : St env s [(x, d), (y, e), (z, f)] s' :=
  start_names X fun a b h => by
    rw [List.lookup_cons] at h
    cases ha : a == x with
    | true => rw [ha] at h; cases h; rw [beq_iff_eq] at ha; subst ha; exact ⟨v, r, hx, by simp [bindL, hx, hy, hz, hxy, hxz]⟩
    | false =>
      rw [ha] at h
      dsimp only at h
      rw [List.lookup_cons] at h
      cases hb : a == y with
      | true => rw [hb] at h; cases h; rw [beq_iff_eq] at hb; subst hb; exact ⟨u, r', hy, by simp [bindL, hx, hy, hz, hyz]⟩
      | false =>
        rw [hb] at h
        dsimp only at h
        rw [List.lookup_cons] at h
        cases hc : a == z with
        | true => rw [hc] at h; cases h; rw [beq_iff_eq] at hc; subst hc; exact ⟨t, r'', hz, by simp [bindL, hx, hy, hz]⟩
        | false => rw [hc] at h; cases h
end

/-! ### join -/
theorem Ev.join {o arg : Expr} {apos pos : Pos} {x : Str} {l : List Str} (kc : Kp C) (ho : Ev prog w A env C o (.str x)) (ha : Ev prog w A env C arg (.ls l)) (hsz : (l.map (·.length)).sum + l.length * x.length ≤ 16777216)
    (hbase : attributeBase o "join" env (eval o env) = eval o env) (hline : (apos.endLine == pos.line) = true) (hb : backTo pos (starEach [arg] env) = trees [arg] env) : Ev prog w A env C (.Call (.Attribute o "join" apos) [arg] [] pos) (.str (Txt.join x l)) := fun s Q E c q => by
  refine wpAny_Call_method (T := "str") (id := "str.join") hbase (by rw [hb]; rfl) hline PySem.F.plainAttrs_str PySem.F.slot_str_join PySem.F.type_str_join (ho s _ E c fun v s₁ k₁ r₁ => ?_)
  obtain ⟨t, rfl⟩ := r₁
  refine ⟨typeIs_str _ _ _, fun a e => (nomatch e), ?_⟩
  rw [hb]
  refine Calls.callWith_builtin rfl (Calls.evalArgs_plain (Evs.one kc ha s₁ _ E (kc _ _ c k₁.keep) fun vs s₂ k₂ r₂ => ?_))
  obtain ⟨v, rfl, r⟩ := Rds.one r₂
  obtain ⟨a, us, rfl, p, hi⟩ := r
  exact PyProof.Rows.join_list p.isList hi hsz fun t' k => q _ _ (Gr.tr k₁ (Gr.tr k₂ (Gr.toks _))) ⟨_, rfl⟩

def txt (l : List Int) : Str := ⟨(l.map Int.toNat).toArray⟩
theorem join_empty (l : List Int) : Txt.join (Str.ofString "") (l.map fun c => (⟨#[c.toNat]⟩ : Str)) = txt l := by
  unfold Txt.join
  rw [StrLaws.glued_eq_join]
  have e0 : (Str.ofString "") = Str.empty := by decide +kernel
  rw [e0]
  induction l with
  | nil => rfl
  | cons c r ih =>
    cases r with
    | nil => rfl
    | cons c' r' =>
      show (⟨#[c.toNat]⟩ : Str) ++ Str.empty ++ Str.join Str.empty (List.map (fun c => (⟨#[c.toNat]⟩ : Str)) (c' :: r')) = _
      rw [ih, Str.append_empty]
      apply Str.ext'
      rw [Str.cps_append]
      simp [txt]

/-! ### names of the top's, within any frame or block of the text's -/
theorem EvV.top {C : Heap → Prop} {x : Str} {p : Pos} {V : Value} (hg : env.globals = mainGlobals) (hk : env.scope.kind = .function) (hx : env.kindOf x = some .globalImplicit) (hC : ∀ h, C h → ∃ mg, h.Ns mainGlobals mg ∧ mg x = some V)
    (hd : (x == ("__debug__" : Str)) = false := by decide) : EvV prog w A env C (.Name x p) V := EvV.global hk hx (by rw [hg]; exact hC) hd
theorem EvV.bi {C : Heap → Prop} {x : Str} {p : Pos} {V : Value} (hg : env.globals = mainGlobals) (hb : env.builtins = builtinsNs) (hk : env.scope.kind = .function) (hx : env.kindOf x = some .globalImplicit)
    (hC : ∀ h, C h → ∃ mg mb, h.Ns mainGlobals mg ∧ mg x = none ∧ h.Ns builtinsNs mb ∧ mb x = some V)
    (hd : (x == ("__debug__" : Str)) = false := by decide) : EvV prog w A env C (.Name x p) V := EvV.builtin hk hx (by rw [hg, hb]; exact hC) hd

/-- a frame of the text's -/
structure Own (env : Env) : Prop where
  kind : env.scope.kind = .function
  globals : env.globals = mainGlobals
  builtins : env.builtins = builtinsNs
theorem Own.call {i : Nat} {n q : Str} {d p : Value} {an : Option Addr} {cd ct : Value} {L a : Addr} (hk : (dScope (dfn i)).kind = .function) : Own (callEnvC (fnAt i n q d p an cd ct) L a) := ⟨hk, rfl, rfl⟩
theorem Own.comp {scope : Scope} {cl : List (Str × Addr)} {K : Addr} (o : Own env) (hk : scope.kind = .function) : Own (compEnvC scope cl K env) := ⟨hk, o.globals, o.builtins⟩

section
variable {s₀ : Shared} {C : Heap → Prop}
theorem vLen {p : Pos} (o : Own env) (hC : ∀ h, C h → Base F h) (hx : env.kindOf "len" = some .globalImplicit) : EvV prog w A env C (.Name "len" p) (.builtin "len") :=
  EvV.bi o.globals o.builtins o.kind hx fun h c => by obtain ⟨mg, mb, a, b, x⟩ := (hC h c).b; exact ⟨mg, mb, a, x.1.1, b, x.1.2⟩
theorem vRange {p : Pos} (o : Own env) (hC : ∀ h, C h → Base F h) (hx : env.kindOf "range" = some .globalImplicit) : EvV prog w A env C (.Name "range" p) (.type "range") :=
  EvV.bi o.globals o.builtins o.kind hx fun h c => by obtain ⟨mg, mb, a, b, _, x, _⟩ := (hC h c).b; exact ⟨mg, mb, a, x.1, b, x.2⟩
theorem vChr {p : Pos} (o : Own env) (hC : ∀ h, C h → Base F h) (hx : env.kindOf "chr" = some .globalImplicit) : EvV prog w A env C (.Name "chr" p) (.builtin "chr") :=
  EvV.bi o.globals o.builtins o.kind hx fun h c => by obtain ⟨mg, mb, a, b, _, _, x, _⟩ := (hC h c).b; exact ⟨mg, mb, a, x.1, b, x.2⟩
theorem vOrd {p : Pos} (o : Own env) (hC : ∀ h, C h → Base F h) (hx : env.kindOf "ord" = some .globalImplicit) : EvV prog w A env C (.Name "ord" p) (.builtin "ord") :=
  EvV.bi o.globals o.builtins o.kind hx fun h c => by obtain ⟨mg, mb, a, b, _, _, _, x, _⟩ := (hC h c).b; exact ⟨mg, mb, a, x.1, b, x.2⟩
theorem vSum {p : Pos} (o : Own env) (hC : ∀ h, C h → Base F h) (hx : env.kindOf "sum" = some .globalImplicit) : EvV prog w A env C (.Name "sum" p) (.builtin "sum") :=
  EvV.bi o.globals o.builtins o.kind hx fun h c => by obtain ⟨mg, mb, a, b, _, _, _, _, x, _⟩ := (hC h c).b; exact ⟨mg, mb, a, x.1, b, x.2⟩
theorem vIsi {p : Pos} (o : Own env) (hC : ∀ h, C h → Base F h) (hx : env.kindOf "isinstance" = some .globalImplicit) : EvV prog w A env C (.Name "isinstance" p) (.builtin "isinstance") :=
  EvV.bi o.globals o.builtins o.kind hx fun h c => by obtain ⟨mg, mb, a, b, _, _, _, _, _, x, _⟩ := (hC h c).b; exact ⟨mg, mb, a, x.1, b, x.2⟩
theorem vBool {p : Pos} (o : Own env) (hC : ∀ h, C h → Base F h) (hx : env.kindOf "bool" = some .globalImplicit) : EvV prog w A env C (.Name "bool" p) (.type "bool") :=
  EvV.bi o.globals o.builtins o.kind hx fun h c => by obtain ⟨mg, mb, a, b, _, _, _, _, _, _, x⟩ := (hC h c).b; exact ⟨mg, mb, a, x.1, b, x.2⟩
theorem plainDef {i : Nat} (hC : ∀ h, C h → Base F h) (hi : i ∈ [1, 3, 5, 6, 7, 8, 9]) : PlainV C (.ref (F i)) := .inr (.inr ⟨_, rfl, fun h c => by
  obtain ⟨o, n, q, d, p, an, cd, ct, e, e', _⟩ := (hC h c).defs i hi
  exact ⟨o, _, e, e'⟩⟩)
theorem plainBi {id : String} : PlainV C (.builtin id) := .inl ⟨_, rfl⟩
theorem vOct {p : Pos} (o : Own env) (hC : ∀ h, C h → Base F h) (hx : env.kindOf "_law_octets" = some .globalImplicit) : EvV prog w A env C (.Name "_law_octets" p) (.ref (F 6)) :=
  EvV.top o.globals o.kind hx fun h c => by obtain ⟨mg, a, _, _, _, x, _⟩ := (hC h c).g; exact ⟨mg, a, x⟩
theorem vSan {p : Pos} (o : Own env) (hC : ∀ h, C h → Base F h) (hx : env.kindOf "_sanitize" = some .globalImplicit) : EvV prog w A env C (.Name "_sanitize" p) (.ref (F 1)) :=
  EvV.top o.globals o.kind hx fun h c => by obtain ⟨mg, a, x, _⟩ := (hC h c).g; exact ⟨mg, a, x⟩
theorem vTab {p : Pos} (o : Own env) (hC : ∀ h, C h → Base F h) (hx : env.kindOf "_generate_overlap_table" = some .globalImplicit) : EvV prog w A env C (.Name "_generate_overlap_table" p) (.ref (F 3)) :=
  EvV.top o.globals o.kind hx fun h c => by obtain ⟨mg, a, _, x, _⟩ := (hC h c).g; exact ⟨mg, a, x⟩
theorem vFam {p : Pos} (o : Own env) (hC : ∀ h, C h → Base F h) (hx : env.kindOf "_law_family" = some .globalImplicit) : EvV prog w A env C (.Name "_law_family" p) (.ref (F 5)) :=
  EvV.top o.globals o.kind hx fun h c => by obtain ⟨mg, a, _, _, x, _⟩ := (hC h c).g; exact ⟨mg, a, x⟩
theorem vPla {p : Pos} (o : Own env) (hC : ∀ h, C h → Base F h) (hx : env.kindOf "_law_places" = some .globalImplicit) : EvV prog w A env C (.Name "_law_places" p) (.ref (F 7)) :=
  EvV.top o.globals o.kind hx fun h c => by obtain ⟨mg, a, _, _, _, _, x, _⟩ := (hC h c).g; exact ⟨mg, a, x⟩
theorem vOvl {p : Pos} (o : Own env) (hC : ∀ h, C h → Base F h) (hx : env.kindOf "_law_overlap" = some .globalImplicit) : EvV prog w A env C (.Name "_law_overlap" p) (.ref (F 8)) :=
  EvV.top o.globals o.kind hx fun h c => by obtain ⟨mg, a, _, _, _, _, _, x, _⟩ := (hC h c).g; exact ⟨mg, a, x⟩
theorem vTxt {p : Pos} (o : Own env) (hC : ∀ h, C h → Base F h) (hx : env.kindOf "_law_text" = some .globalImplicit) : EvV prog w A env C (.Name "_law_text" p) (.ref (F 9)) :=
  EvV.top o.globals o.kind hx fun h c => by obtain ⟨mg, a, _, _, _, _, _, _, x⟩ := (hC h c).g; exact ⟨mg, a, x⟩
end
theorem Fn.imp {C C' : Heap → Prop} {V : Value} {ds : List Dt} {r : Dt} (h : Fn prog w A C V ds r) (i : ∀ x, C' x → C x) : Fn prog w A C' V ds r := fun s Q E vs c x q => h s Q E vs (i _ c) x q

/-- the text of signs, with a mark -/
def text (l : List Int) (part : Int) : Str := txt l ++ (if 0 < part then (Str.ofString "\ufffd") else Str.ofString "")

theorem sum_ones (l : List Int) : ((l.map fun c => (⟨#[c.toNat]⟩ : Str)).map (·.length)).sum = l.length := by
  induction l with
  | nil => rfl
  | cons c r ih => simp only [List.map_cons, List.sum_cons, List.length_cons, ih]; show 1 + _ = _; omega

/-- what a block's table of names must be -/
def scopeOk (scope : Scope) (x : Str) : Bool := scope.names.all (fun y => y.2 != .cell) && scope.kind == .function && scope.names.all (fun y => y.2 != .local || scope.names.lookup y.1 == some .local) && scope.names.lookup x == some .local
theorem scopeOk.use {scope : Scope} {x : Str} (h : scopeOk scope x = true) : (∀ y ∈ scope.names, y.2 ≠ .cell) ∧ scope.kind = .function ∧ (∀ y ∈ scope.names, y.2 = .local → scope.names.lookup y.1 = some .local) ∧ scope.names.lookup x = some .local := by
  simp only [scopeOk, Bool.and_eq_true, List.all_eq_true, bne_iff_ne, ne_eq, Bool.or_eq_true, beq_iff_eq] at h
  obtain ⟨⟨⟨h1, h2⟩, h3⟩, h4⟩ := h
  exact ⟨h1, h2, fun y hy hl => (h3 y hy).resolve_left (fun h => h hl), h4⟩

section
variable {elt iter : Expr} {x : Str} {px : Pos} {ifs : List Expr} {scope : Scope} {cl : List (Str × Addr)} {pos : Pos} {D : Nat → Dt}
theorem Ev.compI (n : Nat) (p : Nat → Bool) (r : Nat → Int) {L : List Int} (kc : Kp C) (hclos : closureFor scope env = pure cl) (hok : scopeOk scope x = true)
    (src : Src prog w A env C iter n D) (hsz : n ≤ sizeLine)
    (ht : ∀ K i, i < n → TestsAre prog w A (compEnvC scope cl K env) (fun h => C h ∧ Bnd h K x (D i)) ifs (p i))
    (he : ∀ K i, i < n → p i = true → Ev prog w A (compEnvC scope cl K env) (fun h => C h ∧ Bnd h K x (D i)) elt (.int (r i)))
    (hs : ∀ x, foldedSetIterable iter env x = pure x) (hL : ((List.range n).filter p).map r = L) : Ev prog w A env C (.ListComp elt [⟨.Name x px, iter, ifs, 0⟩] scope pos) (.li L) := by
  obtain ⟨h1, h2, h3, h4⟩ := scopeOk.use hok
  exact hL ▸ EvL.li (EvL.comp kc hclos h1 h2 h3 h4 src hsz (fun _ _ => trivial) ht he hs)
theorem Ev.compS (n : Nat) (p : Nat → Bool) (r : Nat → Str) {L : List Str} (kc : Kp C) (hclos : closureFor scope env = pure cl) (hok : scopeOk scope x = true)
    (src : Src prog w A env C iter n D) (hsz : n ≤ sizeLine)
    (ht : ∀ K i, i < n → TestsAre prog w A (compEnvC scope cl K env) (fun h => C h ∧ Bnd h K x (D i)) ifs (p i))
    (he : ∀ K i, i < n → p i = true → Ev prog w A (compEnvC scope cl K env) (fun h => C h ∧ Bnd h K x (D i)) elt (.str (r i)))
    (hs : ∀ x, foldedSetIterable iter env x = pure x) (hL : ((List.range n).filter p).map r = L) : Ev prog w A env C (.ListComp elt [⟨.Name x px, iter, ifs, 0⟩] scope pos) (.ls L) := by
  obtain ⟨h1, h2, h3, h4⟩ := scopeOk.use hok
  exact hL ▸ EvL.ls (EvL.comp kc hclos h1 h2 h3 h4 src hsz (fun _ _ => trivial) ht he hs)
theorem Ev.compP (n : Nat) (p : Nat → Bool) (r : Nat → Int × Int) {L : List (Int × Int)} (kc : Kp C) (hclos : closureFor scope env = pure cl) (hok : scopeOk scope x = true)
    (src : Src prog w A env C iter n D) (hsz : n ≤ sizeLine)
    (ht : ∀ K i, i < n → TestsAre prog w A (compEnvC scope cl K env) (fun h => C h ∧ Bnd h K x (D i)) ifs (p i))
    (he : ∀ K i, i < n → p i = true → Ev prog w A (compEnvC scope cl K env) (fun h => C h ∧ Bnd h K x (D i)) elt (.pr (r i).1 (r i).2))
    (hs : ∀ x, foldedSetIterable iter env x = pure x) (hL : ((List.range n).filter p).map r = L) : Ev prog w A env C (.ListComp elt [⟨.Name x px, iter, ifs, 0⟩] scope pos) (.prs L) := by
  obtain ⟨h1, h2, h3, h4⟩ := scopeOk.use hok
  exact hL ▸ EvL.prs (EvL.comp kc hclos h1 h2 h3 h4 src hsz (fun _ _ => trivial) ht he hs)
end

theorem range_map {α β : Type} (l : List α) (a : α) (f : α → β) : ((List.range l.length).filter fun _ => true).map (fun i => f (l.getD i a)) = l.map f := by
  rw [List.filter_eq_self.mpr (fun _ _ => rfl)]
  apply List.ext_getElem
  · simp
  · intro i h1 h2
    simp at h1 h2
    simp [List.getD_eq_getElem?_getD, h1]

theorem getD_mem {α : Type} {l : List α} {i : Nat} {a : α} (h : i < l.length) : l.getD i a ∈ l := by
  rw [List.getD_eq_getElem?_getD, List.getElem?_eq_getElem h]; exact List.getElem_mem h

set_option maxHeartbeats 4000000 in
theorem text_fn {l : List Int} {part : Int} (hl : ∀ c ∈ l, 0 ≤ c ∧ c < 1114112) (hn : l.length ≤ 64) (hR : Room A 1) : Fn pg w A (Base F) (.ref (F 9)) [.li l, .int part] (.str (text l part)) := fun s Q E vs B r q => by
  obtain ⟨v, u, rfl, r₁, r₂⟩ := Rds.two r
  refine call_def (i := 9) (xs := ["signs", "part"]) (B.defs 9 (by decide)) B.lim hR.d (fun _ _ _ _ _ _ _ => rfl) (by decide +kernel) rfl rfl rfl fun fd hfd s' x E' => ?_
  obtain ⟨n, qn, d, p, an, cd, ct, rfl⟩ := hfd
  generalize henv : callEnvC (fnAt 9 n qn d p an cd ct) s.heap.objs.size (F 9) = env at x ⊢
  have own : Own env := by rw [← henv]; exact Own.call rfl
  have hst : St env s [("signs", .li l), ("part", .int part)] s' := start2 (by decide +kernel) (by rw [← henv]; rfl) (by rw [← henv]; rfl) x r₁ r₂
  have hB : ∀ {ρ : Names} h, Fc env s ρ h → Base F h := fun h c => Fc.base Base.kp B c
  have hA : (A.deeper env).handled = none := hR.handled
  have hsl : 64 ≤ sizeLine := by decide
  have key : ExR pg w (A.deeper env) env s [("signs", .li l), ("part", .int part)] (dBody (dfn 9)) (.str (text l part)) := by
    have kc : Kp (Fc env s [("signs", .li l), ("part", .int part)]) := Fc.kp
    refine ExR.ret ?_
    unfold text
    rw [← join_empty]
    refine Ev.bin kc (Ev.join kc Ev.constStr ?_ ?_ rfl rfl rfl) ?_ (Op2.addStr ?_)
    · refine Ev.compS l.length (fun _ => true) (fun i => ⟨#[(l.getD i 0).toNat]⟩) kc rfl (by decide +kernel) (Src.list hA Lst.li (Ev.var rfl own.kind)) (Nat.le_trans hn hsl) (fun _ _ _ => TestsAre.nil) (fun K i hi _ => ?_) (fun _ => rfl) (range_map l 0 fun c => (⟨#[c.toNat]⟩ : Str))
      have hc := hl _ (getD_mem (a := 0) hi)
      exact Ev.call kc.bnd (vChr (F := F) (own.comp rfl) (fun h c => hB h c.1) rfl) plainBi (Evs.one kc.bnd (Ev.inner (fun h c => c.2) rfl rfl)) (Fn.chr hc.1 (by omega)) rfl
    · rw [sum_ones, List.length_map]
      show _ + _ * 0 ≤ _
      omega
    · refine Tst.ite kc (Tst.cmp kc (Ev.var rfl own.kind) Ev.constInt Cmp2.gtInt) (fun h => ?_) (fun h => ?_)
      · rw [if_pos (by simpa using h)]; exact Ev.constStr
      · rw [if_neg (by simpa using h)]; exact Ev.constStr
    · rw [join_empty]
      have e1 : (txt l).length = l.length := by simp [txt, Str.length]
      have e2 : (if 0 < part then (Str.ofString "\ufffd") else Str.ofString "").length ≤ 1 := by split <;> decide +kernel
      rw [e1]
      have : (65 : Nat) ≤ sizeLine := by decide
      omega
  exact key s' _ E' hst fun v s'' k r => ⟨v, rfl, q v s'' k r⟩
end Mine
end

section
open PySem PySem.W PyProof.Rows
set_option Elab.async false
set_option linter.unusedVariables false
set_option maxRecDepth 100000
namespace Mine
variable {prog : Program} {w : World} {A : Around} {env : Env} {C : Heap → Prop} {F : Nat → Addr} {s₀ : Shared} {ρ : Names}

/-- an iterator's step is none of the frame's business -/
theorem St.iter {s : Shared} {I : Addr} (x : St env s₀ ρ s) (hI : IsFs s.heap I) (hn : s₀.heap.get? I = none) {h : Heap} {t : Nat} (k : ∀ b o, b ≠ I → s.heap.get? b = some o → h.get? b = some o) : St env s₀ ρ { s with heap := h, toks := t } := by
  obtain ⟨m, cm, i, r⟩ := x
  have ks : KeepSeq s.heap h := KeepSeq.fs hI k
  obtain ⟨oI, fs, eI, dI⟩ := hI
  refine ⟨m, cm, ⟨⟨?_, ?_, fun b o e => ?_, i.toInCall.fresh⟩, fun n c hc => ?_, i.apart, i.above⟩, fun y d e => ?_⟩
  · obtain ⟨h₁, tk, rfl⟩ := i.toInCall.same
    exact ⟨h, t, rfl⟩
  · refine i.toInCall.ns.at' fun o e => k _ o ?_ e
    intro q
    obtain ⟨o', es, ep, e', d', _⟩ := i.toInCall.ns
    rw [q, eI] at e'; cases e'; rw [dI] at d'; cases d'
  · exact k b o (by rintro rfl; rw [hn] at e; cases e) (i.toInCall.keep b o e)
  · obtain ⟨o, e, d⟩ := i.cell n c hc
    refine ⟨o, k c o ?_ e, d⟩
    rintro rfl
    rw [eI] at e; cases e; rw [dI] at d; cases d
  · obtain ⟨v, rv, w'⟩ := r y d e
    exact ⟨v, rv.up ks, w'⟩

/-- a for over ints -/
theorem for_inv {s : Shared} {iter : Expr} {x : Str} {px pos : Pos} {body : List Stmt} {n : Nat} {d : Nat → Int} {Q : Flow → Shared → Prop} {E : Value → Shared → Prop} (Inv : Nat → Shared → Prop) (mu : Addr → Prop)
    (hmut : ∀ b, mu b → s.heap.get? b ≠ none) (src : SrcN prog w A env C iter n fun i => .int (d i)) (c : C s.heap) (hs : ∀ x, foldedSetIterable iter env x = pure x)
    (init : ∀ s', Gr s s' → Inv 0 s')
    (stab : ∀ i s' I h t, s.heap.get? I = none → Inv i s' → IsFs s'.heap I → (∀ b o, b ≠ I → s'.heap.get? b = some o → h.get? b = some o) → Inv i { s' with heap := h, toks := t })
    (turn : ∀ i s' t E', i < n → Inv i s' → wpAny (model prog w) A (storeName env x (.int (d i) t)) (fun _ s₁ => wpAny (model prog w) A (execs body env) (fun f s₂ => match f with
      | .next => Kb mu s'.heap s₂.heap ∧ Inv (i + 1) s₂
      | .cont => Kb mu s'.heap s₂.heap ∧ Inv (i + 1) s₂
      | .brk => Q .next s₂
      | .ret v => Q (.ret v) s₂) E' s₁) E' s')
    (fin : ∀ s', Inv n s' → Q .next s') : wpAny (model prog w) A (exec (.For (.Name x px) iter body [] pos) env) Q E s := by
  refine wpAny_For (src s _ E c fun I s' k it => ?_) hs
  obtain ⟨⟨fp, P, St, W, hI, hst, hfp, hD, hnew⟩, hIn⟩ := it
  refine codeAny_forLoop (fun m s'' => ∃ i, i ≤ n ∧ m = n + 1 - i ∧ St i s''.heap ∧ Inv i s'') ?_ (n + 1) ⟨0, Nat.zero_le _, rfl, hst, init s' k⟩
  rintro m s'' ⟨i, hi, rfl, hst', hinv⟩
  by_cases hlt : i < n
  · refine W.item i _ _ _ hlt hst' fun v h₁ tk₁ hPv hst₁ hk₁ => ?_
    obtain ⟨t, rfl⟩ := hD i v hlt hPv
    have hk₁' : ∀ b o, b ≠ I → s''.heap.get? b = some o → h₁.get? b = some o := fun b o hb e => hk₁ b o (fun q => hb (List.mem_singleton.mp q)) e
    have hinv₁ := stab i s'' I h₁ tk₁ hIn hinv (hI _ _ hst') hk₁'
    refine wpAny_assign_Name (wpAny_mono (turn i _ t _ hlt hinv₁) (fun _ s₁ h₂ => wpAny_mono h₂ (fun f s₂ h₃ => ?_) fun _ _ e => e) fun _ _ e => e)
    have go : Kb mu h₁ s₂.heap ∧ Inv (i + 1) s₂ → ∃ m, m < n + 1 - i ∧ ∃ j, j ≤ n ∧ m = n + 1 - j ∧ St j s₂.heap ∧ Inv j s₂ := fun ⟨kb, hv⟩ =>
      ⟨n + 1 - (i + 1), by omega, i + 1, hlt, rfl, W.frame _ _ _ hst₁ fun b hb o e => kb b o (fun q => hmut b q (hnew b hb)) e, hv⟩
    cases f with
    | next => exact go h₃
    | cont => exact go h₃
    | brk => exact h₃
    | ret v => exact h₃
  · have : i = n := by omega
    subst this
    refine W.done _ _ _ hst' fun h₁ tk₁ hk₁ => wpAny_execs_nil (fin _ (stab _ s'' I h₁ tk₁ hIn hinv (hI _ _ hst') fun b o hb e => hk₁ b o (fun q => hb (List.mem_singleton.mp q)) e))

/-- a for over ints whose turns change the frame alone, and may return -/
theorem For_names {iter : Expr} {x : Str} {px pos : Pos} {body : List Stmt} {n : Nat} {d : Nat → Int} {s : Shared} {Q : Flow → Shared → Prop} {E : Value → Shared → Prop} (R : Nat → Names) (P : Nat → Prop) (src : SrcN prog w A env (Fc env s₀ ρ) iter n fun i => .int (d i))
    (hs : ∀ x, foldedSetIterable iter env x = pure x) (hk : env.scope.kind = .function) (hx : env.kindOf x = some .local ∨ (env.kindOf x = some .cell ∧ ∃ c, env.cells.lookup x = some c))
    (hst : St env s₀ ρ s) (h0 : ρ = R 0) (p0 : P 0)
    (turn : ∀ i s' E', i < n → P i → St env s₀ ((x, .int (d i)) :: R i) s' → wpAny (model prog w) A (execs body env) (fun f s₂ => match f with
      | .next => Kb (Mut env) s'.heap s₂.heap ∧ St env s₀ (R (i + 1)) s₂ ∧ P (i + 1)
      | .cont => Kb (Mut env) s'.heap s₂.heap ∧ St env s₀ (R (i + 1)) s₂ ∧ P (i + 1)
      | .brk => Q .next s₂
      | .ret v => Q (.ret v) s₂) E' s')
    (fin : ∀ s', St env s₀ (R n) s' → P n → Q .next s') : wpAny (model prog w) A (exec (.For (.Name x px) iter body [] pos) env) Q E s := by
  subst h0
  refine for_inv (fun i s' => St env s₀ (R i) s' ∧ P i) (Mut env) ?_ src hst.fc hs (fun s' k => ⟨hst.keeps k, p0⟩) ?_ ?_ fun s' h => fin s' h.1 h.2
  · obtain ⟨m, cm, i, r⟩ := hst
    rintro b (rfl | ⟨y, hy⟩)
    · obtain ⟨o, _, _, e, _⟩ := i.toInCall.ns
      rw [e]; simp
    · obtain ⟨o, e, _⟩ := i.cell y b hy
      rw [e]; simp
  · intro i s' I h t hI hst' hfs k
    refine ⟨hst'.1.iter hfs ?_ k, hst'.2⟩
    cases e : s₀.heap.get? I with
    | none => rfl
    | some o => have := hst.gr.keep _ _ e; rw [hI] at this; cases this
  · intro i s' t E' hi hst'
    refine store_ok hst'.1 (d := .int (d i)) ⟨t, rfl⟩ hk hx fun s₁ hs₁ kb => wpAny_mono (turn i s₁ E' hi hst'.2 hs₁) (fun f s₂ h₂ => ?_) fun _ _ e => e
    cases f with
    | next => exact ⟨kb.tr h₂.1, h₂.2⟩
    | cont => exact ⟨kb.tr h₂.1, h₂.2⟩
    | brk => exact h₂
    | ret v => exact h₂

/-- names forgotten, or told again -/
theorem St.weaken {s : Shared} {ρ' : Names} (x : St env s₀ ρ s) (h : ∀ y d, ρ'.lookup y = some d → ρ.lookup y = some d) : St env s₀ ρ' s := by
  obtain ⟨m, cm, i, r⟩ := x
  exact ⟨m, cm, i, fun y d e => r y d (h y d e)⟩
end Mine
end

section
open PySem PySem.W PyProof.Rows
set_option Elab.async false
set_option linter.unusedVariables false
set_option maxRecDepth 100000
namespace Mine
variable {prog : Program} {w : World} {A : Around} {env : Env} {C : Heap → Prop} {F : Nat → Addr} {s₀ : Shared} {ρ : Names}

theorem cut_to {α : Type} (l : List α) (k : Nat) : cut l none (some (k : Int)) = l.take k := by
  unfold cut
  simp only [Option.elim, clipAt_nat, List.drop_zero, Nat.sub_zero]
  rcases Nat.le_total k l.length with h | h
  · rw [Nat.min_eq_left h]
  · rw [Nat.min_eq_right h, List.take_length, List.take_of_length_le h]
theorem cut_mid {α : Type} (l : List α) {a b : Nat} (hab : a ≤ b) (hb : b ≤ l.length) : cut l (some (a : Int)) (some (b : Int)) = (l.drop a).take (b - a) := by
  unfold cut
  simp only [Option.elim, clipAt_nat]
  rw [Nat.min_eq_left hb, Nat.min_eq_left (Nat.le_trans hab hb)]
theorem cut_from {α : Type} (l : List α) (a : Nat) : cut l (some (a : Int)) none = l.drop a := by
  unfold cut
  simp only [Option.elim, clipAt_nat]
  rcases Nat.le_total a l.length with h | h
  · rw [Nat.min_eq_left h, List.take_of_length_le (by simp)]
  · rw [Nat.min_eq_right h, List.drop_of_length_le h]; simp

theorem EvP.one {e : Expr} {i : Int} (h : Ev prog w A env C e (.int i)) : EvP prog w A env C (some e) (some i) := h
theorem EvP.no : EvP prog w A env C none none := trivial
theorem Ev.cast {e : Expr} {d d' : Dt} (h : d = d') (x : Ev prog w A env C e d) : Ev prog w A env C e d' := h ▸ x
theorem Tst.cast {e : Expr} {d d' : Bool} (h : d = d') (x : Tst prog w A env C e d) : Tst prog w A env C e d' := h ▸ x
theorem if_go {t : Expr} {b b' : List Stmt} {p : Pos} {s : Shared} {Q : Flow → Shared → Prop} {E : Value → Shared → Prop} (hs : St env s₀ ρ s) (x : Bool) (ht : Tst prog w A env (Fc env s₀ ρ) t x)
    (h : x = true → ∀ s₁, Gr s s₁ → St env s₀ ρ s₁ → wpAny (model prog w) A (execs b env) Q E s₁) (h' : x = false → ∀ s₁, Gr s s₁ → St env s₀ ρ s₁ → wpAny (model prog w) A (execs b' env) Q E s₁) : wpAny (model prog w) A (exec (.If t b b' p) env) Q E s :=
  wpAny_If (ht s _ E hs.fc fun s₁ k₁ => by
    cases x with
    | true => exact h rfl s₁ k₁ (hs.keeps k₁)
    | false => exact h' rfl s₁ k₁ (hs.keeps k₁))

/-- the octets of a row of signs -/
def size (l : List Int) : Int := (l.map fun c => ((octs c).length : Int)).sum
/-- does the row of k signs overlap behind whole signs and part octets? -/
def fits (signs : List Int) (whole part k : Nat) : Bool :=
  decide (signs.take k = (signs.drop (whole - k)).take k) && (((part : Int) == 0) || decide ((octs (signs.getD k 0)).take part = (octs (signs.getD whole 0)).take part))
def ovl (signs : List Int) (whole part : Nat) : Int := match (List.range whole).find? (fun i => fits signs whole part (whole - 1 - i)) with
  | some i => size (signs.take (whole - 1 - i)) + part
  | none => 0
theorem ovl_some {signs : List Int} {whole part i : Nat} (hi : i < whole) (h : fits signs whole part (whole - 1 - i) = true) (hn : ∀ j, j < i → fits signs whole part (whole - 1 - j) = false) :
    ovl signs whole part = size (signs.take (whole - 1 - i)) + part := by
  have : (List.range whole).find? (fun i => fits signs whole part (whole - 1 - i)) = some i := by
    rw [List.find?_range_eq_some]
    exact ⟨h, List.mem_range.mpr hi, fun j hj => by simp [hn j hj]⟩
  unfold ovl; rw [this]
theorem ovl_none {signs : List Int} {whole part : Nat} (hn : ∀ j, j < whole → fits signs whole part (whole - 1 - j) = false) : ovl signs whole part = 0 := by
  have : (List.range whole).find? (fun i => fits signs whole part (whole - 1 - i)) = none := by
    rw [List.find?_eq_none]
    intro j hj
    rw [hn j (List.mem_range.mp hj)]; simp
  unfold ovl; rw [this]

theorem octs_len (c : Int) : (octs c).length ≤ 4 := by unfold octs; split; simp; split; simp; split <;> simp

set_option maxHeartbeats 8000000 in
theorem overlap_fn {l : List Int} {whole part : Nat} (hl : ∀ c ∈ l, 0 ≤ c ∧ c < 1114112) (hn : l.length ≤ 64) (hw : whole ≤ l.length) (hp : part = 0 ∨ whole < l.length) (hR : Room A 2) :
    Fn pg w A (Base F) (.ref (F 8)) [.li l, .int whole, .int part] (.int (ovl l whole part)) := fun s Q E vs B r q => by
  obtain ⟨v, u, t, rfl, r₁, r₂, r₃⟩ := Rds.three r
  refine call_def (i := 8) (xs := ["signs", "whole", "part"]) (B.defs 8 (by decide)) B.lim hR.d (fun _ _ _ _ _ _ _ => rfl) (by decide +kernel) rfl rfl rfl fun fd hfd s' x E' => ?_
  obtain ⟨n, qn, d, p, an, cd, ct, rfl⟩ := hfd
  generalize henv : callEnvC (fnAt 8 n qn d p an cd ct) s.heap.objs.size (F 8) = env at x ⊢
  have own : Own env := by rw [← henv]; exact Own.call rfl
  have hst : St env s [("signs", .li l), ("whole", .int whole), ("part", .int part)] s' := start3 (by decide +kernel) (by decide +kernel) (by decide +kernel) (by rw [← henv]; rfl) (by rw [← henv]; rfl) (by rw [← henv]; rfl) x r₁ r₂ r₃
  have hB : ∀ {ρ : Names} h, Fc env s ρ h → Base F h := fun h c => Fc.base Base.kp B c
  have hR' : Room (A.deeper env) 1 := hR.deeper
  have hA : (A.deeper env).handled = none := hR.handled
  have hsl : 64 ≤ sizeLine := by decide
  have kr : env.kindOf "range" = some .globalImplicit := by rw [← henv]; rfl
  have ko : env.kindOf "_law_octets" = some .globalImplicit := by rw [← henv]; rfl
  have ks : env.kindOf "sum" = some .globalImplicit := by rw [← henv]; rfl
  have kz : env.kindOf "size" = some .local := by rw [← henv]; rfl
  generalize hA' : A.deeper env = A' at hR' hA ⊢
  have kc0 : Kp (Fc env s [("signs", .li l), ("whole", .int whole), ("part", .int part)]) := Fc.kp
  have hwn : ((whole : Int) - 1 + 1).toNat = whole := by omega
  refine wpAny_execs_cons (For_names (R := fun _ => [("signs", .li l), ("whole", .int whole), ("part", .int part)]) (P := fun i => ∀ j, j < i → fits l whole part (whole - 1 - j) = false)
    (n := ((whole : Int) - 1 + 1).toNat) (d := fun i => (whole : Int) - 1 - i) ?_ (fun _ => rfl) own.kind (.inl kz) hst rfl (fun j hj => absurd hj (Nat.not_lt_zero j)) ?_ ?_)
  · exact SrcN.rangeDown hA kc0 (vRange (F := F) own (fun h c => hB h c) kr) (Ev.bin kc0 (Ev.var rfl own.kind) Ev.constInt Op2.subInt) (Ev.neg Ev.constInt) (Ev.neg Ev.constInt) (by omega) (by omega) (PyProof.noPylong_small (by decide)) rfl
  · intro i s₁ E₁ hi hP hst₁
    rw [hwn] at hi
    have ek : ((whole : Int) - 1 - (i : Int)) = ((whole - 1 - i : Nat) : Int) := by omega
    rw [ek] at hst₁
    generalize hk : whole - 1 - i = k at hst₁
    have hkw : k < whole := by omega
    have kc : Kp (Fc env s [("size", .int k), ("signs", .li l), ("whole", .int whole), ("part", .int part)]) := Fc.kp
    have vsize : ∀ pp, Ev pg w A' env (Fc env s [("size", .int k), ("signs", .li l), ("whole", .int whole), ("part", .int part)]) (.Name "size" pp) (.int k) := fun pp => Ev.var rfl own.kind
    have vwhole : ∀ pp, Ev pg w A' env (Fc env s [("size", .int k), ("signs", .li l), ("whole", .int whole), ("part", .int part)]) (.Name "whole" pp) (.int whole) := fun pp => Ev.var rfl own.kind
    have vpart : ∀ pp, Ev pg w A' env (Fc env s [("size", .int k), ("signs", .li l), ("whole", .int whole), ("part", .int part)]) (.Name "part" pp) (.int part) := fun pp => Ev.var rfl own.kind
    have vsigns : ∀ pp, Ev pg w A' env (Fc env s [("size", .int k), ("signs", .li l), ("whole", .int whole), ("part", .int part)]) (.Name "signs" pp) (.li l) := fun pp => Ev.var rfl own.kind
    have e1 : cut l (some ((whole : Int) - k)) (some (whole : Int)) = (l.drop (whole - k)).take k := by
      have : ((whole : Int) - k) = ((whole - k : Nat) : Int) := by omega
      rw [this, cut_mid l (by omega) hw]
      congr 1; omega
    have wk : ∀ s₂, St env s [("size", .int k), ("signs", .li l), ("whole", .int whole), ("part", .int part)] s₂ → St env s [("signs", .li l), ("whole", .int whole), ("part", .int part)] s₂ := fun s₂ x => x.weaken fun y dd e => by
      rw [List.lookup_cons]
      cases hy : y == "size" with
      | false => exact e
      | true => rw [beq_iff_eq] at hy; subst hy; cases (show (none : Option Dt) = some dd from e)
    have nofit : ∀ s₂, Gr s₁ s₂ → St env s [("size", .int k), ("signs", .li l), ("whole", .int whole), ("part", .int part)] s₂ → fits l whole part k = false → Kb (Mut env) s₁.heap s₂.heap ∧ St env s [("signs", .li l), ("whole", .int whole), ("part", .int part)] s₂ ∧ ∀ j, j < i + 1 → fits l whole part (whole - 1 - j) = false := fun s₂ k₂ h₂ hf =>
      ⟨Keep.kb k₂.keep, wk s₂ h₂, fun j hj => by
        rcases Nat.lt_succ_iff_lt_or_eq.mp hj with h | rfl
        · exact hP j h
        · rw [hk]; exact hf⟩
    refine wpAny_execs_cons (if_go hst₁ (decide (l.take k = (l.drop (whole - k)).take k)) ?_ (fun hx s₂ k₂ hst₂ => ?_) (fun hx s₂ k₂ hst₂ => ?_))
    · exact Tst.cmp kc (Ev.cast (congrArg Dt.li (cut_to l k)) (Ev.cutI kc (vsigns _) (Nat.le_trans hn hsl) EvP.no (EvP.one (vsize _))))
        (Ev.cast (congrArg Dt.li e1) (Ev.cutI kc (vsigns _) (Nat.le_trans hn hsl) (EvP.one (Ev.bin kc (vwhole _) (vsize _) Op2.subInt)) (EvP.one (vwhole _)))) (Cmp2.eqI hR'.u64)
    · refine wpAny_execs_cons (if_go hst₂ (((part : Int) == 0) || decide ((octs (l.getD k 0)).take part = (octs (l.getD whole 0)).take part)) ?_ (fun hy s₃ k₃ hst₃ => ?_) (fun hy s₃ k₃ hst₃ => ?_))
      · refine Tst.or kc (Tst.cmp kc (vpart _) Ev.constInt Cmp2.eqInt) (fun hz => ?_)
        have hp' : whole < l.length := by
          rcases hp with h | h
          · subst h; simp at hz
          · exact h
        have ho : ∀ {pp p1 p2 p3 : Pos} {ee : Expr} {j : Nat}, j < l.length → Ev pg w A' env (Fc env s [("size", .int k), ("signs", .li l), ("whole", .int whole), ("part", .int part)]) ee (.int j) → (∀ o i, subscripted ee false o i = operate [o, i] (getItem o i)) →
            backTo p1 (starEach [.Subscript (.Name "signs" p2) ee p3] env) = trees [.Subscript (.Name "signs" p2) ee p3] env →
            Ev pg w A' env (Fc env s [("size", .int k), ("signs", .li l), ("whole", .int whole), ("part", .int part)]) (.Call (.Name "_law_octets" pp) [.Subscript (.Name "signs" p2) ee p3] [] p1) (.li (octs (l.getD j 0))) := fun {pp p1 p2 p3 ee j} hj he hsub hbk => by
          have hc := hl _ (getD_mem (a := 0) hj)
          exact Ev.call kc (vOct (F := F) own (fun h c => hB h c) ko) (plainDef (fun h c => hB h c) (by decide)) (Evs.one kc (Ev.item kc Lst.li (vsigns _) he (by omega) (by omega) (by omega) hsub)) ((octets_fn hc.1 hc.2 hR').imp fun h c => hB h c) hbk
        have ol : ∀ c, (octs c).length ≤ sizeLine := fun c => Nat.le_trans (octs_len c) (by decide)
        exact Tst.cmp kc (Ev.cast (congrArg Dt.li (cut_to _ part)) (Ev.cutI kc (ho (by omega) (vsize _) (fun _ _ => rfl) rfl) (ol _) EvP.no (EvP.one (vpart _))))
          (Ev.cast (congrArg Dt.li (cut_to _ part)) (Ev.cutI kc (ho hp' (vwhole _) (fun _ _ => rfl) rfl) (ol _) EvP.no (EvP.one (vpart _)))) (Cmp2.eqI hR'.u64)
      · have hf : fits l whole part k = true := by unfold fits; rw [hx, hy]; rfl
        have ho : ovl l whole part = size (l.take k) + part := by have := ovl_some (by omega) (by rw [hk]; exact hf) hP; rw [hk] at this; exact this
        refine (ExR.ret (r := .int (ovl l whole part)) ?_) s₃ _ E₁ hst₃ fun v s'' k r => ?_
        · rw [ho]
          refine Ev.bin kc (Ev.call (ds := [.li ((l.take k).map fun c => ((octs c).length : Int))]) kc (vSum (F := F) own (fun h c => hB h c) ks) plainBi (Evs.one kc ?_) (Fn.sum hA) rfl) (vpart _) Op2.addInt
          have htl : (l.take k).length ≤ 64 := Nat.le_trans (List.length_take_le _ _) (by omega)
          refine Ev.compI (l.take k).length (fun _ => true) (fun i => ((octs ((l.take k).getD i 0)).length : Int)) kc rfl (by decide +kernel)
            (Src.list hA Lst.li (Ev.cast (congrArg Dt.li (cut_to l k)) (Ev.cutI kc (vsigns _) (Nat.le_trans hn hsl) EvP.no (EvP.one (vsize _))))) (Nat.le_trans htl hsl) (fun _ _ _ => TestsAre.nil) (fun K i hi _ => ?_) (fun _ => rfl) (range_map (l.take k) 0 fun c => ((octs c).length : Int))
          have hc := hl _ (List.mem_of_mem_take (getD_mem (a := 0) hi))
          have kb := kc.bnd (K := K) (x := "code") (d := .int ((l.take k).getD i 0))
          have hol := octs_len ((l.take k).getD i 0)
          exact Ev.call kb (vLen (F := F) (own.comp rfl) (fun h c => hB h c.1) rfl) plainBi (Evs.one kb (Ev.call kb (vOct (F := F) (own.comp rfl) (fun h c => hB h c.1) rfl) (plainDef (fun h c => hB h c.1) (by decide)) (Evs.one kb (Ev.inner (fun h c => c.2) rfl rfl)) ((octets_fn hc.1 hc.2 hR').imp fun h c => hB h c.1) rfl)) (Fn.lenL Lst.li (by omega)) rfl
        · exact ⟨v, rfl, q v s'' k r⟩
      · exact wpAny_execs_nil (wpAny_execs_nil (wpAny_execs_nil (nofit s₃ (Gr.tr k₂ k₃) hst₃ (by unfold fits; rw [hx, hy]; rfl))))
    · exact wpAny_execs_nil (wpAny_execs_nil (nofit s₂ k₂ hst₂ (by unfold fits; rw [hx]; rfl)))
  · intro s₁ hst₁ hP
    rw [hwn] at hP
    refine (ExR.ret (r := .int (ovl l whole part)) ?_) s₁ _ E' hst₁ fun v s'' k r => ⟨v, rfl, q v s'' k r⟩
    rw [ovl_none hP]
    exact Ev.constInt
end Mine
end

section
open PySem PySem.W PyProof.Rows
set_option Elab.async false
set_option linter.unusedVariables false
set_option maxRecDepth 100000
namespace Mine
variable {prog : Program} {w : World} {A : Around} {env : Env} {C : Heap → Prop} {F : Nat → Addr} {s₀ : Shared} {ρ : Names}

theorem St.pick {s : Shared} {ρ' : Names} (x : St env s₀ ρ s) (h : ∀ p ∈ ρ', ρ.lookup p.1 = some p.2) : St env s₀ ρ' s := x.weaken fun y d e => h (y, d) (mem_of_lookup e)
theorem pick2 {ρ : Names} {a b : Str} {da db : Dt} (ha : ρ.lookup a = some da) (hb : ρ.lookup b = some db) : ∀ p ∈ [(a, da), (b, db)], ρ.lookup p.1 = some p.2 := by
  intro p hp
  rcases List.mem_cons.mp hp with rfl | hp
  · exact ha
  · rw [List.mem_singleton.mp hp]; exact hb

/-- the places of one sign -/
def place1 (c : Int) (whole : Nat) : List (Int × Int) := ((List.range ((octs c).length - 1)).map fun (i : Nat) => ((whole : Int), 1 + (i : Int))) ++ [((whole : Int) + 1, 0)]
def places (l : List Int) : Nat → List (Int × Int)
  | 0 => []
  | k + 1 => places l k ++ place1 (l.getD k 0) k
theorem place1_len (c : Int) (k : Nat) : (place1 c k).length ≤ 4 := by
  have := octs_len c
  simp only [place1, List.length_append, List.length_map, List.length_range, List.length_singleton]
  omega
theorem places_len (l : List Int) : ∀ k, (places l k).length ≤ 4 * k
  | 0 => Nat.le_refl _
  | k + 1 => by
    have h1 := places_len l k
    have h2 := place1_len (l.getD k 0) k
    simp only [places, List.length_append]
    omega
theorem octs_pos (c : Int) : 1 ≤ (octs c).length := by unfold octs; split; simp; split; simp; split <;> simp

set_option maxHeartbeats 8000000 in
theorem places_fn {l : List Int} (hl : ∀ c ∈ l, 0 ≤ c ∧ c < 1114112) (hn : l.length ≤ 64) (hR : Room A 2) :
    Fn pg w A (Base F) (.ref (F 7)) [.li l] (.prs (places l l.length)) := fun s Q E vs B r q => by
  obtain ⟨v, rfl, r₁⟩ := Rds.one r
  refine call_def (i := 7) (xs := ["signs"]) (B.defs 7 (by decide)) B.lim hR.d (fun _ _ _ _ _ _ _ => rfl) (by decide +kernel) rfl rfl rfl fun fd hfd s' x E' => ?_
  obtain ⟨n, qn, d, p, an, cd, ct, rfl⟩ := hfd
  generalize henv : callEnvC (fnAt 7 n qn d p an cd ct) s.heap.objs.size (F 7) = env at x ⊢
  have own : Own env := by rw [← henv]; exact Own.call rfl
  have hst : St env s [("signs", .li l)] s' := start1 (by rw [← henv]; rfl) x r₁
  have hB : ∀ {ρ : Names} h, Fc env s ρ h → Base F h := fun h c => Fc.base Base.kp B c
  have hR' : Room (A.deeper env) 1 := hR.deeper
  have hA : (A.deeper env).handled = none := hR.handled
  have hsl : 1024 ≤ sizeLine := by decide
  have kr : env.kindOf "range" = some .globalImplicit := by rw [← henv]; rfl
  have kl : env.kindOf "len" = some .globalImplicit := by rw [← henv]; rfl
  have ko : env.kindOf "_law_octets" = some .globalImplicit := by rw [← henv]; rfl
  have kz : env.kindOf "size" = some .local := by rw [← henv]; rfl
  have kp : env.kindOf "places" = some .local := by rw [← henv]; rfl
  have kw : env.kindOf "whole" = some .cell := by rw [← henv]; rfl
  have kwc : env.cells.lookup (Str.ofString "whole") = some (s.heap.objs.size + 1) := by rw [← henv]; rfl
  generalize hA' : A.deeper env = A' at hR' hA ⊢
  -- places = []
  refine wpAny_execs_cons (Ex.assign (d := .prs []) (Ev.listP (ns := []) Evs.nil rfl (by simp)) own.kind (.inl kp) rfl s' _ E' hst fun s₁ hst₁ _ => ?_)
  -- the loop
  have kc0 : Kp (Fc env s [("places", .prs []), ("signs", .li l)]) := Fc.kp
  refine wpAny_execs_cons (For_names (R := fun i => [("places", .prs (places l i)), ("signs", .li l)]) (P := fun _ => True)
    (n := (l.length : Int).toNat) (d := fun i => (i : Int)) ?_ (fun _ => rfl) own.kind (.inr ⟨kw, _, kwc⟩) hst₁ rfl trivial ?_ ?_)
  · exact SrcN.range1 hA kc0 (vRange (F := F) own (fun h c => hB h c) kr) (Ev.call kc0 (vLen (F := F) own (fun h c => hB h c) kl) plainBi (Evs.one kc0 (Ev.var rfl own.kind)) (Fn.lenL Lst.li (by omega)) rfl) (by omega) (by omega) rfl
  · intro i s₂ E₂ hi _ hst₂
    have hi' : i < l.length := by omega
    have hc := hl _ (getD_mem (a := 0) hi')
    have hol := octs_len (l.getD i 0)
    have hop := octs_pos (l.getD i 0)
    have kc1 : Kp (Fc env s [("whole", .int i), ("places", .prs (places l i)), ("signs", .li l)]) := Fc.kp
    -- size = len(_law_octets(signs[whole]))
    refine wpAny_execs_cons (Ex.assign (d := .int ((octs (l.getD i 0)).length : Int)) ?_ own.kind (.inl kz) rfl s₂ _ E₂ hst₂ fun s₃ hst₃ kb₃ => ?_)
    · exact Ev.call kc1 (vLen (F := F) own (fun h c => hB h c) kl) plainBi (Evs.one kc1 (Ev.call kc1 (vOct (F := F) own (fun h c => hB h c) ko) (plainDef (fun h c => hB h c) (by decide))
        (Evs.one kc1 (Ev.item kc1 Lst.li (Ev.var rfl own.kind) (Ev.var (d := .int (i : Int)) rfl own.kind) (by omega) (by omega) (by omega) (fun _ _ => rfl))) ((octets_fn hc.1 hc.2 hR').imp fun h c => hB h c) rfl)) (Fn.lenL Lst.li (by omega)) rfl
    have kc2 : Kp (Fc env s [("size", .int ((octs (l.getD i 0)).length : Int)), ("whole", .int i), ("places", .prs (places l i)), ("signs", .li l)]) := Fc.kp
    have hpl := places_len l i
    refine wpAny_execs_cons (Ex.assign (d := .prs (places l (i + 1))) ?_ own.kind (.inl kp) rfl s₃ _ E₂ hst₃ fun s₄ hst₄ kb₄ => wpAny_execs_nil ?_)
    · have e : Dt.prs (places l i ++ ((List.range ((octs (l.getD i 0)).length - 1)).map fun (j : Nat) => ((i : Int), 1 + (j : Int))) ++ [((i : Int) + 1, 0)]) = Dt.prs (places l (i + 1)) := by
        simp only [places, place1, List.append_assoc]
      refine Ev.cast e (Ev.bin kc2 (Ev.bin kc2 (Ev.var rfl own.kind) (b := .prs ((List.range ((octs (l.getD i 0)).length - 1)).map fun (j : Nat) => ((i : Int), 1 + (j : Int)))) ?_ (Op2.addP ?_)) (b := .prs [((i : Int) + 1, 0)]) ?_ (Op2.addP ?_))
      · have hn1 : (((octs (l.getD i 0)).length : Int) - 1).toNat = (octs (l.getD i 0)).length - 1 := by omega
        refine Ev.compP (cl := [("whole", s.heap.objs.size + 1)]) (((octs (l.getD i 0)).length : Int) - 1).toNat (fun _ => true) (fun j => ((i : Int), 1 + (j : Int))) kc2 ?_ (by decide +kernel)
          (SrcN.range2 hA kc2 (vRange (F := F) own (fun h c => hB h c) kr) Ev.constInt (Ev.var rfl own.kind) (by decide) (by decide) (by omega) (by omega) rfl).src (by rw [hn1]; omega) (fun _ _ _ => TestsAre.nil) (fun K j hj _ => ?_) (fun _ => rfl) ?_
        · rw [← henv]; rfl
        · refine Ev.pair kc2.bnd (Ev.outer (env := env) (s₀ := s) (ρ := [("size", .int ((octs (l.getD i 0)).length : Int)), ("whole", .int i), ("places", .prs (places l i)), ("signs", .li l)]) (c := s.heap.objs.size + 1) rfl (fun h c => c.1) rfl ?_ rfl kw kwc) (Ev.inner (fun h c => c.2) rfl rfl) rfl
          rw [← henv]; rfl
        · rw [hn1, List.filter_eq_self.mpr (fun _ _ => rfl)]
      · simp only [List.length_map, List.length_range]; omega
      · exact Ev.listP (ns := [((i : Int) + 1, 0)]) (Evs.one kc2 (Ev.pair kc2 (Ev.bin kc2 (Ev.var (d := .int (i : Int)) rfl own.kind) Ev.constInt Op2.addInt) Ev.constInt rfl)) rfl (by simp; omega)
      · simp only [List.length_append, List.length_map, List.length_range, List.length_singleton]; omega
    · exact ⟨kb₃.tr kb₄, hst₄.pick (pick2 rfl rfl), trivial⟩
  · intro s₂ hst₂ _
    have e : (l.length : Int).toNat = l.length := by omega
    rw [e] at hst₂
    exact (ExR.ret (r := .prs (places l l.length)) (Ev.var rfl own.kind)) s₂ _ E' hst₂ fun v s'' k r => ⟨v, rfl, q v s'' k r⟩
end Mine
end

section
open PySem PySem.W PyProof.Rows
set_option Elab.async false
set_option linter.unusedVariables false
set_option maxRecDepth 100000
namespace Mine
variable {prog : Program} {w : World} {A : Around} {env : Env} {C : Heap → Prop} {F : Nat → Addr} {s₀ : Shared} {ρ : Names}

/-- a frame with one list of its own, at a, under the name x -/
structure StA (env : Env) (s₀ : Shared) (ρ : Names) (x : Str) (a : Addr) (l : List Int) (s : Shared) : Prop where
  st : St env s₀ ρ s
  nm : ∃ m, s.heap.Ns env.locals m ∧ m x = some (.ref a)
  ls : ∃ vs, s.heap.PlainList a vs ∧ IntsAre vs.toList l
  new : s₀.heap.get? a = none
  flat : ∀ y d, ρ.lookup y = some d → Flat d

def FcA (env : Env) (s₀ : Shared) (ρ : Names) (x : Str) (a : Addr) (l : List Int) (h : Heap) : Prop := StA env s₀ ρ x a l { s₀ with heap := h }
variable {x : Str} {a : Addr} {l : List Int}
theorem StA.keeps {s s' : Shared} (z : StA env s₀ ρ x a l s) (k : Gr s s') : StA env s₀ ρ x a l s' := by
  obtain ⟨m, hm, hx⟩ := z.nm
  obtain ⟨vs, hp, hi⟩ := z.ls
  exact ⟨z.st.keeps k, ⟨m, hm.keeps k.keep, hx⟩, ⟨vs, plain_up hp k.keep.seq, hi⟩, z.new, z.flat⟩
theorem StA.fc {s : Shared} (z : StA env s₀ ρ x a l s) : FcA env s₀ ρ x a l s.heap := ⟨z.st.fc, z.nm, z.ls, z.new, z.flat⟩
theorem FcA.kp : Kp (FcA env s₀ ρ x a l) := fun h h' z k => StA.keeps (s' := { s₀ with heap := h' }) z ⟨h', s₀.toks, rfl, k⟩
theorem FcA.fc {h : Heap} (z : FcA env s₀ ρ x a l h) : Fc env s₀ ρ h := z.st
theorem StA.gr {s : Shared} (z : StA env s₀ ρ x a l s) : Gr s₀ s := z.st.gr
theorem Ev.varA {y : Str} {p : Pos} {d : Dt} (hρ : ρ.lookup y = some d) (hk : env.scope.kind = .function) (hd : (y == ("__debug__" : Str)) = false := by decide) : Ev prog w A env (FcA env s₀ ρ x a l) (.Name y p) d := (Ev.var hρ hk hd).imp fun h c => c.fc
theorem own_name {p : Pos} {s : Shared} {Q : Value → Shared → Prop} {E : Value → Shared → Prop} (z : StA env s₀ ρ x a l s) (hk : env.scope.kind = .function) (hx : env.kindOf x = some .local) (q : Q (.ref a) s) (hd : (x == ("__debug__" : Str)) = false := by decide) : wpAny (model prog w) A (eval (.Name x p) env) Q E s := by
  obtain ⟨m, hm, hv⟩ := z.nm
  exact wpAny_Name (wpAny_loadName_local hk hx hm hv q) hd
theorem Ev.ownA {p : Pos} (hk : env.scope.kind = .function) (hx : env.kindOf x = some .local) (hd : (x == ("__debug__" : Str)) = false := by decide) : Ev prog w A env (FcA env s₀ ρ x a l) (.Name x p) (.li l) := fun s Q E c q => by
  obtain ⟨m, hm, hv⟩ := c.nm
  obtain ⟨vs, hp, hi⟩ := c.ls
  exact wpAny_Name (wpAny_loadName_local hk hx hm hv (q _ _ (Gr.refl _) ⟨a, vs, rfl, hp, hi⟩)) hd

theorem StA.iter {s : Shared} {I : Addr} (z : StA env s₀ ρ x a l s) (hI : IsFs s.heap I) (hn : s₀.heap.get? I = none) {h : Heap} {t : Nat} (k : ∀ b o, b ≠ I → s.heap.get? b = some o → h.get? b = some o) : StA env s₀ ρ x a l { s with heap := h, toks := t } := by
  obtain ⟨m, hm, hv⟩ := z.nm
  obtain ⟨vs, hp, hi⟩ := z.ls
  refine ⟨z.st.iter hI hn k, ⟨m, hm.at' fun o e => k _ o ?_ e, hv⟩, ⟨vs, plain_up hp (KeepSeq.fs hI k), hi⟩, z.new, z.flat⟩
  intro q
  obtain ⟨oI, fs, eI, dI⟩ := hI
  obtain ⟨o', es, ep, e', d', _⟩ := hm
  rw [q, eI] at e'; cases e'; rw [dI] at d'; cases d'

/-- what such a frame changes -/
def MutA (env : Env) (a b : Addr) : Prop := b = a ∨ Mut env b

theorem storeA {s : Shared} {y : Str} {v : Value} {d : Dt} {Q : Unit → Shared → Prop} {E : Value → Shared → Prop} (z : StA env s₀ ρ x a l s) (hr : Rd s.heap v d) (hf : Flat d) (hyx : x ≠ y) (hk : env.scope.kind = .function)
    (hy : env.kindOf y = some .local) (h : ∀ s', StA env s₀ ((y, d) :: ρ) x a l s' → Kb (MutA env a) s.heap s'.heap → Q () s') : wpAny (model prog w) A (storeName env y v) Q E s := by
  obtain ⟨m, hm, hv⟩ := z.nm
  obtain ⟨vs, hp, hi⟩ := z.ls
  -- one run of the store
  obtain ⟨m', cm, i, r⟩ := z.st
  refine wpAny_storeName_local hy hm (fun h' hn' hs' => h _ ?_ fun b o n e => hs'.extBut b o (fun q => n (.inr (.inl q))) e) (by rw [hk]; rfl)
  have ks : KeepSeq s.heap h' := KeepSeq.ns hm hs'
  refine ⟨?_, ⟨_, hn', by simp [hyx, hv]⟩, ⟨vs, plain_up hp ks, hi⟩, z.new, fun u e he => ?_⟩
  · -- the names
    have hmm : m' = m := by
      obtain ⟨o1, es1, ep1, e1, d1, _, f1⟩ := i.toInCall.ns
      obtain ⟨o2, es2, ep2, e2, d2, _, f2⟩ := hm
      rw [e1] at e2; cases e2; rw [d1] at d2; cases d2
      funext u; rw [← f1 u, ← f2 u]
    subst hmm
    refine ⟨_, cm, ⟨⟨?_, hn', fun b o e => ?_, i.toInCall.fresh⟩, fun k c hc => ?_, i.apart, i.above⟩, fun u e he => ?_⟩
    · obtain ⟨h₁, tk, rfl⟩ := i.toInCall.same
      exact ⟨h', _, rfl⟩
    · exact hs'.extBut b o (Nat.ne_of_lt (Nat.lt_of_lt_of_le (Heap.lt_size e) i.toInCall.fresh)) (i.toInCall.keep b o e)
    · exact (i.cell k c hc).sameBut hs' (Nat.ne_of_gt (i.above k c (mem_of_lookup hc)))
    · rw [List.lookup_cons] at he
      cases hu : u == y with
      | true =>
        rw [hu] at he
        cases he
        rw [beq_iff_eq] at hu
        subst hu
        exact ⟨v, hr.up ks, .inl ⟨hy, by simp⟩⟩
      | false =>
        rw [hu] at he
        obtain ⟨b, ru, w'⟩ := r u e he
        refine ⟨b, ru.up ks, ?_⟩
        rcases w' with ⟨a', b'⟩ | b'
        · exact .inl ⟨a', by rw [beq_eq_false_iff_ne] at hu; simpa [hu] using b'⟩
        · exact .inr b'
  · rw [List.lookup_cons] at he
    cases hu : u == y with
    | true => rw [hu] at he; cases he; exact hf
    | false => rw [hu] at he; exact z.flat u e he

/-- the list is changed -/
theorem StA.set {s : Shared} {h' : Heap} {t : Nat} {vs' : Array Value} {l' : List Int} (z : StA env s₀ ρ x a l s) (hp' : h'.PlainList a vs') (hi' : IntsAre vs'.toList l') (hs : Heap.SameBut a s.heap h') : StA env s₀ ρ x a l' { s with heap := h', toks := t } := by
  obtain ⟨m, hm, hv⟩ := z.nm
  obtain ⟨vs, hp, hi⟩ := z.ls
  have hne : ∀ {b : Addr} {o : Obj}, s.heap.get? b = some o → (∀ xs n, o.data ≠ .seq xs n) → b ≠ a := fun {b o} e hd q => by
    obtain ⟨n, e'⟩ := hp
    rw [q, e'] at e; cases e; exact hd _ _ rfl
  have hLa : env.locals ≠ a := by
    obtain ⟨o, es, ep, e, d, _⟩ := hm
    exact hne e fun xs n q => by rw [d] at q; cases q
  refine ⟨?_, ⟨m, hm.sameBut hs hLa, hv⟩, ⟨vs', hp', hi'⟩, z.new, z.flat⟩
  obtain ⟨m', cm, i, r⟩ := z.st
  refine ⟨m', cm, ⟨⟨?_, i.toInCall.ns.sameBut hs hLa, fun b o e => ?_, i.toInCall.fresh⟩, fun k c hc => ?_, i.apart, i.above⟩, fun u e he => ?_⟩
  · obtain ⟨h₁, tk, rfl⟩ := i.toInCall.same
    exact ⟨h', _, rfl⟩
  · exact hs.extBut b o (by rintro rfl; rw [z.new] at e; cases e) (i.toInCall.keep b o e)
  · obtain ⟨o, e, d⟩ := i.cell k c hc
    exact ⟨o, hs.extBut c o (hne e fun xs n q => by rw [d] at q; cases q) e, d⟩
  · obtain ⟨b, ru, w'⟩ := r u e he
    exact ⟨b, ru.upT (z.flat u e he) (KeepTup.list hp hs), w'⟩
theorem Kb.set {h h' : Heap} (hs : Heap.SameBut a h h') : Kb (MutA env a) h h' := fun b o n e => hs.extBut b o (fun q => n (.inl q)) e

theorem store_new {s : Shared} {vs : Array Value} {Q : Unit → Shared → Prop} {E : Value → Shared → Prop} (hst : St env s₀ ρ s) (hp : s.heap.PlainList a vs) (hi : IntsAre vs.toList l) (hnew : s₀.heap.get? a = none) (hfl : ∀ y d, ρ.lookup y = some d → Flat d) (hρ : ρ.lookup x = none)
    (hk : env.scope.kind = .function) (hx : env.kindOf x = some .local) (h : ∀ s', StA env s₀ ρ x a l s' → Q () s') : wpAny (model prog w) A (storeName env x (.ref a)) Q E s := by
  obtain ⟨m, cm, i, r⟩ := hst
  refine wpAny_storeName_local hx i.toInCall.ns (fun h' hn' hs' => h _ ?_) (by rw [hk]; rfl)
  have ks : KeepSeq s.heap h' := KeepSeq.ns i.toInCall.ns hs'
  refine ⟨⟨_, cm, ⟨⟨?_, hn', fun b o e => ?_, i.toInCall.fresh⟩, fun k c hc => ?_, i.apart, i.above⟩, fun u e he => ?_⟩, ⟨_, hn', by simp⟩, ⟨vs, plain_up hp ks, hi⟩, hnew, hfl⟩
  · obtain ⟨h₁, tk, rfl⟩ := i.toInCall.same
    exact ⟨h', _, rfl⟩
  · exact hs'.extBut b o (Nat.ne_of_lt (Nat.lt_of_lt_of_le (Heap.lt_size e) i.toInCall.fresh)) (i.toInCall.keep b o e)
  · exact (i.cell k c hc).sameBut hs' (Nat.ne_of_gt (i.above k c (mem_of_lookup hc)))
  · obtain ⟨b, ru, w'⟩ := r u e he
    refine ⟨b, ru.up ks, ?_⟩
    rcases w' with ⟨a', b'⟩ | b'
    · refine .inl ⟨a', ?_⟩
      have : u ≠ x := by rintro rfl; rw [hρ] at he; cases he
      simpa [this] using b'
    · exact .inr b'

/-- e makes a new list of ints -/
def EvN (prog : Program) (w : World) (A : Around) (env : Env) (C : Heap → Prop) (e : Expr) (ns : List Int) : Prop :=
  ∀ (s : Shared) (Q : Value → Shared → Prop) (E : Value → Shared → Prop), C s.heap → (∀ a vs s', Gr s s' → s.heap.get? a = none → s'.heap.PlainList a vs → IntsAre vs.toList ns → Q (.ref a) s') → wpAny (model prog w) A (eval e env) Q E s
theorem none_of_size {h h' : Heap} (k : Keep h h') : h.get? h'.objs.size = none := by
  cases e : h.get? h'.objs.size with
  | none => rfl
  | some o => exact absurd (Heap.lt_size (k _ _ e)) (Nat.lt_irrefl _)
theorem EvN.list {es : List Expr} {ns : List Int} {pos : Pos} (ha : Evs prog w A env C es (ns.map .int)) (hb : backTo pos (starEach es env) = trees es env) (hsz : ns.length ≤ sizeLine) : EvN prog w A env C (.List es pos) ns := fun s Q E c q => by
  refine List_ ?_
  rw [hb]
  refine ha s _ E c fun vs s₁ k₁ r₁ => ?_
  have hi := intsAre_of r₁
  exact newList_pl (by rw [intsLen hi]; exact hsz) fun s₂ k₂ p => q _ _ _ (Gr.tr k₁ k₂) (none_of_size k₁.keep) p (by simpa using hi)
/-- x = e, e a new list -/
theorem assignA {e : Expr} {ns : List Int} {p' p'' : Pos} {s : Shared} {Q : Flow → Shared → Prop} {E : Value → Shared → Prop} (hst : St env s₀ ρ s) (hfl : ∀ y d, ρ.lookup y = some d → Flat d) (hρ : ρ.lookup x = none) (ha : EvN prog w A env (Fc env s₀ ρ) e ns)
    (hk : env.scope.kind = .function) (hx : env.kindOf x = some .local) (hsw : swapsWith e (some (.Name x p')) p''.line env = pure false) (q : ∀ a s', StA env s₀ ρ x a ns s' → Q .next s') : wpAny (model prog w) A (exec (.Assign [.Name x p'] e p'') env) Q E s := by
  refine wpAny_Assign_Name (ha s _ E hst.fc fun a vs s₁ k₁ hn hp hi => ?_) hsw
  refine store_new (hst.keeps k₁) hp hi ?_ hfl hρ hk hx fun s' z => q a s' z
  cases e : s₀.heap.get? a with
  | none => rfl
  | some o => have := hst.gr.keep _ _ e; rw [hn] at this; cases this
theorem SrcN.newList {e : Expr} {ns : List Int} (hh : A.handled = none) (h : EvN prog w A env C e ns) : SrcN prog w A env C e ns.length fun i => .int (ns.getD i 0) := by
  intro s Q E c q
  refine h s _ E c fun a vs s₁ k₁ hn p hi => ?_
  have hlt : a < s₁.heap.objs.size := by obtain ⟨_, e⟩ := p; exact Heap.lt_size e
  have hlen : vs.size = ns.length := by rw [← Array.length_toList]; exact intsLen hi
  refine wpAny_pyIter_list p.isList (q _ _ (Gr.tr k₁ (Gr.push _)) ⟨⟨[s₁.heap.objs.size, a], _, _, hlen ▸ Walks.list hh s₁.heap.objs.size a (Nat.ne_of_lt hlt) vs, ?_, ?_, ?_, ?_, ?_⟩, none_of_size k₁.keep⟩)
  · rintro i h ⟨⟨o, ho, _, hd⟩, _⟩
    exact ⟨o, _, ho, hd⟩
  · exact ⟨⟨_, Heap.get?_push_size _ rfl, rfl, rfl⟩, p.isList.push _⟩
  · intro b hb
    show b < (s₁.heap.push _).objs.size
    rw [Heap.size_push]
    rcases List.mem_cons.mp hb with rfl | hb
    · exact Nat.lt_succ_self _
    · rw [List.mem_singleton.mp hb]; exact Nat.lt_succ_of_lt hlt
  · intro i v _ e
    exact intsGet hi i v (by simpa using e)
  · intro b hb
    rcases List.mem_cons.mp hb with rfl | hb
    · exact none_of_size k₁.keep
    · rw [List.mem_singleton.mp hb]; exact hn

/-- x.append(e) -/
theorem appendA {e : Expr} {p p1 p2 p3 : Pos} {c : Int} {s : Shared} {Q : Flow → Shared → Prop} {E : Value → Shared → Prop} (z : StA env s₀ ρ x a l s) (he : Ev prog w A env (FcA env s₀ ρ x a l) e (.int c)) (hsz : l.length ≤ sizeLine) (hk : env.scope.kind = .function) (hx : env.kindOf x = some .local)
    (hbase : attributeBase (.Name x p) "append" env (eval (.Name x p) env) = eval (.Name x p) env) (hline : (p1.endLine == p2.line) = true) (hb : backTo p2 (starEach [e] env) = trees [e] env) (hin : interactive env = false)
    (hsw : swapsWith (.Call (.Attribute (.Name x p) "append" p1) [e] [] p2) none p3.line env = pure false) (hd : (x == ("__debug__" : Str)) = false)
    (q : ∀ s', StA env s₀ ρ x a (l ++ [c]) s' → Kb (MutA env a) s.heap s'.heap → Q .next s') : wpAny (model prog w) A (exec (.Expr (.Call (.Attribute (.Name x p) "append" p1) [e] [] p2) p3) env) Q E s := by
  refine wpAny_Expr ?_ hin hsw
  refine wpAny_Call_method (T := "list") (id := "list.append") hbase (by rw [hb]; rfl) hline PySem.F.plainAttrs_list PySem.F.slot_list_append PySem.F.type_list_append (own_name z hk hx ?_ hd)
  obtain ⟨vs, ⟨n, hp⟩, hi⟩ := z.ls
  refine ⟨⟨_, hp, rfl⟩, fun b e => ⟨_, by cases e; exact hp, rfl⟩, ?_⟩
  rw [hb]
  refine Calls.callWith_builtin rfl (Calls.evalArgs_plain (Evs.one FcA.kp he s _ E z.fc fun us s₂ k₂ r₂ => ?_))
  obtain ⟨v, rfl, t, rfl⟩ := Rds.one r₂
  have z₂ := z.keeps k₂
  obtain ⟨vs₂, hp₂, hi₂⟩ := z₂.ls
  refine wpAny_list_append_plain hp₂ (fun h' hp' hs' => ?_) (by rw [← Array.length_toList, intsLen hi₂]; exact hsz)
  refine q _ (z₂.set (t := s₂.toks) hp' ?_ hs') (Kb.tr (Keep.kb k₂.keep) (Kb.set hs'))
  rw [Array.toList_push]
  exact PyProof.Rows.IntsAre.append hi₂ (.cons c t .nil)
end Mine
end

section
open PySem PySem.W PyProof.Rows
set_option Elab.async false
set_option linter.unusedVariables false
set_option maxRecDepth 100000
namespace Mine
variable {prog : Program} {w : World} {A : Around} {env : Env} {C : Heap → Prop} {F : Nat → Addr} {s₀ : Shared} {ρ : Names}

def famCode (n : Int) : Int := if 55296 ≤ n % 1111936 + 128 then n % 1111936 + 128 + 2048 else n % 1111936 + 128
def kin1 (c b : Int) : Int := if decide (55296 ≤ Builtin.bitXor c b) && decide (Builtin.bitXor c b < 57344) then c else Builtin.bitXor c b
def bits : List Int := [1, 64, 4096]
def kins (c : Int) : List Int := bits.map (kin1 c)
def family (n : Int) : List Int := [97, famCode n] ++ kins (famCode n)

theorem StA.pick {x : Str} {a : Addr} {l : List Int} {s : Shared} {ρ' : Names} (z : StA env s₀ ρ x a l s) (h : ∀ p ∈ ρ', ρ.lookup p.1 = some p.2) : StA env s₀ ρ' x a l s :=
  ⟨z.st.pick h, z.nm, z.ls, z.new, fun y d e => z.flat y d (h (y, d) (mem_of_lookup e))⟩
theorem flat_of {ρ : Names} (h : ∀ p ∈ ρ, Flat p.2) : ∀ y d, ρ.lookup y = some d → Flat d := fun y d e => h (y, d) (mem_of_lookup e)

set_option maxHeartbeats 8000000 in
theorem family_fn {n : Int} (hR : Room A 1) : Fn pg w A (Base F) (.ref (F 5)) [.int n] (.li (family n)) := fun s Q E vs B r q => by
  obtain ⟨v, rfl, r₁⟩ := Rds.one r
  refine call_def (i := 5) (xs := ["number"]) (B.defs 5 (by decide)) B.lim hR.d (fun _ _ _ _ _ _ _ => rfl) (by decide +kernel) rfl rfl rfl fun fd hfd s' x E' => ?_
  obtain ⟨nm, qn, d, p, an, cd, ct, rfl⟩ := hfd
  generalize henv : callEnvC (fnAt 5 nm qn d p an cd ct) s.heap.objs.size (F 5) = env at x ⊢
  have own : Own env := by rw [← henv]; exact Own.call rfl
  have hst : St env s [("number", .int n)] s' := start1 (by rw [← henv]; rfl) x r₁
  have hA : (A.deeper env).handled = none := hR.handled
  have kc : env.kindOf "code" = some .local := by rw [← henv]; rfl
  have kf : env.kindOf "family" = some .local := by rw [← henv]; rfl
  have kb : env.kindOf "bit" = some .local := by rw [← henv]; rfl
  have hin : interactive env = false := by rw [← henv]; rfl
  generalize hA' : A.deeper env = A' at hA ⊢
  have kp0 : Kp (Fc env s [("number", .int n)]) := Fc.kp
  refine wpAny_execs_cons (Ex.assign (d := .int (n % 1111936 + 128)) (Ev.bin kp0 (Ev.bin kp0 (Ev.var rfl own.kind) Ev.constInt (Op2.mod' (by decide))) Ev.constInt Op2.addInt) own.kind (.inl kc) rfl s' _ E' hst fun s₁ hst₁ _ => ?_)
  have kp1 : Kp (Fc env s [("code", .int (n % 1111936 + 128)), ("number", .int n)]) := Fc.kp
  have hIf : Ex pg w A' env s [("code", .int (n % 1111936 + 128)), ("number", .int n)] ((dBody (dfn 5)).getD 1 (.Pass ⟨0, 0, 0, 0⟩)) [("code", .int (famCode n))] := by
    refine Ex.ite (x := decide (55296 ≤ n % 1111936 + 128)) (Tst.cmp kp1 (Ev.var rfl own.kind) Ev.constInt Cmp2.geInt) (fun h => ?_) (fun h => ?_)
    · intro s₂ Q₂ E₂ hst₂ q₂
      refine wpAny_execs_cons (Ex.assign (d := .int (famCode n)) ?_ own.kind (.inl kc) rfl s₂ _ E₂ hst₂ fun s₃ hst₃ kb₃ => wpAny_execs_nil (q₂ s₃ (hst₃.pick ?_) kb₃))
      · have : famCode n = n % 1111936 + 128 + 2048 := by unfold famCode; rw [if_pos (by simpa using h)]
        rw [this]
        exact Ev.bin kp1 (Ev.var rfl own.kind) Ev.constInt Op2.addInt
      · intro p hp; rw [List.mem_singleton.mp hp]; rfl
    · intro s₂ Q₂ E₂ hst₂ q₂
      refine wpAny_execs_nil (q₂ s₂ (hst₂.pick ?_) fun _ _ _ e => e)
      have : famCode n = n % 1111936 + 128 := by unfold famCode; rw [if_neg (by simpa using h)]
      intro p hp; rw [List.mem_singleton.mp hp, this]; rfl
  refine wpAny_execs_cons (hIf s₁ _ E' hst₁ fun s₂ hst₂ _ => ?_)
  have kp2 : Kp (Fc env s [("code", .int (famCode n))]) := Fc.kp
  unfold family at q
  generalize famCode n = c at hst₂ q kp2 ⊢
  refine wpAny_execs_cons (assignA (x := "family") (ns := [97, c]) hst₂ (flat_of (by simp [Flat])) rfl (EvN.list (ns := [97, c]) (Evs.two kp2 Ev.constInt (Ev.var rfl own.kind)) rfl (by simp [sizeLine])) own.kind kf rfl fun a s₃ z₃ => ?_)
  have hInvMut : ∀ b, MutA env a b → s₃.heap.get? b ≠ none := by
    rintro b (rfl | rfl | ⟨y, hy⟩)
    · obtain ⟨vs, ⟨nn, e⟩, _⟩ := z₃.ls; rw [e]; simp
    · obtain ⟨m, ⟨o, _, _, e, _⟩, _⟩ := z₃.nm; rw [e]; simp
    · obtain ⟨m, cm, i, _⟩ := z₃.st
      obtain ⟨o, e, _⟩ := i.cell y b hy
      rw [e]; simp
  refine wpAny_execs_cons (for_inv (n := bits.length) (d := fun i => bits.getD i 0) (C := FcA env s [("code", .int c)] "family" a [97, c]) (fun i s' => StA env s [("code", .int c)] "family" a ([97, c] ++ (kins c).take i) s') (MutA env a) hInvMut
    (SrcN.newList hA (EvN.list (ns := bits) (Evs.three FcA.kp Ev.constInt Ev.constInt Ev.constInt) rfl (by decide))) z₃.fc (fun _ => rfl) (fun s' k => by simpa using z₃.keeps k) ?_ ?_ ?_)
  · intro i s' I h t hI z hfs k
    refine z.iter hfs ?_ k
    cases e : s.heap.get? I with
    | none => rfl
    | some o => have := z₃.gr.keep _ _ e; rw [hI] at this; cases this
  · intro i s₄ t E₄ hi z₄
    refine storeA z₄ (d := .int (bits.getD i 0)) ⟨t, rfl⟩ trivial (by decide +kernel) own.kind kb fun s₅ z₅ kb₅ => ?_
    have hlen : ([97, c] ++ (kins c).take i).length ≤ sizeLine := by
      have h1 : ((kins c).take i).length ≤ (kins c).length := List.length_take_le' _ _
      have h2 : (kins c).length = 3 := rfl
      have h3 : (5 : Nat) ≤ sizeLine := by decide
      simp only [List.length_append, List.length_cons, List.length_nil]
      omega
    refine wpAny_execs_cons (appendA (c := kin1 c (bits.getD i 0)) z₅ ?_ hlen own.kind kf rfl rfl rfl hin rfl (by decide +kernel) fun s₆ z₆ kb₆ => wpAny_execs_nil ⟨kb₅.tr kb₆, ?_⟩)
    · have kc5 : Kp (FcA env s [("bit", .int (bits.getD i 0)), ("code", .int c)] "family" a ([97, c] ++ (kins c).take i)) := FcA.kp
      have vx : ∀ {pp p1 p2}, Ev pg w A' env (FcA env s [("bit", .int (bits.getD i 0)), ("code", .int c)] "family" a ([97, c] ++ (kins c).take i)) (.BinOp (.Name "code" p1) .BitXor (.Name "bit" p2) pp) (.int (Builtin.bitXor c (bits.getD i 0))) :=
        fun {pp p1 p2} => Ev.bin kc5 (Ev.varA rfl own.kind) (Ev.varA rfl own.kind) Op2.xorInt
      refine Tst.ite kc5 (Tst.chain kc5 Ev.constInt vx (fun _ => Ev.constInt) Cmp2.leInt Cmp2.ltInt) (fun h => ?_) (fun h => ?_)
      · have : kin1 c (bits.getD i 0) = c := by unfold kin1; rw [if_pos h]
        rw [this]; exact Ev.varA rfl own.kind
      · have : kin1 c (bits.getD i 0) = Builtin.bitXor c (bits.getD i 0) := by unfold kin1; rw [if_neg (by rw [h]; simp)]
        rw [this]; exact vx
    · have e : [97, c] ++ (kins c).take i ++ [kin1 c (bits.getD i 0)] = [97, c] ++ (kins c).take (i + 1) := by
        rw [List.append_assoc]
        congr 1
        have hi3 : i < (kins c).length := hi
        rw [List.take_succ_eq_append_getElem hi3]
        congr 1
        simp only [kins, List.getElem_map, List.getD_eq_getElem?_getD, List.getElem?_eq_getElem (show i < bits.length from hi), Option.getD_some]
      rw [← e]
      exact z₆.pick fun p hp => by rw [List.mem_singleton.mp hp]; rfl
  · intro s₄ z₄
    have e : [97, c] ++ (kins c).take bits.length = [97, c] ++ kins c := rfl
    rw [e] at z₄
    refine wpAny_execs_cons (wpAny_Return_some (Ev.ownA own.kind kf (by decide +kernel) s₄ _ E' z₄.fc fun v s₅ k₅ r₅ => ?_))
    exact ⟨v, rfl, q v s₅ (Gr.tr z₄.gr k₅) r₅⟩
end Mine
end

section
open PySem PySem.W PyProof.Rows
set_option Elab.async false
set_option linter.unusedVariables false
set_option maxRecDepth 100000
namespace Mine
variable {prog : Program} {w : World} {A : Around} {env : Env} {C : Heap → Prop} {F : Nat → Addr} {s₀ : Shared} {ρ : Names} {x : Str} {a : Addr} {l : List Int}

theorem ints_set {vs : List Value} {ns : List Int} (h : IntsAre vs ns) (k : Nat) (c : Int) (t : Tok) : IntsAre (vs.set k (.int c t)) (ns.set k c) := by
  induction h generalizing k with
  | nil => exact .nil
  | cons n u h ih => cases k with
    | zero => exact .cons c t h
    | succ k => exact .cons n u (ih k)

/-- x[ie] = ve -/
theorem setA {ie ve : Expr} {p p1 p2 : Pos} {k c : Int} {s : Shared} {Q : Flow → Shared → Prop} {E : Value → Shared → Prop} (z : StA env s₀ ρ x a l s) (hv : Ev prog w A env (FcA env s₀ ρ x a l) ve (.int c)) (hi : Ev prog w A env (FcA env s₀ ρ x a l) ie (.int k)) (h0 : 0 ≤ k) (h1 : k < l.length) (hn : (l.length : Int) < 2 ^ 63)
    (hk : env.scope.kind = .function) (hx : env.kindOf x = some .local) (hsw : swapsWith ve (some (.Subscript (.Name x p) ie p1)) p2.line env = pure false) (hd : (x == ("__debug__" : Str)) = false)
    (q : ∀ s', StA env s₀ ρ x a (l.set k.toNat c) s' → Kb (MutA env a) s.heap s'.heap → Q .next s') : wpAny (model prog w) A (exec (.Assign [.Subscript (.Name x p) ie p1] ve p2) env) Q E s := by
  refine wpAny_Assign_Subscript (hv s _ E z.fc fun v s₁ k₁ r₁ => own_name (z.keeps k₁) hk hx (hi s₁ _ E (z.keeps k₁).fc fun i s₂ k₂ r₂ => ?_) hd) hsw
  obtain ⟨t, rfl⟩ := r₁
  obtain ⟨u, rfl⟩ := r₂
  have z₂ := (z.keeps k₁).keeps k₂
  obtain ⟨vs, ⟨n, hp⟩, his⟩ := z₂.ls
  have hlen : vs.size = l.length := by rw [← Array.length_toList]; exact intsLen his
  refine ki_setAt hp h0 (by omega) (by omega) ?_
  have hup := PySem.IsL.update hp (·.setIfInBounds k.toNat (.int c t))
  refine q _ (z₂.set (t := s₂.toks) ⟨_, hup⟩ ?_ (Heap.SameBut.update ..)) (Kb.tr (Keep.kb (Gr.tr k₁ k₂).keep) (Kb.set (Heap.SameBut.update ..)))
  rw [Array.toList_setIfInBounds]
  exact ints_set his _ _ _

theorem Tst.go {t : Expr} {b : Bool} {s : Shared} {Q : Bool → Shared → Prop} {E : Value → Shared → Prop} (h : Tst prog w A env C t b) (c : C s.heap) (q : ∀ s', Gr s s' → Q b s') : wpAny (model prog w) A (isTrue t env (eval t env)) Q E s := h s Q E c q
theorem if_goA {t : Expr} {b b' : List Stmt} {p : Pos} {s : Shared} {Q : Flow → Shared → Prop} {E : Value → Shared → Prop} (z : StA env s₀ ρ x a l s) (y : Bool) (ht : Tst prog w A env (FcA env s₀ ρ x a l) t y)
    (h : y = true → ∀ s₁, Gr s s₁ → StA env s₀ ρ x a l s₁ → wpAny (model prog w) A (execs b env) Q E s₁) (h' : y = false → ∀ s₁, Gr s s₁ → StA env s₀ ρ x a l s₁ → wpAny (model prog w) A (execs b' env) Q E s₁) : wpAny (model prog w) A (exec (.If t b b' p) env) Q E s :=
  wpAny_If (ht s _ E z.fc fun s₁ k₁ => by
    cases y with
    | true => exact h rfl s₁ k₁ (z.keeps k₁)
    | false => exact h' rfl s₁ k₁ (z.keeps k₁))
/-- y = e, y another name -/
theorem assignS {e : Expr} {y : Str} {d : Dt} {p1 p2 : Pos} {s : Shared} {Q : Flow → Shared → Prop} {E : Value → Shared → Prop} (z : StA env s₀ ρ x a l s) (he : Ev prog w A env (FcA env s₀ ρ x a l) e d) (hf : Flat d) (hyx : x ≠ y) (hk : env.scope.kind = .function) (hy : env.kindOf y = some .local)
    (hsw : swapsWith e (some (.Name y p1)) p2.line env = pure false) (q : ∀ s', StA env s₀ ((y, d) :: ρ) x a l s' → Kb (MutA env a) s.heap s'.heap → Q .next s') : wpAny (model prog w) A (exec (.Assign [.Name y p1] e p2) env) Q E s :=
  wpAny_Assign_Name (he s _ E z.fc fun v s₁ k₁ r₁ => storeA (z.keeps k₁) r₁ hf hyx hk hy fun s₂ z₂ kb => q s₂ z₂ (Kb.tr (Keep.kb k₁.keep) kb)) hsw

/-- x = [..] * n: a new list -/
theorem EvN.mul {e e' : Expr} {p : Pos} {b : List Int} {n : Int} (kc : Kp C) (h : Ev prog w A env C e (.li b)) (h' : Ev prog w A env C e' (.int n)) (h0 : 0 ≤ n) (hx : n < 2 ^ 63) (hne : b ≠ []) (hsz : b.length * n.toNat ≤ 2 ^ 24) : EvN prog w A env C (.BinOp e .Mult e' p) (List.replicate n.toNat b).flatten := fun s Q E c q => by
  refine wpAny_BinOp (h s _ E c fun v s₁ k₁ r₁ => h' s₁ _ E (kc _ _ c k₁.keep) fun u s₂ k₂ r₂ => mul_new h0 hx hne hsz (r₁.up k₂.keep.seq) r₂ fun vs s₃ k₃ p i => q _ _ _ (Gr.tr k₁ (Gr.tr k₂ k₃)) (none_of_size (Gr.tr k₁ k₂).keep) p i)

/-- the signs of a text -/
def sg (x : Str) (i : Nat) : Nat := x.cps.getD i 0

theorem one_sign_eq (a b : Nat) : ((⟨#[a]⟩ : Str) != ⟨#[b]⟩) = (a != b) := by
  rw [Bool.eq_iff_iff]
  simp only [bne_iff_ne, ne_eq]
  constructor
  · intro h e; exact h (by rw [e])
  · intro h e; exact h (by have := congrArg Str.cps e; simpa using this)

set_option maxHeartbeats 8000000 in
theorem table_fn {y : Str} (h0 : 0 < y.length) (hn : y.length ≤ 1024) (hR : Room A 1) : Fn pg w A (Base F) (.ref (F 3)) [.str y] (.li (tab (sg y) y.length y.length)) := fun s Q E vs B r q => by
  obtain ⟨v, rfl, r₁⟩ := Rds.one r
  refine call_def (i := 3) (xs := ["prefix"]) (B.defs 3 (by decide)) B.lim hR.d (fun _ _ _ _ _ _ _ => rfl) (by decide +kernel) rfl rfl rfl fun fd hfd s' x E' => ?_
  obtain ⟨nm, qn, d, p, an, cd, ct, rfl⟩ := hfd
  generalize henv : callEnvC (fnAt 3 nm qn d p an cd ct) s.heap.objs.size (F 3) = env at x ⊢
  have own : Own env := by rw [← henv]; exact Own.call rfl
  have hst : St env s [("prefix", .str y)] s' := start1 (by rw [← henv]; rfl) x r₁
  have hB : ∀ {ρ : Names} h, Fc env s ρ h → Base F h := fun h c => Fc.base Base.kp B c
  have hA : (A.deeper env).handled = none := hR.handled
  have kl : env.kindOf "len" = some .globalImplicit := by rw [← henv]; rfl
  have kr : env.kindOf "range" = some .globalImplicit := by rw [← henv]; rfl
  have kt : env.kindOf "table" = some .local := by rw [← henv]; rfl
  have ki : env.kindOf "i" = some .local := by rw [← henv]; rfl
  have kx : env.kindOf "idx" = some .local := by rw [← henv]; rfl
  generalize hA' : A.deeper env = A' at hA ⊢
  have kp0 : Kp (Fc env s [("prefix", .str y)]) := Fc.kp
  have vlen : ∀ {ρ : Names} {pp p1 p2}, ρ.lookup (Str.ofString "prefix") = some (Dt.str y) → Ev pg w A' env (Fc env s ρ) (.Call (.Name "len" pp) [.Name "prefix" p1] [] p2) (.int y.length) := fun {ρ pp p1 p2} h =>
    Ev.call Fc.kp (vLen (F := F) own (fun h c => hB h c) kl) plainBi (Evs.one Fc.kp (Ev.var h own.kind)) (Fn.lenS (by omega)) rfl
  generalize hnn : y.length = n at *
  -- table = [0] * len(prefix)
  have e0 : (List.replicate (n : Int).toNat [(0 : Int)]).flatten = tab (sg y) n 1 := by
    rw [tab_start, Int.toNat_natCast]
    clear hnn q hn h0 vlen
    induction n with
    | zero => rfl
    | succ n ih => rw [List.replicate_succ, List.flatten_cons, ih]; rfl
  refine wpAny_execs_cons (assignA (x := "table") (ns := tab (sg y) n 1) hst (flat_of (by simp [Flat])) rfl ?_ own.kind kt rfl fun a s₁ z₁ => ?_)
  · rw [← e0]
    exact EvN.mul kp0 (Ev.listI (ns := [0]) (Evs.one kp0 Ev.constInt) rfl (by decide)) (vlen rfl) (by omega) (by omega) (by decide) (by simp; omega)
  have hMut : ∀ b, MutA env a b → s₁.heap.get? b ≠ none := by
    rintro b (rfl | rfl | ⟨y, hy⟩)
    · obtain ⟨vs, ⟨nn, e⟩, _⟩ := z₁.ls; rw [e]; simp
    · obtain ⟨m, ⟨o, _, _, e, _⟩, _⟩ := z₁.nm; rw [e]; simp
    · obtain ⟨m, cm, i, _⟩ := z₁.st
      obtain ⟨o, e, _⟩ := i.cell y b hy
      rw [e]; simp
  refine wpAny_execs_cons (for_inv (n := ((n : Int) - 1).toNat) (d := fun i => 1 + (i : Int)) (C := FcA env s [("prefix", .str y)] "table" a (tab (sg y) n 1)) (fun i s' => StA env s [("prefix", .str y)] "table" a (tab (sg y) n (1 + i)) s') (MutA env a) hMut
    (SrcN.range2 hA FcA.kp (vRange (F := F) own (fun h c => hB h c.fc) kr) Ev.constInt ((vlen rfl).imp fun h c => c.fc) (by decide) (by decide) (by omega) (by omega) rfl) z₁.fc (fun _ => rfl) (fun s' k => z₁.keeps k) ?_ ?_ ?_)
  · intro i s' I h t hI z hfs k
    refine z.iter hfs ?_ k
    cases e : s.heap.get? I with
    | none => rfl
    | some o => have := z₁.gr.keep _ _ e; rw [hI] at this; cases this
  · intro j s₂ t E₂ hj z₂
    have hj' : 1 + j < n := by omega
    generalize hi : 1 + j = i at z₂ hj'
    have hi1 : (1 + (j : Int)) = (i : Int) := by omega
    rw [hi1]
    have hi0 : 0 < i := by omega
    refine storeA z₂ (d := .int i) ⟨t, rfl⟩ trivial (by decide +kernel) own.kind ki fun s₃ z₃ kb₃ => ?_
    -- idx = table[i - 1]
    have hT : (tab (sg y) n i).length = n := tab_len _ _ _
    have hg : ∀ j, j < i → (tab (sg y) n i).getD j 0 = ((bord (sg y) (j + 1) : Nat) : Int) := fun j hj => tab_get (by omega) hj
    have kA3 : Kp (FcA env s [("i", .int i), ("prefix", .str y)] "table" a (tab (sg y) n i)) := FcA.kp
    have eidx : (tab (sg y) n i).getD ((i : Int) - 1).toNat 0 = ((bord (sg y) i : Nat) : Int) := by
      rw [show ((i : Int) - 1).toNat = i - 1 by omega, hg (i - 1) (by omega), show i - 1 + 1 = i by omega]
    refine wpAny_execs_cons (assignS z₃ (d := .int (bord (sg y) i : Nat)) ?_ trivial (by decide +kernel) own.kind kx rfl fun s₄ z₄ kb₄ => ?_)
    · rw [← eidx]
      exact Ev.item kA3 Lst.li (Ev.ownA own.kind kt (by decide +kernel)) (Ev.bin kA3 (Ev.varA rfl own.kind) Ev.constInt Op2.subInt) (by omega) (by rw [hT]; omega) (by rw [hT]; omega) (fun _ _ => rfl)
    -- the inner loop
    refine wpAny_execs_cons (wpAny_While (codeAny_whileLoop (fun m s' => ∃ idx, m = idx ∧ Cand (sg y) i idx ∧ StA env s [("idx", .int (idx : Nat)), ("i", .int i), ("prefix", .str y)] "table" a (tab (sg y) n i) s' ∧ Kb (MutA env a) s₂.heap s'.heap) ?_ (bord (sg y) i)
      ⟨_, rfl, Cand.start hi0, z₄, kb₃.tr kb₄⟩))
    rintro m s₅ ⟨idx, rfl, hc, z₅, kb₅⟩
    have hlt := hc.lt
    have kA5 : Kp (FcA env s [("idx", .int (m : Nat)), ("i", .int i), ("prefix", .str y)] "table" a (tab (sg y) n i)) := FcA.kp
    have vpre : ∀ {pp}, Ev pg w A' env (FcA env s [("idx", .int (m : Nat)), ("i", .int i), ("prefix", .str y)] "table" a (tab (sg y) n i)) (.Name "prefix" pp) (.str y) := Ev.varA rfl own.kind
    have vi : ∀ {pp}, Ev pg w A' env (FcA env s [("idx", .int (m : Nat)), ("i", .int i), ("prefix", .str y)] "table" a (tab (sg y) n i)) (.Name "i" pp) (.int i) := Ev.varA rfl own.kind
    have vx : ∀ {pp}, Ev pg w A' env (FcA env s [("idx", .int (m : Nat)), ("i", .int i), ("prefix", .str y)] "table" a (tab (sg y) n i)) (.Name "idx" pp) (.int (m : Nat)) := Ev.varA rfl own.kind
    have fin : ∀ s₆ c, StA env s [("idx", .int (m : Nat)), ("i", .int i), ("prefix", .str y)] "table" a ((tab (sg y) n i).set (i : Int).toNat c) s₆ → Kb (MutA env a) s₅.heap s₆.heap → c = ((bord (sg y) (i + 1) : Nat) : Int) →
        Kb (MutA env a) s₂.heap s₆.heap ∧ StA env s [("prefix", .str y)] "table" a (tab (sg y) n (1 + (j + 1))) s₆ := fun s₆ c z₆ kb₆ hcv => by
      rw [hcv, Int.toNat_natCast, tab_set hj'] at z₆
      refine ⟨kb₅.tr kb₆, ?_⟩
      rw [show 1 + (j + 1) = i + 1 by omega]
      exact z₆.pick fun p hp => by rw [List.mem_singleton.mp hp]; rfl
    refine Tst.go (C := FcA env s [("idx", .int (m : Nat)), ("i", .int i), ("prefix", .str y)] "table" a (tab (sg y) n i)) (b := (sg y i != sg y m)) ?_ z₅.fc (fun s₆ k₆ => ?_)
    · exact Tst.cast (one_sign_eq _ _) (Tst.cmp kA5 (Ev.sign kA5 vpre vi (by omega) (by omega) (by omega) (fun _ _ => rfl)) (Ev.sign kA5 vpre vx (by omega) (by omega) (by omega) (fun _ _ => rfl)) Cmp2.neStr)
    have z₆ := z₅.keeps k₆
    have kb₆ : Kb (MutA env a) s₅.heap s₆.heap := Keep.kb k₆.keep
    cases hne : (sg y i != sg y m) with
    | false =>
      simp only [Bool.false_eq_true, if_false]
      refine wpAny_execs_cons (setA (c := ((m : Nat) : Int) + 1) z₆ (Ev.bin kA5 vx Ev.constInt Op2.addInt) vi (by omega) (by rw [hT]; omega) (by rw [hT]; omega) own.kind kt rfl (by decide +kernel) fun s₇ z₇ kb₇ => wpAny_execs_nil ?_)
      refine wpAny_execs_nil (fin s₇ _ z₇ (kb₆.tr kb₇) ?_)
      have he : sg y i = sg y m := by simpa using hne
      rw [hc.hit he]; omega
    | true =>
      have hn' : sg y i ≠ sg y m := by simpa using hne
      simp only [if_true]
      refine wpAny_execs_cons (if_goA z₆ (((m : Nat) : Int) == 0) (Tst.cmp kA5 vx Ev.constInt Cmp2.eqInt) (fun hx s₇ k₇ z₇ => ?_) (fun hx s₇ k₇ z₇ => ?_))
      · have hm0 : m = 0 := by simpa using hx
        refine wpAny_execs_cons (setA (c := 0) z₇ Ev.constInt vi (by omega) (by rw [hT]; omega) (by rw [hT]; omega) own.kind kt rfl (by decide +kernel) fun s₈ z₈ kb₈ => wpAny_execs_cons (wpAny_Break ?_))
        refine wpAny_execs_nil (fin s₈ _ z₈ (kb₆.tr (Kb.tr (Keep.kb k₇.keep) kb₈)) ?_)
        subst hm0
        rw [hc.miss hn']; rfl
      · have hm0 : m ≠ 0 := by rintro rfl; simp at hx
        refine wpAny_execs_nil ?_
        have ex2 : (tab (sg y) n i).getD (((m : Nat) : Int) - 1).toNat 0 = ((bord (sg y) m : Nat) : Int) := by
          rw [show (((m : Nat) : Int) - 1).toNat = m - 1 by omega, hg (m - 1) (by omega), show m - 1 + 1 = m by omega]
        refine wpAny_execs_cons (assignS z₇ (d := .int (bord (sg y) m : Nat)) ?_ trivial (by decide +kernel) own.kind kx rfl fun s₈ z₈ kb₈ => wpAny_execs_nil ?_)
        · rw [← ex2]
          exact Ev.item kA5 Lst.li (Ev.ownA own.kind kt (by decide +kernel)) (Ev.bin kA5 vx Ev.constInt Op2.subInt) (by omega) (by rw [hT]; omega) (by rw [hT]; omega) (fun _ _ => rfl)
        · have hcs := hc.step hm0 hn'
          refine ⟨bord (sg y) m, (bord_LB (Nat.pos_of_ne_zero hm0)).1, _, rfl, hcs, z₈.pick ?_, kb₅.tr (kb₆.tr (Kb.tr (Keep.kb k₇.keep) kb₈))⟩
          intro p hp
          rcases List.mem_cons.mp hp with rfl | hp
          · rfl
          rcases List.mem_cons.mp hp with rfl | hp
          · rfl
          rw [List.mem_singleton.mp hp]; rfl
  · intro s₂ z₂
    have e : 1 + ((n : Int) - 1).toNat = n := by omega
    rw [e] at z₂
    refine wpAny_execs_cons (wpAny_Return_some (Ev.ownA own.kind kt (by decide +kernel) s₂ _ E' z₂.fc fun v s₅ k₅ r₅ => ?_))
    exact ⟨v, rfl, q v s₅ (Gr.tr z₂.gr k₅) r₅⟩
end Mine
end

section
open PySem PySem.W PyProof.Rows
set_option Elab.async false
set_option linter.unusedVariables false
set_option maxRecDepth 100000
namespace Mine
open PySem.Builtin PySem.Builtin._codecs
variable {prog : Program} {w : World} {A : Around} {E : Value → Shared → Prop}

def enc1 (c : Nat) : List UInt8 := if Str.isSurrogate c then [(c - 0xDC00).toUInt8] else Str.utf8Of c
def EncOk (x : Str) : Prop := ∀ c ∈ x.cps.toList, Str.isSurrogate c = true → 0xDC80 ≤ c ∧ c ≤ 0xDCFF

def fi (p : Nat → Bool) (l : List Nat) : Nat := (l.findIdx? p).getD l.length
theorem fi_cons (p : Nat → Bool) (a : Nat) (r : List Nat) : fi p (a :: r) = if p a = true then 0 else fi p r + 1 := by
  unfold fi
  rw [List.findIdx?_cons]
  cases p a with
  | true => simp
  | false => cases h : r.findIdx? p <;> simp
theorem fi_le (p : Nat → Bool) (l : List Nat) : fi p l ≤ l.length := by
  induction l with
  | nil => simp [fi]
  | cons a r ih => rw [fi_cons]; split <;> simp; exact ih
theorem fi_take (p : Nat → Bool) (l : List Nat) : ∀ y ∈ l.take (fi p l), p y = false := by
  induction l with
  | nil => intro y hy; simp at hy
  | cons a r ih =>
    intro y hy
    rw [fi_cons] at hy
    split at hy
    · simp at hy
    · rename_i h
      rw [List.take_succ_cons] at hy
      rcases List.mem_cons.mp hy with rfl | hy
      · simpa using h
      · exact ih y hy
theorem fi_pos (p : Nat → Bool) (a : Nat) (r : List Nat) (h : p a = false) : 1 ≤ fi p (a :: r) := by
  rw [fi_cons, h]; simp

theorem foldl_bytes (f : Nat → List UInt8) : ∀ (l : List Nat) (acc : Array UInt8), (l.foldl (fun acc y => acc ++ (f y).toArray) acc).toList = acc.toList ++ l.flatMap f
  | [], acc => by simp
  | a :: r, acc => by
    rw [List.foldl_cons, foldl_bytes f r]
    simp
theorem flatMap_congr' {f g : Nat → List UInt8} : ∀ {l : List Nat}, (∀ y ∈ l, f y = g y) → l.flatMap f = l.flatMap g
  | [], _ => rfl
  | a :: r, h => by
    rw [List.flatMap_cons, List.flatMap_cons, h a List.mem_cons_self, flatMap_congr' fun y hy => h y (List.mem_cons_of_mem _ hy)]
theorem takeWhile_all {p : Nat → Bool} : ∀ {l : List Nat}, (∀ y ∈ l, p y = true) → l.takeWhile p = l
  | [], _ => rfl
  | a :: r, h => by rw [List.takeWhile_cons, h a List.mem_cons_self, if_pos rfl, takeWhile_all fun y hy => h y (List.mem_cons_of_mem _ hy)]
theorem flatMap_one (f : Nat → UInt8) (l : List Nat) : l.flatMap (fun y => [f y]) = l.map f := by
  induction l with
  | nil => rfl
  | cons a r ih => rw [List.flatMap_cons, ih]; rfl
theorem utf8_len (c : Nat) : (Str.utf8Of c).length ≤ 4 := by
  unfold Str.utf8Of
  (repeat' split) <;> simp
theorem enc1_len (c : Nat) : (enc1 c).length ≤ 4 := by
  unfold enc1
  split
  · simp
  · exact utf8_len c
theorem enc_len (l : List Nat) : (l.flatMap enc1).length ≤ 4 * l.length := by
  induction l with
  | nil => simp
  | cons a r ih =>
    have := enc1_len a
    rw [List.flatMap_cons, List.length_append, List.length_cons]
    omega

theorem encode_ok {x : Str} {self : Value} {s : Shared} {Q : Array UInt8 → Shared → Prop} (hx : EncOk x) (hsz : 4 * x.length ≤ sizeLine) (q : Q (x.cps.toList.flatMap enc1).toArray s) :
    wpAny (model prog w) A (encodeNarrow "str.encode" utf8Codec (some (Str.ofString "surrogateescape")) self x) Q E s := by
  unfold encodeNarrow
  have hname : ((some (Str.ofString "surrogateescape")).getD (Str.ofString "strict")).toString = "surrogateescape" := by decide +kernel
  dsimp only
  rw [Std.Legacy.Range.forIn_eq_forIn_range', hname]
  refine wpAny_bind (wpAny_forIn_list _ (fun rest st s' => s' = s ∧ st.2.1.toList = (x.cps.toList.take st.1).flatMap enc1 ∧ st.1 ≤ x.cps.size ∧ x.cps.size - st.1 ≤ rest.length) _ ?_ ?_ _ _ ⟨rfl, rfl, Nat.zero_le _, by simp [Std.Legacy.Range.size, Str.length]⟩)
  · rintro _ rest ⟨i, out, st⟩ s' ⟨rfl, hout, hi, hr⟩
    dsimp only at hout hi hr ⊢
    have hos : ¬ out.size > sizeLine := by
      have h1 := enc_len (x.cps.toList.take i)
      have h2 : (x.cps.toList.take i).length ≤ x.length := by rw [List.length_take]; simp [Str.length]; omega
      have h3 : out.size = ((x.cps.toList.take i).flatMap enc1).length := by rw [← Array.length_toList, hout]
      omega
    rw [if_neg hos]
    refine wpAny_bind (wpAny_pure ?_)
    by_cases hlt : i < x.cps.size
    · have hc : x.cps[i]? = some x.cps[i] := by simp [hlt]
      rw [hc]
      generalize hcc : x.cps[i] = c
      have hdrop : x.cps.toList.drop i = c :: x.cps.toList.drop (i + 1) := by
        rw [List.drop_eq_getElem_cons (by simpa using hlt)]
        simp [hcc]
      have hrest : x.cps.extract i = (x.cps.toList.drop i).toArray := by apply Array.ext'; simp [List.take_of_length_le]
      dsimp only
      have hbad : ∀ y, utf8Codec.bad y = Str.isSurrogate y := fun _ => rfl
      have hbytes : ∀ y, utf8Codec.bytesOf y = Str.utf8Of y := fun _ => rfl
      have hmem : ∀ k y, y ∈ (x.cps.toList.drop i).take k → y ∈ x.cps.toList := fun k y hy => List.mem_of_mem_drop (List.mem_of_mem_take hy)
      have hdl : (x.cps.toList.drop i).length = x.cps.size - i := by simp
      have hadd : ∀ k, x.cps.toList.take (i + k) = x.cps.toList.take i ++ (x.cps.toList.drop i).take k := fun k => List.take_add
      cases hb : utf8Codec.bad c with
      | false =>
        rw [if_pos (by simp)]
        refine wpAny_pure ?_
        have hk : (Array.findIdx? utf8Codec.bad (x.cps.extract i)).getD (x.cps.extract i).size = fi utf8Codec.bad (x.cps.toList.drop i) := by
          rw [hrest, List.findIdx?_toArray, List.size_toArray]; rfl
        rw [hk]
        generalize hkk : fi utf8Codec.bad (x.cps.toList.drop i) = k
        have hk1 : 1 ≤ k := by rw [← hkk, hdrop]; exact fi_pos _ _ _ hb
        have hk2 : k ≤ x.cps.size - i := by rw [← hkk, ← hdl]; exact fi_le _ _
        have hk3 : ∀ y ∈ (x.cps.toList.drop i).take k, utf8Codec.bad y = false := by rw [← hkk]; exact fi_take _ _
        refine ⟨rfl, ?_, by dsimp only; omega, by dsimp only; simp only [List.length_cons] at hr; omega⟩
        dsimp only
        rw [hrest, ← Array.foldl_toList]
        have e2 : (Array.extract (x.cps.toList.drop i).toArray 0 k).toList = (x.cps.toList.drop i).take k := by simp
        rw [e2, foldl_bytes, hout, hadd, List.flatMap_append]
        congr 1
        exact flatMap_congr' fun y hy => by rw [enc1, if_neg (by rw [← hbad, hk3 y hy]; simp), hbytes]
      | true =>
        rw [if_neg (by simp)]
        refine wpAny_bind (wpAny_rule ?_)
        have hk : i + (Array.findIdx? (fun y => !utf8Codec.bad y) (x.cps.extract i)).getD (x.cps.size - i) = i + fi (fun y => !utf8Codec.bad y) (x.cps.toList.drop i) := by
          rw [hrest, List.findIdx?_toArray, ← hdl]; rfl
        rw [hk]
        generalize hkk : fi (fun y => !utf8Codec.bad y) (x.cps.toList.drop i) = k
        have hk1 : 1 ≤ k := by rw [← hkk, hdrop]; exact fi_pos _ _ _ (by rw [hb]; rfl)
        have hk2 : k ≤ x.cps.size - i := by rw [← hkk, ← hdl]; exact fi_le _ _
        have hk3 : ∀ y ∈ (x.cps.toList.drop i).take k, utf8Codec.bad y = true := fun y hy => by
          have := fi_take (fun y => !utf8Codec.bad y) (x.cps.toList.drop i) y (by rw [hkk]; exact hy)
          simpa using this
        have erun : (x.cps.extract i (i + k)).toList = (x.cps.toList.drop i).take k := by
          rw [Array.toList_extract]; simp [List.extract]
        have etw : List.takeWhile (fun x => decide (0xDC80 ≤ x) && decide (x ≤ 0xDCFF)) (x.cps.extract i (i + k)).toList = (x.cps.toList.drop i).take k := by
          rw [erun]
          exact takeWhile_all fun y hy => by
            have := hx y (hmem k y hy) (by rw [← hbad]; exact hk3 y hy)
            simp [this]
        have elen : ((x.cps.toList.drop i).take k).length = k := by rw [List.length_take, hdl]; omega
        show wpAny _ _ (if ("surrogateescape" == "strict" && !utf8Codec.name == "utf-8") = true then _ else _) _ _ _
        have eif : ∀ l : List Nat, (if ("surrogateescape" == "surrogateescape") = true then l else []) = l := fun l => if_pos (by decide)
        rw [if_neg (by decide), etw, eif, elen, if_pos (by simp)]
        refine wpAny_pure ⟨rfl, ?_, by dsimp only; omega, by dsimp only; simp only [List.length_cons] at hr; omega⟩
        dsimp only
        rw [Array.toList_append, hout, hadd, List.flatMap_append]
        congr 1
        rw [← flatMap_one]
        exact flatMap_congr' fun y hy => by rw [enc1, if_pos (by rw [← hbad]; exact hk3 y hy)]
    · have hc : x.cps[i]? = none := by simp; omega
      rw [hc]
      dsimp only
      refine wpAny_pure ?_
      have : i = x.cps.size := by omega
      subst this
      refine wpAny_pure ?_
      have e : out = (x.cps.toList.flatMap enc1).toArray := by
        apply Array.ext'
        rw [hout, List.take_of_length_le (by simp)]
      show Q out s'
      rw [e]; exact q
  · rintro ⟨i, out, st⟩ s' ⟨rfl, hout, hi, hr⟩
    dsimp only at hout hi hr ⊢
    refine wpAny_pure ?_
    have : i = x.cps.size := by simp at hr; omega
    subst this
    have e : out = (x.cps.toList.flatMap enc1).toArray := by
      apply Array.ext'
      rw [hout, List.take_of_length_le (by simp)]
    rw [e]; exact q
end Mine
end

section
open PySem PySem.W PyProof.Rows
set_option Elab.async false
set_option linter.unusedVariables false
set_option maxRecDepth 100000
namespace Mine
open PySem.Builtin PySem.Builtin._codecs
variable {prog : Program} {w : World} {A : Around} {E : Value → Shared → Prop}

theorem ude_new : ExcNewFacts "UnicodeDecodeError" "UnicodeDecodeError.__new__" where
  ends := by decide +kernel
  owner := by decide +kernel
  entry := entryFor_alias (id' := "BaseException.__new__") (by rw [fastTable_eq_tree]; kernel_rfl) (by first | rfl | decide +kernel) (by decide +kernel) (by rw [fastTable_eq_tree]; kernel_rfl)
  sub := by rw [isSubtype_type]; kernel_rfl
  notAttr := by rw [isSubtype_type]; kernel_rfl
  notName := by rw [isSubtype_type]; kernel_rfl
  made := by kernel_rfl

theorem ude_called : TypeCalled "UnicodeDecodeError" "UnicodeDecodeError.__new__" "UnicodeDecodeError.__init__" where
  notType := by decide +kernel
  canCreate := by kernel_rfl
  mro := ⟨.type "UnicodeDecodeError", [.type "UnicodeError", .type "ValueError", .type "Exception", .type "BaseException", .type "object"], by rw [mroOf_type]; kernel_rfl⟩
  made := by kernel_rfl
  plain := by decide +kernel
  sub := by rw [isSubtype_type]; kernel_rfl
  init := .of (owner := "UnicodeDecodeError") (n := "__init__") (by rw [typeLookup_type, builtinLookup_eq_fast]; kernel_rfl) (by decide +kernel) (by decide +kernel) (by decide +kernel)
    (by first | exact .inl (by decide +kernel) | exact .inr (by decide +kernel)) (by rw [isSubtype_type]; kernel_rfl)
theorem ude_entry : entryFor table "UnicodeDecodeError.__init__" = some Builtin.«UnicodeDecodeError.__init__» := entryFor_of_tree (by kernel_rfl)

theorem ude_newOk (rest : List Value) : checkBuiltinCall "UnicodeDecodeError.__new__" ⟨.type "UnicodeDecodeError" :: rest, []⟩ = pure () := by kernel_rfl
theorem ude_typeOk (args : Args) : checkTypeCall "UnicodeDecodeError" args = pure () := by kernel_rfl

theorem ude_initOk (a b c d e f : Value) : argsOk "UnicodeDecodeError.__init__" ⟨[a, b, c, d, e, f], []⟩ := by kernel_rfl

/-- such an exception -/
def IsUde (h : Heap) (e : Addr) (b : Array UInt8) (start stop : Int) : Prop := ∃ a0 enc reason t, h.get? e = some { cls := .type "UnicodeDecodeError", data := .fields #[a0, .none, .none, .none, .bool false, .none, enc, .bytes b t, rawInt start, rawInt stop, reason] }

/-- the exception's object -/
abbrev udeObj (vs : Array Value) : Obj := { cls := .type "UnicodeDecodeError", data := .fields vs }
/-- the heap but for e -/
def But (e : Addr) (h h' : Heap) : Prop := ∀ b o, b ≠ e → h.get? b = some o → h'.get? b = some o
theorem But.tr {e : Addr} {h h' h'' : Heap} (k : But e h h') (k' : But e h' h'') : But e h h'' := fun b o n x => k' b o n (k b o n x)

open UnicodeEncodeError in
theorem members_go {s : Shared} {e : Addr} {vs : Array Value} {m : Members} {Q : Members → Shared → Prop} (he : s.heap.get? e = some (udeObj vs))
    (hm : (vs.extract 6).toList = [] ∧ m = {} ∨ ∃ t u, (vs.extract 6).toList = [m.encoding, m.object, .int m.start t, .int m.stop u, m.reason]) (q : Q m s) : wpAny (model prog w) A (members (.ref e)) Q E s := by
  unfold members
  refine wpAny_bind (wpAny_fieldsOf he rfl ?_)
  rcases hm with ⟨h, rfl⟩ | ⟨t, u, h⟩
  · rw [h]; exact wpAny_pure q
  · rw [h]; exact wpAny_pure q
open UnicodeEncodeError in
theorem setMembers_go {s : Shared} {e : Addr} {vs : Array Value} {m : Members} {Q : Unit → Shared → Prop} (he : s.heap.get? e = some (udeObj vs)) (hs : vs.size ≤ 16)
    (q : ∀ h', h'.get? e = some (udeObj (vs.extract 0 6 ++ #[m.encoding, m.object, rawInt m.start, rawInt m.stop, m.reason])) → But e s.heap h' → Q () { s with heap := h' }) : wpAny (model prog w) A (setMembers (.ref e) m) Q E s := by
  unfold setMembers
  refine wpAny_updateFields he rfl (q _ ?_ fun b o n x => (Heap.get?_update_other _ _ (Ne.symm n)).trans x) ?_
  · rw [Heap.get?_update_self _ he rfl]; rfl
  · have h1 : (vs.extract 0 6 ++ #[m.encoding, m.object, rawInt m.start, rawInt m.stop, m.reason]).size ≤ 32 := by simp; omega
    exact Nat.le_trans h1 (by decide)

/-- six fields, and what the error bears -/
def udeVs (a0 : Value) (m : UnicodeEncodeError.Members) : Array Value := #[a0, .none, .none, .none, .bool false, .none, m.encoding, m.object, rawInt m.start, rawInt m.stop, m.reason]
open UnicodeEncodeError in
theorem members_vs {s : Shared} {e : Addr} {a0 : Value} {m : Members} {Q : Members → Shared → Prop} (he : s.heap.get? e = some (udeObj (udeVs a0 m))) (q : Q m s) : wpAny (model prog w) A (members (.ref e)) Q E s :=
  members_go he (.inr ⟨0, 0, rfl⟩) q
open UnicodeEncodeError in
theorem setMembers_vs {s : Shared} {e : Addr} {a0 : Value} {m m' : Members} {Q : Unit → Shared → Prop} (he : s.heap.get? e = some (udeObj (udeVs a0 m)))
    (q : ∀ h', h'.get? e = some (udeObj (udeVs a0 m')) → But e s.heap h' → Q () { s with heap := h' }) : wpAny (model prog w) A (setMembers (.ref e) m') Q E s :=
  setMembers_go he (show (11 : Nat) ≤ 16 by decide) fun h' x b => q h' x b

open UnicodeEncodeError in
theorem beginInit_go {s : Shared} {e : Addr} {a0 : Value} {rest : List Value} {Q : Value × List Value → Shared → Prop} (hl : rest.length = 5) (he : s.heap.get? e = some (udeObj #[a0, .none, .none, .none, .bool false, .none]))
    (q : ∀ a1 h', h'.get? e = some (udeObj (udeVs a1 {})) → But e s.heap h' → Q (.ref e, rest) { s with heap := h' }) : wpAny (model prog w) A (beginInit "UnicodeDecodeError.__init__" 5 ⟨.ref e :: rest, []⟩) Q E s := by
  unfold beginInit
  dsimp only
  rw [if_neg (by decide)]
  refine wpAny_bind (wpAny_field he rfl (x := a0) rfl ?_)
  refine wpAny_bind (wpAny_newObj_type ?_ (by show rest.toArray.size ≤ sizeLine; rw [List.size_toArray, hl]; decide))
  have he1 := Heap.get?_push_of_some { cls := .type "tuple", data := .seq rest.toArray } he
  refine wpAny_bind (wpAny_setField he1 rfl (show 0 < 6 by decide) ?_)
  refine wpAny_bind (wpAny_letGo ?_)
  have he2 : ((s.heap.push { cls := .type "tuple", data := .seq rest.toArray }).update e (Obj.mapFields (·.setIfInBounds 0 (.ref s.heap.objs.size)))).get? e = some (udeObj #[.ref s.heap.objs.size, .none, .none, .none, .bool false, .none]) := by
    rw [Heap.get?_update_self _ he1 rfl]; rfl
  have b2 : But e s.heap ((s.heap.push { cls := .type "tuple", data := .seq rest.toArray }).update e (Obj.mapFields (·.setIfInBounds 0 (.ref s.heap.objs.size)))) := fun b o n x =>
    (Heap.get?_update_other _ _ (Ne.symm n)).trans (Heap.get?_push_of_some _ x)
  generalize ((s.heap.push { cls := .type "tuple", data := .seq rest.toArray }).update e (Obj.mapFields (·.setIfInBounds 0 (.ref s.heap.objs.size)))) = h2 at he2 b2
  rw [if_pos (by decide)]
  refine wpAny_bind (members_go (s := { s with heap := h2 }) (m := {}) he2 (.inl ⟨rfl, rfl⟩) ?_)
  refine wpAny_bind (setMembers_go (s := { s with heap := h2 }) he2 (show (6 : Nat) ≤ 16 by decide) fun h3 he3 b3 => ?_)
  refine wpAny_bind (wpAny_letGo ?_)
  have he3' : h3.get? e = some (udeObj (udeVs (.ref s.heap.objs.size) {})) := he3
  refine wpAny_bind (members_vs (s := { s with heap := h3 }) he3' ?_)
  refine wpAny_bind (setMembers_vs (s := { s with heap := h3 }) (m' := {}) he3' fun h4 he4 b4 => ?_)
  refine wpAny_bind (wpAny_letGo ?_)
  refine wpAny_bind (members_vs (s := { s with heap := h4 }) he4 ?_)
  refine wpAny_bind (setMembers_vs (s := { s with heap := h4 }) (m' := {}) he4 fun h5 he5 b5 => ?_)
  refine wpAny_bind (wpAny_letGo ?_)
  rw [hl]
  rw [if_neg (by decide)]
  exact wpAny_pure (q _ h5 he5 (b2.tr (b3.tr (b4.tr b5))))
end Mine
end

section
open PySem PySem.W PyProof.Rows
set_option Elab.async false
set_option linter.unusedVariables false
set_option maxRecDepth 100000
namespace Mine
open PySem.Builtin PySem.Builtin._codecs
variable {prog : Program} {w : World} {A : Around} {E : Value → Shared → Prop}

theorem strArg_go {s : Shared} {i : Nat} {x : Str} {t : Tok} {Q : Unit → Shared → Prop} (q : Q () s) : wpAny (model prog w) A (UnicodeEncodeError.strArgument "UnicodeDecodeError.__init__" i (.str x t)) Q E s := by
  unfold UnicodeEncodeError.strArgument
  refine wpAny_bind ?_
  show wpAny _ _ (pure (some x)) _ _ _
  refine wpAny_pure ?_
  rw [if_neg (by simp)]
  exact wpAny_pure q
theorem sizeArg_go {s : Shared} {i : Int} {t : Tok} {Q : Int → Shared → Prop} (hi : 0 ≤ i ∧ i < 2 ^ 62) (q : Q i s) : wpAny (model prog w) A (UnicodeEncodeError.sizeArgument "UnicodeDecodeError.__init__" (.int i t)) Q E s := by
  unfold UnicodeEncodeError.sizeArgument
  refine wpAny_bind ?_
  show wpAny _ _ (pure i) _ _ _
  refine wpAny_pure ?_
  rw [if_neg (by simp only [Bool.or_eq_true, decide_eq_true_eq]; omega)]
  exact wpAny_pure q

theorem init_go {s : Shared} {e : Addr} {a0 : Value} {Q : Fin → Shared → Prop} {c r : Str} {t1 t2 t3 t4 t5 : Tok} {b : Array UInt8} {i j : Int} (hi : 0 ≤ i ∧ i < 2 ^ 62) (hj : 0 ≤ j ∧ j < 2 ^ 62)
    (he : s.heap.get? e = some (udeObj #[a0, .none, .none, .none, .bool false, .none])) (q : ∀ h', IsUde h' e b i j → But e s.heap h' → Q (.done (.ret .none)) { s with heap := h' }) :
    wpAny (model prog w) A (Builtin.«UnicodeDecodeError.__init__» ⟨[.ref e, .str c t1, .bytes b t2, .int i t3, .int j t4, .str r t5], []⟩) Q E s := by
  unfold Builtin.«UnicodeDecodeError.__init__»
  refine wpAny_bind (beginInit_go rfl he fun a1 h1 he1 b1 => ?_)
  dsimp only
  refine wpAny_bind (strArg_go ?_)
  refine wpAny_bind ?_
  unfold UnicodeEncodeError.initRange
  refine wpAny_bind (sizeArg_go hi ?_)
  refine wpAny_bind (members_vs (s := { s with heap := h1 }) he1 ?_)
  refine wpAny_bind (setMembers_vs (s := { s with heap := h1 }) he1 fun h2 he2 b2 => ?_)
  refine wpAny_bind (sizeArg_go hj ?_)
  refine wpAny_bind (members_vs (s := { s with heap := h2 }) he2 ?_)
  refine setMembers_vs (s := { s with heap := h2 }) he2 fun h3 he3 b3 => ?_
  refine wpAny_bind (strArg_go ?_)
  refine wpAny_bind ?_
  show wpAny _ _ (pure (some b)) _ _ _
  refine wpAny_pure ?_
  rw [if_pos (show (some b).isSome = true from rfl)]
  refine wpAny_bind (wpAny_pure ?_)
  rw [if_pos (show (!UnicodeEncodeError.isUnset (.bytes b t2)) = true from rfl)]
  refine wpAny_bind (wpAny_pure ?_)
  rw [if_neg (by simp [UnicodeEncodeError.isUnset])]
  refine wpAny_bind (members_vs (s := { s with heap := h3 }) he3 ?_)
  refine wpAny_bind (setMembers_vs (s := { s with heap := h3 }) he3 fun h4 he4 b4 => ?_)
  exact wpAny_pure (q h4 ⟨a1, _, _, t2, he4⟩ (b1.tr (b2.tr (b3.tr b4))))

theorem make_ude {s : Shared} {Q : Value → Shared → Prop} {c r : Str} {t1 t2 t3 t4 t5 : Tok} {b : Array UInt8} {i j : Int} (hi : 0 ≤ i ∧ i < 2 ^ 62) (hj : 0 ≤ j ∧ j < 2 ^ 62)
    (q : ∀ e s', Gr s s' → IsUde s'.heap e b i j → Q (.ref e) s') : wpAny (model prog w) A (call (.type "UnicodeDecodeError") [.str c t1, .bytes b t2, .int i t3, .int j t4, .str r t5]) Q E s := by
  refine callType_codes ude_called (ude_typeOk _) ude_entry (Q₁ := fun obj s₁ => Gr s s₁ ∧ ∃ e a0, obj = .ref e ∧ s.heap.get? e = none ∧ s₁.heap.get? e = some (udeObj #[a0, .none, .none, .none, .bool false, .none])) ?_ ?_
  · obtain ⟨hp, g, d, tk, os⟩ := s
    refine codeAny_call_builtin_code (Code.quiet_builtin _ (by decide +kernel)) (wpAny_of_eq (ude_newOk _) ?_)
    refine codeAny_exc_new ude_new ?_
    refine ⟨⟨_, _, rfl, fun b o e => Heap.get?_push_of_some _ (Heap.get?_push_of_some _ e)⟩, _, .ref hp.objs.size, rfl, Heap.get?_none_of_le (Nat.le_succ _), ?_⟩
    exact Heap.get?_push_at (by rw [Heap.size_push]) rfl
  · rintro obj s₁ ⟨k, e, a0, rfl, hn, he⟩
    refine ⟨⟨_, he, rfl⟩, ude_initOk _ _ _ _ _ _, ?_⟩
    refine init_go hi hj he fun h' hu hb => ?_
    refine ⟨rfl, q e _ ?_ hu⟩
    obtain ⟨h1, tk1, rfl, k1⟩ := k
    exact ⟨h', tk1, rfl, fun b o x => hb b o (by rintro rfl; rw [hn] at x; cases x) (k1 b o x)⟩
end Mine
end

section
open PySem PySem.W PyProof.Rows
set_option Elab.async false
set_option linter.unusedVariables false
set_option maxRecDepth 100000
namespace Mine
open PySem.Builtin PySem.Builtin._codecs
variable {prog : Program} {w : World} {A : Around} {E : Value → Shared → Prop}

theorem rep_kind : builtinKind "_codecs.lookup_error.replace_errors" = none := by decide +kernel
theorem rep_plain : plainId "_codecs.lookup_error.replace_errors" = true := by decide +kernel
theorem rep_entry : entryFor table "_codecs.lookup_error.replace_errors" = some Builtin.«_codecs.lookup_error.replace_errors» := entryFor_of_tree (by kernel_rfl)
theorem rep_args (a : Value) : argsOk "_codecs.lookup_error.replace_errors" ⟨[a], []⟩ := by unfold argsOk; kernel_rfl
theorem ude_not_enc : isSubtype (.type "UnicodeDecodeError") (.type "UnicodeEncodeError") = pure false := by rw [isSubtype_type]; kernel_rfl
theorem ude_is_dec : isSubtype (.type "UnicodeDecodeError") (.type "UnicodeDecodeError") = pure true := by rw [isSubtype_type]; kernel_rfl
theorem ude_not_tr : isSubtype (.type "UnicodeDecodeError") (.type "UnicodeTranslateError") = pure false := by rw [isSubtype_type]; kernel_rfl
theorem tup_is_tup : isSubtype (.type "tuple") (.type "tuple") = pure true := by rw [isSubtype_type]; kernel_rfl

theorem ude_members {s : Shared} {e : Addr} {b : Array UInt8} {i j : Int} {Q : UnicodeEncodeError.Members → Shared → Prop} (he : IsUde s.heap e b i j)
    (q : ∀ m : UnicodeEncodeError.Members, (∃ t, m.object = .bytes b t ∧ ∃ a0, s.heap.get? e = some (udeObj (udeVs a0 m))) → m.start = i → m.stop = j → Q m s) : wpAny (model prog w) A (UnicodeEncodeError.members (.ref e)) Q E s := by
  obtain ⟨a0, enc, reason, t, hg⟩ := he
  exact members_vs (m := { encoding := enc, object := .bytes b t, start := i, stop := j, reason := reason }) hg (q _ ⟨t, rfl, a0, hg⟩ rfl rfl)
theorem IsUde.keeps {h h' : Heap} {e : Addr} {b : Array UInt8} {i j : Int} (x : IsUde h e b i j) (k : Keep h h') : IsUde h' e b i j := by
  obtain ⟨a0, enc, reason, t, hg⟩ := x
  exact ⟨a0, enc, reason, t, k _ _ hg⟩

theorem replace_go {s : Shared} {e : Addr} {b : Array UInt8} {i j : Int} {Q : Value → Shared → Prop} (he : IsUde s.heap e b i j) (hb : 0 < b.size) (hj : 1 ≤ j ∧ j ≤ b.size)
    (q : ∀ a t u s', Gr s s' → IsTup s'.heap a #[.str ⟨#[0xFFFD]⟩ t, .int j u] → Q (.ref a) s') : wpAny (model prog w) A (call (.builtin "_codecs.lookup_error.replace_errors") [.ref e]) Q E s := by
  have hT : s.TypeIs (.ref e) "UnicodeDecodeError" := by obtain ⟨a0, enc, reason, t, hg⟩ := he; exact ⟨_, hg, rfl⟩
  refine Calls.call_function_entry rep_kind rep_plain rep_entry (rep_args _) ?_
  unfold Builtin.«_codecs.lookup_error.replace_errors»
  refine wpAny_bind ?_
  show wpAny _ _ (pure (Value.ref e)) _ _ _
  refine wpAny_pure ?_
  refine wpAny_bind ?_
  unfold PySem.Builtin._codecs.seen
  refine wpAny_bind (wpAny_isInstance hT ude_not_enc ?_)
  refine wpAny_bind (wpAny_isInstance hT ude_is_dec ?_)
  refine wpAny_bind (wpAny_isInstance hT ude_not_tr ?_)
  dsimp only
  rw [if_neg (by decide), if_pos rfl]
  refine wpAny_bind (wpAny_pure ?_)
  rw [if_neg (by decide)]
  refine wpAny_bind (ude_members he fun m hm hs1 hs2 => ?_)
  obtain ⟨t, hobj, _⟩ := hm
  rw [hobj]
  rw [if_neg (by simp [UnicodeEncodeError.isUnset]), if_pos (by decide)]
  dsimp only
  refine wpAny_bind (wpAny_pure ?_)
  rw [if_neg (by intro h; rw [Array.isEmpty_iff] at h; have := congrArg Array.size h; rw [Array.size_map] at this; simp at this; rw [this] at hb; exact Nat.lt_irrefl _ hb)]
  refine wpAny_pure ?_
  dsimp only
  rw [if_pos (by decide)]
  unfold answer
  have ej : Min.min (Max.max m.stop 1) (((Array.map (fun x : UInt8 => x.toNat) b).size : Nat) : Int) = j := by rw [hs2]; simp; omega
  rw [ej]
  refine wpAny_bind (wpAny_mkStr ?_ (by decide))
  refine wpAny_bind (wpAny_mkInt ?_)
  refine wpAny_bind (wpAny_newObj_type ?_ (by show (2 : Nat) ≤ sizeLine; decide))
  refine wpAny_pure ⟨_, rfl, ?_⟩
  exact q _ _ _ _ ⟨_, _, rfl, fun b o x => Heap.get?_push_of_some _ x⟩ ⟨_, Heap.get?_push_size _ rfl, rfl, _, rfl⟩
end Mine
end

section
open PySem PySem.W PyProof.Rows
set_option Elab.async false
set_option linter.unusedVariables false
set_option maxRecDepth 100000
namespace Mine
open PySem.Builtin PySem.Builtin._codecs
variable {prog : Program} {w : World} {A : Around} {E : Value → Shared → Prop}

theorem wpA {α : Type} {m m' : Sem α} {s : Shared} {Q : α → Shared → Prop} (h : m = m') (g : wpAny (model prog w) A m' Q E s) : wpAny (model prog w) A m Q E s := h ▸ g

def own3 : List String := ["ignore", "replace", "surrogateescape"]
theorem fault_go {id : String} {b : Array UInt8} {start stop : Nat} {reason : String} {s : Shared} {Q : Faults × Array Nat × Nat → Shared → Prop} (hb : 0 < b.size) (hst : start < stop) (hs : stop ≤ b.size) (hsz : b.size ≤ 16777216) (hr : (Str.ofString reason).length ≤ 64)
    (q : ∀ st s', Gr s s' → Q (st, #[0xFFFD], stop) s') : wpAny (model prog w) A (decodeFault id { held := [] } (some (Str.ofString "replace")) own3 "utf-8" b start stop reason) Q E s := by
  unfold decodeFault
  refine wpAny_bind (wpAny_of_eq (a := Value.builtin "_codecs.lookup_error.replace_errors") (by kernel_rfl) ?_)
  refine wpAny_bind (wpAny_holding (wpA (m' := do call (.type "UnicodeDecodeError") [← mkStr "utf-8", ← mkBytes b, ← mkInt start, ← mkInt stop, ← mkStr reason]) (by kernel_rfl) ?_))
  refine wpAny_bind (wpAny_mkStr ?_ (by decide +kernel))
  refine wpAny_bind (wpAny_mkBytes ?_ (by rw [sizeLine_eq]; exact hsz))
  refine wpAny_bind (wpAny_mkInt ?_)
  refine wpAny_bind (wpAny_mkInt ?_)
  refine wpAny_bind (wpAny_mkStr ?_ (by rw [sizeLine_eq]; exact Nat.le_trans hr (by decide)))
  have k0 : Gr s { s with toks := s.toks + 1 + 1 + 1 + 1 + 1 } := Gr.toks _
  refine make_ude (by omega) (by omega) fun e s₁ k₁ he => ?_
  refine wpAny_bind ?_
  show wpAny _ _ (UnicodeEncodeError.members (.ref e) >>= _) _ _ _
  refine wpAny_bind (ude_members he fun m hm hm1 hm2 => ?_)
  obtain ⟨t, hobj, a0, hg⟩ := hm
  refine wpAny_bind (wpAny_holding ?_)
  show wpAny _ _ (call (.builtin "_codecs.lookup_error.replace_errors") [.ref e]) _ _ _
  refine replace_go he hb (by omega) fun a t' u s₂ k₂ htup => ?_
  refine wpAny_bind (members_vs (m := m) (a0 := a0) (k₂.keep _ _ hg) ?_)
  rw [hobj]
  refine wpA (m' := pure (.ref a)) ?_ (wpAny_pure ?_)
  · show (if (!(t == t && b == b)) = true then _ else _) = _
    rw [if_neg (by simp)]
  refine wpAny_holding ?_
  refine wpAny_bind ?_
  show wpAny _ _ (isInstance (.ref a) (.type "tuple") >>= _) _ _ _
  obtain ⟨o, ho, hc, n, hd⟩ := htup
  refine wpAny_bind (wpAny_isInstance ⟨o, ho, hc⟩ tup_is_tup ?_)
  rw [if_neg (by decide)]
  refine wpAny_bind (wpAny_seqItems ho hd ?_)
  refine wpAny_pure ?_
  dsimp only
  refine wpAny_bind (wpAny_of_eq (a := some (⟨#[0xFFFD]⟩ : Str)) rfl ?_)
  dsimp only
  refine wpAny_bind ?_
  show wpAny _ _ (asIndex (.int stop u) >>= _) _ _ _
  refine wpAny_bind (wpAny_of_eq (rfl : asIndex (.int stop u) = pure (stop : Int)) ?_)
  rw [if_neg (by simp only [Bool.or_eq_true, decide_eq_true_eq]; omega)]
  refine wpAny_pure ?_
  refine wpAny_bind (wpAny_of_eq (a := stop) ?_ (wpAny_pure (q _ _ (Gr.tr k0 (Gr.tr k₁ k₂)))))
  show (if (decide (_ < (0 : Int)) || decide (_ > _)) = true then _ else _) = _
  have e0 : (if (stop : Int) < 0 then (stop : Int) + b.size else stop) = stop := if_neg (by omega)
  rw [e0, if_neg (by simp only [Bool.or_eq_true, decide_eq_true_eq]; omega), if_neg (by omega)]
  show pure (Int.toNat (stop : Int)) = _
  rw [Int.toNat_natCast]
end Mine
end

section
open PySem PySem.W PyProof.Rows
set_option Elab.async false
set_option linter.unusedVariables false
set_option maxRecDepth 100000
namespace Mine
open PySem.Builtin

theorem u8 {n : Nat} (h : n < 256) : n.toUInt8.toNat = n := by
  rw [Nat.toUInt8, UInt8.toNat_ofNat']; exact Nat.mod_eq_of_lt h

theorem pk {v c q q' : Nat} (h : v = c) (h' : q = q') : ((.char v, q) : Bytes.Piece × Nat) = (.char c, q') := by rw [h, h']
theorem two_go {b : Array UInt8} {p c : Nat} (hc : (b.getD p 0).toNat = c) (h : 0xC2 ≤ c ∧ c ≤ 0xDF) :
    (∀ x, b[p + 1]? = some x → 128 ≤ x.toNat → x.toNat ≤ 191 → Bytes.utf8At b p = (.char (c % 32 * 64 + x.toNat % 64), p + 2)) ∧ (b[p + 1]? = none → Bytes.utf8At b p = (.bad p b.size "unexpected end of data", b.size)) := by
  unfold Bytes.utf8At
  dsimp only
  rw [hc, if_neg (by omega), if_pos (by simp only [Bool.and_eq_true, decide_eq_true_eq]; exact h)]
  dsimp only
  have e : (List.range 1).map (· + 1) = [1] := rfl
  rw [e, List.foldl_cons, List.foldl_nil]
  constructor
  · intro x hx h1 h2
    simp only [Except.bind, hx]
    rw [if_pos (by simp only [Bool.and_eq_true, decide_eq_true_eq]; exact ⟨h1, h2⟩)]
    rfl
  · intro hx
    simp only [Except.bind, hx]

/-- a code point that is no surrogate -/
def Scalar (c : Nat) : Prop := c < 0x110000 ∧ ¬ (0xD800 ≤ c ∧ c ≤ 0xDFFF)

theorem three_go {b : Array UInt8} {p c : Nat} (hS : Scalar c) (h1 : 0x800 ≤ c) (h2 : c < 0x10000) (hc : (b.getD p 0).toNat = 0xE0 + c / 4096) :
    (∀ x y, b[p + 1]? = some x → x.toNat = 0x80 + c / 64 % 64 → b[p + 2]? = some y → y.toNat = 0x80 + c % 64 → Bytes.utf8At b p = (.char c, p + 3)) ∧
    (b[p + 1]? = none → Bytes.utf8At b p = (.bad p b.size "unexpected end of data", b.size)) ∧
    (∀ x, b[p + 1]? = some x → x.toNat = 0x80 + c / 64 % 64 → b[p + 2]? = none → Bytes.utf8At b p = (.bad p b.size "unexpected end of data", b.size)) := by
  obtain ⟨g1, g2⟩ := hS
  unfold Bytes.utf8At
  dsimp only
  rw [hc, if_neg (by omega), if_neg (by simp only [Bool.and_eq_true, decide_eq_true_eq]; omega)]
  generalize hsh : (@ite (Option (Nat × Nat × Nat)) (_ = true) (instDecidableEqBool _ true) _ _) = sh
  have hs : ∃ lo hi, sh = some (2, lo, hi) ∧ lo ≤ 0x80 + c / 64 % 64 ∧ 0x80 + c / 64 % 64 ≤ hi := by
    rw [← hsh]
    by_cases e0 : 0xE0 + c / 4096 = 0xE0
    · rw [if_pos (by simp only [beq_iff_eq]; exact e0)]
      exact ⟨_, _, rfl, by omega, by omega⟩
    · rw [if_neg (by simp only [beq_iff_eq]; exact e0)]
      by_cases e1 : 0xE0 + c / 4096 = 0xED
      · rw [if_pos (by simp only [beq_iff_eq]; exact e1)]
        exact ⟨_, _, rfl, by omega, by omega⟩
      · rw [if_neg (by simp only [beq_iff_eq]; exact e1), if_pos (by simp only [Bool.and_eq_true, decide_eq_true_eq]; omega)]
        exact ⟨_, _, rfl, by omega, by omega⟩
  obtain ⟨lo, hi, rfl, hl, hh⟩ := hs
  clear hsh
  dsimp only
  have e : (List.range 2).map (· + 1) = [1, 2] := rfl
  rw [e, List.foldl_cons, List.foldl_cons, List.foldl_nil]
  refine ⟨fun x y hx hxv hy hyv => ?_, fun hx => ?_, fun x hx hxv hy => ?_⟩
  · simp only [Except.bind, hx, hy]
    rw [if_pos (by simp only [Bool.and_eq_true, decide_eq_true_eq]; rw [hxv]; exact ⟨hl, hh⟩)]
    dsimp only
    rw [if_pos (by simp only [Bool.and_eq_true, decide_eq_true_eq]; rw [hyv]; exact ⟨show 128 ≤ _ by omega, show _ ≤ 191 by omega⟩)]
    dsimp only
    rw [hxv, hyv]
    exact pk (show ((0xE0 + c / 4096) % 16 * 64 + (0x80 + c / 64 % 64) % 64) * 64 + (0x80 + c % 64) % 64 = c by omega) rfl
  · simp only [Except.bind, hx]
  · simp only [Except.bind, hx, hy]
    rw [if_pos (by simp only [Bool.and_eq_true, decide_eq_true_eq]; rw [hxv]; exact ⟨hl, hh⟩)]
theorem four_go {b : Array UInt8} {p c : Nat} (hS : Scalar c) (h1 : 0x10000 ≤ c) (hc : (b.getD p 0).toNat = 0xF0 + c / 262144) :
    (∀ x y z, b[p + 1]? = some x → x.toNat = 0x80 + c / 4096 % 64 → b[p + 2]? = some y → y.toNat = 0x80 + c / 64 % 64 → b[p + 3]? = some z → z.toNat = 0x80 + c % 64 → Bytes.utf8At b p = (.char c, p + 4)) ∧
    (b[p + 1]? = none → Bytes.utf8At b p = (.bad p b.size "unexpected end of data", b.size)) ∧
    (∀ x, b[p + 1]? = some x → x.toNat = 0x80 + c / 4096 % 64 → b[p + 2]? = none → Bytes.utf8At b p = (.bad p b.size "unexpected end of data", b.size)) ∧
    (∀ x y, b[p + 1]? = some x → x.toNat = 0x80 + c / 4096 % 64 → b[p + 2]? = some y → y.toNat = 0x80 + c / 64 % 64 → b[p + 3]? = none → Bytes.utf8At b p = (.bad p b.size "unexpected end of data", b.size)) := by
  obtain ⟨g1, g2⟩ := hS
  unfold Bytes.utf8At
  dsimp only
  rw [hc, if_neg (by omega), if_neg (by simp only [Bool.and_eq_true, decide_eq_true_eq]; omega), if_neg (by simp only [beq_iff_eq]; omega), if_neg (by simp only [beq_iff_eq]; omega), if_neg (by simp only [Bool.and_eq_true, decide_eq_true_eq]; omega)]
  generalize hsh : (@ite (Option (Nat × Nat × Nat)) (_ = true) (instDecidableEqBool _ true) _ _) = sh
  have hs : ∃ lo hi, sh = some (3, lo, hi) ∧ lo ≤ 0x80 + c / 4096 % 64 ∧ 0x80 + c / 4096 % 64 ≤ hi := by
    rw [← hsh]
    by_cases e0 : 0xF0 + c / 262144 = 0xF0
    · rw [if_pos (by simp only [beq_iff_eq]; exact e0)]
      exact ⟨_, _, rfl, by omega, by omega⟩
    · rw [if_neg (by simp only [beq_iff_eq]; exact e0)]
      by_cases e1 : 0xF0 + c / 262144 = 0xF4
      · rw [if_neg (by simp only [Bool.and_eq_true, decide_eq_true_eq]; omega), if_pos (by simp only [beq_iff_eq]; exact e1)]
        exact ⟨_, _, rfl, by omega, by omega⟩
      · rw [if_pos (by simp only [Bool.and_eq_true, decide_eq_true_eq]; omega)]
        exact ⟨_, _, rfl, by omega, by omega⟩
  obtain ⟨lo, hi, rfl, hl, hh⟩ := hs
  clear hsh
  dsimp only
  have e : (List.range 3).map (· + 1) = [1, 2, 3] := rfl
  rw [e, List.foldl_cons, List.foldl_cons, List.foldl_cons, List.foldl_nil]
  refine ⟨fun x y z hx hxv hy hyv hz hzv => ?_, fun hx => ?_, fun x hx hxv hy => ?_, fun x y hx hxv hy hyv hz => ?_⟩
  · simp only [Except.bind, hx, hy, hz]
    rw [if_pos (by simp only [Bool.and_eq_true, decide_eq_true_eq]; rw [hxv]; exact ⟨hl, hh⟩)]
    dsimp only
    rw [if_pos (by simp only [Bool.and_eq_true, decide_eq_true_eq]; rw [hyv]; exact ⟨show 128 ≤ _ by omega, show _ ≤ 191 by omega⟩)]
    dsimp only
    rw [if_pos (by simp only [Bool.and_eq_true, decide_eq_true_eq]; rw [hzv]; exact ⟨show 128 ≤ _ by omega, show _ ≤ 191 by omega⟩)]
    dsimp only
    rw [hxv, hyv, hzv]
    exact pk (show (((0xF0 + c / 262144) % 8 * 64 + (0x80 + c / 4096 % 64) % 64) * 64 + (0x80 + c / 64 % 64) % 64) * 64 + (0x80 + c % 64) % 64 = c by omega) rfl
  · simp only [Except.bind, hx]
  · simp only [Except.bind, hx, hy]
    rw [if_pos (by simp only [Bool.and_eq_true, decide_eq_true_eq]; rw [hxv]; exact ⟨hl, hh⟩)]
  · simp only [Except.bind, hx, hy, hz]
    rw [if_pos (by simp only [Bool.and_eq_true, decide_eq_true_eq]; rw [hxv]; exact ⟨hl, hh⟩)]
    dsimp only
    rw [if_pos (by simp only [Bool.and_eq_true, decide_eq_true_eq]; rw [hyv]; exact ⟨show 128 ≤ _ by omega, show _ ≤ 191 by omega⟩)]

theorem get_drop {b : Array UInt8} {p : Nat} {l : List UInt8} (h : b.toList.drop p = l) (k : Nat) : b[p + k]? = l[k]? := by
  rw [← h, List.getElem?_drop]; simp
theorem getD_drop {b : Array UInt8} {p : Nat} {a : UInt8} {l : List UInt8} (h : b.toList.drop p = a :: l) : b.getD p 0 = a := by
  have := get_drop h 0
  simp only [Nat.add_zero, List.getElem?_cons_zero] at this
  rw [Array.getD_eq_getD_getElem?, this]; rfl

/-- a sign's octets -/
theorem utf8_1 {c : Nat} (h : c < 0x80) : Str.utf8Of c = [c.toUInt8] := by unfold Str.utf8Of; rw [if_pos h]
theorem utf8_2 {c : Nat} (h1 : ¬ c < 0x80) (h2 : c < 0x800) : Str.utf8Of c = [(0xC0 + c / 64).toUInt8, (0x80 + c % 64).toUInt8] := by unfold Str.utf8Of; rw [if_neg h1, if_pos h2]
theorem utf8_3 {c : Nat} (h1 : ¬ c < 0x80) (h2 : ¬ c < 0x800) (h3 : c < 0x10000) : Str.utf8Of c = [(0xE0 + c / 4096).toUInt8, (0x80 + c / 64 % 64).toUInt8, (0x80 + c % 64).toUInt8] := by unfold Str.utf8Of; rw [if_neg h1, if_neg h2, if_pos h3]
theorem utf8_4 {c : Nat} (h1 : ¬ c < 0x80) (h2 : ¬ c < 0x800) (h3 : ¬ c < 0x10000) : Str.utf8Of c = [(0xF0 + c / 262144).toUInt8, (0x80 + c / 4096 % 64).toUInt8, (0x80 + c / 64 % 64).toUInt8, (0x80 + c % 64).toUInt8] := by unfold Str.utf8Of; rw [if_neg h1, if_neg h2, if_neg h3]

/-- a whole sign is read -/
theorem utf8At_whole {b : Array UInt8} {p c : Nat} {rest : List UInt8} (hc : Scalar c) (h : b.toList.drop p = Str.utf8Of c ++ rest) : Bytes.utf8At b p = (.char c, p + (Str.utf8Of c).length) := by
  have g1 := hc.1
  by_cases h1 : c < 0x80
  · rw [utf8_1 h1] at h ⊢
    have h0 : (b.getD p 0).toNat = c := by rw [getD_drop (l := rest) h, u8 (by omega)]
    unfold Bytes.utf8At
    dsimp only
    rw [h0, if_pos h1]
    rfl
  by_cases h2 : c < 0x800
  · rw [utf8_2 h1 h2] at h ⊢
    have := (two_go (b := b) (p := p) (c := 0xC0 + c / 64) (by rw [getD_drop h, u8 (by omega)]) (by omega)).1 _ (get_drop h 1) (by rw [u8 (by omega)]; omega) (by rw [u8 (by omega)]; omega)
    rw [this, u8 (by omega)]
    exact pk (by omega) rfl
  by_cases h3 : c < 0x10000
  · rw [utf8_3 h1 h2 h3] at h ⊢
    exact (three_go hc (by omega) h3 (by rw [getD_drop h, u8 (by omega)])).1 _ _ (get_drop h 1) (u8 (by omega)) (get_drop h 2) (u8 (by omega))
  · rw [utf8_4 h1 h2 h3] at h ⊢
    exact (four_go hc (by omega) (by rw [getD_drop h, u8 (by omega)])).1 _ _ _ (get_drop h 1) (u8 (by omega)) (get_drop h 2) (u8 (by omega)) (get_drop h 3) (u8 (by omega))

/-- a sign that breaks off -/
theorem utf8At_part {b : Array UInt8} {p c k : Nat} (hc : Scalar c) (hk : 0 < k) (hk' : k < (Str.utf8Of c).length) (h : b.toList.drop p = (Str.utf8Of c).take k) : Bytes.utf8At b p = (.bad p b.size "unexpected end of data", b.size) := by
  have g1 := hc.1
  obtain ⟨k, rfl⟩ : ∃ j, k = j + 1 := ⟨k - 1, by omega⟩
  by_cases h1 : c < 0x80
  · rw [utf8_1 h1] at hk'
    simp only [List.length_cons, List.length_nil] at hk'
    omega
  by_cases h2 : c < 0x800
  · rw [utf8_2 h1 h2] at h hk'
    simp only [List.length_cons, List.length_nil] at hk'
    have : k = 0 := by omega
    subst this
    exact (two_go (c := 0xC0 + c / 64) (by rw [getD_drop h, u8 (by omega)]) (by omega)).2 (get_drop h 1)
  by_cases h3 : c < 0x10000
  · rw [utf8_3 h1 h2 h3] at h hk'
    simp only [List.length_cons, List.length_nil] at hk'
    have X := three_go (b := b) (p := p) hc (by omega) h3 (by rw [getD_drop h, u8 (by omega)])
    have hk2 : k = 0 ∨ k = 1 := by omega
    rcases hk2 with rfl | rfl
    · exact X.2.1 (get_drop h 1)
    · exact X.2.2 _ (get_drop h 1) (u8 (by omega)) (get_drop h 2)
  · rw [utf8_4 h1 h2 h3] at h hk'
    simp only [List.length_cons, List.length_nil] at hk'
    have X := four_go (b := b) (p := p) hc (by omega) (by rw [getD_drop h, u8 (by omega)])
    have hk2 : k = 0 ∨ k = 1 ∨ k = 2 := by omega
    rcases hk2 with rfl | rfl | rfl
    · exact X.2.1 (get_drop h 1)
    · exact X.2.2.1 _ (get_drop h 1) (u8 (by omega)) (get_drop h 2)
    · exact X.2.2.2 _ _ (get_drop h 1) (u8 (by omega)) (get_drop h 2) (u8 (by omega)) (get_drop h 3)
end Mine
end

section
open PySem PySem.W PyProof.Rows
set_option Elab.async false
set_option linter.unusedVariables false
set_option maxRecDepth 100000
namespace Mine
open PySem.Builtin PySem.Builtin._codecs
variable {prog : Program} {w : World} {A : Around} {E : Value → Shared → Prop}

/-- what a decoder leaves of a sign that breaks off -/
def Tail (tail : List UInt8) (mk : List Nat) : Prop := tail = [] ∧ mk = [] ∨ (∃ c k, Scalar c ∧ 0 < k ∧ k < (Str.utf8Of c).length ∧ tail = (Str.utf8Of c).take k) ∧ mk = [0xFFFD]
theorem utf8_pos (c : Nat) : 1 ≤ (Str.utf8Of c).length := by unfold Str.utf8Of; (repeat' split) <;> simp

theorem run_ok {id : String} {b : Array UInt8} {l mk : List Nat} {tail : List UInt8} {s : Shared} {Q : Array Nat × Nat → Shared → Prop} (hl : ∀ c ∈ l, Scalar c) (ht : Tail tail mk) (hb : b.toList = l.flatMap Str.utf8Of ++ tail) (hsz : b.size ≤ 4096)
    (q : ∀ p s', Gr s s' → Q ((l ++ mk).toArray, p) s') : wpAny (model prog w) A (runDecoder id utf8Decoder (some (Str.ofString "replace")) true b 0 []) Q E s := by
  have hlen : b.size = (l.flatMap Str.utf8Of).length + tail.length := by rw [← Array.length_toList, hb, List.length_append]
  have hll : l.length ≤ (l.flatMap Str.utf8Of).length := by
    clear hlen hb hl q
    induction l with
    | nil => simp
    | cons a r ih => have := utf8_pos a; rw [List.flatMap_cons, List.length_append, List.length_cons]; omega
  have hmk : mk.length ≤ 1 := by rcases ht with ⟨_, rfl⟩ | ⟨_, rfl⟩ <;> simp
  have fin : ∀ (out : Array Nat) (p : Nat) {st : Faults} {r : Nat}, ((∃ j, j ≤ l.length ∧ p = ((l.take j).flatMap Str.utf8Of).length ∧ out.toList = l.take j ∧ st = { held := [] } ∧ b.size - p ≤ r) ∨ (p = b.size ∧ out.toList = l ++ mk)) → b.size ≤ p → out = (l ++ mk).toArray := by
    intro out p st r h hp
    apply Array.ext'
    show out.toList = l ++ mk
    rcases h with ⟨j, hj, hpj, ho, _⟩ | ⟨_, h⟩
    · have e1 : (l.flatMap Str.utf8Of).length = ((l.take j).flatMap Str.utf8Of).length + ((l.drop j).flatMap Str.utf8Of).length := by
        rw [← List.length_append, ← List.flatMap_append, List.take_append_drop]
      have e2 : tail.length = 0 := by omega
      have e3 : ((l.drop j).flatMap Str.utf8Of).length = 0 := by omega
      have e4 : l.drop j = [] := by
        cases h : l.drop j with
        | nil => rfl
        | cons a r =>
          rw [h, List.flatMap_cons, List.length_append] at e3
          have := utf8_pos a
          omega
      have e5 : l.take j = l := by
        have := List.take_append_drop j l
        rw [e4, List.append_nil] at this; exact this
      rw [ho, e5]
      rcases ht with ⟨_, h⟩ | ⟨⟨c, m, hc, hm, hm', htl⟩, _⟩
      · rw [h, List.append_nil]
      · rw [htl, List.length_take] at e2
        omega
    · exact h
  unfold runDecoder
  dsimp only
  rw [Std.Legacy.Range.forIn_eq_forIn_range']
  refine wpAny_bind (wpAny_forIn_list _ (fun rest st s' => Gr s s' ∧ ((∃ j, j ≤ l.length ∧ st.1 = ((l.take j).flatMap Str.utf8Of).length ∧ st.2.1.toList = l.take j ∧ st.2.2 = { held := [] } ∧ b.size - st.1 ≤ rest.length) ∨ (st.1 = b.size ∧ st.2.1.toList = l ++ mk)))
    _ ?_ ?_ _ _ ⟨Gr.refl _, .inl ⟨0, Nat.zero_le _, rfl, rfl, rfl, by simp [Std.Legacy.Range.size]⟩⟩)
  · rintro _ rest ⟨p, out, st⟩ s' ⟨k, hI⟩
    dsimp only at hI ⊢
    have hos : ¬ out.size > sizeLine := by
      have h3 : (8192 : Nat) ≤ sizeLine := by decide
      rw [← Array.length_toList]
      rcases hI with ⟨j, _, _, ho, _⟩ | ⟨_, ho⟩
      · rw [ho, List.length_take]; omega
      · rw [ho, List.length_append]; omega
    rw [if_neg hos]
    by_cases hp : p ≥ b.size
    · rw [if_pos hp]
      refine wpAny_pure (wpAny_pure ?_)
      show Q (out, p) s'
      rw [fin out p hI hp]; exact q _ _ k
    rw [if_neg hp]
    rcases hI with ⟨j, hj, hpj, ho, hst, hr⟩ | ⟨h, _⟩
    rotate_left
    · exact absurd (Nat.le_of_eq h.symm) hp
    subst hst
    simp only [List.length_cons] at hr
    have hdrop : b.toList.drop p = (l.drop j).flatMap Str.utf8Of ++ tail := by
      rw [hb]
      conv => lhs; rw [← List.take_append_drop j l]
      rw [List.flatMap_append, List.append_assoc, hpj, List.drop_left]
    by_cases hjl : j < l.length
    · have hlj : l.drop j = l[j] :: l.drop (j + 1) := List.drop_eq_getElem_cons hjl
      rw [hlj, List.flatMap_cons, List.append_assoc] at hdrop
      have hu := utf8At_whole (hl _ (List.getElem_mem hjl)) hdrop
      have hf : utf8Decoder.find true b p = .text [l[j]] (p + (Str.utf8Of l[j]).length) := by
        show (match Bytes.utf8At b p with | (.char c, nx) => Found.char c nx | (.bad _ stop reason, _) => _) = _
        rw [hu]; rfl
      rw [hf]
      have hpos := utf8_pos l[j]
      refine wpAny_pure ⟨k, .inl ⟨j + 1, hjl, ?_, ?_, rfl, by omega⟩⟩
      · rw [List.take_succ_eq_append_getElem hjl, List.flatMap_append, List.length_append, hpj]
        simp
      · rw [List.take_succ_eq_append_getElem hjl, Array.toList_append, ho]
    · have hj' : j = l.length := by omega
      subst hj'
      rw [List.drop_length, List.flatMap_nil, List.nil_append] at hdrop
      rcases ht with ⟨h1, _⟩ | ⟨⟨c, m, hc, hm, hm', htl⟩, hmk'⟩
      · rw [h1] at hdrop
        have := congrArg List.length hdrop
        simp only [List.length_drop, List.length_nil, Array.length_toList] at this
        omega
      · rw [htl] at hdrop
        have hu := utf8At_part hc hm hm' hdrop
        have hf : ∃ g, utf8Decoder.find true b p = .bad b.size "unexpected end of data" g := by
          unfold utf8Decoder
          dsimp only
          rw [hu]
          exact ⟨_, rfl⟩
        obtain ⟨g, hf⟩ := hf
        rw [hf]
        dsimp only
        rw [if_neg (by simp)]
        refine wpAny_bind (wpAny_rule ?_)
        refine wpAny_bind (fault_go (by omega) (by omega) (Nat.le_refl _) (by omega) (by decide +kernel) fun st s₂ k₂ => ?_)
        refine wpAny_pure ⟨Gr.tr k k₂, .inr ⟨rfl, ?_⟩⟩
        rw [Array.toList_append, ho, List.take_length, hmk']
  · rintro ⟨p, out, st⟩ s' ⟨k, hI⟩
    dsimp only at hI ⊢
    refine wpAny_pure ?_
    rw [fin out p hI ?_]
    · exact q _ _ k
    · rcases hI with ⟨j, _, _, _, _, hr⟩ | ⟨h, _⟩
      · simp only [List.length_nil] at hr; omega
      · exact Nat.le_of_eq h.symm
end Mine
end

section
open PySem PySem.W PyProof.Rows
set_option Elab.async false
set_option linter.unusedVariables false
set_option maxRecDepth 100000
namespace Mine
open PySem.Builtin PySem.Builtin._codecs
variable {prog : Program} {w : World} {A : Around} {env : Env} {C : Heap → Prop} {F : Nat → Addr}

/-! ### encode -/
theorem enc_body {x : Str} {t t1 t2 : Tok} : «str.encode» ⟨[.str x t, .str (Str.ofString "utf-8") t1, .str (Str.ofString "surrogateescape") t2], []⟩ =
    ((encodeNarrow "str.encode" utf8Codec (some (Str.ofString "surrogateescape")) (.str x t) x >>= fun b => mkBytes b) >>= fun v => ret v) := by
  kernel_rfl
theorem enc_meets {x : Str} {t t1 t2 : Tok} (hx : EncOk x) (hsz : 4 * x.length ≤ sizeLine) : Meets («str.encode» ⟨[.str x t, .str (Str.ofString "utf-8") t1, .str (Str.ofString "surrogateescape") t2], []⟩)
    (fun _ R s => ∀ u s', Gr s s' → R (.ok (.ret (.bytes (x.cps.toList.flatMap enc1).toArray u))) s') := by
  refine .of_wp fun prog w A R s h => ?_
  rw [enc_body]
  refine wpAny_bind (wpAny_bind (encode_ok hx hsz ?_))
  have hl := enc_len x.cps.toList
  refine (wpAny_mkBytes ?_ (by rw [List.size_toArray]; refine Nat.le_trans hl (Nat.le_trans ?_ hsz); simp [Str.length]))
  exact wpAny_pure ⟨_, rfl, h _ _ (Gr.toks _)⟩
theorem Ev.encode {o a1 a2 : Expr} {apos pos : Pos} {x : Str} (kc : Kp C) (ho : Ev prog w A env C o (.str x)) (h1 : Ev prog w A env C a1 (.str (Str.ofString "utf-8"))) (h2 : Ev prog w A env C a2 (.str (Str.ofString "surrogateescape"))) (hx : EncOk x) (hsz : 4 * x.length ≤ sizeLine)
    (hbase : attributeBase o "encode" env (eval o env) = eval o env) (hline : (apos.endLine == pos.line) = true) (hb : backTo pos (starEach [a1, a2] env) = trees [a1, a2] env) : Ev prog w A env C (.Call (.Attribute o "encode" apos) [a1, a2] [] pos) (.bys (x.cps.toList.flatMap enc1).toArray) := fun s Q E c q => by
  refine wpAny_Call_method (T := "str") (id := "str.encode") hbase (by rw [hb]; rfl) hline PySem.F.plainAttrs_str PySem.F.slot_str_encode PySem.F.type_str_encode (ho s _ E c fun v s₁ k₁ r₁ => ?_)
  obtain ⟨t, rfl⟩ := r₁
  refine ⟨typeIs_str _ _ _, fun a e => (nomatch e), ?_⟩
  rw [hb]
  refine Calls.callWith_builtin rfl (Calls.evalArgs_plain (Evs.two kc h1 h2 s₁ _ E (kc _ _ c k₁.keep) fun vs s₂ k₂ r₂ => ?_))
  obtain ⟨v, v', rfl, ⟨t1, rfl⟩, ⟨t2, rfl⟩⟩ := Rds.two r₂
  exact call_meets PySem.F.slot_str_encode (typeIs_str _ _ _) PySem.F.entry_str_encode (PySem.F.args_str_encode_3 _ _ _) (enc_meets hx hsz) fun u s' k => q _ _ (Gr.tr k₁ (Gr.tr k₂ k)) ⟨u, rfl⟩

/-! ### decode -/
theorem args_bytes_decode_3 (a b c : Value) : argsOk "bytes.decode" ⟨[a, b, c], []⟩ := by
  unfold argsOk; rw [signature?_of (id := "bytes.decode") (n := ['e', 'd', 'o', 'c', 'e', 'd']) (o := ['s', 'e', 't', 'y', 'b']) (by kernel_rfl) PySem.W.FB.owner_bytes]; kernel_rfl
theorem road_replace {id : String} {b : Array UInt8} : decodeRoad id b (Str.ofString "utf-8") (some (Str.ofString "replace")) [] = (runDecoder id utf8Decoder (some (Str.ofString "replace")) true b 0 [] >>= fun r => mkStr ⟨r.1⟩) := by kernel_rfl
theorem dec_text {b : Array UInt8} {l mk : List Nat} {tail : List UInt8} {t t1 t2 t3 : Tok} {d : Str} (hl : ∀ c ∈ l, Scalar c) (ht : Tail tail mk) (hb : b.toList = l.flatMap Str.utf8Of ++ tail) (hsz : b.size ≤ 4096) (hlk : l.length + mk.length ≤ 8192) :
    Meets («_codecs.decode.text» ⟨[.bytes b t, .str (Str.ofString "utf-8") t1, .str (Str.ofString "replace") t2, .str d t3], []⟩) (fun _ R s => ∀ u s', Gr s s' → R (.ok (.ret (.str ⟨(l ++ mk).toArray⟩ u))) s') := by
  refine .of_wp fun prog w A R s h => ?_
  show wpAny _ _ (Bytes.bytesLike _ (.bytes b t) >>= fun r => _) _ _ s
  refine wpAny_bind (wpAny_of_eq PySem.W.KBd.like_eq ?_)
  refine wpAny_bind (wpAny_of_eq PySem.W.KBd.held_eq ?_)
  show wpAny _ _ (decodeRoad _ b (PySem.Str.ofString "utf-8") (some (Str.ofString "replace")) [] >>= fun v => _) _ _ s
  rw [road_replace]
  refine wpAny_bind (wpAny_bind (run_ok hl ht hb hsz fun p s₁ k₁ => ?_))
  refine wpAny_mkStr (wpAny_pure ⟨_, rfl, h _ _ (Gr.tr k₁ (Gr.toks _))⟩) ?_
  have : (8192 : Nat) ≤ sizeLine := by decide
  show (l ++ mk).toArray.size ≤ _
  rw [List.size_toArray, List.length_append]; omega
theorem dec_body {c : UInt8} {cs : List UInt8} {t t1 t2 : Tok} : «bytes.decode» ⟨[.bytes (c :: cs).toArray t, .str (Str.ofString "utf-8") t1, .str (Str.ofString "replace") t2], []⟩ =
    (mkStr (Str.ofString "utf-8") >>= fun _ => mkStr (Str.ofString "utf-8") >>= fun e => mkStr (Str.ofString "replace") >>= fun r => mkStr (Str.ofString "bytes.decode") >>= fun d =>
      call (.builtin "_codecs.decode.text") [.bytes (c :: cs).toArray t, e, r, d] >>= fun v => ret v) := by kernel_rfl
theorem dec_empty {t t1 t2 : Tok} : «bytes.decode» ⟨[.bytes #[] t, .str (Str.ofString "utf-8") t1, .str (Str.ofString "replace") t2], []⟩ = (rule "bytes.decode.empty" >>= fun _ => retStr Str.empty) := by kernel_rfl
theorem dec_meets {b : Array UInt8} {l mk : List Nat} {tail : List UInt8} {t t1 t2 : Tok} (hl : ∀ c ∈ l, Scalar c) (ht : Tail tail mk) (hb : b.toList = l.flatMap Str.utf8Of ++ tail) (hsz : b.size ≤ 4096) :
    Meets («bytes.decode» ⟨[.bytes b t, .str (Str.ofString "utf-8") t1, .str (Str.ofString "replace") t2], []⟩) (fun _ R s => ∀ u s', Gr s s' → R (.ok (.ret (.str ⟨(l ++ mk).toArray⟩ u))) s') := by
  refine .of_wp fun prog w A R s h => ?_
  have hll : l.length ≤ (l.flatMap Str.utf8Of).length := by
    clear hb hl h
    induction l with
    | nil => simp
    | cons a r ih => have := utf8_pos a; rw [List.flatMap_cons, List.length_append, List.length_cons]; omega
  have hmk : mk.length ≤ 1 := by rcases ht with ⟨_, rfl⟩ | ⟨_, rfl⟩ <;> simp
  have hlen : b.size = (l.flatMap Str.utf8Of).length + tail.length := by rw [← Array.length_toList, hb, List.length_append]
  obtain ⟨bs⟩ := b
  cases bs with
  | nil =>
    rw [dec_empty]
    refine wpAny_bind (wpAny_rule ?_)
    have hl0 : l = [] := by
      cases l with
      | nil => rfl
      | cons a r =>
        have := utf8_pos a
        simp at hb
        rw [hb.1] at this; simp at this
    have hm0 : mk = [] := by
      rcases ht with ⟨_, h⟩ | ⟨⟨c, k, hc, hk, hk', e⟩, _⟩
      · exact h
      · subst hl0
        have h1 := congrArg List.length hb
        simp only [List.flatMap_nil, List.nil_append] at h1
        rw [e, List.length_take] at h1
        simp only [List.length_nil] at h1
        omega
    subst hl0 hm0
    refine wpAny_bind (wpAny_mkStr (wpAny_pure ⟨_, rfl, h _ _ (Gr.toks _)⟩) (by decide))
  | cons c cs =>
    rw [dec_body]
    refine wpAny_bind (wpAny_mkStr ?_ (by decide +kernel))
    refine wpAny_bind (wpAny_mkStr ?_ (by decide +kernel))
    refine wpAny_bind (wpAny_mkStr ?_ (by decide +kernel))
    refine wpAny_bind (wpAny_mkStr ?_ (by decide +kernel))
    exact wpAny_bind (call_function_meets PySem.W.KBd.kind_text PySem.W.KBd.plain_text PySem.W.KBd.entry_text (PySem.W.KBd.args_text _ _ _ _) (dec_text hl ht hb hsz (by omega)) fun u s' k => wpAny_pure ⟨_, rfl, h _ _ (Gr.tr (Gr.toks _) k)⟩)
theorem Ev.decode {o a1 a2 : Expr} {apos pos : Pos} {b : Array UInt8} {l mk : List Nat} {tail : List UInt8} (kc : Kp C) (ho : Ev prog w A env C o (.bys b)) (h1 : Ev prog w A env C a1 (.str (Str.ofString "utf-8"))) (h2 : Ev prog w A env C a2 (.str (Str.ofString "replace")))
    (hl : ∀ c ∈ l, Scalar c) (ht : Tail tail mk) (hb' : b.toList = l.flatMap Str.utf8Of ++ tail) (hsz : b.size ≤ 4096)
    (hbase : attributeBase o "decode" env (eval o env) = eval o env) (hline : (apos.endLine == pos.line) = true) (hb : backTo pos (starEach [a1, a2] env) = trees [a1, a2] env) : Ev prog w A env C (.Call (.Attribute o "decode" apos) [a1, a2] [] pos) (.str ⟨(l ++ mk).toArray⟩) := fun s Q E c q => by
  refine wpAny_Call_method (T := "bytes") (id := "bytes.decode") hbase (by rw [hb]; rfl) hline PySem.W.FB.plainAttrs_bytes PySem.W.FB.slot_bytes_decode PySem.W.FB.type_bytes_decode (ho s _ E c fun v s₁ k₁ r₁ => ?_)
  obtain ⟨t, rfl⟩ := r₁
  refine ⟨typeIs_bytes _ _ _, fun a e => (nomatch e), ?_⟩
  rw [hb]
  refine Calls.callWith_builtin rfl (Calls.evalArgs_plain (Evs.two kc h1 h2 s₁ _ E (kc _ _ c k₁.keep) fun vs s₂ k₂ r₂ => ?_))
  obtain ⟨v, v', rfl, ⟨t1, rfl⟩, ⟨t2, rfl⟩⟩ := Rds.two r₂
  exact call_meets PySem.W.FB.slot_bytes_decode (typeIs_bytes _ _ _) PySem.W.FB.entry_bytes_decode (args_bytes_decode_3 _ _ _) (dec_meets hl ht hb' hsz) fun u s' k => q _ _ (Gr.tr k₁ (Gr.tr k₂ k)) ⟨u, rfl⟩

set_option maxHeartbeats 4000000 in
/-- _sanitize -/
theorem sanitize_fn {x : Str} {l mk : List Nat} {tail : List UInt8} (hx : EncOk x) (hn : x.length ≤ 1024) (hl : ∀ c ∈ l, Scalar c) (ht : Tail tail mk) (hb : x.cps.toList.flatMap enc1 = l.flatMap Str.utf8Of ++ tail) (hR : Room A 1) :
    Fn pg w A (Base F) (.ref (F 1)) [.str x] (.str ⟨(l ++ mk).toArray⟩) := fun s Q E vs B r q => by
  obtain ⟨v, rfl, r₁⟩ := Rds.one r
  refine call_def (i := 1) (xs := ["string"]) (B.defs 1 (by decide)) B.lim hR.d (fun _ _ _ _ _ _ _ => rfl) (by decide +kernel) rfl rfl rfl fun fd hfd s' x' E' => ?_
  obtain ⟨nm, qn, d, p, an, cd, ct, rfl⟩ := hfd
  generalize henv : callEnvC (fnAt 1 nm qn d p an cd ct) s.heap.objs.size (F 1) = env at x' ⊢
  have own : Own env := by rw [← henv]; exact Own.call rfl
  have hst : St env s [("string", .str x)] s' := start1 (by rw [← henv]; rfl) x' r₁
  have kb : env.kindOf "original_bytes" = some .local := by rw [← henv]; rfl
  generalize hA' : A.deeper env = A'
  have kp0 : Kp (Fc env s [("string", .str x)]) := Fc.kp
  have hs4 : (4096 : Nat) ≤ sizeLine := by decide
  have hel : (x.cps.toList.flatMap enc1).toArray.size ≤ 4096 := by
    have h1 := enc_len x.cps.toList
    have h2 : x.cps.toList.length = x.length := by simp [Str.length]
    rw [List.size_toArray]; omega
  have key : ExR pg w A' env s [("string", .str x)] (dBody (dfn 1)) (.str ⟨(l ++ mk).toArray⟩) := by
    refine ExR.cons (Ex.assign (d := .bys (x.cps.toList.flatMap enc1).toArray) ?_ own.kind (.inl kb) rfl) (ExR.ret ?_)
    · exact Ev.encode kp0 (Ev.var rfl own.kind) Ev.constStr Ev.constStr hx (by omega) rfl rfl rfl
    · exact Ev.decode Fc.kp (Ev.var rfl own.kind) Ev.constStr Ev.constStr hl ht hb hel rfl rfl rfl
  exact key s' _ E' hst fun v s'' k r => ⟨v, rfl, q v s'' k r⟩
end Mine
end

section
open PySem PySem.W PyProof.Rows
set_option Elab.async false
set_option linter.unusedVariables false
set_option maxRecDepth 100000
namespace Mine
variable {prog : Program} {w : World} {A : Around} {env : Env} {C : Heap → Prop} {R : Result → Shared → Prop}

theorem turn0 (elt t0 i0 t1 i1 : Expr) (scope : Scope) (pos : Pos) (it acc : Value) (env : Env) :
    compTurn (.ListComp elt [⟨t0, i0, [], 0⟩, ⟨t1, i1, [], 0⟩] scope pos) 0 it acc env = (standAt i0.pos >>= fun _ => pyNext it >>= fun r => match r with
      | none => pure (.done .next)
      | some v => letOwnedTupleGo t0 it v >>= fun _ => assign t0 env v >>= fun _ =>
        eval i1 env >>= fun x => standAt i1.pos >>= fun _ => foldedSetIterable i1 env x >>= fun x => holding [x] (pyIter x) >>= fun it' =>
          runOwn (.compStart (.ListComp elt [⟨t0, i0, [], 0⟩, ⟨t1, i1, [], 0⟩] scope pos) 1 it' acc env) env >>= fun _ =>
          again (.compLoop (.ListComp elt [⟨t0, i0, [], 0⟩, ⟨t1, i1, [], 0⟩] scope pos) 0 it acc env)) := by rfl
theorem turn1 (elt t0 i0 t1 i1 : Expr) (scope : Scope) (pos : Pos) (it acc : Value) (env : Env) :
    compTurn (.ListComp elt [⟨t0, i0, [], 0⟩, ⟨t1, i1, [], 0⟩] scope pos) 1 it acc env = (standAt i1.pos >>= fun _ => pyNext it >>= fun r => match r with
      | none => pure (.done .next)
      | some v => letOwnedTupleGo t1 it v >>= fun _ => assign t1 env v >>= fun _ =>
        (eval elt env >>= fun x => call (.builtin "list.append") [acc, x] >>= fun _ => pure ()) >>= fun _ =>
          again (.compLoop (.ListComp elt [⟨t0, i0, [], 0⟩, ⟨t1, i1, [], 0⟩] scope pos) 1 it acc env)) := by rfl

section
variable {elt t0 i0 t1 i1 : Expr} {scope : Scope} {pos : Pos} {it acc : Value} {s : Shared}
theorem loop1 (I : Nat → Shared → Prop)
    (turn : ∀ n s, I n s → ∀ E, wpAny (model prog w) A (pyNext it) (fun r s₁ => match r with
      | none => R (.ok .next) s₁
      | some v => wpAny (model prog w) A (assign t1 env v) (fun _ s₂ => wpAny (model prog w) A (eval elt env) (fun x s₃ =>
          wpAny (model prog w) A (call (.builtin "list.append") [acc, x]) (fun _ s₄ => ∃ m, m < n ∧ I m s₄) E s₃) E s₂) E s₁) E s)
    (n : Nat) (h : I n s) (ht : ∀ v, letOwnedTupleGo t1 it v = pure ()) :
    codeAny (model prog w) A (.compLoop (.ListComp elt [⟨t0, i0, [], 0⟩, ⟨t1, i1, [], 0⟩] scope pos) 1 it acc env) R s := by
  refine codeAny_loop rfl I (fun n s hI => ?_) n h
  show wpAny _ A ((compTurn (.ListComp elt [⟨t0, i0, [], 0⟩, ⟨t1, i1, [], 0⟩] scope pos) 1 it acc env).onRaise (fun x => do noteFrame x env; theTreesLotGoes x)) _ _ s
  refine wpAny_noted ?_
  rw [turn1]
  refine wpAny_bind (wpAny_standAt (wpAny_bind (wpAny_mono (turn n s hI _) (fun r s₁ h₁ => ?_) fun _ _ h' => h')))
  cases r with
  | none => exact wpAny_pure h₁
  | some v =>
    refine wpAny_bind (wpAny_of_eq (ht v) ?_)
    exact wpAny_bind (wpAny_mono h₁ (fun _ s₂ h₂ => wpAny_bind (wpAny_bind (wpAny_mono h₂ (fun x s₃ h₃ => wpAny_bind (wpAny_mono h₃
      (fun _ s₄ h₄ => wpAny_pure (wpAny_pure ⟨rfl, h₄⟩)) fun _ _ h' => h')) fun _ _ h' => h'))) fun _ _ h' => h')
theorem start1C
    (h0 : codeAny (model prog w) A (.compLoop (.ListComp elt [⟨t0, i0, [], 0⟩, ⟨t1, i1, [], 0⟩] scope pos) 1 it acc env) R s)
    (h : ∀ E, wpAny (model prog w) A (pyIter it) (fun it' s' => codeAny (model prog w) A (.compLoop (.ListComp elt [⟨t0, i0, [], 0⟩, ⟨t1, i1, [], 0⟩] scope pos) 1 it' acc env) R s') E s) :
    codeAny (model prog w) A (.compStart (.ListComp elt [⟨t0, i0, [], 0⟩, ⟨t1, i1, [], 0⟩] scope pos) 1 it acc env) R s := by
  refine codeAny_of_tree ?_
  show wpAny _ _ ((compStart (.ListComp elt [⟨t0, i0, [], 0⟩, ⟨t1, i1, [], 0⟩] scope pos) 1 it acc env).onRaise (fun x => do noteFrame x env; standAt theWindowsPlace)) _ _ s
  refine wpAny_notedAt ?_
  unfold compStart
  show wpAny _ _ (ask >>= _) _ _ s
  refine wpAny_bind (wpAny_askSetting (wpAny_ite ?_))
  split
  · first
      | exact wpAny_bind (wpAny_pure (wpAny_pure (And.intro rfl h0)))
      | exact wpAny_pure (And.intro rfl h0)
  · first
      | exact wpAny_bind (wpAny_rule (wpAny_bind (wpAny_standAt (wpAny_bind (wpAny_mono (h _) (fun it' s' h' => wpAny_pure (And.intro rfl h')) fun _ _ x => x)))))
      | (refine wpAny_bind (wpAny_rule ?_); show wpAny _ _ (standAt i1.pos >>= _) _ _ s; exact wpAny_bind (wpAny_standAt (wpAny_bind (wpAny_mono (h _) (fun it' s' h' => wpAny_pure (And.intro rfl h')) fun _ _ x => x))))
theorem loop0 (I : Nat → Shared → Prop)
    (turn : ∀ n s, I n s → ∀ E E' : Value → Shared → Prop, wpAny (model prog w) A (pyNext it) (fun r s₁ => match r with
      | none => R (.ok .next) s₁
      | some v => wpAny (model prog w) A (assign t0 env v) (fun _ s₂ => wpAny (model prog w) A (eval i1 env) (fun x s₃ =>
          wpAny (model prog w) A (pyIter x) (fun it' s₄ => codeAny (model prog w) A (.compStart (.ListComp elt [⟨t0, i0, [], 0⟩, ⟨t1, i1, [], 0⟩] scope pos) 1 it' acc env)
            (fun r s₅ => match r with | .ok _ => ∃ m, m < n ∧ I m s₅ | .error e => E' e s₅) s₄) E s₃) E s₂) E s₁) E s)
    (n : Nat) (h : I n s) (ht : ∀ v, letOwnedTupleGo t0 it v = pure ()) (hs1 : ∀ x, foldedSetIterable i1 env x = pure x) :
    codeAny (model prog w) A (.compLoop (.ListComp elt [⟨t0, i0, [], 0⟩, ⟨t1, i1, [], 0⟩] scope pos) 0 it acc env) R s := by
  refine codeAny_loop rfl I (fun n s hI => ?_) n h
  show wpAny _ A ((compTurn (.ListComp elt [⟨t0, i0, [], 0⟩, ⟨t1, i1, [], 0⟩] scope pos) 0 it acc env).onRaise (fun x => do noteFrame x env; theTreesLotGoes x)) _ _ s
  refine wpAny_noted ?_
  rw [turn0]
  refine wpAny_bind (wpAny_standAt (wpAny_bind (wpAny_mono (turn n s hI _ (cameBackBy (model prog w) A env (notedBy (model prog w) A env fun e s' => R (.error e) s'))) (fun r s₁ h₁ => ?_) fun _ _ h' => h')))
  cases r with
  | none => exact wpAny_pure h₁
  | some v =>
    refine wpAny_bind (wpAny_of_eq (ht v) ?_)
    refine wpAny_bind (wpAny_mono h₁ (fun _ s₂ h₂ => ?_) fun _ _ h' => h')
    refine wpAny_bind (wpAny_mono h₂ (fun x s₃ h₃ => ?_) fun _ _ h' => h')
    refine wpAny_bind (wpAny_standAt ?_)
    refine wpAny_bind (wpAny_of_eq (hs1 x) ?_)
    refine wpAny_bind (wpAny_holding (wpAny_mono h₃ (fun it' s₄ h₄ => ?_) fun _ _ h' => h'))
    refine wpAny_bind (wpAny_runOwn (codeAny_mono h₄ fun r s₅ h₅ => ?_))
    cases r with
    | ok f => exact wpAny_pure ⟨rfl, h₅⟩
    | error e => exact h₅
end

theorem IntsAre.snoc {vs : List Value} {l : List Int} {a : Int} {t : Tok} (h : IntsAre vs l) : IntsAre (vs ++ [.int a t]) (l ++ [a]) := PyProof.Rows.IntsAre.append h (.cons a t .nil)

theorem inner_loop {s : Shared} {z : Str} {pz pe : Pos} {t0 i0 i1 : Expr} {scope : Scope} {pos : Pos} {I D : Addr} {fp : List Addr} {n : Nat} {P : Nat → Value → Prop} {St : Nat → Heap → Prop}
    {cenv : Env} {m : Str → Option Value} {ys : Array Value} {l : List Int} (W : Walks prog w A I fp [I] n P St) (d : Nat → Int) (hP : ∀ i v, i < n → P i v → ∃ t, v = .int (d i) t)
    (hx : cenv.kindOf z = some .local) (hk : cenv.scope.kind = .function) (hd : (z == ("__debug__" : Str)) = false)
    (hDC : D ≠ cenv.locals) (hDf : D ∉ fp) (hCf : cenv.locals ∉ fp)
    (hst : St 0 s.heap) (hacc : s.heap.PlainList D ys) (hl : IntsAre ys.toList l) (hn : s.heap.Ns cenv.locals m) (hsz : l.length + n ≤ sizeLine)
    (hR : ∀ h' tk m' ys', h'.Ns cenv.locals m' → h'.PlainList D ys' → IntsAre ys'.toList (l ++ (List.range n).map d) →
      (∀ b o, b ≠ cenv.locals → b ≠ I → b ≠ D → s.heap.get? b = some o → h'.get? b = some o) → R (.ok .next) { s with heap := h', toks := tk }) :
    codeAny (model prog w) A (.compLoop (.ListComp (.Name z pe) [⟨t0, i0, [], 0⟩, ⟨.Name z pz, i1, [], 0⟩] scope pos) 1 (.ref I) (.ref D) cenv) R s := by
  refine loop1
    (fun k s' => ∃ h' tk m' ys i, s' = { s with heap := h', toks := tk } ∧ St i h' ∧ h'.PlainList D ys ∧ h'.Ns cenv.locals m' ∧
      IntsAre ys.toList (l ++ (List.range i).map d) ∧ i ≤ n ∧ k = n + 1 - i ∧
      (∀ b o, b ≠ cenv.locals → b ≠ I → b ≠ D → s.heap.get? b = some o → h'.get? b = some o)) ?_ (n + 1)
    ⟨s.heap, s.toks, m, ys, 0, rfl, hst, hacc, hn, by simpa using hl, Nat.zero_le _, rfl, fun _ _ _ _ _ e => e⟩ (fun _ => rfl)
  rintro k s' ⟨H, tk, m', ys', i, rfl, hst', hacc', hn', hF, hi, rfl, hkk⟩ E
  have hIf : I ∈ fp := W.sub I (List.mem_singleton.mpr rfl)
  have hCw : cenv.locals ≠ I := fun h => hCf (h ▸ hIf)
  have hDw : D ≠ I := fun h => hDf (h ▸ hIf)
  by_cases hlt : i < n
  · refine W.item i _ _ _ hlt hst' fun v h₁ tk₁ hPv hst₁ hk₁ => ?_
    have hk₁' : ∀ b o, b ≠ I → H.get? b = some o → h₁.get? b = some o := fun b o hb e => hk₁ b o (fun h => hb (List.mem_singleton.mp h)) e
    have hn₁ := hn'.at' fun o e => hk₁' _ o hCw e
    obtain ⟨t, rfl⟩ := hP i v hlt hPv
    refine wpAny_assign_Name (wpAny_storeName_local hx hn₁ (fun h₂ hn₂ hs₂ => ?_) (by rw [hk]; rfl))
    refine wpAny_Name (wpAny_loadName_local hk hx hn₂ (v := .int (d i) t) (by simp) ?_) hd
    have hacc₂ : h₂.PlainList D ys' := hacc'.at fun o e => hs₂.extBut D o hDC (hk₁' D o hDw e)
    have hlen : ys'.size ≤ sizeLine := by
      rw [← Array.length_toList, intsLen hF]
      simp only [List.length_append, List.length_map, List.length_range]
      omega
    refine wpAny_list_append_plain (hsz := hlen) hacc₂ fun h₃ hl₃ hs₃ => ?_
    have up₃ : ∀ b o, b ≠ cenv.locals → b ≠ I → b ≠ D → H.get? b = some o → h₃.get? b = some o := fun b o hbC hbI hbD e => hs₃.extBut b o hbD (hs₂.extBut b o hbC (hk₁' b o hbI e))
    refine ⟨n + 1 - (i + 1), by omega, h₃, _, _, ys'.push (.int (d i) t), i + 1, rfl, ?_, hl₃, hn₂.sameBut hs₃ (Ne.symm hDC), ?_, hlt, rfl, fun b o hbC hbI hbD e => up₃ b o hbC hbI hbD (hkk b o hbC hbI hbD e)⟩
    · exact W.frame _ _ h₃ hst₁ fun b hb o e => hs₃.extBut b o (fun h => hDf (h ▸ hb)) (hs₂.extBut b o (fun h => hCf (h ▸ hb)) e)
    · rw [List.range_succ, List.map_append, ← List.append_assoc, Array.toList_push]
      exact IntsAre.snoc hF
  · have hin : i = n := by omega
    subst hin
    refine W.done _ _ _ hst' fun h₁ tk₁ hk₁ => ?_
    have hk₁' : ∀ b o, b ≠ I → H.get? b = some o → h₁.get? b = some o := fun b o hb e => hk₁ b o (fun h => hb (List.mem_singleton.mp h)) e
    exact hR h₁ tk₁ m' ys' (hn'.at' fun o e => hk₁' _ o hCw e) (hacc'.at fun o e => hk₁' _ o hDw e) hF fun b o hbC hbf hbD e => hk₁' b o hbf (hkk b o hbC hbf hbD e)

theorem outer_loop {s : Shared} {y z : Str} {py pz pe : Pos} {i0 i1 : Expr} {scope : Scope} {pos : Pos} {I D : Addr} {fp : List Addr} {n : Nat} {P : Nat → Value → Prop} {St : Nat → Heap → Prop}
    {cenv : Env} {m : Str → Option Value} (hh : A.handled = none) (W : Walks prog w A I fp [I] n P St) (f : Nat → List Int)
    (hy : cenv.kindOf y = some .local) (hz : cenv.kindOf z = some .local) (hk : cenv.scope.kind = .function) (hd : (z == ("__debug__" : Str)) = false) (hs1 : ∀ x, foldedSetIterable i1 cenv x = pure x)
    (hDC : D ≠ cenv.locals) (hDf : D ∉ fp) (hCf : cenv.locals ∉ fp)
    (hst : St 0 s.heap) (hacc : s.heap.PlainList D #[]) (hn : s.heap.Ns cenv.locals m) (hsz : ((List.range n).flatMap f).length ≤ sizeLine)
    (helt : ∀ i v s₂ m₂ E', i < n → P i v → s₂.heap.Ns cenv.locals m₂ → m₂ y = some v → (∀ b o, b ≠ cenv.locals → b ≠ I → b ≠ D → s.heap.get? b = some o → s₂.heap.get? b = some o) →
      wpAny (model prog w) A (eval i1 cenv) (fun x s₃ => (∃ a us, x = .ref a ∧ s₂.heap.get? a = none ∧ s₃.heap.PlainList a us ∧ IntsAre us.toList (f i)) ∧ Gr s₂ s₃) E' s₂)
    (hR : ∀ h' tk m' ys', h'.Ns cenv.locals m' → h'.PlainList D ys' → IntsAre ys'.toList ((List.range n).flatMap f) →
      (∀ b o, b ≠ cenv.locals → b ≠ I → b ≠ D → s.heap.get? b = some o → h'.get? b = some o) → R (.ok .next) { s with heap := h', toks := tk }) :
    codeAny (model prog w) A (.compLoop (.ListComp (.Name z pe) [⟨.Name y py, i0, [], 0⟩, ⟨.Name z pz, i1, [], 0⟩] scope pos) 0 (.ref I) (.ref D) cenv) R s := by
  refine loop0
    (fun k s' => ∃ h' tk m' ys i, s' = { s with heap := h', toks := tk } ∧ St i h' ∧ h'.PlainList D ys ∧ h'.Ns cenv.locals m' ∧
      IntsAre ys.toList ((List.range i).flatMap f) ∧ i ≤ n ∧ k = n + 1 - i ∧
      (∀ b o, b ≠ cenv.locals → b ≠ I → b ≠ D → s.heap.get? b = some o → h'.get? b = some o)) ?_ (n + 1)
    ⟨s.heap, s.toks, m, #[], 0, rfl, hst, hacc, hn, .nil, Nat.zero_le _, rfl, fun _ _ _ _ _ e => e⟩ (fun _ => rfl) hs1
  rintro k s' ⟨H, tk, m', ys', i, rfl, hst', hacc', hn', hF, hi, rfl, hkk⟩ E E'
  have hIf : I ∈ fp := W.sub I (List.mem_singleton.mpr rfl)
  have hCw : cenv.locals ≠ I := fun h => hCf (h ▸ hIf)
  have hDw : D ≠ I := fun h => hDf (h ▸ hIf)
  by_cases hlt : i < n
  · refine W.item i _ _ _ hlt hst' fun v h₁ tk₁ hPv hst₁ hk₁ => ?_
    have hk₁' : ∀ b o, b ≠ I → H.get? b = some o → h₁.get? b = some o := fun b o hb e => hk₁ b o (fun h => hb (List.mem_singleton.mp h)) e
    have hn₁ := hn'.at' fun o e => hk₁' _ o hCw e
    refine wpAny_assign_Name (wpAny_storeName_local hy hn₁ (fun h₂ hn₂ hs₂ => ?_) (by rw [hk]; rfl))
    have up₂ : ∀ b o, b ≠ cenv.locals → b ≠ I → H.get? b = some o → h₂.get? b = some o := fun b o hbC hbf e => hs₂.extBut b o hbC (hk₁' b o hbf e)
    refine wpAny_mono (helt i v _ _ _ hlt hPv hn₂ (by simp) (fun b o hbC hbf hbD e => up₂ b o hbC hbf (hkk b o hbC hbf hbD e))) (fun x s₃ h₃ => ?_) fun _ _ e => e
    obtain ⟨hr, h₃, tk₃, rfl, hk₃⟩ := h₃
    obtain ⟨a, vs, rfl, hnew, hp, hi₃⟩ := hr
    dsimp only at hnew
    have hlen : vs.size = (f i).length := by rw [← Array.length_toList]; exact intsLen hi₃
    have hlt3 : a < h₃.objs.size := by obtain ⟨_, e⟩ := hp; exact Heap.lt_size e
    refine wpAny_pyIter_list hp.isList ?_
    have hne : ∀ b o, h₃.get? b = some o → b ≠ h₃.objs.size := fun b o e h => Nat.lt_irrefl _ (h ▸ Heap.lt_size e)
    have hn₃ := hn₂.keeps hk₃
    have hacc₂ : h₂.PlainList D ys' := hacc'.at fun o e => up₂ D o hDC hDw e
    have hDs : D ≠ h₃.objs.size := by obtain ⟨_, e⟩ := hacc₂; exact hne _ _ (hk₃ _ _ e)
    have hCs : cenv.locals ≠ h₃.objs.size := by obtain ⟨o, _, _, e, _⟩ := hn₃; exact hne _ _ e
    have hDa : D ≠ a := by rintro rfl; obtain ⟨_, e⟩ := hacc₂; rw [hnew] at e; cases e
    have hCa : cenv.locals ≠ a := by rintro rfl; obtain ⟨o, _, _, e, _⟩ := hn₂; rw [hnew] at e; cases e
    have hsz' : ((List.range i).flatMap f).length + (f i).length ≤ sizeLine := by
      have e1 : (List.range (i + 1)).flatMap f = (List.range i).flatMap f ++ f i := by rw [List.range_succ, List.flatMap_append]; simp
      have e2 : ((List.range n).flatMap f) = (List.range (i + 1)).flatMap f ++ ((List.range n).drop (i + 1)).flatMap f := by
        rw [← List.flatMap_append]
        congr 1
        conv => lhs; rw [← List.take_append_drop (i + 1) (List.range n)]
        rw [List.take_range, Nat.min_eq_left hlt]
      rw [e2, List.length_append, e1, List.length_append] at hsz
      omega
    have W2 := Walks.list (prog := prog) (w := w) (A := A) hh h₃.objs.size a (Nat.ne_of_lt hlt3) vs
    have hst2 : (fun (i : Nat) (h : Heap) => h.IsListIter h₃.objs.size a i ∧ h.IsList a vs) 0 (h₃.push { cls := .type "list_iterator", data := .fields #[.ref a, .int 0 0] }) := ⟨⟨_, Heap.get?_push_size _ rfl, rfl, rfl⟩, hp.isList.push _⟩
    have lp : ∀ E' : Value → Shared → Prop, codeAny (model prog w) A (.compLoop (.ListComp (.Name z pe) [⟨.Name y py, i0, [], 0⟩, ⟨.Name z pz, i1, [], 0⟩] scope pos) 1 (.ref h₃.objs.size) (.ref D) cenv)
        (fun r s₅ => match r with | .ok _ => (∃ m, m < n + 1 - i ∧ ∃ h' tk m' ys i', s₅ = { s with heap := h', toks := tk } ∧ St i' h' ∧ h'.PlainList D ys ∧ h'.Ns cenv.locals m' ∧
          IntsAre ys.toList ((List.range i').flatMap f) ∧ i' ≤ n ∧ m = n + 1 - i' ∧ (∀ b o, b ≠ cenv.locals → b ≠ I → b ≠ D → s.heap.get? b = some o → h'.get? b = some o)) | .error e => E' e s₅)
        { s with heap := h₃.push { cls := .type "list_iterator", data := .fields #[.ref a, .int 0 0] }, toks := tk₃ } := fun E' => by
      refine inner_loop (m := fun x => if x = y then some v else m' x) (ys := ys') (l := (List.range i).flatMap f) W2 (fun j => (f i).getD j 0) (fun j v _ e => intsGet hi₃ j v (by simpa using e)) hz hk hd hDC ?_ ?_ hst2 ?_ hF ?_ ?_ ?_
      · intro hm
        rcases List.mem_cons.mp hm with h | h
        · exact hDs h
        · exact hDa (List.mem_singleton.mp h)
      · intro hm
        rcases List.mem_cons.mp hm with h | h
        · exact hCs h
        · exact hCa (List.mem_singleton.mp h)
      · exact hacc₂.at fun o e => Heap.get?_push_of_some _ (hk₃ _ _ e)
      · exact hn₃.at' fun o e => Heap.get?_push_of_some _ e
      · rw [hlen]; exact hsz'
      · intro h₅ tk₅ m₅ ys₅ hn₅ hl₅ hF₅ hk₅
        dsimp only at hk₅
        have up₅ : ∀ b o, b ≠ cenv.locals → b ≠ D → h₂.get? b = some o → h₅.get? b = some o := fun b o hbC hbD e => hk₅ b o hbC (hne b o (hk₃ b o e)) hbD (Heap.get?_push_of_some _ (hk₃ b o e))
        refine ⟨n + 1 - (i + 1), by omega, h₅, tk₅, m₅, ys₅, i + 1, rfl, ?_, hl₅, hn₅, ?_, hlt, rfl, fun b o hbC hbI hbD e => up₅ b o hbC hbD (up₂ b o hbC hbI (hkk b o hbC hbI hbD e))⟩
        · exact W.frame _ _ h₅ hst₁ fun b hb o e => up₅ b o (fun h => hCf (h ▸ hb)) (fun h => hDf (h ▸ hb)) (hs₂.extBut b o (fun h => hCf (h ▸ hb)) e)
        · have e1 : (List.range (i + 1)).flatMap f = (List.range i).flatMap f ++ f i := by rw [List.range_succ, List.flatMap_append]; simp
          have e2 : (List.range vs.size).map (fun j => (f i).getD j 0) = f i := by
            rw [hlen]
            apply List.ext_getElem
            · simp
            · intro j h1 h2; simp [List.getD_eq_getElem?_getD, h2]
          rw [e2] at hF₅
          rw [e1]; exact hF₅
    exact start1C (lp _) fun E'' => W2.self 0 _ _ _ hst2 (lp _)
  · have hin : i = n := by omega
    subst hin
    refine W.done _ _ _ hst' fun h₁ tk₁ hk₁ => ?_
    have hk₁' : ∀ b o, b ≠ I → H.get? b = some o → h₁.get? b = some o := fun b o hb e => hk₁ b o (fun h => hb (List.mem_singleton.mp h)) e
    exact hR h₁ tk₁ m' ys' (hn'.at' fun o e => hk₁' _ o hCw e) (hacc'.at fun o e => hk₁' _ o hDw e) hF fun b o hbC hbf hbD e => hk₁' b o hbf (hkk b o hbC hbf hbD e)
end Mine
end

section
open PySem PySem.W PyProof.Rows
set_option Elab.async false
set_option linter.unusedVariables false
set_option maxRecDepth 100000
namespace Mine
variable {prog : Program} {w : World} {A : Around} {env : Env} {C : Heap → Prop} {F : Nat → Addr}

theorem comp2_go {i0 i1 : Expr} {y z : Str} {py pz pe : Pos} {scope : Scope} {cl : List (Str × Addr)} {pos pos' : Pos} {n : Nat} {D : Nat → Dt} {f : Nat → List Int} (hh : A.handled = none) (kc : Kp C)
    (hclos : closureFor scope env = pure cl) (hok : scopeOk scope y = true) (hz : scope.names.lookup z = some .local) (hd : (z == ("__debug__" : Str)) = false)
    (src : Src prog w A env C i0 n D) (hsz : ((List.range n).flatMap f).length ≤ sizeLine)
    (he : ∀ K i, i < n → EvN prog w A (compEnvC scope cl K env) (fun h => C h ∧ Bnd h K y (D i)) i1 (f i))
    (hs : ∀ x, foldedSetIterable i0 env x = pure x) (hs1 : ∀ env x, foldedSetIterable i1 env x = pure x)
    {use : Option (Value → Sem Unit)} {s : Shared} {Q : Value → Shared → Prop} {E : Value → Shared → Prop} (c : C s.heap)
    (q : ∀ a K h' tk m' ys, Keep s.heap h' → s.heap.get? a = none → s.heap.get? K = none → h'.Ns K m' → h'.PlainList a ys → IntsAre ys.toList ((List.range n).flatMap f) →
      compPost (model prog w) A E use Q (.ref a) K (.ok .next) { s with heap := h', toks := tk }) :
    wpAny (model prog w) A (comprehension (.ListComp (.Name z pe) [⟨.Name y py, i0, [], 0⟩, ⟨.Name z pz, i1, [], 0⟩] scope pos) scope env pos' (newList []) false (eval i0 env) use) Q E s := by
  obtain ⟨hcell, hkind, hnames, hx⟩ := scopeOk.use hok
  refine wpAny_comprehension_free rfl hs hclos hkind hnames (src s _ E c fun I s₂ k₂ it => ?_)
  obtain ⟨⟨fp, P, St, W, hI, hst, hfp, hD⟩, hnew⟩ := it
  refine wpAny_newObj_type (wpAny_newFunctionEnv hcell (by intro y hy; simp at hy) (fun h₁ hns₁ hsb₁ => ?_) hkind)
  dsimp only at hns₁ hsb₁ ⊢
  generalize hH2 : s₂.heap.push { cls := .type "list", dict := none, data := .seq ([] : List Value).toArray } = H2 at hns₁ hsb₁ ⊢
  have hC : H2.objs.size = s₂.heap.objs.size + 1 := by rw [← hH2, Heap.size_push]
  have hDC : s₂.heap.objs.size ≠ H2.objs.size := by rw [hC]; exact Nat.ne_of_lt (Nat.lt_succ_self _)
  have below : ∀ b, b < s₂.heap.objs.size → b ≠ H2.objs.size ∧ b ≠ s₂.heap.objs.size := fun b hb => ⟨by rw [hC]; exact Nat.ne_of_lt (Nat.lt_succ_of_lt hb), Nat.ne_of_lt hb⟩
  have hDf : s₂.heap.objs.size ∉ fp := fun hm => Nat.lt_irrefl _ (hfp _ hm)
  have hCf : H2.objs.size ∉ fp := fun hm => by have := hfp _ hm; rw [hC] at this; exact Nat.lt_irrefl _ (Nat.lt_of_succ_lt this)
  have old : ∀ b o, s₂.heap.get? b = some o → h₁.get? b = some o := fun b o e => hsb₁.extBut b o (below b (Heap.lt_size e)).1 (Heap.get?_push_of_some _ (hH2 ▸ Heap.get?_push_of_some _ e))
  have hacc : h₁.PlainList s₂.heap.objs.size #[] := ⟨_, hsb₁.extBut _ _ hDC (Heap.get?_push_of_some _ (hH2 ▸ Heap.get?_push_size _ rfl))⟩
  have hst₁ : St 0 h₁ := W.frame _ _ _ hst fun b _ o e => old b o e
  have sees : ∀ (g : Heap) (b : Addr) (o : Obj), (∀ b o, b ≠ H2.objs.size → b ≠ I → b ≠ s₂.heap.objs.size → h₁.get? b = some o → g.get? b = some o) → b ≠ I → s₂.heap.get? b = some o → g.get? b = some o := fun g b o hk hb e =>
    hk b o (below b (Heap.lt_size e)).1 hb (below b (Heap.lt_size e)).2 (old b o e)
  have ctx : ∀ (g : Heap), (∀ b o, b ≠ H2.objs.size → b ≠ I → b ≠ s₂.heap.objs.size → h₁.get? b = some o → g.get? b = some o) → Keep s.heap g := fun g hk b o e =>
    sees g b o hk (by rintro rfl; rw [hnew] at e; cases e) (k₂.keep b o e)
  have dat : ∀ (g : Heap) (i : Nat) (v : Value), (∀ b o, b ≠ H2.objs.size → b ≠ I → b ≠ s₂.heap.objs.size → h₁.get? b = some o → g.get? b = some o) → i < n → P i v → Rd g v (D i) := fun g i v hk hi hv =>
    (hD i v hi hv).up (KeepSeq.fs (hI _ _ hst) fun b o hb e => sees g b o hk hb e)
  have loop : ∀ s₃ : Shared, s₃ = { s₂ with heap := h₁, toks := s₂.toks + ([] : List (Str × Value)).length } →
      codeAny (model prog w) A (.compLoop (.ListComp (.Name z pe) [⟨.Name y py, i0, [], 0⟩, ⟨.Name z pz, i1, [], 0⟩] scope pos) 0 (.ref I) (.ref s₂.heap.objs.size) (compEnvC scope cl H2.objs.size env))
        (compPost (model prog w) A E use Q (.ref s₂.heap.objs.size) H2.objs.size) s₃ := by
    rintro s₃ rfl
    refine outer_loop (cenv := compEnvC scope cl H2.objs.size env) hh W f (lookup_relabel_local hx) (lookup_relabel_local hz) hkind hd (hs1 _) hDC hDf hCf hst₁ hacc hns₁ hsz ?_ ?_
    · intro i v s₃ m₃ E' hi hv hn hm hk
      exact he _ i hi s₃ _ E' ⟨kc _ _ c (ctx _ hk), m₃, v, hn, hm, dat _ i v hk hi hv⟩ fun a us s' k hnn hp hi' => ⟨⟨a, us, rfl, hnn, hp, hi'⟩, k⟩
    · intro h' tk m' ys hn hl hF hk
      have hK : s.heap.get? H2.objs.size = none := by
        cases e : s.heap.get? H2.objs.size with
        | none => rfl
        | some o =>
          have := Heap.lt_size (k₂.keep _ _ e)
          rw [hC] at this
          exact absurd (Nat.lt_of_succ_lt this) (Nat.lt_irrefl _)
      have := q s₂.heap.objs.size H2.objs.size h' tk m' ys (ctx h' hk) (none_of_size k₂.keep) hK hn hl hF
      obtain ⟨h2, t2, rfl, _⟩ := k₂
      exact this
  exact codeAny_compStart_list (loop _ rfl) (W.self 0 _ _ _ hst₁ (loop _ rfl))

theorem EvN.comp2 {i0 i1 : Expr} {y z : Str} {py pz pe : Pos} {scope : Scope} {cl : List (Str × Addr)} {pos : Pos} {n : Nat} {D : Nat → Dt} {f : Nat → List Int} (hh : A.handled = none) (kc : Kp C)
    (hclos : closureFor scope env = pure cl) (hok : scopeOk scope y = true) (hz : scope.names.lookup z = some .local) (hd : (z == ("__debug__" : Str)) = false)
    (src : Src prog w A env C i0 n D) (hsz : ((List.range n).flatMap f).length ≤ sizeLine)
    (he : ∀ K i, i < n → EvN prog w A (compEnvC scope cl K env) (fun h => C h ∧ Bnd h K y (D i)) i1 (f i))
    (hs : ∀ x, foldedSetIterable i0 env x = pure x) (hs1 : ∀ env x, foldedSetIterable i1 env x = pure x) :
    EvN prog w A env C (.ListComp (.Name z pe) [⟨.Name y py, i0, [], 0⟩, ⟨.Name z pz, i1, [], 0⟩] scope pos) ((List.range n).flatMap f) := by
  intro s Q E c q
  rw [eval_ListComp]
  refine comp2_go (use := none) hh kc hclos hok hz hd src hsz he hs hs1 c fun a K h' tk m' ys hk ha hK hn hl hF => ⟨m', hn, fun h'' hs'' => ?_⟩
  have kt : KeepSeq h' h'' := KeepSeq.ns hn hs''
  refine q _ ys _ ⟨h'', tk, rfl, fun b o e => hs''.extBut b o (by rintro rfl; rw [hK] at e; cases e) (hk b o e)⟩ ha (plain_up hl kt) hF

/-! ### a def that makes a new list -/
def FnN (prog : Program) (w : World) (A : Around) (C : Heap → Prop) (V : Value) (ds : List Dt) (ns : List Int) : Prop :=
  ∀ (s : Shared) (Q : Value → Shared → Prop) (E : Value → Shared → Prop) (vs : List Value), C s.heap → Rds s.heap vs ds → (∀ a us s', Gr s s' → s.heap.get? a = none → s'.heap.PlainList a us → IntsAre us.toList ns → Q (.ref a) s') → wpAny (model prog w) A (call V vs) Q E s
theorem FnN.imp {C C' : Heap → Prop} {V : Value} {ds : List Dt} {r : List Int} (h : FnN prog w A C V ds r) (i : ∀ x, C' x → C x) : FnN prog w A C' V ds r := fun s Q E vs c x q => h s Q E vs (i _ c) x q
theorem none_up {h h' : Heap} {a : Addr} (k : Keep h h') (e : h'.get? a = none) : h.get? a = none := by
  cases e' : h.get? a with
  | none => rfl
  | some o => rw [k _ _ e'] at e; cases e
theorem EvN.call {f : Str} {p pos : Pos} {e : Expr} {es : List Expr} {ds : List Dt} {r : List Int} {V : Value} (kc : Kp C) (hf : EvV prog w A env C (.Name f p) V) (pv : PlainV C V)
    (ha : Evs prog w A env C (e :: es) ds) (hc : FnN prog w A C V ds r) (hb : backTo pos (starEach (e :: es) env) = trees (e :: es) env) : EvN prog w A env C (.Call (.Name f p) (e :: es) [] pos) r := fun s Q E c q => by
  refine wpAny_Call_NameR (hf s _ E c fun s₁ k₁ => ?_)
  rw [hb]
  exact callWith_ev kc pv (kc _ _ c k₁.keep) ha fun vs s₂ k₂ r₂ => hc s₂ _ E vs (kc _ _ (kc _ _ c k₁.keep) k₂.keep) r₂ fun a us s₃ k₃ hn hp hi => q a us s₃ (Gr.tr k₁ (Gr.tr k₂ k₃)) (none_up (Gr.tr k₁ k₂).keep hn) hp hi
/-- a body that returns a new list -/
def ExN (prog : Program) (w : World) (A : Around) (env : Env) (s₀ : Shared) (ρ : Names) (st : List Stmt) (ns : List Int) : Prop :=
  ∀ (s : Shared) (Q : Flow → Shared → Prop) (E : Value → Shared → Prop), St env s₀ ρ s → (∀ a us s', Gr s₀ s' → s₀.heap.get? a = none → s'.heap.PlainList a us → IntsAre us.toList ns → Q (.ret (.ref a)) s') → wpAny (model prog w) A (execs st env) Q E s
variable {s₀ : Shared} {ρ ρ' : Names}
theorem ExN.ret {e : Expr} {p : Pos} {rest : List Stmt} {r : List Int} (h : EvN prog w A env (Fc env s₀ ρ) e r) : ExN prog w A env s₀ ρ (.Return (some e) p :: rest) r := fun s Q E hs q =>
  wpAny_execs_cons (wpAny_Return_some (h s _ E hs.fc fun a us s₁ k₁ hn hp hi => q a us s₁ (Gr.tr hs.gr k₁) (none_up hs.gr.keep hn) hp hi))
theorem ExN.ite {t : Expr} {b rest : List Stmt} {p : Pos} {x : Bool} {r : List Int} (ht : Tst prog w A env (Fc env s₀ ρ) t x) (h : x = true → ExN prog w A env s₀ ρ b r) (h' : x = false → ExN prog w A env s₀ ρ rest r) : ExN prog w A env s₀ ρ (.If t b [] p :: rest) r := fun s Q E hs q =>
  wpAny_execs_cons (wpAny_If (ht s _ E hs.fc fun s₁ k₁ => by
    cases x with
    | true => exact h rfl s₁ _ E (hs.keeps k₁) q
    | false => exact wpAny_execs_nil (h' rfl s₁ _ E (hs.keeps k₁) q)))

set_option maxHeartbeats 4000000 in
theorem octets_new {c : Int} (h0 : 0 ≤ c) (h1 : c < 1114112) (hR : Room A 1) : FnN pg w A (Base F) (.ref (F 6)) [.int c] (octs c) := fun s Q E vs B r q => by
  obtain ⟨v, rfl, r'⟩ := Rds.one r
  refine call_def (i := 6) (xs := ["code"]) (B.defs 6 (by decide)) B.lim hR.d (fun _ _ _ _ _ _ _ => rfl) (by decide +kernel) rfl rfl rfl fun fd hfd s' x E' => ?_
  obtain ⟨n, qn, d, p, an, cd, ct, rfl⟩ := hfd
  generalize henv : callEnvC (fnAt 6 n qn d p an cd ct) s.heap.objs.size (F 6) = env at x ⊢
  have hk : env.scope.kind = .function := by rw [← henv]; rfl
  have hst : St env s [("code", .int c)] s' := start1 (by rw [← henv]; rfl) x r'
  have key : ExN pg w (A.deeper env) env s [("code", .int c)] (dBody (dfn 6)) (octs c) := by
    have kc : Kp (Fc env s [("code", .int c)]) := Fc.kp
    have code : ∀ pp, Ev pg w (A.deeper env) env (Fc env s [("code", .int c)]) (.Name "code" pp) (.int c) := fun pp => Ev.var rfl hk
    refine ExN.ite (x := decide (c < 128)) ?_ (fun h => ?_) (fun h => ?_)
    · exact Tst.cmp kc (code _) Ev.constInt Cmp2.ltInt
    · have e : octs c = [c] := by unfold octs; rw [if_pos (by simpa using h)]
      rw [e]
      exact ExN.ret (EvN.list (ns := [c]) (Evs.one kc (code _)) rfl (by simp [sizeLine]))
    have h128 : ¬ c < 128 := by simpa using h
    refine ExN.ite (x := decide (c < 2048)) ?_ (fun h => ?_) (fun h => ?_)
    · exact Tst.cmp kc (code _) Ev.constInt Cmp2.ltInt
    · have e : octs c = [192 + c / 64, 128 + c % 64] := by unfold octs; rw [if_neg h128, if_pos (by simpa using h)]
      rw [e]
      refine ExN.ret (EvN.list (ns := [192 + c / 64, 128 + c % 64]) (Evs.two kc ?_ ?_) rfl (by simp [sizeLine]))
      · exact Ev.bin kc Ev.constInt (Ev.bin kc (code _) Ev.constInt (Op2.div' (by decide) (PyProof.noPylong_small (by decide)))) Op2.addInt
      · exact Ev.bin kc Ev.constInt (Ev.bin kc (code _) Ev.constInt (Op2.mod' (by decide))) Op2.addInt
    have h2048 : ¬ c < 2048 := by simpa using h
    refine ExN.ite (x := decide (c < 65536)) ?_ (fun h => ?_) (fun h => ?_)
    · exact Tst.cmp kc (code _) Ev.constInt Cmp2.ltInt
    · have e : octs c = [224 + c / 4096, 128 + c / 64 % 64, 128 + c % 64] := by unfold octs; rw [if_neg h128, if_neg h2048, if_pos (by simpa using h)]
      rw [e]
      refine ExN.ret (EvN.list (ns := [224 + c / 4096, 128 + c / 64 % 64, 128 + c % 64]) (Evs.three kc ?_ ?_ ?_) rfl (by simp [sizeLine]))
      · exact Ev.bin kc Ev.constInt (Ev.bin kc (code _) Ev.constInt (Op2.div' (by decide) (PyProof.noPylong_small (by decide)))) Op2.addInt
      · exact Ev.bin kc Ev.constInt (Ev.bin kc (Ev.bin kc (code _) Ev.constInt (Op2.div' (by decide) (PyProof.noPylong_small (by decide)))) Ev.constInt (Op2.mod' (by decide))) Op2.addInt
      · exact Ev.bin kc Ev.constInt (Ev.bin kc (code _) Ev.constInt (Op2.mod' (by decide))) Op2.addInt
    have h65536 : ¬ c < 65536 := by simpa using h
    have e : octs c = [240 + c / 262144, 128 + c / 4096 % 64, 128 + c / 64 % 64, 128 + c % 64] := by unfold octs; rw [if_neg h128, if_neg h2048, if_neg h65536]
    rw [e]
    refine ExN.ret (EvN.list (ns := [240 + c / 262144, 128 + c / 4096 % 64, 128 + c / 64 % 64, 128 + c % 64]) (Evs.cons kc ?_ (Evs.three kc ?_ ?_ ?_)) rfl (by simp [sizeLine]))
    · exact Ev.bin kc Ev.constInt (Ev.bin kc (code _) Ev.constInt (Op2.div' (by decide) (PyProof.noPylong_small (by decide)))) Op2.addInt
    · exact Ev.bin kc Ev.constInt (Ev.bin kc (Ev.bin kc (code _) Ev.constInt (Op2.div' (by decide) (PyProof.noPylong_small (by decide)))) Ev.constInt (Op2.mod' (by decide))) Op2.addInt
    · exact Ev.bin kc Ev.constInt (Ev.bin kc (Ev.bin kc (code _) Ev.constInt (Op2.div' (by decide) (PyProof.noPylong_small (by decide)))) Ev.constInt (Op2.mod' (by decide))) Op2.addInt
    · exact Ev.bin kc Ev.constInt (Ev.bin kc (code _) Ev.constInt (Op2.mod' (by decide))) Op2.addInt
  exact key s' _ E' hst fun a us s'' k hn hp hi => ⟨.ref a, rfl, q a us s'' k hn hp hi⟩
theorem EvN.ev {e : Expr} {ns : List Int} (h : EvN prog w A env C e ns) : Ev prog w A env C e (.li ns) := fun s Q E c q => h s Q E c fun a vs s' k _ p i => q _ _ k ⟨a, vs, rfl, p, i⟩
end Mine
end

section
set_option Elab.async false
set_option linter.unusedVariables false
namespace Mine

/-- a code point -/
abbrev Cp (c : Int) : Prop := 0 ≤ c ∧ c < 1114112
/-- how many octets a first octet tells -/
def lenOf (h : Int) : Nat := if h < 128 then 1 else if h < 224 then 2 else if h < 240 then 3 else 4
/-- no first octet -/
def Cont (z : Int) : Prop := 128 ≤ z ∧ z < 192

theorem octs_shape {c : Int} (h : Cp c) : ∃ a r, octs c = a :: r ∧ ¬ Cont a ∧ (∀ z ∈ r, Cont z) ∧ (octs c).length = lenOf a ∧ 0 ≤ a ∧ a < 256 := by
  obtain ⟨h0, h1⟩ := h
  unfold octs Cont lenOf
  by_cases h2 : c < 128
  · rw [if_pos h2]
    refine ⟨c, [], rfl, by omega, by simp, ?_, h0, by omega⟩
    rw [if_pos h2]; rfl
  rw [if_neg h2]
  by_cases h3 : c < 2048
  · rw [if_pos h3]
    refine ⟨_, _, rfl, by omega, ?_, ?_, by omega, by omega⟩
    · intro z hz
      simp only [List.mem_cons, List.not_mem_nil, or_false] at hz
      omega
    · rw [if_neg (by omega), if_pos (by omega)]; rfl
  rw [if_neg h3]
  by_cases h4 : c < 65536
  · rw [if_pos h4]
    refine ⟨_, _, rfl, by omega, ?_, ?_, by omega, by omega⟩
    · intro z hz
      simp only [List.mem_cons, List.not_mem_nil, or_false] at hz
      omega
    · rw [if_neg (by omega), if_neg (by omega), if_pos (by omega)]; rfl
  · rw [if_neg h4]
    refine ⟨_, _, rfl, by omega, ?_, ?_, by omega, by omega⟩
    · intro z hz
      simp only [List.mem_cons, List.not_mem_nil, or_false] at hz
      omega
    · rw [if_neg (by omega), if_neg (by omega), if_neg (by omega)]; rfl

theorem octs_inj {a b : Int} (ha : Cp a) (hb : Cp b) (h : octs a = octs b) : a = b := by
  obtain ⟨ha0, ha1⟩ := ha
  obtain ⟨hb0, hb1⟩ := hb
  unfold octs at h
  by_cases a1 : a < 128 <;> by_cases a2 : a < 2048 <;> by_cases a3 : a < 65536 <;> by_cases b1 : b < 128 <;> by_cases b2 : b < 2048 <;> by_cases b3 : b < 65536 <;>
    simp only [a1, a2, a3, b1, b2, b3, if_true, if_false, List.cons.injEq, and_true, and_false, reduceCtorEq] at h <;> omega

abbrev O (l : List Int) : List Int := l.flatMap octs
theorem O_cons (a : Int) (l : List Int) : O (a :: l) = octs a ++ O l := List.flatMap_cons
theorem O_append (a b : List Int) : O (a ++ b) = O a ++ O b := List.flatMap_append

theorem octs_prefix {a b : Int} {r : List Int} (ha : Cp a) (hb : Cp b) (h : (octs b ++ r).take (octs a).length = octs a) : a = b := by
  obtain ⟨x, xs, ex, nx, cx, lx, _⟩ := octs_shape ha
  obtain ⟨y, ys, ey, ny, cy, ly, _⟩ := octs_shape hb
  have hxy : x = y := by
    rw [ex, ey] at h
    simp only [List.length_cons, List.cons_append, List.take_succ_cons, List.cons.injEq] at h
    exact h.1.symm
  have hl : (octs a).length = (octs b).length := by rw [lx, ly, hxy]
  rw [hl, List.take_left] at h
  exact octs_inj ha hb h.symm

/-- the octets are read as the signs, one by one -/
theorem parse : ∀ (r : Nat) (A B : List Int) (part : Nat), (∀ c ∈ A, Cp c) → (∀ c ∈ B, Cp c) → r ≤ A.length → r < B.length → (part = 0 ∨ r < A.length ∧ part < (octs (A.getD r 0)).length) →
    (O B).take ((O (A.take r)).length + part) = (O A).take ((O (A.take r)).length + part) → A.take r = B.take r ∧ (part = 0 ∨ (octs (B.getD r 0)).take part = (octs (A.getD r 0)).take part)
  | 0, A, B, part, hA, hB, _, hrB, hp, h => by
    refine ⟨rfl, ?_⟩
    rcases hp with hp | ⟨hr, hp⟩
    · exact .inl hp
    right
    cases A with
    | nil => simp at hr
    | cons a A =>
      cases B with
      | nil => simp at hrB
      | cons b B =>
        simp only [List.take_zero, List.flatMap_nil, List.length_nil, Nat.zero_add, O_cons, List.getD_cons_zero] at h hp ⊢
        obtain ⟨x, xs, ex, nx, cx, lx, _⟩ := octs_shape (hA a List.mem_cons_self)
        obtain ⟨y, ys, ey, ny, cy, ly, _⟩ := octs_shape (hB b List.mem_cons_self)
        by_cases hp0 : part = 0
        · subst hp0; simp
        have hxy : x = y := by
          obtain ⟨k, rfl⟩ : ∃ k, part = k + 1 := ⟨part - 1, by omega⟩
          rw [ex, ey] at h
          simp only [List.cons_append, List.take_succ_cons, List.cons.injEq] at h
          exact h.1.symm
        have hl : (octs a).length = (octs b).length := by rw [lx, ly, hxy]
        rw [List.take_append_of_le_length (by omega), List.take_append_of_le_length (by omega)] at h
        exact h
  | r + 1, A, B, part, hA, hB, hrA, hrB, hp, h => by
    cases A with
    | nil => simp at hrA
    | cons a A =>
      cases B with
      | nil => simp at hrB
      | cons b B =>
        simp only [List.take_succ_cons, O_cons, List.length_append, List.length_cons, List.getD_cons_succ] at h hp hrA hrB ⊢
        have h1 : (octs b ++ O B).take (octs a).length = octs a := by
          have := congrArg (List.take (octs a).length) h
          rw [List.take_take, List.take_take, Nat.min_eq_left (by omega), List.take_left] at this
          exact this
        have hab := octs_prefix (hA a List.mem_cons_self) (hB b List.mem_cons_self) h1
        subst hab
        have h2 : (O B).take ((O (A.take r)).length + part) = (O A).take ((O (A.take r)).length + part) := by
          rw [Nat.add_assoc, List.take_length_add_append, List.take_length_add_append] at h
          exact List.append_cancel_left h
        have := parse r A B part (fun c hc => hA c (List.mem_cons_of_mem _ hc)) (fun c hc => hB c (List.mem_cons_of_mem _ hc)) (by omega) (by omega) (by
          rcases hp with hp | hp
          · exact .inl hp
          · exact .inr ⟨by omega, hp.2⟩) h2
        exact ⟨by rw [this.1], this.2⟩

/-- every place is within a sign -/
theorem place_of : ∀ (l : List Int) (p : Nat), p < (O l).length → ∃ i k, i < l.length ∧ k < (octs (l.getD i 0)).length ∧ p = (O (l.take i)).length + k
  | [], p, h => by simp at h
  | a :: l, p, h => by
    rw [O_cons, List.length_append] at h
    by_cases hp : p < (octs a).length
    · exact ⟨0, p, by simp, by simpa using hp, by simp⟩
    · obtain ⟨i, k, hi, hk, e⟩ := place_of l (p - (octs a).length) (by omega)
      refine ⟨i + 1, k, by simpa using hi, by simpa using hk, ?_⟩
      rw [List.take_succ_cons, O_cons, List.length_append]
      omega
theorem O_split (l : List Int) {i : Nat} (hi : i < l.length) : O l = O (l.take i) ++ (octs (l.getD i 0) ++ O (l.drop (i + 1))) := by
  conv => lhs; rw [← List.take_append_drop i l]
  rw [O_append, List.drop_eq_getElem_cons hi, O_cons]
  simp [List.getD_eq_getElem?_getD, hi]
theorem O_at (l : List Int) {i k : Nat} (hi : i < l.length) (hk : k < (octs (l.getD i 0)).length) : (O l)[(O (l.take i)).length + k]? = (octs (l.getD i 0))[k]? := by
  rw [O_split l hi, List.getElem?_append_right (Nat.le_add_right _ _), Nat.add_sub_cancel_left, List.getElem?_append_left hk]
theorem mem_getD {l : List Int} {i : Nat} (hi : i < l.length) : l.getD i 0 ∈ l := by
  rw [List.getD_eq_getElem?_getD, List.getElem?_eq_getElem hi]; exact List.getElem_mem hi
theorem start_of {l : List Int} (hl : ∀ c ∈ l, Cp c) {p : Nat} (hp : p < (O l).length) {z : Int} (hz : (O l)[p]? = some z) (hc : ¬ Cont z) : ∃ i, i < l.length ∧ p = (O (l.take i)).length := by
  obtain ⟨i, k, hi, hk, rfl⟩ := place_of l p hp
  refine ⟨i, hi, ?_⟩
  rw [O_at l hi hk] at hz
  obtain ⟨a, r, e, na, cr, _⟩ := octs_shape (hl _ (mem_getD hi))
  cases k with
  | zero => rfl
  | succ k =>
    rw [e] at hz
    exact absurd (cr z (List.mem_of_getElem? (by simpa using hz))) hc
theorem O_take_add (l : List Int) (i r : Nat) : O (l.take (i + r)) = O (l.take i) ++ O ((l.drop i).take r) := by
  rw [List.take_add, O_append]
theorem octs_pos' (c : Int) : 0 < (octs c).length := octs_pos c
theorem sz_mono (l : List Int) {i j : Nat} (h : i ≤ j) : (O (l.take i)).length ≤ (O (l.take j)).length := by
  obtain ⟨r, rfl⟩ := Nat.exists_eq_add_of_le h
  rw [O_take_add, List.length_append]; omega
theorem sz_lt (l : List Int) {i j : Nat} (h : i < j) (hj : j ≤ l.length) : (O (l.take i)).length < (O (l.take j)).length := by
  have h1 : (O (l.take (i + 1))).length ≤ (O (l.take j)).length := sz_mono l h
  rw [O_take_add, List.length_append, List.drop_eq_getElem_cons (by omega : i < l.length), List.take_succ_cons, O_cons, List.length_append] at h1
  have := octs_pos l[i]
  omega
end Mine
end

section
set_option Elab.async false
set_option linter.unusedVariables false
namespace Mine

/-- a border of the first K octets -/
def Bo (l : List Int) (K b : Nat) : Prop := ∀ t, t < b → (O l)[t]? = (O l)[K - b + t]?

/-- a place within the octets -/
def Spot (l : List Int) (j part : Nat) : Prop := j ≤ l.length ∧ (part = 0 ∨ j < l.length ∧ part < (octs (l.getD j 0)).length)
theorem Spot.le {l : List Int} {j part : Nat} (h : Spot l j part) : (O (l.take j)).length + part ≤ (O l).length := by
  obtain ⟨h1, h2 | ⟨h2, h3⟩⟩ := h
  · have := sz_mono l h1
    rw [List.take_length] at this; omega
  · have := congrArg List.length (O_split l h2)
    simp only [List.length_append] at this
    omega

theorem getD_drop' (l : List Int) (i r : Nat) : (l.drop i).getD r 0 = l.getD (i + r) 0 := by
  simp [List.getD_eq_getElem?_getD, List.getElem?_drop]
theorem O_drop_at (l : List Int) (i t : Nat) : (O l)[(O (l.take i)).length + t]? = (O (l.drop i))[t]? := by
  have e : O l = O (l.take i) ++ O (l.drop i) := by rw [← O_append, List.take_append_drop]
  rw [e, List.getElem?_append_right (Nat.le_add_right _ _), Nat.add_sub_cancel_left]

theorem border_fits {l : List Int} (hl : ∀ c ∈ l, Cp c) {j part b : Nat} (hs : Spot l j part) (hb0 : 0 < b) (hbK : b < (O (l.take j)).length + part) (h : Bo l ((O (l.take j)).length + part) b) :
    ∃ k, k < j ∧ fits l j part k = true ∧ b = (O (l.take k)).length + part := by
  have hK := hs.le
  obtain ⟨hj, hp⟩ := hs
  generalize hKe : (O (l.take j)).length + part = K at *
  have hne : 0 < l.length := by
    cases l with
    | nil => simp at hK; omega
    | cons a r => simp
  have h0 := h 0 hb0
  rw [Nat.add_zero] at h0
  obtain ⟨a, r, ea, na, _⟩ := octs_shape (hl _ (mem_getD hne))
  have hz0 : (O l)[0]? = some a := by
    have := O_at l (i := 0) (k := 0) hne (octs_pos' _)
    simp only [List.take_zero, List.flatMap_nil, List.length_nil, Nat.zero_add] at this
    rw [this, ea]; rfl
  obtain ⟨i, hi, hpi⟩ := start_of hl (p := K - b) (by omega) (h0.symm.trans hz0) na
  have hi1 : 1 ≤ i := by
    rcases Nat.eq_zero_or_pos i with rfl | h
    · simp at hpi; omega
    · exact h
  have hij : i ≤ j := by
    refine Nat.le_of_not_lt fun hlt => ?_
    rcases hp with hp | ⟨hj', hp⟩
    · have := sz_mono l (Nat.le_of_lt hlt)
      omega
    · have h1 := sz_mono l (i := j + 1) (j := i) hlt
      have h2 := congrArg List.length (O_take_add l j 1)
      rw [List.length_append, List.drop_eq_getElem_cons hj'] at h2
      simp only [List.take_succ_cons, List.take_zero, O_cons, List.flatMap_nil, List.append_nil] at h2
      have h3 : l.getD j 0 = l[j] := by simp [List.getD_eq_getElem?_getD, hj']
      rw [h3] at hp
      omega
  obtain ⟨r, rfl⟩ := Nat.exists_eq_add_of_le hij
  have hsz : (O (l.take (i + r))).length = (O (l.take i)).length + (O ((l.drop i).take r)).length := by rw [O_take_add, List.length_append]
  have hbe : b = (O ((l.drop i).take r)).length + part := by omega
  have hpar := parse r (l.drop i) l part (fun c hc => hl c (List.mem_of_mem_drop hc)) hl (by rw [List.length_drop]; omega) (by omega) (by
    rcases hp with hp | ⟨hj', hp⟩
    · exact .inl hp
    · exact .inr ⟨by rw [List.length_drop]; omega, by rw [getD_drop']; exact hp⟩) (by
    rw [← hbe]
    apply List.ext_getElem?
    intro t
    rw [List.getElem?_take, List.getElem?_take]
    split
    · rename_i ht
      rw [h t ht, hpi, O_drop_at]
    · rfl)
  refine ⟨r, by omega, ?_, ?_⟩
  · unfold fits
    rw [Nat.add_sub_cancel, Bool.and_eq_true, Bool.or_eq_true, decide_eq_true_eq, beq_iff_eq, decide_eq_true_eq]
    refine ⟨hpar.1.symm, ?_⟩
    rcases hpar.2 with h | h
    · exact .inl (by omega)
    · rw [getD_drop'] at h; exact .inr h
  · rw [← hpar.1]; exact hbe

theorem fits_border {l : List Int} {j part k : Nat} (hs : Spot l j part) (hk : k < j) (h : fits l j part k = true) : (O (l.take k)).length + part < (O (l.take j)).length + part ∧ Bo l ((O (l.take j)).length + part) ((O (l.take k)).length + part) := by
  obtain ⟨hj, hp⟩ := hs
  refine ⟨by have := sz_lt l hk hj; omega, ?_⟩
  unfold fits at h
  rw [Bool.and_eq_true, Bool.or_eq_true, decide_eq_true_eq, beq_iff_eq, decide_eq_true_eq] at h
  obtain ⟨h1, h2⟩ := h
  obtain ⟨i, rfl⟩ : ∃ i, j = i + k := ⟨j - k, by omega⟩
  rw [Nat.add_sub_cancel] at h1
  have hsz : (O (l.take (i + k))).length = (O (l.take i)).length + (O (l.take k)).length := by rw [O_take_add, List.length_append, ← h1]
  intro t ht
  rw [show (O (l.take (i + k))).length + part - ((O (l.take k)).length + part) + t = (O (l.take i)).length + t by omega, O_drop_at]
  have hkl : k < l.length := by omega
  have e1 : O l = O (l.take k) ++ (octs (l.getD k 0) ++ O (l.drop (k + 1))) := O_split l hkl
  have e2 : O (l.drop i) = O (l.take k) ++ O (l.drop (i + k)) := by
    conv => lhs; rw [← List.take_append_drop k (l.drop i)]
    rw [O_append, ← h1, List.drop_drop]
  rw [e1, e2]
  by_cases htk : t < (O (l.take k)).length
  · rw [List.getElem?_append_left htk, List.getElem?_append_left htk]
  · have g1 : ∀ R, (O (l.take k) ++ R)[t]? = R[t - (O (l.take k)).length]? := fun R => List.getElem?_append_right (by omega)
    rw [g1, g1]
    have hpart : part ≠ 0 := by omega
    rcases hp with hp | ⟨hj', hp⟩
    · exact absurd hp hpart
    rcases h2 with h2 | h2
    · exact absurd (by omega) hpart
    have e3 : O (l.drop (i + k)) = octs (l.getD (i + k) 0) ++ O (l.drop (i + k + 1)) := by
      rw [List.drop_eq_getElem_cons hj', O_cons]
      simp [List.getD_eq_getElem?_getD, hj']
    rw [e3]
    have hlen : part ≤ (octs (l.getD k 0)).length := by
      have := congrArg List.length h2
      rw [List.length_take, List.length_take] at this
      omega
    have g2 : ∀ R, (octs (l.getD k 0) ++ R)[t - (O (l.take k)).length]? = (octs (l.getD k 0))[t - (O (l.take k)).length]? := fun R => List.getElem?_append_left (by omega)
    have g3 : ∀ R, (octs (l.getD (i + k) 0) ++ R)[t - (O (l.take k)).length]? = (octs (l.getD (i + k) 0))[t - (O (l.take k)).length]? := fun R => List.getElem?_append_left (by omega)
    rw [g2, g3]
    have h3 := congrArg (fun x => x[t - (O (l.take k)).length]?) h2
    simp only [List.getElem?_take] at h3
    rw [if_pos (by omega), if_pos (by omega)] at h3
    exact h3

theorem size_eq (l : List Int) : size l = ((O l).length : Int) := by
  unfold size
  induction l with
  | nil => rfl
  | cons a r ih => rw [List.map_cons, List.sum_cons, ih, O_cons, List.length_append]; omega

/-- the longest border is what the signs tell -/
theorem bord_ovl {l : List Int} (hl : ∀ c ∈ l, Cp c) {c : Nat → Nat} (hc : ∀ t u, t < (O l).length → u < (O l).length → (c t = c u ↔ (O l)[t]? = (O l)[u]?)) {j part : Nat} (hs : Spot l j part) (h0 : 0 < (O (l.take j)).length + part) :
    ((bord c ((O (l.take j)).length + part) : Nat) : Int) = ovl l j part := by
  have hK := hs.le
  have hB : ∀ b, b < (O (l.take j)).length + part → (B c ((O (l.take j)).length + part) b ↔ Bo l ((O (l.take j)).length + part) b) := fun b hb =>
    ⟨fun h t ht => (hc _ _ (by omega) (by omega)).mp (h t ht), fun h t ht => (hc _ _ (by omega) (by omega)).mpr (h t ht)⟩
  unfold ovl
  cases hf : (List.range j).find? (fun i => fits l j part (j - 1 - i)) with
  | none =>
    dsimp only
    rw [List.find?_eq_none] at hf
    have : bord c ((O (l.take j)).length + part) = 0 := bord_eq ⟨h0, B.zero, fun b' hb hb' hBb => by
      obtain ⟨k, hk, hfit, _⟩ := border_fits hl hs hb hb' ((hB b' hb').mp hBb)
      have := hf (j - 1 - k) (List.mem_range.mpr (by omega))
      rw [show j - 1 - (j - 1 - k) = k by omega] at this
      exact this hfit⟩
    rw [this]; rfl
  | some i =>
    dsimp only
    rw [List.find?_range_eq_some] at hf
    obtain ⟨h1, h2, h3⟩ := hf
    have hi := List.mem_range.mp h2
    obtain ⟨hlt, hbo⟩ := fits_border hs (show j - 1 - i < j by omega) h1
    have : bord c ((O (l.take j)).length + part) = (O (l.take (j - 1 - i))).length + part := bord_eq ⟨hlt, (hB _ hlt).mpr hbo, fun b' hb hb' hBb => by
      obtain ⟨k, hk, hfit, hbk⟩ := border_fits hl hs (by omega) hb' ((hB b' hb').mp hBb)
      have hki : j - 1 - i < k := by
        refine Nat.lt_of_not_le fun hle => ?_
        have := sz_mono l hle
        omega
      have := h3 (j - 1 - k) (by omega)
      rw [show j - 1 - (j - 1 - k) = k by omega, hfit] at this
      simp at this⟩
    rw [this, size_eq]
    omega
end Mine
end

section
open PySem
set_option Elab.async false
set_option linter.unusedVariables false
namespace Mine

/-! ### the places -/
theorem place1_length (c : Int) (k : Nat) : (place1 c k).length = (octs c).length := by
  have := octs_pos c
  simp only [place1, List.length_append, List.length_map, List.length_range, List.length_singleton]
  omega
theorem O_take_succ (l : List Int) {k : Nat} (hk : k < l.length) : O (l.take (k + 1)) = O (l.take k) ++ octs (l.getD k 0) := by
  rw [List.take_succ_eq_append_getElem hk, O_append]
  simp [List.getD_eq_getElem?_getD, hk]
theorem places_length (l : List Int) : ∀ k, k ≤ l.length → (places l k).length = (O (l.take k)).length
  | 0, _ => rfl
  | k + 1, hk => by rw [places, List.length_append, places_length l k (by omega), place1_length, O_take_succ l (by omega), List.length_append]
theorem places_part (l : List Int) : ∀ (k j part : Nat), k ≤ l.length → j < k → 1 ≤ part → part < (octs (l.getD j 0)).length → (places l k)[(O (l.take j)).length + part - 1]? = some ((j : Int), (part : Int))
  | 0, j, part, _, h, _, _ => by omega
  | k + 1, j, part, hk, hj, h1, h2 => by
    rw [places]
    have hlen := places_length l k (by omega)
    by_cases hjk : j < k
    · have h3 := sz_mono l (i := j + 1) (j := k) hjk
      rw [O_take_succ l (by omega), List.length_append] at h3
      rw [List.getElem?_append_left (by omega)]
      exact places_part l k j part (by omega) hjk h1 h2
    · have : j = k := by omega
      subst this
      rw [List.getElem?_append_right (by omega), hlen, show (O (l.take j)).length + part - 1 - (O (l.take j)).length = part - 1 by omega]
      unfold place1
      rw [List.getElem?_append_left (by simp only [List.length_map, List.length_range]; omega), List.getElem?_map, List.getElem?_range (by omega)]
      simp only [Option.map_some, Option.some.injEq, Prod.mk.injEq, true_and]
      omega
theorem places_whole (l : List Int) : ∀ (k j : Nat), k ≤ l.length → 1 ≤ j → j ≤ k → (places l k)[(O (l.take j)).length - 1]? = some ((j : Int), 0)
  | 0, j, _, _, _ => by omega
  | k + 1, j, hk, h1, hj => by
    rw [places]
    have hlen := places_length l k (by omega)
    by_cases hjk : j ≤ k
    · have h3 := sz_mono l hjk
      have h4 := sz_lt l (i := 0) (j := j) (by omega) (by omega)
      simp only [List.take_zero, List.flatMap_nil, List.length_nil] at h4
      rw [List.getElem?_append_left (by omega)]
      exact places_whole l k j (by omega) h1 hjk
    · have : j = k + 1 := by omega
      subst this
      have hp := octs_pos (l.getD k 0)
      rw [O_take_succ l (by omega), List.length_append, List.getElem?_append_right (by omega), hlen, show (O (l.take k)).length + (octs (l.getD k 0)).length - 1 - (O (l.take k)).length = (octs (l.getD k 0)).length - 1 by omega]
      unfold place1
      rw [List.getElem?_append_right (by simp only [List.length_map, List.length_range]; omega)]
      simp

def spots (l : List Int) : List (Int × Int) := [(0, 0)] ++ places l l.length
theorem spots_length (l : List Int) : (spots l).length = (O l).length + 1 := by
  rw [spots, List.length_append, places_length l _ (Nat.le_refl _), List.take_length]; simp; omega
theorem spot_at {l : List Int} {j part : Nat} (h : Spot l j part) : (spots l).getD ((O (l.take j)).length + part) (0, 0) = ((j : Int), (part : Int)) := by
  obtain ⟨hj, hp⟩ := h
  rw [List.getD_eq_getElem?_getD]
  unfold spots
  rcases Nat.eq_zero_or_pos part with rfl | h1
  · rcases Nat.eq_zero_or_pos j with rfl | hj1
    · rfl
    · have h4 := sz_lt l (i := 0) (j := j) hj1 hj
      simp only [List.take_zero, List.flatMap_nil, List.length_nil] at h4
      rw [List.getElem?_append_right (by show 1 ≤ _; omega)]
      simp only [List.length_singleton, Nat.add_zero]
      rw [places_whole l l.length j (Nat.le_refl _) hj1 hj]
      rfl
  · rcases hp with hp | ⟨hj', hp⟩
    · omega
    rw [List.getElem?_append_right (by show 1 ≤ _; omega)]
    simp only [List.length_singleton]
    rw [places_part l l.length j part (Nat.le_refl _) hj' h1 hp]
    rfl
theorem spot_of (l : List Int) {m : Nat} (hm : m ≤ (O l).length) : ∃ j part, Spot l j part ∧ m = (O (l.take j)).length + part := by
  by_cases h : m < (O l).length
  · obtain ⟨i, k, hi, hk, e⟩ := place_of l m h
    exact ⟨i, k, ⟨by omega, .inr ⟨hi, hk⟩⟩, e⟩
  · exact ⟨l.length, 0, ⟨Nat.le_refl _, .inl rfl⟩, by rw [List.take_length]; omega⟩

/-! ### the stray signs -/
def st (z : Int) : Int := if z < 128 then z else z + 56320
def strays (l : List Int) : List Int := (O l).map st
def stray (l : List Int) : Str := txt (strays l)
theorem stray_length (l : List Int) : (stray l).length = (O l).length := by simp [stray, txt, strays, Str.length]
theorem octs_range {c z : Int} (h : Cp c) (hz : z ∈ octs c) : 0 ≤ z ∧ z < 256 := by
  obtain ⟨a, r, e, _, cr, _, a0, a1⟩ := octs_shape h
  rw [e] at hz
  rcases List.mem_cons.mp hz with rfl | hz
  · exact ⟨a0, a1⟩
  · have := cr z hz; unfold Cont at this; omega
theorem O_range {l : List Int} (hl : ∀ c ∈ l, Cp c) {z : Int} (hz : z ∈ O l) : 0 ≤ z ∧ z < 256 := by
  obtain ⟨c, hc, h⟩ := List.mem_flatMap.mp hz
  exact octs_range (hl c hc) h
theorem st_inj {a b : Int} (ha : 0 ≤ a ∧ a < 256) (hb : 0 ≤ b ∧ b < 256) (h : (st a).toNat = (st b).toNat) : a = b := by
  unfold st at h
  split at h <;> split at h <;> omega
theorem sg_stray (l : List Int) {t : Nat} (ht : t < (O l).length) : sg (stray l) t = (st ((O l).getD t 0)).toNat := by
  simp only [sg, stray, txt, strays, List.map_map]
  rw [Array.getD_eq_getD_getElem?, List.getElem?_toArray, List.getElem?_map, List.getElem?_eq_getElem ht, List.getD_eq_getElem?_getD, List.getElem?_eq_getElem ht]
  rfl
theorem sg_eq {l : List Int} (hl : ∀ c ∈ l, Cp c) (t u : Nat) (ht : t < (O l).length) (hu : u < (O l).length) : sg (stray l) t = sg (stray l) u ↔ (O l)[t]? = (O l)[u]? := by
  rw [sg_stray l ht, sg_stray l hu]
  have e : ∀ {i : Nat} (hi : i < (O l).length), (O l).getD i 0 = (O l)[i] := fun {i} hi => by rw [List.getD_eq_getElem?_getD, List.getElem?_eq_getElem hi]; rfl
  rw [List.getElem?_eq_getElem ht, List.getElem?_eq_getElem hu, Option.some.injEq, e ht, e hu]
  constructor
  · exact st_inj (O_range hl (List.getElem_mem ht)) (O_range hl (List.getElem_mem hu))
  · intro h; rw [h]

theorem tab_eq {l : List Int} (hl : ∀ c ∈ l, Cp c) : tab (sg (stray l)) (O l).length (O l).length = (cut (spots l) (some 1) none).map (fun s => ovl l s.1.toNat s.2.toNat) := by
  have e1 : cut (spots l) (some 1) none = places l l.length := by
    have := cut_from (spots l) 1
    exact this
  have hlen := spots_length l
  have hpl : (places l l.length).length = (O l).length := by rw [places_length l _ (Nat.le_refl _), List.take_length]
  rw [e1]
  apply List.ext_getElem
  · simp [tab, hpl]
  · intro m h1 h2
    have hm : m < (O l).length := by simpa [tab] using h1
    obtain ⟨j, part, hs, e⟩ := spot_of l (m := m + 1) (by omega)
    have hsp := spot_at hs
    rw [← e, List.getD_eq_getElem?_getD] at hsp
    unfold spots at hsp
    rw [List.getElem?_append_right (by show 1 ≤ _; omega)] at hsp
    simp only [List.length_singleton, Nat.add_sub_cancel] at hsp
    rw [List.getElem?_eq_getElem (by omega), Option.getD_some] at hsp
    rw [List.getElem_map, hsp]
    simp only [tab, List.getElem_map, List.getElem_range, if_pos hm]
    have := bord_ovl hl (sg_eq hl) hs (by omega)
    rw [← e] at this
    rw [this]
    simp
end Mine
end

section
open PySem PySem.W PyProof.Rows
set_option Elab.async false
set_option linter.unusedVariables false
namespace Mine
variable {w : World} {A : Around} {F : Nat → Addr}

/-- a code point that is no surrogate -/
def Sg (c : Int) : Prop := 0 ≤ c ∧ c < 1114112 ∧ ¬ (55296 ≤ c ∧ c < 57344)
theorem Sg.cp {c : Int} (h : Sg c) : Cp c := ⟨h.1, h.2.1⟩
theorem Sg.scalar {c : Int} (h : Sg c) : Scalar c.toNat := by
  obtain ⟨h0, h1, h2⟩ := h
  exact ⟨by omega, by omega⟩
def byt (z : Int) : UInt8 := z.toNat.toUInt8

theorem byt_of {z : Int} {n : Nat} (h : z.toNat = n) : byt z = n.toUInt8 := by unfold byt; rw [h]
theorem octs_byt {c : Int} (h : Cp c) : (octs c).map byt = Str.utf8Of c.toNat := by
  obtain ⟨h0, h1⟩ := h
  obtain ⟨n, rfl⟩ := Int.eq_ofNat_of_zero_le h0
  rw [Int.toNat_natCast]
  unfold octs Str.utf8Of
  by_cases h2 : n < 128
  · rw [if_pos (by omega), if_pos h2, List.map_cons, List.map_nil, byt_of (n := n) (by omega)]
  rw [if_neg (by omega), if_neg h2]
  by_cases h3 : n < 2048
  · rw [if_pos (by omega), if_pos h3, List.map_cons, List.map_cons, List.map_nil, byt_of (n := 0xC0 + n / 64) (by omega), byt_of (n := 0x80 + n % 64) (by omega)]
  rw [if_neg (by omega), if_neg h3]
  by_cases h4 : n < 65536
  · rw [if_pos (by omega), if_pos h4, List.map_cons, List.map_cons, List.map_cons, List.map_nil, byt_of (n := 0xE0 + n / 4096) (by omega), byt_of (n := 0x80 + n / 64 % 64) (by omega), byt_of (n := 0x80 + n % 64) (by omega)]
  · rw [if_neg (by omega), if_neg h4, List.map_cons, List.map_cons, List.map_cons, List.map_cons, List.map_nil, byt_of (n := 0xF0 + n / 262144) (by omega), byt_of (n := 0x80 + n / 4096 % 64) (by omega), byt_of (n := 0x80 + n / 64 % 64) (by omega), byt_of (n := 0x80 + n % 64) (by omega)]

theorem enc1_scalar {c : Nat} (h : Scalar c) : enc1 c = Str.utf8Of c := by
  unfold enc1
  rw [if_neg]
  simp only [Str.isSurrogate, Bool.and_eq_true, decide_eq_true_eq]
  exact h.2
theorem enc1_st {z : Int} (h : 0 ≤ z ∧ z < 256) : enc1 (st z).toNat = [byt z] := by
  unfold st byt
  by_cases h1 : z < 128
  · rw [if_pos h1, enc1_scalar ⟨by omega, by omega⟩]
    unfold Str.utf8Of
    rw [if_pos (by omega)]
  · rw [if_neg h1]
    unfold enc1
    rw [if_pos (by simp only [Str.isSurrogate, Bool.and_eq_true, decide_eq_true_eq]; omega), show (z + 56320).toNat - 0xDC00 = z.toNat by omega]

/-- what lies within the octets up to a place -/
def rest (l : List Int) (j part : Nat) : List Int := if part = 0 then [] else (octs (l.getD j 0)).take part
theorem O_take {l : List Int} {j part : Nat} (h : Spot l j part) : (O l).take ((O (l.take j)).length + part) = O (l.take j) ++ rest l j part := by
  obtain ⟨hj, hp⟩ := h
  unfold rest
  have e : O l = O (l.take j) ++ O (l.drop j) := by rw [← O_append, List.take_append_drop]
  by_cases h0 : part = 0
  · subst h0
    rw [if_pos rfl, Nat.add_zero, List.append_nil]
    conv => lhs; rw [e]
    rw [List.take_left]
  · rw [if_neg h0]
    rcases hp with hp | ⟨hj', hp⟩
    · exact absurd hp h0
    rw [O_split l hj', List.take_length_add_append, List.take_append_of_le_length (by omega)]
theorem flat_byt {l : List Int} (hl : ∀ c ∈ l, Sg c) : (O l).map byt = (l.map Int.toNat).flatMap Str.utf8Of := by
  induction l with
  | nil => rfl
  | cons a r ih => rw [O_cons, List.map_append, octs_byt (hl a List.mem_cons_self).cp, ih fun c hc => hl c (List.mem_cons_of_mem _ hc), List.map_cons, List.flatMap_cons]
theorem enc_strays {zs : List Int} (h : ∀ z ∈ zs, 0 ≤ z ∧ z < 256) : ((zs.map st).map Int.toNat).flatMap enc1 = zs.map byt := by
  induction zs with
  | nil => rfl
  | cons a r ih => rw [List.map_cons, List.map_cons, List.flatMap_cons, enc1_st (h a List.mem_cons_self), ih fun z hz => h z (List.mem_cons_of_mem _ hz), List.map_cons]; rfl
theorem enc_scalars {l : List Int} (hl : ∀ c ∈ l, Sg c) : (l.map Int.toNat).flatMap enc1 = (l.map Int.toNat).flatMap Str.utf8Of := by
  induction l with
  | nil => rfl
  | cons a r ih => rw [List.map_cons, List.flatMap_cons, List.flatMap_cons, enc1_scalar (hl a List.mem_cons_self).scalar, ih fun c hc => hl c (List.mem_cons_of_mem _ hc)]
theorem st_ok {z : Int} (h : 0 ≤ z ∧ z < 256) (hs : Str.isSurrogate (st z).toNat = true) : 0xDC80 ≤ (st z).toNat ∧ (st z).toNat ≤ 0xDCFF := by
  unfold st at hs ⊢
  split
  · rename_i h1
    rw [if_pos h1] at hs
    simp only [Str.isSurrogate, Bool.and_eq_true, decide_eq_true_eq] at hs
    omega
  · omega
theorem sg_ok {c : Int} (h : Sg c) (hs : Str.isSurrogate c.toNat = true) : False := by
  have := h.scalar.2
  simp only [Str.isSurrogate, Bool.and_eq_true, decide_eq_true_eq] at hs
  exact this hs

def markOf (part : Nat) : List Nat := if part = 0 then [] else [0xFFFD]
theorem text_eq (l : List Int) (part : Nat) : text l part = ⟨(l.map Int.toNat ++ markOf part).toArray⟩ := by
  unfold text markOf
  apply Str.ext'
  rw [Str.cps_append]
  by_cases h : part = 0
  · subst h
    rw [if_neg (by decide), if_pos rfl]
    have : (Str.ofString "").cps = #[] := by decide +kernel
    rw [this]
    simp [txt]
  · rw [if_pos (by omega), if_neg h]
    have : (Str.ofString "\ufffd").cps = #[0xFFFD] := by decide +kernel
    rw [this]
    simp [txt]

theorem read_fn {l : List Int} (hl : ∀ c ∈ l, Sg c) (hn : (O l).length ≤ 1024) {j part : Nat} (hs : Spot l j part) (hR : Room A 1) : Fn pg w A (Base F) (.ref (F 1)) [.str (strTake (stray l) ((O (l.take j)).length + part))] (.str (text (l.take j) part)) := by
  have hr : ∀ z ∈ O l, 0 ≤ z ∧ z < 256 := fun z hz => O_range (fun c hc => (hl c hc).cp) hz
  have ecps : (strTake (stray l) ((O (l.take j)).length + part)).cps.toList = (((O l).take ((O (l.take j)).length + part)).map st).map Int.toNat := by
    simp only [strTake, stray, txt, strays]
    rw [← List.map_take, ← List.map_take]
  have hlj : ∀ c ∈ l.take j, Sg c := fun c hc => hl c (List.mem_of_mem_take hc)
  rw [text_eq]
  refine sanitize_fn (tail := (rest l j part).map byt) ?_ ?_ ?_ ?_ ?_ hR
  · intro c hc hsu
    rw [ecps] at hc
    obtain ⟨y, hy, rfl⟩ := List.mem_map.mp hc
    obtain ⟨z, hz, rfl⟩ := List.mem_map.mp hy
    exact st_ok (hr z (List.mem_of_mem_take hz)) hsu
  · have := congrArg List.length ecps
    simp only [List.length_map, List.length_take, Array.length_toList] at this
    show Array.size _ ≤ _
    omega
  · intro c hc
    obtain ⟨y, hy, rfl⟩ := List.mem_map.mp hc
    exact (hlj y hy).scalar
  · unfold rest markOf
    by_cases h0 : part = 0
    · rw [if_pos h0, if_pos h0]; exact .inl ⟨rfl, rfl⟩
    · rw [if_neg h0, if_neg h0]
      obtain ⟨hj, hp | ⟨hj', hp⟩⟩ := hs
      · exact absurd hp h0
      have hc := hl _ (mem_getD hj')
      refine .inr ⟨⟨(l.getD j 0).toNat, part, hc.scalar, by omega, ?_, ?_⟩, rfl⟩
      · rw [← octs_byt hc.cp, List.length_map]; exact hp
      · rw [← octs_byt hc.cp, List.map_take]
  · rw [ecps, enc_strays fun z hz => hr z (List.mem_of_mem_take hz), O_take hs, List.map_append, flat_byt hlj]

theorem whole_fn {l : List Int} (hl : ∀ c ∈ l, Sg c) (hn : (O l).length ≤ 512) {j : Nat} (hj : j ≤ l.length) (hR : Room A 1) : Fn pg w A (Base F) (.ref (F 1)) [.str (text (l.take j) 0 ++ strDrop (stray l) (O (l.take j)).length)] (.str (text l 0)) := by
  have hr : ∀ z ∈ O l, 0 ≤ z ∧ z < 256 := fun z hz => O_range (fun c hc => (hl c hc).cp) hz
  have hlj : ∀ c ∈ l.take j, Sg c := fun c hc => hl c (List.mem_of_mem_take hc)
  have e : O l = O (l.take j) ++ O (l.drop j) := by rw [← O_append, List.take_append_drop]
  have ed : (O l).drop (O (l.take j)).length = O (l.drop j) := by
    conv => lhs; rw [e]
    rw [List.drop_left]
  have e0 : text (l.take j) 0 = ⟨((l.take j).map Int.toNat).toArray⟩ := by
    have := text_eq (l.take j) 0
    simpa [markOf] using this
  have e1 : text l 0 = ⟨(l.map Int.toNat ++ []).toArray⟩ := by
    have := text_eq l 0
    simpa [markOf] using this
  have ecps : (text (l.take j) 0 ++ strDrop (stray l) (O (l.take j)).length).cps.toList = (l.take j).map Int.toNat ++ ((O (l.drop j)).map st).map Int.toNat := by
    rw [Str.cps_append, e0]
    simp only [strDrop, stray, txt, strays]
    rw [← List.map_drop, ← List.map_drop, ed]
    simp
  have hrd : ∀ z ∈ O (l.drop j), 0 ≤ z ∧ z < 256 := fun z hz => hr z (by rw [e]; exact List.mem_append_right _ hz)
  rw [e1]
  refine sanitize_fn (tail := []) ?_ ?_ ?_ (.inl ⟨rfl, rfl⟩) ?_ hR
  · intro c hc hsu
    rw [ecps] at hc
    rcases List.mem_append.mp hc with hc | hc
    · obtain ⟨y, hy, rfl⟩ := List.mem_map.mp hc
      exact (sg_ok (hlj y hy) hsu).elim
    · obtain ⟨y, hy, rfl⟩ := List.mem_map.mp hc
      obtain ⟨z, hz, rfl⟩ := List.mem_map.mp hy
      exact st_ok (hrd z hz) hsu
  · have h1 := congrArg List.length ecps
    simp only [List.length_append, List.length_map, List.length_take, Array.length_toList] at h1
    have h2 : (O (l.drop j)).length ≤ (O l).length := by rw [e, List.length_append]; omega
    have h3 : l.length ≤ (O l).length := by
      clear h1 h2 ecps e1 e0 ed e hlj hr hn hj hrd
      induction l with
      | nil => simp
      | cons a r ih =>
        have := octs_pos a
        have := ih fun c hc => hl c (List.mem_cons_of_mem _ hc)
        rw [O_cons, List.length_append, List.length_cons]; omega
    show Array.size _ ≤ _
    omega
  · intro c hc
    obtain ⟨y, hy, rfl⟩ := List.mem_map.mp hc
    exact (hl y hy).scalar
  · rw [ecps, List.flatMap_append, enc_scalars hlj, enc_strays hrd, List.append_nil, flat_byt fun c hc => hl c (List.mem_of_mem_drop hc), ← List.flatMap_append, ← List.map_append, List.take_append_drop]
end Mine
end

section
open PySem PySem.W PyProof.Rows
set_option Elab.async false
set_option linter.unusedVariables false
namespace Mine

theorem xor_bit {c : Int} (h : 0 ≤ c) (k : Nat) : Builtin.bitXor c ((2 ^ k : Nat) : Int) = c + ((2 ^ k : Nat) : Int) - 2 * (((c.toNat / 2 ^ k % 2) * 2 ^ k : Nat) : Int) := by
  obtain ⟨n, rfl⟩ := Int.eq_ofNat_of_zero_le h
  have e1 : Builtin.bitAnd (n : Int) ((2 ^ k : Nat) : Int) = ((n &&& 2 ^ k : Nat) : Int) := by
    unfold Builtin.bitAnd
    rw [decide_eq_true (Int.natCast_nonneg n), decide_eq_true (Int.natCast_nonneg (2 ^ k))]
    rfl
  have e2 : n &&& 2 ^ k = n / 2 ^ k % 2 * 2 ^ k := by
    have hk : n.testBit k = decide (n / 2 ^ k % 2 = 1) := Nat.testBit_eq_decide_div_mod_eq
    apply Nat.eq_of_testBit_eq
    intro i
    rw [Nat.testBit_and, Nat.testBit_two_pow]
    by_cases hb : n / 2 ^ k % 2 = 1
    · rw [hb, Nat.one_mul, Nat.testBit_two_pow]
      by_cases hi : k = i
      · subst hi; rw [hk, decide_eq_true hb]; simp
      · simp [hi]
    · have h0 : n / 2 ^ k % 2 = 0 := by omega
      rw [h0, Nat.zero_mul, Nat.zero_testBit]
      by_cases hi : k = i
      · subst hi; rw [hk, decide_eq_false hb]; simp
      · simp [hi]
  rw [bitXor_and, e1, e2, Int.toNat_natCast]

theorem kin_sg {c b : Int} (hc : Sg c) (hb : b ∈ bits) : Sg (kin1 c b) := by
  have key : 0 ≤ Builtin.bitXor c b ∧ Builtin.bitXor c b < 1114112 := by
    obtain ⟨h0, h1, _⟩ := hc
    simp only [bits, List.mem_cons, List.not_mem_nil, or_false] at hb
    rcases hb with rfl | rfl | rfl
    · have := xor_bit h0 0
      simp only [Nat.pow_zero, Nat.div_one, Nat.mul_one] at this
      rw [show ((1 : Nat) : Int) = 1 by rfl] at this
      rw [this]; omega
    · have := xor_bit h0 6
      rw [show ((2 ^ 6 : Nat) : Int) = 64 by rfl, show (2 ^ 6 : Nat) = 64 by rfl] at this
      rw [this]; omega
    · have := xor_bit h0 12
      rw [show ((2 ^ 12 : Nat) : Int) = 4096 by rfl, show (2 ^ 12 : Nat) = 4096 by rfl] at this
      rw [this]; omega
  unfold kin1
  by_cases h : (decide (55296 ≤ Builtin.bitXor c b) && decide (Builtin.bitXor c b < 57344)) = true
  · rw [if_pos h]; exact hc
  · rw [if_neg h]
    simp only [Bool.and_eq_true, decide_eq_true_eq] at h
    exact ⟨key.1, key.2, h⟩
theorem fam_sg (n : Int) : Sg (famCode n) := by
  unfold famCode Sg
  have h1 := Int.emod_nonneg n (b := 1111936) (by decide)
  have h2 := Int.emod_lt_of_pos n (b := 1111936) (by decide)
  split <;> omega
theorem family_sg (n : Int) : ∀ z ∈ family n, Sg z := by
  intro z hz
  unfold family kins at hz
  simp only [List.cons_append, List.nil_append, List.mem_cons] at hz
  rcases hz with rfl | rfl | hz
  · unfold Sg; omega
  · exact fam_sg n
  · obtain ⟨b, hb, rfl⟩ := List.mem_map.mp hz
    exact kin_sg (fam_sg n) hb
theorem family_len (n : Int) : (family n).length = 5 := rfl

/-- the script's numbers -/
def numOf (ns : List Int) : Int := if ns = [] then 8236 else ns.getD 0 0
def picks (ns : List Int) : List Int := if 1 < ns.length then cut ns (some 1) (some 10) else [0, 1, 0, 0, 2]
def drawnOf (ns : List Int) : List Int := (picks ns).map fun y => (family (numOf ns)).getD (y % 5).toNat 0
theorem picks_len (ns : List Int) : (picks ns).length ≤ 9 ∧ 0 < (picks ns).length := by
  unfold picks
  split
  · rename_i h
    unfold cut
    simp only [Option.elim]
    rw [show (1 : Int) = ((1 : Nat) : Int) by rfl, show (10 : Int) = ((10 : Nat) : Int) by rfl, clipAt_nat, clipAt_nat, List.length_take, List.length_drop]
    omega
  · decide
theorem drawn_sg (ns : List Int) : ∀ c ∈ drawnOf ns, Sg c := by
  intro c hc
  obtain ⟨y, hy, rfl⟩ := List.mem_map.mp hc
  have h1 := Int.emod_nonneg y (b := 5) (by decide)
  have h2 := Int.emod_lt_of_pos y (b := 5) (by decide)
  exact family_sg _ _ (mem_getD (by rw [family_len]; omega))
theorem drawn_len (ns : List Int) : (drawnOf ns).length ≤ 9 ∧ 0 < (drawnOf ns).length := by
  unfold drawnOf; rw [List.length_map]; exact picks_len ns
theorem O_len (l : List Int) : (O l).length ≤ 4 * l.length ∧ l.length ≤ (O l).length := by
  induction l with
  | nil => simp
  | cons a r ih =>
    have h1 := octs_len a
    have h2 := octs_pos a
    rw [O_cons, List.length_append, List.length_cons]; omega
end Mine
end

section
open PySem PySem.W PyProof.Rows
set_option Elab.async false
set_option linter.unusedVariables false
set_option maxRecDepth 100000
namespace Mine
variable {prog : Program} {w : World} {A : Around} {env : Env} {C : Heap → Prop} {F : Nat → Addr} {s₀ : Shared} {ρ : Names}

theorem St.other {s : Shared} {K : Addr} (x : St env s₀ ρ s) (hK : s₀.heap.get? K = none) (h1 : K ≠ env.locals) (h2 : ∀ y, env.cells.lookup y ≠ some K) {h : Heap} {t : Nat} (k : ∀ b o, b ≠ K → s.heap.get? b = some o → h.get? b = some o) (ks : KeepSeq s.heap h) :
    St env s₀ ρ { s with heap := h, toks := t } := by
  obtain ⟨m, cm, i, r⟩ := x
  refine ⟨m, cm, ⟨⟨?_, i.toInCall.ns.at' fun o e => k _ o (Ne.symm h1) e, fun b o e => k b o (by rintro rfl; rw [hK] at e; cases e) (i.toInCall.keep b o e), i.toInCall.fresh⟩, fun n c hc => ?_, i.apart, i.above⟩, fun y d e => ?_⟩
  · obtain ⟨h₁, tk, rfl⟩ := i.toInCall.same
    exact ⟨h, t, rfl⟩
  · obtain ⟨o, e, d⟩ := i.cell n c hc
    exact ⟨o, k c o (by rintro rfl; exact h2 n hc) e, d⟩
  · obtain ⟨v, rv, w'⟩ := r y d e
    exact ⟨v, rv.up ks, w'⟩

/-- x = [z for y in .. for z in ..], x a local: the store lies within the comprehension -/
theorem Ex.assign2 {i0 i1 : Expr} {x y z : Str} {p' p : Pos} {py pz pe : Pos} {scope : Scope} {cl : List (Str × Addr)} {pos : Pos} {n : Nat} {D : Nat → Dt} {f : Nat → List Int} (hh : A.handled = none)
    (hclos : closureFor scope env = pure cl) (hok : scopeOk scope y = true) (hz : scope.names.lookup z = some .local) (hd : (z == ("__debug__" : Str)) = false)
    (src : Src prog w A env (Fc env s₀ ρ) i0 n D) (hsz : ((List.range n).flatMap f).length ≤ sizeLine)
    (he : ∀ K i, i < n → EvN prog w A (compEnvC scope cl K env) (fun h => Fc env s₀ ρ h ∧ Bnd h K y (D i)) i1 (f i))
    (hs : ∀ x, foldedSetIterable i0 env x = pure x) (hs1 : ∀ env x, foldedSetIterable i1 env x = pure x)
    (hk : env.scope.kind = .function) (hx : env.kindOf x = some .local) (hsw : swapsWith (.ListComp (.Name z pe) [⟨.Name y py, i0, [], 0⟩, ⟨.Name z pz, i1, [], 0⟩] scope pos) (some (.Name x p')) p.line env = pure true) :
    Ex prog w A env s₀ ρ (.Assign [.Name x p'] (.ListComp (.Name z pe) [⟨.Name y py, i0, [], 0⟩, ⟨.Name z pz, i1, [], 0⟩] scope pos) p) ((x, .li ((List.range n).flatMap f)) :: ρ) := fun s Q E hst q => by
  rw [exec_Assign_Name_used _ _ _ _ hsw]
  refine wpAny_bind (wpAny_standAt (wpAny_bind ?_))
  show wpAny _ _ (comprehension _ scope env _ (newList []) false (eval i0 env) (some (PySem.assign (Expr.Name x p') env)) >>= fun _ => pure ()) _ _ _
  refine wpAny_bind (comp2_go hh Fc.kp hclos hok hz hd src hsz he hs hs1 hst.fc fun a K h' tk m' ys hkp ha hK hn hl hF => ?_)
  show wpAny _ _ (PySem.assign (Expr.Name x p') env (.ref a)) _ _ _
  have hst' : St env s₀ ρ { s with heap := h', toks := tk } := hst.keeps ⟨h', tk, rfl, hkp⟩
  have h1 : K ≠ env.locals := by
    rintro rfl
    obtain ⟨m, cm, i, _⟩ := hst
    obtain ⟨o, _, _, e, _⟩ := i.toInCall.ns
    rw [hK] at e; cases e
  have h2 : ∀ y, env.cells.lookup y ≠ some K := fun y hy => by
    obtain ⟨m, cm, i, _⟩ := hst
    obtain ⟨o, e, _⟩ := i.cell y K hy
    rw [hK] at e; cases e
  have hmu : ¬ Mut env K := by
    rintro (h | ⟨y, h⟩)
    · exact h1 h
    · exact h2 y h
  refine wpAny_assign_Name (store_ok hst' (d := .li ((List.range n).flatMap f)) ⟨a, ys, rfl, hl, hF⟩ hk (.inl hx) fun s'' hst'' kb => ⟨m', hn.at' fun o e => kb _ o hmu e, fun h'' hs'' => ?_⟩)
  refine wpAny_pure (wpAny_pure (q _ (St.other hst'' (none_up hst.gr.keep hK) h1 h2 (fun b o hb e => hs''.extBut b o hb e) (KeepSeq.ns (hn.at' fun o e => kb _ o hmu e) hs'')) ?_))
  intro b o hb e
  exact hs''.extBut b o (by rintro rfl; rw [hK] at e; cases e) (kb b o hb (hkp b o e))
end Mine
end

section
open PySem PySem.W PyProof.Rows
set_option Elab.async false
set_option linter.unusedVariables false
set_option maxRecDepth 100000
namespace Mine
variable {prog : Program} {w : World} {A : Around} {env : Env} {C : Heap → Prop} {F : Nat → Addr} {s₀ : Shared} {ρ : Names}

theorem Tst.val {e : Expr} {b : Bool} (h : Ev prog w A env C e (.bool b)) (he : ∀ whole, isTrue e env whole = (do let v ← whole; standAt e.pos; holding [v] (truthy v))) : Tst prog w A env C e b := fun s Q E c q =>
  wpAny_isTrue_value (h s _ E c fun v s' k r => by
    have : v = .bool b := r
    subst this
    exact wpAny_truthy_bool (q _ k)) (he _)
theorem Ev.isBool {p pt pos : Pos} {e : Expr} {i : Int} (kc : Kp C) (hf : EvV prog w A env C (.Name "isinstance" p) (.builtin "isinstance")) (ht : EvV prog w A env C (.Name "bool" pt) (.type "bool")) (he : Ev prog w A env C e (.int i))
    (hb : backTo pos (starEach [e, .Name "bool" pt] env) = trees [e, .Name "bool" pt] env) : Ev prog w A env C (.Call (.Name "isinstance" p) [e, .Name "bool" pt] [] pos) (.bool false) := fun s Q E c q => by
  refine wpAny_Call_NameR (hf s _ E c fun s₁ k₁ => ?_)
  rw [hb]
  refine Calls.callWith_builtin rfl (Calls.evalArgs_plain (Calls.spliced_cons (he s₁ _ E (kc _ _ c k₁.keep) fun v s₂ k₂ r₂ => Calls.spliced_cons (ht s₂ _ E (kc _ _ c (Gr.tr k₁ k₂).keep) fun s₃ k₃ => Calls.spliced_nil ?_))))
  obtain ⟨t, rfl⟩ := r₂
  exact PySem.IsiPair.int_bool (q _ _ (Gr.tr k₁ (Gr.tr k₂ (Gr.tr k₃ (Gr.toks _)))) rfl)

/-! ### the readings -/
def spotAt (l : List Int) (m : Nat) : Int × Int := (spots l).getD m (0, 0)
def rdAt (l : List Int) (m : Nat) : Str := text (l.take (spotAt l m).1.toNat) (spotAt l m).2
def reads (l : List Int) : List Str := (List.range ((O l).length + 1)).map (rdAt l)
theorem spotAt_of {l : List Int} {j part : Nat} (h : Spot l j part) : spotAt l ((O (l.take j)).length + part) = ((j : Int), (part : Int)) := spot_at h
theorem spot_last (l : List Int) : spotAt l (O l).length = ((l.length : Int), 0) := by
  have := spotAt_of (l := l) (j := l.length) (part := 0) ⟨Nat.le_refl _, .inl rfl⟩
  rw [List.take_length] at this
  exact this
theorem rd_last (l : List Int) : rdAt l (O l).length = text l 0 := by
  unfold rdAt
  rw [spot_last]
  show text (l.take ((l.length : Int)).toNat) 0 = _
  rw [Int.toNat_natCast, List.take_length]
theorem filter_true {α : Type} (l : List α) : l.filter (fun _ => true) = l := List.filter_eq_self.mpr fun _ _ => rfl
theorem filter_false {α : Type} (l : List α) : l.filter (fun _ => false) = [] := by simp

theorem txt_zero (l : List Int) : text l 0 = txt l := by
  have := text_eq l 0
  simpa [markOf, txt] using this
theorem range_flat (l : List Int) : (List.range l.length).flatMap (fun i => octs (l.getD i 0)) = O l := by
  have h := range_map l 0 (fun c => c)
  rw [filter_true, List.map_id'] at h
  conv => rhs; rw [← h]
  show _ = List.flatMap octs _
  rw [List.flatMap_map]
theorem reads_at (l : List Int) {m : Nat} (hm : m ≤ (O l).length) : (reads l).getD m Str.empty = rdAt l m := by
  unfold reads
  rw [List.getD_eq_getElem?_getD, List.getElem?_map, List.getElem?_range (by omega)]
  rfl
theorem reads_len (l : List Int) : (reads l).length = (O l).length + 1 := by simp [reads]
theorem met_eq {l : List Int} (hl : ∀ c ∈ l, Sg c) : ((List.range (text l 0).length).filter fun _ => true).map (fun i => (((text l 0).cps.getD i 0 : Nat) : Int)) = l := by
  rw [filter_true, txt_zero]
  have e : (txt l).length = l.length := by simp [txt, Str.length]
  rw [e]
  apply List.ext_getElem
  · simp
  · intro i h1 h2
    have h3 := (hl _ (List.getElem_mem h2)).1
    simp only [List.getElem_map, List.getElem_range, txt]
    rw [Array.getD_eq_getD_getElem?, List.getElem?_toArray, List.getElem?_map, List.getElem?_eq_getElem h2]
    simp only [Option.map_some, Option.getD_some]
    omega
theorem strOk_of {x : Str} (h : ∀ c ∈ x.cps.toList, c < 0x110000) : PyData.strOk x = true := by
  unfold PyData.strOk
  rw [Array.all_eq_true']
  intro c hc
  exact decide_eq_true (h c (Array.mem_toList_iff.mpr hc))
theorem text_ok {l : List Int} (hl : ∀ c ∈ l, Sg c) (part : Nat) : PyData.strOk (text l part) = true := by
  rw [text_eq]
  refine strOk_of fun c hc => ?_
  rcases List.mem_append.mp hc with h | h
  · obtain ⟨y, hy, rfl⟩ := List.mem_map.mp h
    have := (hl y hy).cp
    omega
  · unfold markOf at h
    split at h
    · simp at h
    · simp at h; omega
theorem reads_ok {l : List Int} (hl : ∀ c ∈ l, Sg c) : ∀ x ∈ reads l, PyData.strOk x = true := by
  intro x hx
  obtain ⟨m, hm, rfl⟩ := List.mem_map.mp hx
  have hm' := List.mem_range.mp hm
  obtain ⟨j, part, hs, rfl⟩ := spot_of l (m := m) (by omega)
  unfold rdAt
  rw [spotAt_of hs]
  exact text_ok (fun c hc => hl c (List.mem_of_mem_take hc)) part
theorem Ev.out {ρ : Names} {C' : Heap → Prop} {scope : Scope} {cl : List (Str × Addr)} {K : Addr} {x : Str} {p : Pos} {d : Dt} {c : Addr} (hρ : ρ.lookup x = some d) (hC : ∀ h, C' h → Fc env s₀ ρ h) (hk : scope.kind = .function) (hx : (compEnvC scope cl K env).kindOf x = some .cell)
    (hc : cl.lookup x = some c) (hx' : env.kindOf x = some .cell) (hc' : env.cells.lookup x = some c) (hd : (x == ("__debug__" : Str)) = false := by decide) : Ev prog w A (compEnvC scope cl K env) C' (.Name x p) d :=
  Ev.outer (env := env) hρ hC hk hx hc hx' hc' hd

set_option maxHeartbeats 16000000 in
theorem law_go {ns : List Int} {fa : Addr} {s : Shared} {v : Value} {Q : Value → Shared → Prop} {E : Value → Shared → Prop} (hn : ns.length ≤ 63) (hR : Room A 3) (B : Base F s.heap) (hd : DefAt 10 fa s.heap) (r₁ : Rd s.heap v (.li ns))
    (q : ∀ s', Gr s s' → Q (.bool true) s') : wpAny (model pg w) A (call (.ref fa) [v]) Q E s := by
  refine call_def (i := 10) (xs := ["script"]) hd B.lim hR.d (fun _ _ _ _ _ _ _ => rfl) (by decide +kernel) rfl rfl rfl fun fd hfd s' x E' => ?_
  obtain ⟨nm, qn, d, p, an, cd, ct, rfl⟩ := hfd
  generalize henv : callEnvC (fnAt 10 nm qn d p an cd ct) s.heap.objs.size fa = env at x ⊢
  have own : Own env := by rw [← henv]; exact Own.call rfl
  have hst : St env s [("script", .li ns)] s' := start1 (by rw [← henv]; rfl) x r₁
  have hB : ∀ {ρ : Names} h, Fc env s ρ h → Base F h := fun h c => Fc.base Base.kp B c
  have hR2 : Room (A.deeper env) 2 := hR.deeper
  have hR1 : Room (A.deeper env) 1 := hR2.le (by decide)
  have hA : (A.deeper env).handled = none := hR.handled
  have hsl : 1024 ≤ sizeLine := by decide
  have kr : env.kindOf "range" = some .globalImplicit := by rw [← henv]; rfl
  have kl : env.kindOf "len" = some .globalImplicit := by rw [← henv]; rfl
  have kfam : env.kindOf "_law_family" = some .globalImplicit := by rw [← henv]; rfl
  have kpla : env.kindOf "_law_places" = some .globalImplicit := by rw [← henv]; rfl
  have ktab : env.kindOf "_generate_overlap_table" = some .globalImplicit := by rw [← henv]; rfl
  have koct : env.kindOf "octets" = some .local := by rw [← henv]; rfl
  have ktold : env.kindOf "told" = some .local := by rw [← henv]; rfl
  have kkin : env.kindOf "kin" = some .cell := by rw [← henv]; rfl
  have ckin : env.cells.lookup (Str.ofString "kin") = some (s.heap.objs.size + 1) := by rw [← henv]; rfl
  have kdrw : env.kindOf "drawn" = some .cell := by rw [← henv]; rfl
  have cdrw : env.cells.lookup (Str.ofString "drawn") = some (s.heap.objs.size + 2) := by rw [← henv]; rfl
  have kstr : env.kindOf "stray" = some .cell := by rw [← henv]; rfl
  have cstr : env.cells.lookup (Str.ofString "stray") = some (s.heap.objs.size + 3) := by rw [← henv]; rfl
  have kspo : env.kindOf "spots" = some .cell := by rw [← henv]; rfl
  have cspo : env.cells.lookup (Str.ofString "spots") = some (s.heap.objs.size + 4) := by rw [← henv]; rfl
  have krea : env.kindOf "read" = some .cell := by rw [← henv]; rfl
  have crea : env.cells.lookup (Str.ofString "read") = some (s.heap.objs.size + 5) := by rw [← henv]; rfl
  have kmet : env.kindOf "met" = some .cell := by rw [← henv]; rfl
  have cmet : env.cells.lookup (Str.ofString "met") = some (s.heap.objs.size + 6) := by rw [← henv]; rfl
  generalize hA' : A.deeper env = A' at hR2 hR1 hA ⊢
  have key : ExR pg w A' env s [("script", .li ns)] (dBody (dfn 10)) (.bool true) := by
    have hl := drawn_sg ns
    have hlc : ∀ c ∈ drawnOf ns, 0 ≤ c ∧ c < 1114112 := fun c hc => (hl c hc).cp
    have hnum : numOf ns = numOf ns := rfl
    have hdl := drawn_len ns
    have hOl := O_len (drawnOf ns)
    -- kin
    refine ExR.cons (Ex.assign (d := .li (family (numOf ns))) ?_ own.kind (.inr ⟨kkin, _, ckin⟩) rfl) ?_
    · have kc : Kp (Fc env s [("script", .li ns)]) := Fc.kp
      have vs : ∀ pp, Ev pg w A' env (Fc env s [("script", .li ns)]) (.Name "script" pp) (.li ns) := fun pp => Ev.var rfl own.kind
      refine Ev.call kc (vFam (F := F) own (fun h c => hB h c) kfam) (plainDef (fun h c => hB h c) (by decide)) (Evs.one kc (Tst.ite (x := !decide (ns = [])) kc (Tst.cmp kc (vs _) (Ev.listI (ns := []) Evs.nil rfl (by decide)) (Cmp2.neI hR1.u64)) (fun h => ?_) (fun h => ?_))) ((family_fn hR1).imp fun h c => hB h c) rfl
      · have hne : ns ≠ [] := by simpa using h
        have e : numOf ns = ns.getD ((0 : Int).toNat) 0 := by unfold numOf; rw [if_neg hne]; rfl
        rw [e]
        have hpos := List.length_pos_iff.mpr hne
        exact Ev.item kc Lst.li (vs _) Ev.constInt (by decide) (by omega) (by omega) (fun _ _ => rfl)
      · have hne : ns = [] := by simpa using h
        have e : numOf ns = 8236 := by unfold numOf; rw [if_pos hne]
        rw [e]
        exact Ev.constInt
    -- drawn
    refine ExR.cons (Ex.assign (d := .li (drawnOf ns)) ?_ own.kind (.inr ⟨kdrw, _, cdrw⟩) (by rw [← henv]; rfl)) ?_
    · have kc : Kp (Fc env s [("kin", .li (family (numOf ns))), ("script", .li ns)]) := Fc.kp
      have vs : ∀ pp, Ev pg w A' env (Fc env s [("kin", .li (family (numOf ns))), ("script", .li ns)]) (.Name "script" pp) (.li ns) := fun pp => Ev.var rfl own.kind
      have hpl := picks_len ns
      refine Ev.compI (cl := [("kin", s.heap.objs.size + 1)]) (picks ns).length (fun _ => true) (fun i => (family (numOf ns)).getD ((picks ns).getD i 0 % 5).toNat 0) kc ?_ (by decide +kernel)
        (Src.list hA Lst.li (Tst.ite (x := decide (1 < (ns.length : Int))) kc (Tst.cmp kc (Ev.call kc (vLen (F := F) own (fun h c => hB h c) kl) plainBi (Evs.one kc (vs _)) (Fn.lenL Lst.li (by omega)) rfl) Ev.constInt Cmp2.gtInt) (fun h => ?_) (fun h => ?_)))
        (by omega) (fun _ _ _ => TestsAre.nil) (fun K i hi _ => ?_) (fun _ => rfl) (range_map (picks ns) 0 fun y => (family (numOf ns)).getD (y % 5).toNat 0)
      · rw [← henv]; rfl
      · have hlt : 1 < ns.length := by have := of_decide_eq_true h; omega
        have e : picks ns = cut ns (some 1) (some 10) := by unfold picks; rw [if_pos hlt]
        rw [e]
        exact Ev.cutI kc (vs _) (by omega) (EvP.one Ev.constInt) (EvP.one Ev.constInt)
      · have hlt : ¬ 1 < ns.length := by have := of_decide_eq_false h; omega
        have e : picks ns = [0, 1, 0, 0, 2] := by unfold picks; rw [if_neg hlt]
        rw [e]
        exact Ev.listI (ns := [0, 1, 0, 0, 2]) (Evs.cons kc Ev.constInt (Evs.cons kc Ev.constInt (Evs.three kc Ev.constInt Ev.constInt Ev.constInt))) rfl (by decide)
      · have h1 := Int.emod_nonneg ((picks ns).getD i 0) (b := 5) (by decide)
        have h2 := Int.emod_lt_of_pos ((picks ns).getD i 0) (b := 5) (by decide)
        exact Ev.item kc.bnd Lst.li (Ev.out (ρ := [("kin", .li (family (numOf ns))), ("script", .li ns)]) rfl (fun h c => c.1) rfl (by rw [← henv]; rfl) rfl kkin ckin) (Ev.bin kc.bnd (Ev.inner (fun h c => c.2) rfl rfl) Ev.constInt (Op2.mod' (by decide))) h1 (by rw [family_len]; exact h2) (by rw [family_len]; decide) (fun _ _ => rfl)
    generalize hdr : drawnOf ns = l at hl hlc hdl hOl
    generalize family (numOf ns) = kin
    -- octets
    have eO : O l = (List.range l.length).flatMap (fun i => octs (l.getD i 0)) := (range_flat l).symm
    refine ExR.cons (ρ' := [("octets", .li (O l)), ("drawn", .li l), ("kin", .li kin), ("script", .li ns)]) ?_ ?_
    · rw [eO]
      refine Ex.assign2 (cl := []) hA ?_ (by decide +kernel) (by decide +kernel) (by decide +kernel) (Src.list hA Lst.li (Ev.var rfl own.kind)) (by rw [range_flat]; omega) (fun K i hi => ?_) (fun _ => rfl) (fun _ _ => rfl) own.kind koct ?_
      · rw [← henv]; rfl
      · have hc := hlc _ (getD_mem (a := 0) hi)
        have kc : Kp (Fc env s [("drawn", .li l), ("kin", .li kin), ("script", .li ns)]) := Fc.kp
        exact EvN.call kc.bnd (vOct (F := F) (own.comp rfl) (fun h c => hB h c.1) rfl) (plainDef (fun h c => hB h c.1) (by decide)) (Evs.one kc.bnd (Ev.inner (fun h c => c.2) rfl rfl)) ((octets_new hc.1 hc.2 hR1).imp fun h c => hB h c.1) rfl
      · rw [← henv]; rfl
    -- stray
    refine ExR.cons (Ex.assign (d := .str (stray l)) ?_ own.kind (.inr ⟨kstr, _, cstr⟩) rfl) ?_
    · have kc : Kp (Fc env s [("octets", .li (O l)), ("drawn", .li l), ("kin", .li kin), ("script", .li ns)]) := Fc.kp
      have e1 : ((List.range (O l).length).filter fun _ => true).map (fun i => (⟨#[(st ((O l).getD i 0)).toNat]⟩ : Str)) = (strays l).map fun c => (⟨#[c.toNat]⟩ : Str) := by
        rw [range_map (O l) 0 (fun z => (⟨#[(st z).toNat]⟩ : Str)), strays, List.map_map]; rfl
      have e2 : stray l = Txt.join (Str.ofString "") ((strays l).map fun c => (⟨#[c.toNat]⟩ : Str)) := (join_empty (strays l)).symm
      rw [e2]
      refine Ev.join kc Ev.constStr (Ev.compS (cl := []) (O l).length (fun _ => true) (fun i => ⟨#[(st ((O l).getD i 0)).toNat]⟩) kc ?_ (by decide +kernel) (Src.list hA Lst.li (Ev.var rfl own.kind)) (by omega) (fun _ _ _ => TestsAre.nil) (fun K i hi _ => ?_) (fun _ => rfl) e1) ?_ rfl rfl rfl
      · rw [← henv]; rfl
      · have hz := O_range hlc (getD_mem (a := 0) hi)
        generalize (O l).getD i 0 = z at hz
        have kb := kc.bnd (K := K) (x := "z") (d := .int z)
        refine Tst.ite (x := decide (z < 128)) kb (Tst.cmp kb (Ev.inner (fun h c => c.2) rfl rfl) Ev.constInt Cmp2.ltInt) (fun h => ?_) (fun h => ?_)
        · have h1 : z < 128 := by simpa using h
          have e : st z = z := by unfold st; rw [if_pos h1]
          rw [e]
          exact Ev.call kb (vChr (F := F) (own.comp rfl) (fun h c => hB h c.1) rfl) plainBi (Evs.one kb (Ev.inner (fun h c => c.2) rfl rfl)) (Fn.chr hz.1 (by omega)) rfl
        · have h1 : ¬ z < 128 := by simpa using h
          have e : st z = z + 56320 := by unfold st; rw [if_neg h1]
          rw [e]
          exact Ev.call kb (vChr (F := F) (own.comp rfl) (fun h c => hB h c.1) rfl) plainBi (Evs.one kb (Ev.bin kb (Ev.inner (fun h c => c.2) rfl rfl) Ev.constInt Op2.addInt)) (Fn.chr (by omega) (by omega)) rfl
      · rw [sum_ones, List.length_map]
        have : (strays l).length = (O l).length := by simp only [strays, List.length_map]
        show _ + _ * 0 ≤ _
        omega
    -- spots
    refine ExR.cons (Ex.assign (d := .prs (spots l)) ?_ own.kind (.inr ⟨kspo, _, cspo⟩) rfl) ?_
    · have kc : Kp (Fc env s [("stray", .str (stray l)), ("octets", .li (O l)), ("drawn", .li l), ("kin", .li kin), ("script", .li ns)]) := Fc.kp
      have hpl := places_len l l.length
      exact Ev.bin kc (Ev.listP (ns := [(0, 0)]) (Evs.one kc (Ev.pair kc Ev.constInt Ev.constInt rfl)) rfl (by decide))
        (Ev.call kc (vPla (F := F) own (fun h c => hB h c) kpla) (plainDef (fun h c => hB h c) (by decide)) (Evs.one kc (Ev.var rfl own.kind)) ((places_fn hlc (by omega) hR2).imp fun h c => hB h c) rfl) (Op2.addP (by simp only [List.length_singleton]; omega))
    -- read
    refine ExR.cons (Ex.assign (d := .ls (reads l)) ?_ own.kind (.inr ⟨krea, _, crea⟩) (by rw [← henv]; rfl)) ?_
    · have kc : Kp (Fc env s [("spots", .prs (spots l)), ("stray", .str (stray l)), ("octets", .li (O l)), ("drawn", .li l), ("kin", .li kin), ("script", .li ns)]) := Fc.kp
      have hst := stray_length l
      have hnn : (((stray l).length : Int) + 1).toNat = (O l).length + 1 := by omega
      refine Ev.compS (cl := [("stray", s.heap.objs.size + 3)]) (((stray l).length : Int) + 1).toNat (fun _ => true) (rdAt l) kc ?_ (by decide +kernel)
        (SrcN.range1 hA kc (vRange (F := F) own (fun h c => hB h c) kr) (Ev.bin kc (Ev.call kc (vLen (F := F) own (fun h c => hB h c) kl) plainBi (Evs.one kc (Ev.var rfl own.kind)) (Fn.lenS (by omega)) rfl) Ev.constInt Op2.addInt) (by omega) (by omega) rfl).src
        (by omega) (fun _ _ _ => TestsAre.nil) (fun K i hi _ => ?_) (fun _ => rfl) (by rw [hnn, filter_true]; rfl)
      · rw [← henv]; rfl
      · obtain ⟨j, part, hs, rfl⟩ := spot_of l (m := i) (by omega)
        have er : rdAt l ((O (l.take j)).length + part) = text (l.take j) part := by
          unfold rdAt; rw [spotAt_of hs]; show text (l.take ((j : Int)).toNat) _ = _; rw [Int.toNat_natCast]
        rw [er]
        have hle := hs.le
        exact Ev.call kc.bnd (vSan (F := F) (own.comp rfl) (fun h c => hB h c.1) rfl) (plainDef (fun h c => hB h c.1) (by decide))
          (Evs.one kc.bnd (Ev.cutTo kc.bnd (Ev.out (ρ := [("spots", .prs (spots l)), ("stray", .str (stray l)), ("octets", .li (O l)), ("drawn", .li l), ("kin", .li kin), ("script", .li ns)]) rfl (fun h c => c.1) rfl (by rw [← henv]; rfl) rfl kstr cstr) (by omega) (Ev.inner (fun h c => c.2) rfl rfl) (by omega)))
          ((read_fn hl (by omega) hs hR1).imp fun h c => hB h c.1) rfl
    -- the readings are the texts
    have hsl' : (spots l).length = (O l).length + 1 := spots_length l
    have hrl := reads_len l
    have hst := stray_length l
    refine ExR.ite (x := !decide (reads l = reads l)) ?_ (fun h => absurd h (by simp)) (fun _ => ?_)
    · have kc : Kp (Fc env s [("read", .ls (reads l)), ("spots", .prs (spots l)), ("stray", .str (stray l)), ("octets", .li (O l)), ("drawn", .li l), ("kin", .li kin), ("script", .li ns)]) := Fc.kp
      refine Tst.cmp kc (Ev.var rfl own.kind) (Ev.compS (cl := [("drawn", s.heap.objs.size + 2)]) (spots l).length (fun _ => true) (rdAt l) kc ?_ (by decide +kernel) (Src.list hA Lst.prs (Ev.var rfl own.kind)) (by omega) (fun _ _ _ => TestsAre.nil) (fun K i hi _ => ?_) (fun _ => rfl) (by rw [hsl', filter_true]; rfl))
        (Cmp2.neS (reads_ok hl) (reads_ok hl) hR1.u64)
      · rw [← henv]; rfl
      · obtain ⟨j, part, hs, hm⟩ := spot_of l (m := i) (by omega)
        have es : (spots l).getD i (0, 0) = ((j : Int), (part : Int)) := by rw [hm]; exact spot_at hs
        have er : rdAt l i = text (l.take j) part := by
          unfold rdAt spotAt; rw [es]; show text (l.take ((j : Int)).toNat) _ = _; rw [Int.toNat_natCast]
        rw [er, es]
        have hj := hs.1
        exact Ev.call kc.bnd (vTxt (F := F) (own.comp rfl) (fun h c => hB h c.1) rfl) (plainDef (fun h c => hB h c.1) (by decide))
          (Evs.two kc.bnd (Ev.cast (congrArg Dt.li (cut_to l j)) (Ev.cutI kc.bnd (Ev.out (ρ := [("read", .ls (reads l)), ("spots", .prs (spots l)), ("stray", .str (stray l)), ("octets", .li (O l)), ("drawn", .li l), ("kin", .li kin), ("script", .li ns)]) rfl (fun h c => c.1) rfl (by rw [← henv]; rfl) rfl kdrw cdrw) (by omega) EvP.no (EvP.one (Ev.fst kc.bnd (Ev.inner (fun h c => c.2) rfl rfl) Ev.constInt (fun _ _ => rfl)))))
            (Ev.snd kc.bnd (Ev.inner (fun h c => c.2) rfl rfl) Ev.constInt (fun _ _ => rfl)))
          ((text_fn (fun c hc => hlc c (List.mem_of_mem_take hc)) (by rw [List.length_take]; omega) hR1).imp fun h c => hB h c.1) rfl
    -- the same text of the signs and the octets from there on
    refine ExR.ite (x := !decide (([] : List Int) = [])) ?_ (fun h => absurd h (by simp)) (fun _ => ?_)
    · have kc : Kp (Fc env s [("read", .ls (reads l)), ("spots", .prs (spots l)), ("stray", .str (stray l)), ("octets", .li (O l)), ("drawn", .li l), ("kin", .li kin), ("script", .li ns)]) := Fc.kp
      have hnn : (((spots l).length : Int) - 1).toNat = (O l).length := by omega
      refine Tst.cmp kc (Ev.compI (cl := [("stray", s.heap.objs.size + 3), ("spots", s.heap.objs.size + 4), ("read", s.heap.objs.size + 5)]) (((spots l).length : Int) - 1).toNat (fun _ => false) (fun _ => 0) kc ?_ (by decide +kernel)
        (SrcN.range2 hA kc (vRange (F := F) own (fun h c => hB h c) kr) Ev.constInt (Ev.call kc (vLen (F := F) own (fun h c => hB h c) kl) plainBi (Evs.one kc (Ev.var rfl own.kind)) (Fn.lenL Lst.prs (by omega)) rfl) (by decide) (by decide) (by omega) (by omega) rfl).src
        (by omega) (fun K i hi => ?_) (fun K i hi h => (nomatch h)) (fun _ => rfl) (by rw [filter_false]; rfl)) (Ev.listI (ns := []) Evs.nil rfl (by decide)) (Cmp2.neI hR1.u64)
      · rw [← henv]; rfl
      · obtain ⟨j, part, hs, hm⟩ := spot_of l (m := 1 + i) (by omega)
        have es : (spots l).getD (1 + i) (0, 0) = ((j : Int), (part : Int)) := by rw [hm]; exact spot_at hs
        have er : rdAt l (1 + i) = text (l.take j) part := by
          unfold rdAt spotAt; rw [es]; show text (l.take ((j : Int)).toNat) _ = _; rw [Int.toNat_natCast]
        have hi1 : (1 + (i : Int)) = ((1 + i : Nat) : Int) := by omega
        rw [hi1]
        generalize hmm : 1 + i = m at es er hm
        have hmO : m ≤ (O l).length := by omega
        have kb := kc.bnd (K := K) (x := "m") (d := .int (m : Int))
        refine TestsAre.one (Tst.cast (d := (((part : Int) == 0) && false)) (by simp) (Tst.and kb (Tst.cmp kb (Ev.snd (a := (j : Int)) kb (Ev.cast ?_ (Ev.item kb Lst.prs (Ev.out (ρ := [("read", .ls (reads l)), ("spots", .prs (spots l)), ("stray", .str (stray l)), ("octets", .li (O l)), ("drawn", .li l), ("kin", .li kin), ("script", .li ns)]) rfl (fun h c => c.1) rfl (by rw [← henv]; rfl) rfl kspo cspo) (Ev.inner (fun h c => c.2) rfl rfl) (by omega) (by omega) (by omega) (fun _ _ => rfl))) Ev.constInt (fun _ _ => rfl)) Ev.constInt Cmp2.eqInt) (fun hp => ?_)))
        · show Dt.pr ((spots l).getD ((m : Int)).toNat (0, 0)).1 ((spots l).getD ((m : Int)).toNat (0, 0)).2 = _
          rw [Int.toNat_natCast, es]
        · have hp0 : part = 0 := by have : (part : Int) = 0 := by simpa using hp
                                    omega
          subst hp0
          rw [Nat.add_zero] at hm
          subst hm
          have hle := hs.le
          have hrd : (reads l).getD (((O (l.take j)).length : Int)).toNat Str.empty = text (l.take j) 0 := by
            rw [Int.toNat_natCast, reads_at l hmO, er]; rfl
          have hlast : (reads l).getD ((reads l).length - 1) Str.empty = text l 0 := by
            rw [hrl, Nat.add_sub_cancel, reads_at l (Nat.le_refl _), rd_last]
          have htl : (text (l.take j) 0).length ≤ 9 := by rw [txt_zero]; simp only [txt, Str.length, List.size_toArray, List.length_map, List.length_take]; omega
          have hsd : (strDrop (stray l) (O (l.take j)).length).length ≤ 36 := by
            have h2 := hst
            simp only [Str.length] at h2
            simp only [strDrop, Str.length, List.size_toArray, List.length_drop, Array.length_toList]
            omega
          refine Tst.cast (bne_self_eq_false (text l 0)) (Tst.cmp kb (Ev.call kb (vSan (F := F) (own.comp rfl) (fun h c => hB h c.1) rfl) (plainDef (fun h c => hB h c.1) (by decide))
            (Evs.one kb (Ev.bin kb (Ev.cast (congrArg Dt.str hrd) (Ev.item kb Lst.ls (Ev.out (ρ := [("read", .ls (reads l)), ("spots", .prs (spots l)), ("stray", .str (stray l)), ("octets", .li (O l)), ("drawn", .li l), ("kin", .li kin), ("script", .li ns)]) rfl (fun h c => c.1) rfl (by rw [← henv]; rfl) rfl krea crea) (Ev.inner (fun h c => c.2) rfl rfl) (by omega) (by omega) (by omega) (fun _ _ => rfl)))
              (Ev.cutFrom kb (Ev.out (ρ := [("read", .ls (reads l)), ("spots", .prs (spots l)), ("stray", .str (stray l)), ("octets", .li (O l)), ("drawn", .li l), ("kin", .li kin), ("script", .li ns)]) rfl (fun h c => c.1) rfl (by rw [← henv]; rfl) rfl kstr cstr) (by omega) (Ev.inner (fun h c => c.2) rfl rfl) (by omega)) (Op2.addStr (by omega)))) ((whole_fn hl (by omega) hs.1 hR1).imp fun h c => hB h c.1) rfl)
            (Ev.cast (congrArg Dt.str hlast) (Ev.last kb Lst.ls (Ev.out (ρ := [("read", .ls (reads l)), ("spots", .prs (spots l)), ("stray", .str (stray l)), ("octets", .li (O l)), ("drawn", .li l), ("kin", .li kin), ("script", .li ns)]) rfl (fun h c => c.1) rfl (by rw [← henv]; rfl) rfl krea crea) (Ev.neg Ev.constInt) (by omega) (fun _ _ => rfl))) Cmp2.neStr)
    -- met
    have hlast : (reads l).getD ((reads l).length - 1) Str.empty = text l 0 := by
      rw [hrl, Nat.add_sub_cancel, reads_at l (Nat.le_refl _), rd_last]
    have htl : (text l 0).length = l.length := by rw [txt_zero]; simp only [txt, Str.length, List.size_toArray, List.length_map]
    refine ExR.cons (Ex.assign (d := .li l) ?_ own.kind (.inr ⟨kmet, _, cmet⟩) (by rw [← henv]; rfl)) ?_
    · have kc : Kp (Fc env s [("read", .ls (reads l)), ("spots", .prs (spots l)), ("stray", .str (stray l)), ("octets", .li (O l)), ("drawn", .li l), ("kin", .li kin), ("script", .li ns)]) := Fc.kp
      refine Ev.compI (cl := []) (text l 0).length (fun _ => true) (fun i => (((text l 0).cps.getD i 0 : Nat) : Int)) kc ?_ (by decide +kernel)
        (Src.str hA (Ev.cast (congrArg Dt.str hlast) (Ev.last kc Lst.ls (Ev.var rfl own.kind) (Ev.neg Ev.constInt) (by omega) (fun _ _ => rfl)))) (by omega) (fun _ _ _ => TestsAre.nil) (fun K i hi _ => ?_) (fun _ => rfl) (met_eq hl)
      · rw [← henv]; rfl
      · exact Ev.call kc.bnd (vOrd (F := F) (own.comp rfl) (fun h c => hB h c.1) rfl) plainBi (Evs.one kc.bnd (Ev.inner (fun h c => c.2) rfl rfl)) Fn.ord rfl
    -- told
    have etab := tab_eq hlc
    generalize hT : tab (sg (stray l)) (O l).length (O l).length = T at etab
    have hTl : T.length = (O l).length := by rw [← hT, tab_len]
    refine ExR.cons (Ex.assign (d := .li T) ?_ own.kind (.inl ktold) rfl) ?_
    · have kc : Kp (Fc env s [("met", .li l), ("read", .ls (reads l)), ("spots", .prs (spots l)), ("stray", .str (stray l)), ("octets", .li (O l)), ("drawn", .li l), ("kin", .li kin), ("script", .li ns)]) := Fc.kp
      rw [← hT, ← hst]
      exact Ev.call kc (vTab (F := F) own (fun h c => hB h c) ktab) (plainDef (fun h c => hB h c) (by decide)) (Evs.one kc (Ev.var rfl own.kind)) ((table_fn (by omega) (by omega) hR1).imp fun h c => hB h c) rfl
    -- no truths
    refine ExR.ite (x := !decide (([] : List Int) = [])) ?_ (fun h => absurd h (by simp)) (fun _ => ?_)
    · have kc : Kp (Fc env s [("told", .li T), ("met", .li l), ("read", .ls (reads l)), ("spots", .prs (spots l)), ("stray", .str (stray l)), ("octets", .li (O l)), ("drawn", .li l), ("kin", .li kin), ("script", .li ns)]) := Fc.kp
      refine Tst.cmp kc (Ev.compI (cl := []) T.length (fun _ => false) (fun _ => 0) kc ?_ (by decide +kernel) (Src.list hA Lst.li (Ev.var rfl own.kind))
        (by omega) (fun K i hi => ?_) (fun K i hi h => (nomatch h)) (fun _ => rfl) (by rw [filter_false]; rfl)) (Ev.listI (ns := []) Evs.nil rfl (by decide)) (Cmp2.neI hR1.u64)
      · rw [← henv]; rfl
      · exact TestsAre.one (Tst.val (Ev.isBool kc.bnd (vIsi (F := F) (own.comp rfl) (fun h c => hB h c.1) rfl) (vBool (F := F) (own.comp rfl) (fun h c => hB h c.1) rfl) (Ev.inner (fun h c => c.2) rfl rfl) rfl) (fun _ => rfl))
    -- the table
    have kc : Kp (Fc env s [("told", .li T), ("met", .li l), ("read", .ls (reads l)), ("spots", .prs (spots l)), ("stray", .str (stray l)), ("octets", .li (O l)), ("drawn", .li l), ("kin", .li kin), ("script", .li ns)]) := Fc.kp
    have hcl : (cut (spots l) (some 1) none).length = (O l).length := by
      have := congrArg List.length etab
      rw [List.length_map] at this
      omega
    refine ExR.ret (Ev.cast (d := .bool (decide (T = T))) (by simp) (Ev.cmp kc (Ev.var rfl own.kind) ?_ (Cmp2.eqI hR1.u64)))
    refine Ev.compI (cl := [("met", s.heap.objs.size + 6)]) (cut (spots l) (some 1) none).length (fun _ => true) (fun i => ovl l ((cut (spots l) (some 1) none).getD i (0, 0)).1.toNat ((cut (spots l) (some 1) none).getD i (0, 0)).2.toNat) kc ?_ (by decide +kernel)
      (Src.list hA Lst.prs (Ev.cutP kc (Ev.var rfl own.kind) (by omega) (EvP.one Ev.constInt) EvP.no)) (by omega) (fun _ _ _ => TestsAre.nil) (fun K i hi _ => ?_) (fun _ => rfl) ?_
    · rw [← henv]; rfl
    · have ecut : (cut (spots l) (some 1) none).getD i (0, 0) = (spots l).getD (i + 1) (0, 0) := by
        have e1 : cut (spots l) (some 1) none = (spots l).drop 1 := cut_from (spots l) 1
        rw [e1, List.getD_eq_getElem?_getD, List.getElem?_drop, List.getD_eq_getElem?_getD, Nat.add_comm]
      obtain ⟨j, part, hs, hm⟩ := spot_of l (m := i + 1) (by omega)
      have es : (spots l).getD (i + 1) (0, 0) = ((j : Int), (part : Int)) := by rw [hm]; exact spot_at hs
      rw [ecut, es]
      have hp : part = 0 ∨ j < l.length := by
        rcases hs.2 with h | h
        · exact .inl h
        · exact .inr h.1
      show Ev _ _ _ _ _ _ (.int (ovl l ((j : Int)).toNat ((part : Int)).toNat))
      rw [Int.toNat_natCast, Int.toNat_natCast]
      exact Ev.call kc.bnd (vOvl (F := F) (own.comp rfl) (fun h c => hB h c.1) rfl) (plainDef (fun h c => hB h c.1) (by decide))
        (Evs.three kc.bnd (Ev.out (ρ := [("told", .li T), ("met", .li l), ("read", .ls (reads l)), ("spots", .prs (spots l)), ("stray", .str (stray l)), ("octets", .li (O l)), ("drawn", .li l), ("kin", .li kin), ("script", .li ns)]) rfl (fun h c => c.1) rfl (by rw [← henv]; rfl) rfl kmet cmet) (Ev.fst kc.bnd (Ev.inner (fun h c => c.2) rfl rfl) Ev.constInt (fun _ _ => rfl)) (Ev.snd kc.bnd (Ev.inner (fun h c => c.2) rfl rfl) Ev.constInt (fun _ _ => rfl)))
        ((overlap_fn hlc (by omega) hs.1 hp hR2).imp fun h c => hB h c.1) rfl
    · rw [range_map (cut (spots l) (some 1) none) (0, 0) (fun s => ovl l s.1.toNat s.2.toNat), etab]
  exact key s' _ E' hst fun v s'' k r => ⟨v, rfl, by
    have : v = .bool true := r
    subst this
    exact q s'' k⟩
end Mine
end

section
open PySem PySem.W PyProof.Rows
set_option Elab.async false
set_option linter.unusedVariables false
set_option maxRecDepth 100000
namespace Mine

/-- the record of the def number i -/
def drec (i : Nat) : DefRec := match dfn i with
  | .FunctionDef name a b _ _ _ sc _ _ pos => ⟨name, a, b, sc, pos⟩
  | _ => ⟨"", ⟨[], [], none, [], [], none, []⟩, [], { kind := .function, names := [], isGenerator := false, isCoroutine := false, more := [] }, ⟨0, 0, 0, 0⟩⟩

section
variable {p : Program} {loose : List Str} {mean : ExcName → Option Value} {mg mb : Str → Option Value} {h : Heap}
theorem def_at (T : Top p loose mean mg mb h) {i : Nat} (hi : drec i ∈ recsOf p) (h1 : (drec i).params = dArgs (dfn i)) (h2 : (drec i).body = dBody (dfn i)) (h3 : (drec i).scope = dScope (dfn i)) : ∃ a, mg (drec i).name = some (.ref a) ∧ DefAt i a h := by
  obtain ⟨a, o, pm, code, doc, e1, e2, e3, e4⟩ := T.fn _ hi
  refine ⟨a, e1, o, (drec i).name, (drec i).name, doc, pm, none, code, .none, e2, ?_, e4⟩
  rw [e3, h1, h2, h3]
  rfl

def defNos : List Nat := [1, 3, 5, 6, 7, 8, 9, 10]
def freeOf (p : Program) (loose : List Str) (x : Str) : Bool := !startupNames.contains x && !loose.contains x && !((recsOf p).map (·.name)).contains x && !((litsOf p).map (·.1)).contains x && !((clssOf p loose).map (·.name)).contains x
def usedNames : List Str := ["len", "range", "chr", "ord", "sum", "isinstance", "bool"]
theorem mem_of_contains {α : Type} [BEq α] [LawfulBEq α] {l : List α} {x : α} (h : l.contains x = false) : x ∉ l := fun hm => by
  rw [List.contains_iff_mem.mpr hm] at h; cases h
theorem free_none (T : Top p loose mean mg mb h) {x : Str} (hx : freeOf p loose x = true) : mg x = none := by
  simp only [freeOf, Bool.and_eq_true, Bool.not_eq_true'] at hx
  obtain ⟨⟨⟨⟨h1, h2⟩, h3⟩, h4⟩, h5⟩ := hx
  exact T.free x (mem_of_contains h1) (mem_of_contains h2) (mem_of_contains h3) (mem_of_contains h4) (mem_of_contains h5)
theorem base_of (T : Top p loose mean mg mb h) (hr0 : recsOf p = defNos.map drec) (hf : ∀ x ∈ usedNames, freeOf p loose x = true) : ∃ F : Nat → Addr, Base F h ∧ DefAt 10 (F 10) h ∧ mg "law" = some (.ref (F 10)) := by
  have hr : ∀ i ∈ defNos, drec i ∈ recsOf p := fun i hi => hr0 ▸ List.mem_map_of_mem hi
  have ok : ∀ i ∈ defNos, (drec i).params = dArgs (dfn i) ∧ (drec i).body = dBody (dfn i) ∧ (drec i).scope = dScope (dfn i) := by
    intro i hi
    simp only [defNos, List.mem_cons, List.not_mem_nil, or_false] at hi
    rcases hi with rfl | rfl | rfl | rfl | rfl | rfl | rfl | rfl <;> exact ⟨rfl, rfl, rfl⟩
  have ex : ∀ i, ∃ a, i ∈ defNos → mg (drec i).name = some (.ref a) ∧ DefAt i a h := fun i => by
    by_cases hi : i ∈ defNos
    · obtain ⟨a, e, d⟩ := def_at T (hr i hi) (ok i hi).1 (ok i hi).2.1 (ok i hi).2.2
      exact ⟨a, fun _ => ⟨e, d⟩⟩
    · exact ⟨0, fun hm => absurd hm hi⟩
  have nm : ∀ i, i ∈ defNos → mg (drec i).name = some (.ref (Classical.choose (ex i))) ∧ DefAt i (Classical.choose (ex i)) h := fun i hi => Classical.choose_spec (ex i) hi
  have fr : ∀ x ∈ usedNames, mg x = none := fun x hx => free_none T (hf x hx)
  refine ⟨fun i => Classical.choose (ex i), ⟨T.nolimit, ⟨mg, T.g, (nm 1 (by decide)).1, (nm 3 (by decide)).1, (nm 5 (by decide)).1, (nm 6 (by decide)).1, (nm 7 (by decide)).1, (nm 8 (by decide)).1, (nm 9 (by decide)).1⟩, ⟨mg, mb, T.g, T.b, ?_⟩, fun i hi => (nm i ?_).2⟩, (nm 10 (by decide)).2, (nm 10 (by decide)).1⟩
  · have bi : ∀ x : Str, x ≠ "__name__" → mb x = bootBuiltins x := T.builtins
    refine ⟨⟨fr _ (by decide +kernel), ?_⟩, ⟨fr _ (by decide +kernel), ?_⟩, ⟨fr _ (by decide +kernel), ?_⟩, ⟨fr _ (by decide +kernel), ?_⟩, ⟨fr _ (by decide +kernel), ?_⟩, ⟨fr _ (by decide +kernel), ?_⟩, ⟨fr _ (by decide +kernel), ?_⟩⟩
    all_goals (rw [bi _ (by decide +kernel)]; kernel_rfl)
  · simp only [List.mem_cons, List.not_mem_nil, or_false] at hi
    simp only [defNos, List.mem_cons, List.not_mem_nil, or_false]
    omega
end

theorem room_caller : Room callerA 3 := ⟨rfl, by decide +kernel, by decide +kernel⟩

theorem plain_of_well {P : Params} {h : Heap} {v : Value} {d : WData} (hw : Well P h v d) : ∀ a xs, v = .ref a → d = .list xs → ∃ vs : List Value, h.get? a = some { cls := .type "list", data := .seq vs.toArray } := by
  cases hw <;> intro a xs e1 e2 <;> first | (cases e2; done) | (cases e1; done) | skip
  case list hg _ => cases e1; exact ⟨_, hg⟩

theorem end_go {w : World} {s₀ s₁ : Shared} {F : Nat → Addr} {fa a : Addr} {ns : List Int} {us : List Value} {P : Params} (hB : Base F s₁.heap) (hD : DefAt 10 fa s₁.heap) (hg : s₁.gens = #[]) (hL : s₁.heap.IsList a us.toArray) (hI : IntsAre us ns)
    (hw : Well P s₁.heap (.ref a) (ofPy (.list (ns.map PyData.int)))) (hn : ¬ ((63 : Nat) : Int) < ((ns.length : Nat) : Int)) :
    wpAny (model pg w) callerA (call (.ref fa) [.ref a])
      (fun v s' => GoodWG PySem.Challenge.rw_rs0013_01.row.claim (classAt s₀.heap) (ExcName.means s₀.heap) [ofPy (.list (ns.map PyData.int))] s₁ (.ok (.ret v)) s')
      (fun e s' => GoodWG PySem.Challenge.rw_rs0013_01.row.claim (classAt s₀.heap) (ExcName.means s₀.heap) [ofPy (.list (ns.map PyData.int))] s₁ (.error e) s') s₁ := by
  obtain ⟨vs, hv⟩ := plain_of_well hw a _ rfl rfl
  have hvs : vs = us := by
    obtain ⟨o, ho, _, n, hd⟩ := hL
    rw [hv] at ho; cases ho
    cases hd; rfl
  subst hvs
  refine law_go (F := F) (ns := ns) (by omega) room_caller hB hD ⟨a, vs.toArray, rfl, ⟨_, hv⟩, hI⟩ fun s' k => GoodW.toG ?_
  obtain ⟨h', tk, rfl, kk⟩ := k
  refine ⟨.inl ⟨.bool true, .bool true, [], rfl, raisesW_false (fun _ h => nomatch h), .bool true, ?_, fun _ => ⟨.nil, fun _ h => nomatch h⟩⟩, kk, rfl, hg⟩
  exact postW_of rfl rfl (by kernel_rfl)
end Mine
end

open PySem PySem.W PyProof.Rows
set_option maxRecDepth 100000 in
set_option maxHeartbeats 8000000 in
theorem PySem.Challenge.cw_rs0013_01_holds : PySem.Challenge.rw_rs0013_01.Holds := by
  w_on
  o_law
  k_head
  case hw => w_witness2
  intro w s₀ s₁ mg mb G Y fa o pm cd doc dV kV ho hd hcd hD hmg hg args vals as hpre hlay hrd hwl hlo
  refine Ground.open G ?_
  intro T B D TE TW
  obtain ⟨F, hB, hDf, hlaw⟩ := Mine.base_of T (by kernel_rfl) (by decide +kernel)
  have hfa : F 10 = fa := by
    have : mg "law" = some (.ref fa) := hmg
    rw [hlaw] at this
    cases this; rfl
  wrow_args hpre hlay hrd hwl hlo
  all_goals exact Mine.end_go hB (hfa ▸ hDf) hg (by assumption) (by assumption) (by assumption) (by assumption)
