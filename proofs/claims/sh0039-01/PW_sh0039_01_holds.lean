import PyProof.Rows.All
import Wide.All
import Open.Line
import Open.FastT9
import Open.Tree
import OpenK.AllK
import Wide.FinOn
import PySem.Challenge.RW_sh0039_01
set_option Elab.async false
set_option compiler.extract_closed false
set_option linter.all false
section -- HZ
namespace Mine
universe u₀ u₁ u₂ u₃ u₄ u₅ u₆ u₇ u₈
theorem hideG {P : Prop} (h : ∀ G : Prop, (P → G) → G) : P := h P id
theorem ex2 {α0 : Sort u₀} {α1 : Sort u₁} {P : α0 → α1 → Prop} {G : Prop} (e : ∃ x0 x1, P x0 x1) (h : ∀ x0 x1, P x0 x1 → G) : G := Exists.elim e fun x e => Exists.elim e (h x)
theorem ex3 {α0 : Sort u₀} {α1 : Sort u₁} {α2 : Sort u₂} {P : α0 → α1 → α2 → Prop} {G : Prop} (e : ∃ x0 x1 x2, P x0 x1 x2) (h : ∀ x0 x1 x2, P x0 x1 x2 → G) : G := Exists.elim e fun x e => ex2 e (h x)
theorem ex4 {α0 : Sort u₀} {α1 : Sort u₁} {α2 : Sort u₂} {α3 : Sort u₃} {P : α0 → α1 → α2 → α3 → Prop} {G : Prop} (e : ∃ x0 x1 x2 x3, P x0 x1 x2 x3) (h : ∀ x0 x1 x2 x3, P x0 x1 x2 x3 → G) : G := Exists.elim e fun x e => ex3 e (h x)
theorem ex5 {α0 : Sort u₀} {α1 : Sort u₁} {α2 : Sort u₂} {α3 : Sort u₃} {α4 : Sort u₄} {P : α0 → α1 → α2 → α3 → α4 → Prop} {G : Prop} (e : ∃ x0 x1 x2 x3 x4, P x0 x1 x2 x3 x4) (h : ∀ x0 x1 x2 x3 x4, P x0 x1 x2 x3 x4 → G) : G := Exists.elim e fun x e => ex4 e (h x)
theorem ex6 {α0 : Sort u₀} {α1 : Sort u₁} {α2 : Sort u₂} {α3 : Sort u₃} {α4 : Sort u₄} {α5 : Sort u₅} {P : α0 → α1 → α2 → α3 → α4 → α5 → Prop} {G : Prop} (e : ∃ x0 x1 x2 x3 x4 x5, P x0 x1 x2 x3 x4 x5) (h : ∀ x0 x1 x2 x3 x4 x5, P x0 x1 x2 x3 x4 x5 → G) : G := Exists.elim e fun x e => ex5 e (h x)
theorem ex7 {α0 : Sort u₀} {α1 : Sort u₁} {α2 : Sort u₂} {α3 : Sort u₃} {α4 : Sort u₄} {α5 : Sort u₅} {α6 : Sort u₆} {P : α0 → α1 → α2 → α3 → α4 → α5 → α6 → Prop} {G : Prop} (e : ∃ x0 x1 x2 x3 x4 x5 x6, P x0 x1 x2 x3 x4 x5 x6) (h : ∀ x0 x1 x2 x3 x4 x5 x6, P x0 x1 x2 x3 x4 x5 x6 → G) : G := Exists.elim e fun x e => ex6 e (h x)
theorem ex8 {α0 : Sort u₀} {α1 : Sort u₁} {α2 : Sort u₂} {α3 : Sort u₃} {α4 : Sort u₄} {α5 : Sort u₅} {α6 : Sort u₆} {α7 : Sort u₇} {P : α0 → α1 → α2 → α3 → α4 → α5 → α6 → α7 → Prop} {G : Prop} (e : ∃ x0 x1 x2 x3 x4 x5 x6 x7, P x0 x1 x2 x3 x4 x5 x6 x7) (h : ∀ x0 x1 x2 x3 x4 x5 x6 x7, P x0 x1 x2 x3 x4 x5 x6 x7 → G) : G := Exists.elim e fun x e => ex7 e (h x)
theorem ex9 {α0 : Sort u₀} {α1 : Sort u₁} {α2 : Sort u₂} {α3 : Sort u₃} {α4 : Sort u₄} {α5 : Sort u₅} {α6 : Sort u₆} {α7 : Sort u₇} {α8 : Sort u₈} {P : α0 → α1 → α2 → α3 → α4 → α5 → α6 → α7 → α8 → Prop} {G : Prop} (e : ∃ x0 x1 x2 x3 x4 x5 x6 x7 x8, P x0 x1 x2 x3 x4 x5 x6 x7 x8) (h : ∀ x0 x1 x2 x3 x4 x5 x6 x7 x8, P x0 x1 x2 x3 x4 x5 x6 x7 x8 → G) : G := Exists.elim e fun x e => ex8 e (h x)
theorem and3 {a0 a1 a2 G : Prop} (e : a0 ∧ a1 ∧ a2) (h : a0 → a1 → a2 → G) : G := h e.1 e.2.1 e.2.2
theorem and4 {a0 a1 a2 a3 G : Prop} (e : a0 ∧ a1 ∧ a2 ∧ a3) (h : a0 → a1 → a2 → a3 → G) : G := and3 e.2 (h e.1)
theorem and5 {a0 a1 a2 a3 a4 G : Prop} (e : a0 ∧ a1 ∧ a2 ∧ a3 ∧ a4) (h : a0 → a1 → a2 → a3 → a4 → G) : G := and4 e.2 (h e.1)
theorem and6 {a0 a1 a2 a3 a4 a5 G : Prop} (e : a0 ∧ a1 ∧ a2 ∧ a3 ∧ a4 ∧ a5) (h : a0 → a1 → a2 → a3 → a4 → a5 → G) : G := and5 e.2 (h e.1)
theorem and7 {a0 a1 a2 a3 a4 a5 a6 G : Prop} (e : a0 ∧ a1 ∧ a2 ∧ a3 ∧ a4 ∧ a5 ∧ a6) (h : a0 → a1 → a2 → a3 → a4 → a5 → a6 → G) : G := and6 e.2 (h e.1)
theorem and8 {a0 a1 a2 a3 a4 a5 a6 a7 G : Prop} (e : a0 ∧ a1 ∧ a2 ∧ a3 ∧ a4 ∧ a5 ∧ a6 ∧ a7) (h : a0 → a1 → a2 → a3 → a4 → a5 → a6 → a7 → G) : G := and7 e.2 (h e.1)
theorem and9 {a0 a1 a2 a3 a4 a5 a6 a7 a8 G : Prop} (e : a0 ∧ a1 ∧ a2 ∧ a3 ∧ a4 ∧ a5 ∧ a6 ∧ a7 ∧ a8) (h : a0 → a1 → a2 → a3 → a4 → a5 → a6 → a7 → a8 → G) : G := and8 e.2 (h e.1)
theorem and10 {a0 a1 a2 a3 a4 a5 a6 a7 a8 a9 G : Prop} (e : a0 ∧ a1 ∧ a2 ∧ a3 ∧ a4 ∧ a5 ∧ a6 ∧ a7 ∧ a8 ∧ a9) (h : a0 → a1 → a2 → a3 → a4 → a5 → a6 → a7 → a8 → a9 → G) : G := and9 e.2 (h e.1)
theorem and2 {a b G : Prop} (e : a ∧ b) (h : a → b → G) : G := h e.1 e.2
theorem down_ix {n i m : Nat} (h : n - i = m + 1) : i < n ∧ n - 1 - m = i ∧ n - (i + 1) = m ∧ n + 1 - (i + 1) < n + 1 - i := by
  have hlt : i < n := Nat.sub_pos_iff_lt.mp (h ▸ Nat.succ_pos m)
  refine Exists.elim (Nat.exists_eq_add_of_lt hlt) fun k e => ?_
  rw [e, Nat.add_assoc, Nat.add_sub_cancel_left] at h
  have hk : k = m := Nat.succ.inj h
  rw [hk] at e
  refine ⟨hlt, ?_, ?_, ?_⟩
  · rw [e, Nat.add_sub_cancel, Nat.add_sub_cancel]
  · rw [e, Nat.add_right_comm, Nat.add_sub_cancel_left]
  · rw [Nat.add_sub_add_right]; exact Nat.sub_lt_sub_right (Nat.le_of_lt hlt) (Nat.lt_succ_self _)
theorem max_cast (x y : Nat) : max (x : Int) ((y : Int) + 1) = ((max x (y + 1) : Nat) : Int) := by
  cases Nat.le_total x (y + 1) with
  | inl h => rw [Nat.max_eq_right h]; exact Int.max_eq_right (Int.ofNat_le.mpr h)
  | inr h => rw [Nat.max_eq_left h]; exact Int.max_eq_left (Int.ofNat_le.mpr h)
theorem ersh_a {l r : Nat} (h : l = r) : max l (r + 1) = l + 1 := by rw [h]; exact Nat.max_eq_right (Nat.le_succ _)
theorem ersh_b {l r : Nat} (h : l < r) : max r (l + 1) = max l r := (Nat.max_eq_left h).trans (Nat.max_eq_right (Nat.le_of_lt h)).symm
theorem ersh_c {l r : Nat} (h : ¬ l = r) (h' : ¬ l < r) : max l (r + 1) = max l r := (Nat.max_eq_left (Nat.lt_of_le_of_ne (Nat.le_of_not_lt h') (Ne.symm h))).trans (Nat.max_eq_left (Nat.le_of_not_lt h')).symm
theorem ge_one {l r x y : Nat} (a : l ≤ x) (b : r ≤ y) : (if l = r then l + 1 else max l r) ≤ max x (y + 1) := by
  split
  · rename_i h; exact Nat.le_trans (Nat.succ_le_succ (h ▸ b)) (Nat.le_max_right ..)
  · exact Nat.max_le.mpr ⟨Nat.le_trans a (Nat.le_max_left ..), Nat.le_trans (Nat.le_succ_of_le b) (Nat.le_max_right ..)⟩
theorem ge_two {l r x y : Nat} (a : l ≤ x) (b : r ≤ y) : (if l = r then l + 1 else max l r) ≤ max y (x + 1) := by
  split
  · exact Nat.le_trans (Nat.succ_le_succ a) (Nat.le_max_right ..)
  · exact Nat.max_le.mpr ⟨Nat.le_trans (Nat.le_succ_of_le a) (Nat.le_max_right ..), Nat.le_trans b (Nat.le_max_left ..)⟩
theorem le_one {x y L R : Nat} (a : 1 ≤ x ∧ x ≤ L) (b : 1 ≤ y ∧ y ≤ R) : 1 ≤ max x (y + 1) ∧ max x (y + 1) ≤ L + R :=
  ⟨Nat.le_trans a.1 (Nat.le_max_left ..), Nat.max_le.mpr ⟨Nat.le_trans a.2 (Nat.le_add_right ..), Nat.add_comm L R ▸ Nat.add_le_add b.2 (Nat.le_trans a.1 a.2)⟩⟩
theorem le_two {x y L R : Nat} (a : 1 ≤ x ∧ x ≤ L) (b : 1 ≤ y ∧ y ≤ R) : 1 ≤ max y (x + 1) ∧ max y (x + 1) ≤ L + R :=
  Nat.add_comm L R ▸ le_one b a
theorem sub_one_le {L p n : Nat} (h : L - p ≤ n + 1) : L - (p + 1) ≤ n := by rw [Nat.sub_add_eq]; exact Nat.sub_le_of_le_add h
theorem sub_two_le {L p n : Nat} (h : L - p ≤ n + 1) : L - (p + 2) ≤ n := Nat.le_trans (Nat.sub_le_sub_left (Nat.le_succ _) _) (sub_one_le h)
theorem le_toNat {n : Nat} {a : Int} (h : 0 ≤ a) : n ≤ ((n : Int) - a).toNat + a.toNat := by
  refine Exists.elim (Int.eq_ofNat_of_zero_le h) fun k e => ?_
  rw [e, Int.toNat_sub, Int.toNat_natCast]; exact Nat.le_add_of_sub_le (Nat.le_refl _)
theorem sub_dn {n i : Nat} (h : i < n) : n - (i + 1) < n - i := Nat.sub_lt_sub_left h (Nat.lt_succ_self i)
theorem sub_dn1 {n i : Nat} (h : i < n) : n + 1 - (i + 1) < n + 1 - i := Nat.sub_lt_sub_left (Nat.lt_succ_of_lt h) (Nat.lt_succ_self i)
theorem dep2 {a b l r : Nat} (h : a ≤ l) (g : b ≤ r) : max a (max b 0) + 1 ≤ l + r + 1 :=
  Nat.succ_le_succ (Nat.max_le.mpr ⟨Nat.le_trans h (Nat.le_add_right ..), Nat.max_le.mpr ⟨Nat.le_trans g (Nat.le_add_left ..), Nat.zero_le _⟩⟩)
theorem add_sub_of {a r n : Nat} (h : n = r) : a + r - n = a := by rw [h]; exact Nat.add_sub_cancel ..
theorem toNat_max0 (n : Nat) : (max 0 (n : Int)).toNat = n := by rw [Int.max_eq_right (Int.natCast_nonneg n)]; rfl
theorem le_add_sub (n s : Nat) : n ≤ s + (n - s) := by rw [Nat.add_comm]; exact Nat.le_add_of_sub_le (Nat.le_refl _)
theorem le_add_sub1 (n s : Nat) : n ≤ s + (n + 1 - s) := Nat.le_trans (Nat.le_succ n) (le_add_sub (n + 1) s)
theorem toNat_sub11 {x m : Nat} (h : x = m + 2) : ((x : Int) - 1 - 1).toNat = m := by
  rw [h, Int.sub_sub]; exact Int.toNat_sub (m + 2) 2
theorem sub_suc {p c : Nat} (h : p < c) : c - p = c - (p + 1) + 1 := (Nat.sub_add_cancel (Nat.sub_pos_of_lt h)).symm
theorem add_sub_suc (n s : Nat) : s + (n + 1) - (s + 1) = n := by rw [show s + (n + 1) = s + 1 + n from (Nat.add_right_comm s 1 n).symm]; exact Nat.add_sub_cancel_left ..
theorem lt_of_eight {k : Nat} (h : k < 8) : k = 0 ∨ k = 1 ∨ k = 2 ∨ k = 3 ∨ k = 4 ∨ k = 5 ∨ k = 6 ∨ k = 7 := by
  have : ∀ k : Fin 8, k.val = 0 ∨ k.val = 1 ∨ k.val = 2 ∨ k.val = 3 ∨ k.val = 4 ∨ k.val = 5 ∨ k.val = 6 ∨ k.val = 7 := by decide
  exact this ⟨k, h⟩
theorem step_a {n a b : Nat} {z : Int} (h : z ≤ ((n + a : Nat) : Int)) : z ≤ ((n + max a (b + 1) : Nat) : Int) := Int.le_trans h (Int.ofNat_le.mpr (Nat.add_le_add_left (Nat.le_max_left ..) n))
theorem step_b {n a b : Nat} {z : Int} (h : z ≤ ((n + 1 + b : Nat) : Int)) : z ≤ ((n + max a (b + 1) : Nat) : Int) :=
  Int.le_trans h (Int.ofNat_le.mpr (by rw [Nat.add_right_comm]; exact Nat.add_le_add_left (Nat.le_max_right a (b + 1)) n))
theorem step_c {n a b : Nat} (h : b + 1 ≤ a) : n + max a (b + 1) = n + a := by rw [Nat.max_eq_left h]
theorem step_d {n a b : Nat} (h : ¬ b + 1 ≤ a) : n + max a (b + 1) = n + 1 + b := by rw [Nat.max_eq_right (Nat.le_of_not_le h), Nat.add_right_comm]; rfl
theorem peak_a {a b l r : Nat} (h : a ≤ l) (g : b ≤ r) (hl : 1 ≤ l) : max a (b + 1) ≤ l + r :=
  Nat.max_le.mpr ⟨Nat.le_trans h (Nat.le_add_right ..), Nat.add_comm l r ▸ Nat.add_le_add g hl⟩
theorem all2 {α : Type} {P : α → Prop} {a b : α} (ha : P a) (hb : P b) : ∀ q ∈ [a, b], P q := List.forall_mem_cons.2 ⟨ha, List.forall_mem_cons.2 ⟨hb, fun _ q => nomatch q⟩⟩
theorem all3 {α : Type} {P : α → Prop} {a b c : α} (ha : P a) (hb : P b) (hc : P c) : ∀ q ∈ [a, b, c], P q := List.forall_mem_cons.2 ⟨ha, List.forall_mem_cons.2 ⟨hb, List.forall_mem_cons.2 ⟨hc, fun _ q => nomatch q⟩⟩⟩
theorem all4 {α : Type} {P : α → Prop} {a b c d : α} (ha : P a) (hb : P b) (hc : P c) (hd : P d) : ∀ q ∈ [a, b, c, d], P q := List.forall_mem_cons.2 ⟨ha, List.forall_mem_cons.2 ⟨hb, List.forall_mem_cons.2 ⟨hc, List.forall_mem_cons.2 ⟨hd, fun _ q => nomatch q⟩⟩⟩⟩
theorem mem2 {α : Type} {q a b : α} (m : q ∈ [a, b]) : q = a ∨ q = b := by
  simpa only [List.mem_cons, List.not_mem_nil, or_false] using m
theorem mem3 {α : Type} {q a b c : α} (m : q ∈ [a, b, c]) : q = a ∨ q = b ∨ q = c := by
  simpa only [List.mem_cons, List.not_mem_nil, or_false] using m
theorem mem4 {α : Type} {q a b c d : α} (m : q ∈ [a, b, c, d]) : q = a ∨ q = b ∨ q = c ∨ q = d := by
  simpa only [List.mem_cons, List.not_mem_nil, or_false] using m
theorem mem5 {α : Type} {q a b c d e : α} (m : q ∈ [a, b, c, d, e]) : q = a ∨ q = b ∨ q = c ∨ q = d ∨ q = e := by
  simpa only [List.mem_cons, List.not_mem_nil, or_false] using m
end Mine
end
local macro_rules | `(tactic| omega) => `(tactic| ((fail_if_success (fail_if_success (omega +splitDisjunctions))); first | lia | omega +splitDisjunctions))
section -- K0
open PySem PySem.W PyProof.Rows
set_option maxRecDepth 100000
namespace Mine
noncomputable def kSt (i : Nat) : Stmt := PySem.Challenge.pw_sh0039_01.main.body.getD i default
noncomputable def kMt (i j : Nat) : Stmt := match kSt i with | .ClassDef (body := b) .. => b.getD j default | s => s
noncomputable def kfA : Stmt → Arguments | .FunctionDef (args := a) .. => a | _ => default
noncomputable def kfB : Stmt → List Stmt | .FunctionDef (body := b) .. => b | _ => default
noncomputable def kfS : Stmt → Scope | .FunctionDef (scope := s) .. => s | _ => default
noncomputable def KHold {α : Type} (_ : α) : Prop := True
noncomputable def kFn (n q : Str) {a : Arguments} {b : List Stmt} {s : Scope} (_ : KHold a) (_ : KHold b) (_ : KHold s) (c : List (Str × Addr)) (d m cd : Value) : Obj :=
  ⟨.type "function", .none, .func ⟨n, q, a, .stmts b, s, 3, c, d, .none, .none, m, .none, cd, .none, 0⟩, #[]⟩
noncomputable def kr55 : Obj := by
  have h1 : KHold (kfA (kSt 6)) := trivial
  have h2 : KHold (kfB (kSt 6)) := trivial
  have h3 : KHold (kfS (kSt 6)) := trivial
  conv at h1 => arg 1; whnf
  conv at h2 => arg 1; whnf
  conv at h3 => arg 1; whnf
  exact kFn (.ofString "quotedata") (.ofString "quotedata") h1 h2 h3 [] .none (.str (.ofString "cpy313.smtplib") 289) (.ref 54)
noncomputable def kr62 : Obj := by
  have h1 : KHold (kfA (kSt 8)) := trivial
  have h2 : KHold (kfB (kSt 8)) := trivial
  have h3 : KHold (kfS (kSt 8)) := trivial
  conv at h1 => arg 1; whnf
  conv at h2 => arg 1; whnf
  conv at h3 => arg 1; whnf
  exact kFn (.ofString "_iter_escaped_chars") (.ofString "_iter_escaped_chars") h1 h2 h3 [] .none (.str (.ofString "cpy313.email.utils") 358) (.ref 61)
noncomputable def kr69 : Obj := by
  have h1 : KHold (kfA (kSt 9)) := trivial
  have h2 : KHold (kfB (kSt 9)) := trivial
  have h3 : KHold (kfS (kSt 9)) := trivial
  conv at h1 => arg 1; whnf
  conv at h2 => arg 1; whnf
  conv at h3 => arg 1; whnf
  exact kFn (.ofString "_strip_quoted_realnames") (.ofString "_strip_quoted_realnames") h1 h2 h3 [] .none (.str (.ofString "cpy313.email.utils") 358) (.ref 68)
noncomputable def kr76 : Obj := by
  have h1 : KHold (kfA (kSt 10)) := trivial
  have h2 : KHold (kfB (kSt 10)) := trivial
  have h3 : KHold (kfS (kSt 10)) := trivial
  conv at h1 => arg 1; whnf
  conv at h2 => arg 1; whnf
  conv at h3 => arg 1; whnf
  exact kFn (.ofString "_check_parenthesis") (.ofString "_check_parenthesis") h1 h2 h3 [] .none (.str (.ofString "cpy313.email.utils") 358) (.ref 75)
noncomputable def kr94 : Obj := by
  have h1 : KHold (kfA (kSt 13)) := trivial
  have h2 : KHold (kfB (kSt 13)) := trivial
  have h3 : KHold (kfS (kSt 13)) := trivial
  conv at h1 => arg 1; whnf
  conv at h2 => arg 1; whnf
  conv at h3 => arg 1; whnf
  exact kFn (.ofString "in_table_b1") (.ofString "in_table_b1") h1 h2 h3 [] .none (.str (.ofString "cpy313.stringprep") 392) (.ref 93)
noncomputable def kr119 : Obj := by
  have h1 : KHold (kfA (kMt 17 0)) := trivial
  have h2 : KHold (kfB (kMt 17 0)) := trivial
  have h3 : KHold (kfS (kMt 17 0)) := trivial
  conv at h1 => arg 1; whnf
  conv at h2 => arg 1; whnf
  conv at h3 => arg 1; whnf
  exact kFn (.ofString "__init__") (.ofString "Headers.__init__") h1 h2 h3 [] (.ref 112) (.str (.ofString "cpy313.wsgiref.headers") 461) (.ref 118)
noncomputable def kr126 : Obj := by
  have h1 : KHold (kfA (kMt 17 1)) := trivial
  have h2 : KHold (kfB (kMt 17 1)) := trivial
  have h3 : KHold (kfS (kMt 17 1)) := trivial
  conv at h1 => arg 1; whnf
  conv at h2 => arg 1; whnf
  conv at h3 => arg 1; whnf
  exact kFn (.ofString "_convert_string_type") (.ofString "Headers._convert_string_type") h1 h2 h3 [] .none (.str (.ofString "cpy313.wsgiref.headers") 461) (.ref 125)
noncomputable def kr145 : Obj := by
  have h1 : KHold (kfA (kMt 17 4)) := trivial
  have h2 : KHold (kfB (kMt 17 4)) := trivial
  have h3 : KHold (kfS (kMt 17 4)) := trivial
  conv at h1 => arg 1; whnf
  conv at h2 => arg 1; whnf
  conv at h3 => arg 1; whnf
  exact kFn (.ofString "__delitem__") (.ofString "Headers.__delitem__") h1 h2 h3 [] .none (.str (.ofString "cpy313.wsgiref.headers") 461) (.ref 144)
noncomputable def kr174 : Obj := by
  have h1 : KHold (kfA (kMt 17 8)) := trivial
  have h2 : KHold (kfB (kMt 17 8)) := trivial
  have h3 : KHold (kfS (kMt 17 8)) := trivial
  conv at h1 => arg 1; whnf
  conv at h2 => arg 1; whnf
  conv at h3 => arg 1; whnf
  exact kFn (.ofString "get") (.ofString "Headers.get") h1 h2 h3 [] (.ref 167) (.str (.ofString "cpy313.wsgiref.headers") 461) (.ref 173)
noncomputable def kr179 : Obj := by
  have h1 : KHold (kfA (kMt 17 9)) := trivial
  have h2 : KHold (kfB (kMt 17 9)) := trivial
  have h3 : KHold (kfS (kMt 17 9)) := trivial
  conv at h1 => arg 1; whnf
  conv at h2 => arg 1; whnf
  conv at h3 => arg 1; whnf
  exact kFn (.ofString "keys") (.ofString "Headers.keys") h1 h2 h3 [] .none (.str (.ofString "cpy313.wsgiref.headers") 461) (.ref 178)
noncomputable def kr191 : Obj := by
  have h1 : KHold (kfA (kMt 17 11)) := trivial
  have h2 : KHold (kfB (kMt 17 11)) := trivial
  have h3 : KHold (kfS (kMt 17 11)) := trivial
  conv at h1 => arg 1; whnf
  conv at h2 => arg 1; whnf
  conv at h3 => arg 1; whnf
  exact kFn (.ofString "items") (.ofString "Headers.items") h1 h2 h3 [] .none (.str (.ofString "cpy313.wsgiref.headers") 461) (.ref 190)
noncomputable def kr217 : Obj := by
  have h1 : KHold (kfA (kMt 17 15)) := trivial
  have h2 : KHold (kfB (kMt 17 15)) := trivial
  have h3 : KHold (kfS (kMt 17 15)) := trivial
  conv at h1 => arg 1; whnf
  conv at h2 => arg 1; whnf
  conv at h3 => arg 1; whnf
  exact kFn (.ofString "setdefault") (.ofString "Headers.setdefault") h1 h2 h3 [] .none (.str (.ofString "cpy313.wsgiref.headers") 461) (.ref 216)
noncomputable def kr238 : Obj := by
  have h1 : KHold (kfA (kSt 19)) := trivial
  have h2 : KHold (kfB (kSt 19)) := trivial
  have h3 : KHold (kfS (kSt 19)) := trivial
  conv at h1 => arg 1; whnf
  conv at h2 => arg 1; whnf
  conv at h3 => arg 1; whnf
  exact kFn (.ofString "_law_tree") (.ofString "_law_tree") h1 h2 h3 [] .none (.str (.ofString "law_sh0039_01") 680) (.ref 237)
noncomputable def kr245 : Obj := by
  have h1 : KHold (kfA (kSt 20)) := trivial
  have h2 : KHold (kfB (kSt 20)) := trivial
  have h3 : KHold (kfS (kSt 20)) := trivial
  conv at h1 => arg 1; whnf
  conv at h2 => arg 1; whnf
  conv at h3 => arg 1; whnf
  exact kFn (.ofString "_law_write") (.ofString "_law_write") h1 h2 h3 [] .none (.str (.ofString "law_sh0039_01") 680) (.ref 244)
noncomputable def kr252 : Obj := by
  have h1 : KHold (kfA (kSt 21)) := trivial
  have h2 : KHold (kfB (kSt 21)) := trivial
  have h3 : KHold (kfS (kSt 21)) := trivial
  conv at h1 => arg 1; whnf
  conv at h2 => arg 1; whnf
  conv at h3 => arg 1; whnf
  exact kFn (.ofString "_law_typed") (.ofString "_law_typed") h1 h2 h3 [] .none (.str (.ofString "law_sh0039_01") 680) (.ref 251)
noncomputable def kr259 : Obj := by
  have h1 : KHold (kfA (kSt 22)) := trivial
  have h2 : KHold (kfB (kSt 22)) := trivial
  have h3 : KHold (kfS (kSt 22)) := trivial
  conv at h1 => arg 1; whnf
  conv at h2 => arg 1; whnf
  conv at h3 => arg 1; whnf
  exact kFn (.ofString "_law_read") (.ofString "_law_read") h1 h2 h3 [] .none (.str (.ofString "law_sh0039_01") 680) (.ref 258)
noncomputable def kr266 : Obj := by
  have h1 : KHold (kfA (kSt 23)) := trivial
  have h2 : KHold (kfB (kSt 23)) := trivial
  have h3 : KHold (kfS (kSt 23)) := trivial
  conv at h1 => arg 1; whnf
  conv at h2 => arg 1; whnf
  conv at h3 => arg 1; whnf
  exact kFn (.ofString "_law_plan") (.ofString "_law_plan") h1 h2 h3 [] .none (.str (.ofString "law_sh0039_01") 680) (.ref 265)
noncomputable def kr271 : Obj := by
  have h1 : KHold (kfA (kSt 24)) := trivial
  have h2 : KHold (kfB (kSt 24)) := trivial
  have h3 : KHold (kfS (kSt 24)) := trivial
  conv at h1 => arg 1; whnf
  conv at h2 => arg 1; whnf
  conv at h3 => arg 1; whnf
  exact kFn (.ofString "_law_lay") (.ofString "_law_lay") h1 h2 h3 [] .none (.str (.ofString "law_sh0039_01") 680) (.ref 270)
noncomputable def kr276 : Obj := by
  have h1 : KHold (kfA (kSt 25)) := trivial
  have h2 : KHold (kfB (kSt 25)) := trivial
  have h3 : KHold (kfS (kSt 25)) := trivial
  conv at h1 => arg 1; whnf
  conv at h2 => arg 1; whnf
  conv at h3 => arg 1; whnf
  exact kFn (.ofString "_law_work") (.ofString "_law_work") h1 h2 h3 [] .none (.str (.ofString "law_sh0039_01") 680) (.ref 275)
noncomputable def kr283 : Obj := by
  have h1 : KHold (kfA (kSt 26)) := trivial
  have h2 : KHold (kfB (kSt 26)) := trivial
  have h3 : KHold (kfS (kSt 26)) := trivial
  conv at h1 => arg 1; whnf
  conv at h2 => arg 1; whnf
  conv at h3 => arg 1; whnf
  exact kFn (.ofString "_law_run") (.ofString "_law_run") h1 h2 h3 [] .none (.str (.ofString "law_sh0039_01") 680) (.ref 282)
noncomputable def kr288 : Obj := by
  have h1 : KHold (kfA (kSt 27)) := trivial
  have h2 : KHold (kfB (kSt 27)) := trivial
  have h3 : KHold (kfS (kSt 27)) := trivial
  conv at h1 => arg 1; whnf
  conv at h2 => arg 1; whnf
  conv at h3 => arg 1; whnf
  exact kFn (.ofString "_law_all") (.ofString "_law_all") h1 h2 h3 [] .none (.str (.ofString "law_sh0039_01") 680) (.ref 287)
noncomputable def kr295 : Obj := by
  have h1 : KHold (kfA (kSt 28)) := trivial
  have h2 : KHold (kfB (kSt 28)) := trivial
  have h3 : KHold (kfS (kSt 28)) := trivial
  conv at h1 => arg 1; whnf
  conv at h2 => arg 1; whnf
  conv at h3 => arg 1; whnf
  exact kFn (.ofString "_law_late") (.ofString "_law_late") h1 h2 h3 [] .none (.str (.ofString "law_sh0039_01") 680) (.ref 294)
noncomputable def kr300 : Obj := by
  have h1 : KHold (kfA (kSt 29)) := trivial
  have h2 : KHold (kfB (kSt 29)) := trivial
  have h3 : KHold (kfS (kSt 29)) := trivial
  conv at h1 => arg 1; whnf
  conv at h2 => arg 1; whnf
  conv at h3 => arg 1; whnf
  exact kFn (.ofString "law") (.ofString "law") h1 h2 h3 [] .none (.str (.ofString "law_sh0039_01") 680) (.ref 299)
noncomputable def KX : Params → Frag := fun P => (nat_lit 2, ⟨.none, .none, (.dict #[⟨(PyData.keyHash P (.ofString "\x69mport.loaded._sre")), (.str (.ofString "\x69mport.loaded._sre") 183), (.bool true)⟩, ⟨(PyData.keyHash P (.ofString "class._frozen_importlib.BuiltinImporter")), (.str (.ofString "class._frozen_importlib.BuiltinImporter") 185), (.ref 14)⟩, ⟨(PyData.keyHash P (.ofString "watched.\x69mport")), (.str (.ofString "watched.\x69mport") 206), (.ref 18)⟩, ⟨(PyData.keyHash P (.ofString "class._frozen_importlib.ModuleSpec")), (.str (.ofString "class._frozen_importlib.ModuleSpec") 216), (.ref 22)⟩, ⟨(PyData.keyHash P (.ofString "sys.modules.booked-epoch")), (.str (.ofString "sys.modules.booked-epoch") 245), (.int 3 0)⟩, ⟨(PyData.keyHash P (.ofString "\x69mport.later-laid._sre")), (.str (.ofString "\x69mport.later-laid._sre") 270), (.bool true)⟩, ⟨(PyData.keyHash P (.ofString "watched.library")), (.str (.ofString "watched.library") 272), (.ref 27)⟩, ⟨(PyData.keyHash P (.ofString "watched.library-objects")), (.str (.ofString "watched.library-objects") 0), (.str (.ofString "\x0c") 0)⟩, ⟨(PyData.keyHash P (.ofString "watched.library-deep._sre")), (.str (.ofString "watched.library-deep._sre") 273), (.str (.ofString "\x04\x00\x00\x0b\x04\x00\x00\x0b\x04\x00\x00\x03\x04\x00\x00\x0b\x08\x04dict\x02") 0)⟩] 9), #[]⟩) ::
  (nat_lit 3, ⟨(.type "dict"), .none, (.dict #[⟨(PyData.keyHash P (.ofString "__name__")), (.str (.ofString "__name__") 165), (.str (.ofString "law_sh0039_01") 680)⟩, ⟨(PyData.keyHash P (.ofString "__doc__")), (.str (.ofString "__doc__") 166), .none⟩, ⟨(PyData.keyHash P (.ofString "__package__")), (.str (.ofString "__package__") 167), .none⟩, ⟨(PyData.keyHash P (.ofString "__loader__")), (.str (.ofString "__loader__") 168), (.builtin "__main__.__loader__#opaque")⟩, ⟨(PyData.keyHash P (.ofString "__spec__")), (.str (.ofString "__spec__") 169), .none⟩, ⟨(PyData.keyHash P (.ofString "__annotations__")), (.str (.ofString "__annotations__") 170), (.ref 6)⟩, ⟨(PyData.keyHash P (.ofString "__builtins__")), (.str (.ofString "__builtins__") 171), (.ref 4)⟩, ⟨(PyData.keyHash P (.ofString "__file__")), (.str (.ofString "__file__") 173), (.str (.ofString "/claim/cut.py") 172)⟩, ⟨(PyData.keyHash P (.ofString "__cached__")), (.str (.ofString "__cached__") 174), .none⟩, ⟨(PyData.keyHash P (.ofString "_sre")), (.str (.ofString "_sre") 275), (.ref 12)⟩, ⟨(PyData.keyHash P (.ofString "_wall")), (.str (.ofString "_wall") 288), (.ref 38)⟩, ⟨(PyData.keyHash P (.ofString "_twin_re_1")), (.str (.ofString "_twin_re_1") 306), (.ref 43)⟩, ⟨(PyData.keyHash P (.ofString "_twin_re_2")), (.str (.ofString "_twin_re_2") 348), (.ref 48)⟩, ⟨(PyData.keyHash P (.ofString "CRLF")), (.str (.ofString "CRLF") 350), (.str (.ofString "\r\n") 349)⟩, ⟨(PyData.keyHash P (.ofString "quotedata")), (.str (.ofString "quotedata") 357), (.ref 55)⟩, ⟨(PyData.keyHash P (.ofString "_iter_escaped_chars")), (.str (.ofString "_iter_escaped_chars") 369), (.ref 62)⟩, ⟨(PyData.keyHash P (.ofString "_strip_quoted_realnames")), (.str (.ofString "_strip_quoted_realnames") 381), (.ref 69)⟩, ⟨(PyData.keyHash P (.ofString "_check_parenthesis")), (.str (.ofString "_check_parenthesis") 391), (.ref 76)⟩, ⟨(PyData.keyHash P (.ofString "b1_set")), (.str (.ofString "b1_set") 453), (.ref 84)⟩, ⟨(PyData.keyHash P (.ofString "in_table_b1")), (.str (.ofString "in_table_b1") 460), (.ref 94)⟩, ⟨(PyData.keyHash P (.ofString "_name_disallowed_re")), (.str (.ofString "_name_disallowed_re") 488), (.ref 99)⟩, ⟨(PyData.keyHash P (.ofString "_value_disallowed_re")), (.str (.ofString "_value_disallowed_re") 522), (.ref 104)⟩, ⟨(PyData.keyHash P (.ofString "Headers")), (.str (.ofString "Headers") 679), (.ref 227)⟩, ⟨(PyData.keyHash P (.ofString "_law_tree")), (.str (.ofString "_law_tree") 694), (.ref 238)⟩, ⟨(PyData.keyHash P (.ofString "_law_write")), (.str (.ofString "_law_write") 701), (.ref 245)⟩, ⟨(PyData.keyHash P (.ofString "_law_typed")), (.str (.ofString "_law_typed") 716), (.ref 252)⟩, ⟨(PyData.keyHash P (.ofString "_law_read")), (.str (.ofString "_law_read") 725), (.ref 259)⟩, ⟨(PyData.keyHash P (.ofString "_law_plan")), (.str (.ofString "_law_plan") 735), (.ref 266)⟩, ⟨(PyData.keyHash P (.ofString "_law_lay")), (.str (.ofString "_law_lay") 741), (.ref 271)⟩, ⟨(PyData.keyHash P (.ofString "_law_work")), (.str (.ofString "_law_work") 747), (.ref 276)⟩, ⟨(PyData.keyHash P (.ofString "_law_run")), (.str (.ofString "_law_run") 757), (.ref 283)⟩, ⟨(PyData.keyHash P (.ofString "_law_all")), (.str (.ofString "_law_all") 763), (.ref 288)⟩, ⟨(PyData.keyHash P (.ofString "_law_late")), (.str (.ofString "_law_late") 772), (.ref 295)⟩, ⟨(PyData.keyHash P (.ofString "law")), (.str (.ofString "law") 778), (.ref 300)⟩] 34), #[]⟩) ::
  (nat_lit 42, ⟨(.type "tuple"), .none, (.seq #[(.int 14 0), (.int 4 0), (.int 0 0), (.int 1 0), (.int 1 0), (.int 6 0), (.int 1 0), (.int 16 0), (.int 46 0), (.int 1 0)] 0), #[]⟩) ::
  (nat_lit 43, ⟨(.type "re.Pattern"), .none, (.fields #[(.str (.ofString "(?m)^\\.") 292), (.int 40 305), (.int 0 0), .none, .none, (.ref 42), (.int 0 0)]), #[]⟩) ::
  (nat_lit 47, ⟨(.type "tuple"), .none, (.seq #[(.int 14 0), (.int 9 0), (.int 4 0), (.int 1 0), (.int 2 0), (.int 16 0), (.int 10 0), (.int 16 0), (.int 13 0), (.int 0 0), (.int 7 0), (.int 7 0), (.int 16 0), (.int 13 0), (.int 16 0), (.int 10 0), (.int 15 0), (.int 18 0), (.int 5 0), (.int 16 0), (.int 10 0), (.int 15 0), (.int 13 0), (.int 11 0), (.int 16 0), (.int 13 0), (.int 5 0), (.int 5 0), (.int 0 0), (.int 16 0), (.int 10 0), (.int 1 0), (.int 15 0), (.int 2 0), (.int 0 0), (.int 1 0)] 0), #[]⟩) ::
  (nat_lit 48, ⟨(.type "re.Pattern"), .none, (.fields #[(.str (.ofString "(?:\\r\\n|\\n|\\r(?!\\n))") 308), (.int 32 347), (.int 0 0), .none, .none, (.ref 47), (.int 0 0)]), #[]⟩) ::
  (nat_lit 54, ⟨(.type "code"), .none, (.fields #[(.str (.ofString "quotedata") 351), (.str (.ofString "quotedata") 352), (.str (.ofString "/claim/cut.py") 353), (.int 9 0), (.int 1 0), (.int 0 0), (.int 0 0), (.int 3 0), (.ref 49), (.bool true), (.int 276 0), (.ref 50), .none, (.ref 51), (.ref 52), (.ref 53), (.int 355 0), (.int 9 0), (.str (.ofString "/claim/cut.py") 356)]), #[]⟩) ::
  (nat_lit 55, kr55) ::
  (nat_lit 61, ⟨(.type "code"), .none, (.fields #[(.str (.ofString "_iter_escaped_chars") 360), (.str (.ofString "_iter_escaped_chars") 361), (.str (.ofString "/claim/cut.py") 362), (.int 12 0), (.int 1 0), (.int 0 0), (.int 0 0), (.int 35 0), (.ref 56), (.bool true), (.int 276 0), (.ref 57), .none, (.ref 58), (.ref 59), (.ref 60), (.int 367 0), (.int 12 0), (.str (.ofString "/claim/cut.py") 368)]), #[]⟩) ::
  (nat_lit 62, kr62) ::
  (nat_lit 68, ⟨(.type "code"), .none, (.fields #[(.str (.ofString "_strip_quoted_realnames") 370), (.str (.ofString "_strip_quoted_realnames") 371), (.str (.ofString "/claim/cut.py") 372), (.int 25 0), (.int 1 0), (.int 0 0), (.int 0 0), (.int 3 0), (.ref 63), (.bool true), (.int 276 0), (.ref 64), .none, (.ref 65), (.ref 66), (.ref 67), (.int 379 0), (.int 25 0), (.str (.ofString "/claim/cut.py") 380)]), #[]⟩) ::
  (nat_lit 69, kr69) ::
  (nat_lit 75, ⟨(.type "code"), .none, (.fields #[(.str (.ofString "_check_parenthesis") 382), (.str (.ofString "_check_parenthesis") 383), (.str (.ofString "/claim/cut.py") 384), (.int 43 0), (.int 1 0), (.int 0 0), (.int 0 0), (.int 3 0), (.ref 70), (.bool true), (.int 276 0), (.ref 71), .none, (.ref 72), (.ref 73), (.ref 74), (.int 389 0), (.int 43 0), (.str (.ofString "/claim/cut.py") 390)]), #[]⟩) ::
  (nat_lit 76, kr76) ::
  (nat_lit 93, ⟨(.type "code"), .none, (.fields #[(.str (.ofString "in_table_b1") 454), (.str (.ofString "in_table_b1") 455), (.str (.ofString "/claim/cut.py") 456), (.int 56 0), (.int 1 0), (.int 0 0), (.int 0 0), (.int 3 0), (.ref 88), (.bool true), (.int 276 0), (.ref 89), .none, (.ref 90), (.ref 91), (.ref 92), (.int 458 0), (.int 56 0), (.str (.ofString "/claim/cut.py") 459)]), #[]⟩) ::
  (nat_lit 94, kr94) ::
  (nat_lit 98, ⟨(.type "tuple"), .none, (.seq #[(.int 14 0), (.int 10 0), (.int 4 0), (.int 1 0), (.int 1 0), (.int 22 0), (.int 0 0), (.int 31 0), (.int 16 0), (.int 127 0), (.int 0 0), (.int 13 0), (.int 7 0), (.int 22 0), (.int 0 0), (.int 31 0), (.int 16 0), (.int 127 0), (.int 0 0), (.int 1 0)] 0), #[]⟩) ::
  (nat_lit 99, ⟨(.type "re.Pattern"), .none, (.fields #[(.str (.ofString "[\\x00-\\x1F\\x7F]") 464), (.int 32 487), (.int 0 0), .none, .none, (.ref 98), (.int 0 0)]), #[]⟩) ::
  (nat_lit 103, ⟨(.type "tuple"), .none, (.seq #[(.int 14 0), (.int 14 0), (.int 4 0), (.int 1 0), (.int 1 0), (.int 9 0), (.int 4294966783 0), (.int 0 0), (.int 0 0), (.int 2147483648 0), (.int 0 0), (.int 0 0), (.int 0 0), (.int 0 0), (.int 0 0), (.int 13 0), (.int 11 0), (.int 9 0), (.int 4294966783 0), (.int 0 0), (.int 0 0), (.int 2147483648 0), (.int 0 0), (.int 0 0), (.int 0 0), (.int 0 0), (.int 0 0), (.int 1 0)] 0), #[]⟩) ::
  (nat_lit 104, ⟨(.type "re.Pattern"), .none, (.fields #[(.str (.ofString "[\\x00-\\x08\\x0A-\\x1F\\x7F]") 490), (.int 32 521), (.int 0 0), .none, .none, (.ref 103), (.int 0 0)]), #[]⟩) ::
  (nat_lit 112, ⟨(.type "tuple"), .none, (.seq #[.none] 0), #[]⟩) ::
  (nat_lit 118, ⟨(.type "code"), .none, (.fields #[(.str (.ofString "__init__") 535), (.str (.ofString "Headers.__init__") 536), (.str (.ofString "/claim/cut.py") 537), (.int 63 0), (.int 2 0), (.int 0 0), (.int 0 0), (.int 3 0), (.ref 113), (.bool true), (.int 276 0), (.ref 114), .none, (.ref 115), (.ref 116), (.ref 117), (.int 542 0), (.int 63 0), (.str (.ofString "/claim/cut.py") 543)]), #[]⟩) ::
  (nat_lit 119, kr119) ::
  (nat_lit 125, ⟨(.type "code"), .none, (.fields #[(.str (.ofString "_convert_string_type") 545), (.str (.ofString "Headers._convert_string_type") 546), (.str (.ofString "/claim/cut.py") 547), (.int 73 0), (.int 2 0), (.int 0 0), (.int 1 0), (.int 3 0), (.ref 120), (.bool true), (.int 276 0), (.ref 121), .none, (.ref 122), (.ref 123), (.ref 124), (.int 552 0), (.int 73 0), (.str (.ofString "/claim/cut.py") 553)]), #[]⟩) ::
  (nat_lit 126, kr126) ::
  (nat_lit 144, ⟨(.type "code"), .none, (.fields #[(.str (.ofString "__delitem__") 571), (.str (.ofString "Headers.__delitem__") 572), (.str (.ofString "/claim/cut.py") 573), (.int 88 0), (.int 2 0), (.int 0 0), (.int 0 0), (.int 3 0), (.ref 141), (.bool true), (.int 276 0), (.ref 142), .none, .none, .none, (.ref 143), (.int 574 0), (.int 88 0), (.str (.ofString "/claim/cut.py") 575)]), #[]⟩) ::
  (nat_lit 145, kr145) ::
  (nat_lit 167, ⟨(.type "tuple"), .none, (.seq #[.none] 0), #[]⟩) ::
  (nat_lit 173, ⟨(.type "code"), .none, (.fields #[(.str (.ofString "get") 601), (.str (.ofString "Headers.get") 602), (.str (.ofString "/claim/cut.py") 603), (.int 101 0), (.int 3 0), (.int 0 0), (.int 0 0), (.int 3 0), (.ref 168), (.bool true), (.int 276 0), (.ref 169), .none, (.ref 170), (.ref 171), (.ref 172), (.int 609 0), (.int 101 0), (.str (.ofString "/claim/cut.py") 610)]), #[]⟩) ::
  (nat_lit 174, kr174) ::
  (nat_lit 178, ⟨(.type "code"), .none, (.fields #[(.str (.ofString "keys") 612), (.str (.ofString "Headers.keys") 613), (.str (.ofString "/claim/cut.py") 614), (.int 108 0), (.int 1 0), (.int 0 0), (.int 0 0), (.int 3 0), (.ref 175), (.bool true), (.int 276 0), (.ref 176), .none, .none, .none, (.ref 177), (.int 615 0), (.int 108 0), (.str (.ofString "/claim/cut.py") 616)]), #[]⟩) ::
  (nat_lit 179, kr179) ::
  (nat_lit 190, ⟨(.type "code"), .none, (.fields #[(.str (.ofString "items") 624), (.str (.ofString "Headers.items") 625), (.str (.ofString "/claim/cut.py") 626), (.int 114 0), (.int 1 0), (.int 0 0), (.int 0 0), (.int 3 0), (.ref 185), (.bool true), (.int 276 0), (.ref 186), .none, (.ref 187), (.ref 188), (.ref 189), (.int 628 0), (.int 114 0), (.str (.ofString "/claim/cut.py") 629)]), #[]⟩) ::
  (nat_lit 191, kr191) ::
  (nat_lit 216, ⟨(.type "code"), .none, (.fields #[(.str (.ofString "setdefault") 651), (.str (.ofString "Headers.setdefault") 652), (.str (.ofString "/claim/cut.py") 653), (.int 126 0), (.int 3 0), (.int 0 0), (.int 0 0), (.int 3 0), (.ref 211), (.bool true), (.int 276 0), (.ref 212), .none, (.ref 213), (.ref 214), (.ref 215), (.int 658 0), (.int 126 0), (.str (.ofString "/claim/cut.py") 659)]), #[]⟩) ::
  (nat_lit 217, kr217) ::
  (nat_lit 226, ⟨(.type "dict"), .none, (.dict #[⟨(PyData.keyHash P (.ofString "__module__")), (.str (.ofString "__module__") 530), (.str (.ofString "cpy313.wsgiref.headers") 461)⟩, ⟨(PyData.keyHash P (.ofString "__firstlineno__")), (.str (.ofString "__firstlineno__") 534), (.int 61 533)⟩, ⟨(PyData.keyHash P (.ofString "__init__")), (.str (.ofString "__init__") 544), (.ref 119)⟩, ⟨(PyData.keyHash P (.ofString "_convert_string_type")), (.str (.ofString "_convert_string_type") 554), (.ref 126)⟩, ⟨(PyData.keyHash P (.ofString "__len__")), (.str (.ofString "__len__") 561), (.ref 133)⟩, ⟨(PyData.keyHash P (.ofString "__setitem__")), (.str (.ofString "__setitem__") 570), (.ref 140)⟩, ⟨(PyData.keyHash P (.ofString "__delitem__")), (.str (.ofString "__delitem__") 576), (.ref 145)⟩, ⟨(PyData.keyHash P (.ofString "__getitem__")), (.str (.ofString "__getitem__") 584), (.ref 152)⟩, ⟨(PyData.keyHash P (.ofString "__contains__")), (.str (.ofString "__contains__") 592), (.ref 159)⟩, ⟨(PyData.keyHash P (.ofString "get_all")), (.str (.ofString "get_all") 600), (.ref 166)⟩, ⟨(PyData.keyHash P (.ofString "get")), (.str (.ofString "get") 611), (.ref 174)⟩, ⟨(PyData.keyHash P (.ofString "keys")), (.str (.ofString "keys") 617), (.ref 179)⟩, ⟨(PyData.keyHash P (.ofString "values")), (.str (.ofString "values") 623), (.ref 184)⟩, ⟨(PyData.keyHash P (.ofString "items")), (.str (.ofString "items") 630), (.ref 191)⟩, ⟨(PyData.keyHash P (.ofString "__repr__")), (.str (.ofString "__repr__") 637), (.ref 198)⟩, ⟨(PyData.keyHash P (.ofString "__str__")), (.str (.ofString "__str__") 643), (.ref 203)⟩, ⟨(PyData.keyHash P (.ofString "__bytes__")), (.str (.ofString "__bytes__") 650), (.ref 210)⟩, ⟨(PyData.keyHash P (.ofString "setdefault")), (.str (.ofString "setdefault") 660), (.ref 217)⟩, ⟨(PyData.keyHash P (.ofString "add_header")), (.str (.ofString "add_header") 670), (.ref 224)⟩, ⟨(PyData.keyHash P (.ofString "__static_attributes__")), (.str (.ofString "__static_attributes__") 672), (.ref 225)⟩, ⟨(PyData.keyHash P (.ofString "__dict__")), (.str (.ofString "__dict__") 674), (.ref 228)⟩, ⟨(PyData.keyHash P (.ofString "__weakref__")), (.str (.ofString "__weakref__") 676), (.ref 229)⟩, ⟨(PyData.keyHash P (.ofString "__doc__")), (.str (.ofString "__doc__") 677), .none⟩] 4), #[]⟩) ::
  (nat_lit 227, ⟨(.type "type"), .none, (.cls ⟨(.ofString "Headers"), [(.type "object")], [(.ref 227), (.type "object")], 226, (.ofString "Headers"), true, [], [], false, .none, false⟩), #[.none, .none, (.some (.str (.ofString "Headers") 523)), (.some (.str (.ofString "Headers") 531)), (.some (.builtin "object.__new__")), (.some (.bool true))]⟩) ::
  (nat_lit 228, ⟨(.type "getset_descriptor"), .none, (.fields #[(.str (.ofString "__dict__") 673), (.ref 227), (.builtin "function.__dict__"), (.builtin "function.__dict__#set")]), #[]⟩) ::
  (nat_lit 229, ⟨(.type "getset_descriptor"), .none, (.fields #[(.str (.ofString "__weakref__") 675), (.ref 227), (.builtin "ExceptionGroup.__weakref__"), .none]), #[]⟩) ::
  (nat_lit 237, ⟨(.type "code"), .none, (.fields #[(.str (.ofString "_law_tree") 682), (.str (.ofString "_law_tree") 683), (.str (.ofString "/claim/cut.py") 684), (.int 137 0), (.int 3 0), (.int 0 0), (.int 0 0), (.int 3 0), (.ref 232), (.bool true), (.int 276 0), (.ref 233), .none, (.ref 234), (.ref 235), (.ref 236), (.int 692 0), (.int 137 0), (.str (.ofString "/claim/cut.py") 693)]), #[]⟩) ::
  (nat_lit 238, kr238) ::
  (nat_lit 244, ⟨(.type "code"), .none, (.fields #[(.str (.ofString "_law_write") 695), (.str (.ofString "_law_write") 696), (.str (.ofString "/claim/cut.py") 697), (.int 148 0), (.int 1 0), (.int 0 0), (.int 0 0), (.int 3 0), (.ref 239), (.bool true), (.int 276 0), (.ref 240), .none, (.ref 241), (.ref 242), (.ref 243), (.int 699 0), (.int 148 0), (.str (.ofString "/claim/cut.py") 700)]), #[]⟩) ::
  (nat_lit 245, kr245) ::
  (nat_lit 251, ⟨(.type "code"), .none, (.fields #[(.str (.ofString "_law_typed") 702), (.str (.ofString "_law_typed") 703), (.str (.ofString "/claim/cut.py") 704), (.int 152 0), (.int 2 0), (.int 0 0), (.int 0 0), (.int 3 0), (.ref 246), (.bool true), (.int 276 0), (.ref 247), .none, (.ref 248), (.ref 249), (.ref 250), (.int 714 0), (.int 152 0), (.str (.ofString "/claim/cut.py") 715)]), #[]⟩) ::
  (nat_lit 252, kr252) ::
  (nat_lit 258, ⟨(.type "code"), .none, (.fields #[(.str (.ofString "_law_read") 717), (.str (.ofString "_law_read") 718), (.str (.ofString "/claim/cut.py") 719), (.int 163 0), (.int 1 0), (.int 0 0), (.int 0 0), (.int 3 0), (.ref 253), (.bool true), (.int 276 0), (.ref 254), .none, (.ref 255), (.ref 256), (.ref 257), (.int 723 0), (.int 163 0), (.str (.ofString "/claim/cut.py") 724)]), #[]⟩) ::
  (nat_lit 259, kr259) ::
  (nat_lit 265, ⟨(.type "code"), .none, (.fields #[(.str (.ofString "_law_plan") 726), (.str (.ofString "_law_plan") 727), (.str (.ofString "/claim/cut.py") 728), (.int 172 0), (.int 1 0), (.int 0 0), (.int 0 0), (.int 3 0), (.ref 260), (.bool true), (.int 276 0), (.ref 261), .none, (.ref 262), (.ref 263), (.ref 264), (.int 733 0), (.int 172 0), (.str (.ofString "/claim/cut.py") 734)]), #[]⟩) ::
  (nat_lit 266, kr266) ::
  (nat_lit 270, ⟨(.type "code"), .none, (.fields #[(.str (.ofString "_law_lay") 736), (.str (.ofString "_law_lay") 737), (.str (.ofString "/claim/cut.py") 738), (.int 179 0), (.int 3 0), (.int 0 0), (.int 0 0), (.int 3 0), (.ref 267), (.bool true), (.int 276 0), (.ref 268), .none, .none, .none, (.ref 269), (.int 739 0), (.int 179 0), (.str (.ofString "/claim/cut.py") 740)]), #[]⟩) ::
  (nat_lit 271, kr271) ::
  (nat_lit 275, ⟨(.type "code"), .none, (.fields #[(.str (.ofString "_law_work") 742), (.str (.ofString "_law_work") 743), (.str (.ofString "/claim/cut.py") 744), (.int 187 0), (.int 4 0), (.int 0 0), (.int 0 0), (.int 3 0), (.ref 272), (.bool true), (.int 276 0), (.ref 273), .none, .none, .none, (.ref 274), (.int 745 0), (.int 187 0), (.str (.ofString "/claim/cut.py") 746)]), #[]⟩) ::
  (nat_lit 276, kr276) ::
  (nat_lit 282, ⟨(.type "code"), .none, (.fields #[(.str (.ofString "_law_run") 748), (.str (.ofString "_law_run") 749), (.str (.ofString "/claim/cut.py") 750), (.int 197 0), (.int 2 0), (.int 0 0), (.int 0 0), (.int 3 0), (.ref 277), (.bool true), (.int 276 0), (.ref 278), .none, (.ref 279), (.ref 280), (.ref 281), (.int 755 0), (.int 197 0), (.str (.ofString "/claim/cut.py") 756)]), #[]⟩) ::
  (nat_lit 283, kr283) ::
  (nat_lit 287, ⟨(.type "code"), .none, (.fields #[(.str (.ofString "_law_all") 758), (.str (.ofString "_law_all") 759), (.str (.ofString "/claim/cut.py") 760), (.int 202 0), (.int 1 0), (.int 0 0), (.int 0 0), (.int 3 0), (.ref 284), (.bool true), (.int 276 0), (.ref 285), .none, .none, .none, (.ref 286), (.int 761 0), (.int 202 0), (.str (.ofString "/claim/cut.py") 762)]), #[]⟩) ::
  (nat_lit 288, kr288) ::
  (nat_lit 294, ⟨(.type "code"), .none, (.fields #[(.str (.ofString "_law_late") 764), (.str (.ofString "_law_late") 765), (.str (.ofString "/claim/cut.py") 766), (.int 207 0), (.int 1 0), (.int 0 0), (.int 0 0), (.int 3 0), (.ref 289), (.bool true), (.int 276 0), (.ref 290), .none, (.ref 291), (.ref 292), (.ref 293), (.int 770 0), (.int 207 0), (.str (.ofString "/claim/cut.py") 771)]), #[]⟩) ::
  (nat_lit 295, kr295) ::
  (nat_lit 299, ⟨(.type "code"), .none, (.fields #[(.str (.ofString "law") 773), (.str (.ofString "law") 774), (.str (.ofString "/claim/cut.py") 775), (.int 212 0), (.int 1 0), (.int 0 0), (.int 0 0), (.int 3 0), (.ref 296), (.bool true), (.int 276 0), (.ref 297), .none, .none, .none, (.ref 298), (.int 776 0), (.int 212 0), (.str (.ofString "/claim/cut.py") 777)]), #[]⟩) ::
  (nat_lit 300, kr300) :: []
noncomputable def kxAs : List Addr := [2, 3, 42, 43, 47, 48, 54, 55, 61, 62, 68, 69, 75, 76, 93, 94, 98, 99, 103, 104, 112, 118, 119, 125, 126, 144, 145, 167, 173, 174, 178, 179, 190, 191, 216, 217, 226, 227, 228, 229, 237, 238, 244, 245, 251, 252, 258, 259, 265, 266, 270, 271, 275, 276, 282, 283, 287, 288, 294, 295, 299, 300]
end Mine
end
section -- MBase
open PySem PySem.W PyProof.Rows
namespace Mine
/-- everything that stood still stands -/
noncomputable def Ext (h h' : Heap) : Prop := ∀ b o, h.get? b = some o → h'.get? b = some o
theorem Ext.refl (h : Heap) : Ext h h := fun _ _ e => e
theorem Ext.trans {h h' h'' : Heap} (a : Ext h h') (b : Ext h' h'') : Ext h h'' := fun x o e => b x o (a x o e)

theorem enter {prog : Program} {w : World} {A : Around} {s : Shared} {K : Frag} {p : Program} {loose : List Str} {mean : ExcName → Option Value} {mg mb : Str → Option Value}
    {name qual : Str} {params : Arguments} {body : List Stmt} {scope : Scope} {dV kV doc pm cdv ct oc : Value} {an od : Option Addr} {osl : Array (Option Value)} {f : Addr} {args : List Value} {binds : List (Str × Value)} {Q E : Value → Shared → Prop}
    (X : K.In s.heap) (T : Top p loose mean mg mb s.heap)
    (ho : K.lookup f = some ⟨oc, od, .func (fnOf name qual params body scope dV kV doc pm an cdv ct), osl⟩) (hcd : codeIn K cdv qual = true) (hroom : A.depth < recursionLimit)
    (hbind : BindsTo s (fnOf name qual params body scope dV kV doc pm an cdv ct) ⟨args, []⟩ binds) (hloc : ∀ y ∈ binds, scope.names.lookup y.1 = some .local)
    (h : ∀ h₁, Fr s.heap s.heap.objs.size h₁ (fun y => binds.reverse.lookup y) → News s.heap s.heap.objs.size h₁ [] → K.In s.heap → Top p loose mean mg mb s.heap →
      wpAny (model prog w) (A.deeper (envOf qual scope s.heap.objs.size f cdv)) (execs body (envOf qual scope s.heap.objs.size f cdv))
        (fun fl s' => Q (match fl with | .ret v => v | _ => .none) s') (fun _ _ => False)
        { s with heap := h₁, toks := s.toks + binds.length })
    (hco : scope.isCoroutine = false) (hgen : scope.isGenerator = false) (hk : scope.kind = .function)
    (hcell : ∀ x ∈ scope.names, x.2 ≠ .cell) : wpAny (model prog w) A (call (.ref f) args) Q E s := by
  refine wpAny_call ?_
  refine codeAny_call_def (fd := fnOf name qual params body scope dV kV doc pm an cdv ct) (body := body) (binds := binds) hroom (X _ _ ho) rfl T.nolimit (codeRec_of X hcd) rfl hbind hcell hloc (fun h₁ hns hk₁ => ?_) hco hgen hk
  refine wpAny_mono (h h₁ ⟨hns, hk₁, Nat.le_refl _⟩ News.nil X T) (fun fl s' q => ?_) (fun _ _ q => q.elim)
  exact q
inductive Tr where
  | leaf (c : Str)
  | node (l r : Tr)
noncomputable def Tr.size : Tr → Nat
  | .leaf _ => 1
  | .node l r => l.size + r.size + 1
inductive TreeAt (h : Heap) : Value → Tr → Prop where
  | leaf {c : Str} {tk : Tok} : TreeAt h (.str c tk) (.leaf c)
  | node {a : Addr} {v₁ v₂ : Value} {l r : Tr} : h.IsList a #[v₁, v₂] → TreeAt h v₁ l → TreeAt h v₂ r → TreeAt h (.ref a) (.node l r)
theorem IsList.ext {h h' : Heap} {a : Addr} {xs : Array Value} (H : h.IsList a xs) (e : Ext h h') : h'.IsList a xs := by
  ((refine Exists.elim H ?_); (try clear H); intro o; intro hZ1; (refine And.elim ?_ hZ1); clear hZ1; intro ho r)
  exact ⟨o, e _ _ ho, r⟩
theorem TreeAt.ext {h h' : Heap} {v : Value} {t : Tr} (H : TreeAt h v t) (e : Ext h h') : TreeAt h' v t := by
  induction H with
  | leaf => exact .leaf
  | node hl _ _ i1 i2 => exact .node (IsList.ext hl e) i1 i2
end Mine
end
section -- HQ
open PySem PySem.W PyProof.Rows
namespace Mine
/-- a continuation, hidden behind a variable while a statement is walked -/
structure Hid {α : Type} (Q : α → Shared → Prop) (v : α) (s : Shared) : Prop where
  h : Q v s
theorem hideQ {α : Type} {M : Model} {A : Around} {c : Sem α} {Q : α → Shared → Prop} {E : Value → Shared → Prop} {s : Shared}
    (h : ∀ Q' : α → Shared → Prop, (∀ v s', Q v s' → Hid Q' v s') → wpAny M A c (Hid Q') E s) : wpAny M A c Q E s :=
  wpAny_mono (h Q fun _ _ q => ⟨q⟩) (fun _ _ x => x.h) fun _ _ e => e
theorem isHid {α : Type} {M : Model} {A : Around} {c : Sem α} {Q : α → Shared → Prop} {E : Value → Shared → Prop} {s : Shared} (h : wpAny M A c (Hid Q) E s) : wpAny M A c (Hid Q) E s := h
theorem Hid.go {α : Type} {Q Q' : α → Shared → Prop} {v : α} {s : Shared} (k : ∀ v s', Q v s' → Hid Q' v s') (h : Q v s) : Hid Q' v s := k v s h
end Mine
end
local macro_rules | `(tactic| walk_at $s:str) => `(tactic| k_extra $s)
section -- HeadT
open PySem PySem.W PyProof.Rows
namespace Mine
noncomputable def topRunT (tb : String → Option Builtin) (p : Program) (w : World) (n₀ : Nat) (ann : Option Value) : Nat → SharedT → Thread → Option SharedT
  | 0, _, _ => none
  | n + 1, s, t => match through t with
    | true => some s
    | false => match stepOk n₀ ann t with
      | false => none
      | true => match stepT (denote tb) p w s t with
        | some (s', t') => topRunT tb p w n₀ ann n s' t'
        | none => none
theorem topRunT_of {tb : String → Option Builtin} {p : Program} {w : World} {n₀ : Nat} {ann : Option Value} : ∀ {n : Nat} {s s' : SharedT} {t : Thread},
    topRunT tb p w n₀ ann n s t = some s' → topRun tb p w n₀ ann n s.abs t = some s'.abs
  | 0, _, _, _, h => by cases h
  | n + 1, s, s', t, h => by
    unfold topRunT at h
    unfold topRun
    cases ht : through t with
    | true => rw [ht] at h; cases h; rfl
    | false =>
      rw [ht] at h
      cases hk : stepOk n₀ ann t with
      | false => rw [hk] at h; cases h
      | true =>
        rw [hk] at h
        cases hs : stepT (denote tb) p w s t with
        | none => rw [hs] at h; cases h
        | some r => obtain ⟨s₂, t₂⟩ := r; rw [hs] at h; rw [stepT_spec hs]; exact topRunT_of h
noncomputable def treeOf : List Obj → BT → Nat → Option BT
  | [], t, _ => some t
  | o :: r, t, n => match ((t.ins n o).get n).isSome with
    | true => treeOf r (t.ins n o) (n + 1)
    | false => none
theorem treeOf_abs (life : Life) : ∀ (l : List Obj) (t t' : BT) (n : Nat) (a : Array Obj), absHeap t n life = ⟨a, life⟩ → treeOf l t n = some t' → absHeap t' (n + l.length) life = ⟨a ++ l.toArray, life⟩
  | [], t, t', n, a, h, e => by cases e; simpa using h
  | o :: r, t, t', n, a, h, e => by
    unfold treeOf at e
    cases g : ((t.ins n o).get n).isSome with
    | false => rw [g] at e; cases e
    | true =>
      rw [g] at e
      have h' : absHeap (t.ins n o) (n + 1) life = ⟨a.push o, life⟩ := by rw [absHeap_ins g, h]; rfl
      have := treeOf_abs life r (t.ins n o) t' (n + 1) (a.push o) h' e
      rw [List.length_cons, show n + (r.length + 1) = n + 1 + r.length from (Nat.add_right_comm n 1 r.length).symm, this]
      congr 1
      simp
noncomputable def sharedT (s : Shared) : Option SharedT := match treeOf s.heap.objs.toList .nil 0 with
  | some t => some ⟨t, s.heap.objs.toList.length, s.heap.life, s.gens, s.drawn, s.toks, s.os⟩
  | none => none
theorem sharedT_abs {s : Shared} {x : SharedT} (e : sharedT s = some x) : x.abs = s := by
  unfold sharedT at e
  cases h : treeOf s.heap.objs.toList .nil 0 with
  | none => rw [h] at e; cases e
  | some t =>
    rw [h] at e; cases e
    have := treeOf_abs s.heap.life s.heap.objs.toList .nil t 0 #[] rfl h
    unfold SharedT.abs
    simp only [Nat.zero_add] at this
    rw [this]
    obtain ⟨⟨o, l⟩, g, d, tk, os⟩ := s
    simp
noncomputable def headT {α : Type} (tb : String → Option Builtin) (p : Program) (w : World) (N : Nat) (f : Shared → α) : Option α := match fencedOpening tb p w N with
  | none => none
  | some s₀ => match s₀.heap.isNs mainGlobals && s₀.gens.size == 0 with
    | false => none
    | true => match sharedT s₀ with
      | none => none
      | some x => match topRunT tb p w s₀.heap.objs.size (s₀.heap.nsMap mainGlobals "__annotations__") N x (topStub p) with
        | none => none
        | some y => match staticsOk (importedModules p.main.body) s₀.heap y.abs.heap && namesBound p y.abs.heap && gensDone y.abs && laidKept s₀.heap y.abs.heap with
          | true => some (f y.abs)
          | false => none
theorem headT_of {α : Type} {tb : String → Option Builtin} {p : Program} {w : World} {N : Nat} {f : Shared → α} {a : α} (h : headT tb p w N f = some a) : (openEnds tb p w N).map f = some a := by
  unfold headT at h
  unfold openEnds
  cases e : fencedOpening tb p w N with
  | none => rw [e] at h; cases h
  | some s₀ =>
    rw [e] at h
    show (topFrom tb p w N s₀).map f = some a
    unfold topFrom
    dsimp only at h
    cases c : (s₀.heap.isNs mainGlobals && s₀.gens.size == 0) with
    | false => rw [c] at h; cases h
    | true =>
      rw [c] at h
      dsimp only at h ⊢
      cases q : sharedT s₀ with
      | none => rw [q] at h; cases h
      | some x =>
        rw [q] at h
        dsimp only at h
        cases r : topRunT tb p w s₀.heap.objs.size (s₀.heap.nsMap mainGlobals "__annotations__") N x (topStub p) with
        | none => rw [r] at h; cases h
        | some y =>
          rw [r] at h
          have z := topRunT_of r
          rw [sharedT_abs q] at z
          rw [z]
          dsimp only at h ⊢
          show Option.map f (match staticsOk (importedModules p.main.body) s₀.heap y.abs.heap && namesBound p y.abs.heap && gensDone y.abs && laidKept s₀.heap y.abs.heap with | true => some y.abs | false => none) = some a
          revert h
          cases (staticsOk (importedModules p.main.body) s₀.heap y.abs.heap && namesBound p y.abs.heap && gensDone y.abs && laidKept s₀.heap y.abs.heap) <;> intro h
          · cases h
          · exact h
theorem left_of {p q : Program} {loose : List Str} {Xt : Shared → Bool} {α : Type} {Yf : Shared → α} {Ya : World → α} {N : Nat} {g0 : Bool}
    (h : ∀ w, headT treeTable p w N (fun s => (openSeen q loose (importedModules p.main.body) Xt g0 s, Yf s)) = some (openGood q loose, Ya w)) : LeftO p q loose Xt Yf Ya N g0 :=
  fun w => headT_of (h w)
end Mine
end
section -- W2
open PySem PySem.W PyProof.Rows
set_option maxRecDepth 100000
namespace Mine
theorem zoff_W2 : True := by
  w_top off
  k_with_none
  k_with "Hid" => (refine Mine.Hid.go (by with_reducible assumption) ?_)
  k_with "execs cons" => ((fail_if_success (with_reducible refine Mine.isHid ?_)); (refine Mine.hideQ fun _ _ => ?_))
  k_with "exec Assign" => ((fail_if_success (with_reducible refine Mine.isHid ?_)); (refine Mine.hideQ fun _ _ => ?_))
  k_with "exec Expr" => ((fail_if_success (with_reducible refine Mine.isHid ?_)); (refine Mine.hideQ fun _ _ => ?_))
  k_with "exec Return" => ((fail_if_success (with_reducible refine Mine.isHid ?_)); (refine Mine.hideQ fun _ _ => ?_))
  k_with "exec AugAssign" => ((fail_if_success (with_reducible refine Mine.isHid ?_)); (refine Mine.hideQ fun _ _ => ?_))
  k_with "exec If" => ((fail_if_success (with_reducible refine Mine.isHid ?_)); (refine Mine.hideQ fun _ _ => ?_))
  trivial
noncomputable def b1L : List Nat := [173, 847, 6150, 6155, 6156, 6157, 8203, 8204, 8205, 8288, 65279, 65024, 65025, 65026, 65027, 65028, 65029, 65030, 65031, 65032, 65033, 65034, 65035, 65036, 65037, 65038, 65039]
noncomputable def b1S (k : Int) : Bool := decide (k ∈ b1L.map Int.ofNat)
theorem SetOf.ext {prog : Program} {w : World} {h h' : Heap} {a : Addr} {S : Int → Bool} {n : Nat} (H : h.SetOf (intKind prog w) a S n) (e : Ext h h') : h'.SetOf (intKind prog w) a S n := by
  ((refine Mine.ex4 H ?_); (try clear H); intro o es ep t; intro hZ1; (refine And.elim ?_ hZ1); clear hZ1; intro ho r)
  exact ⟨o, es, ep, t, e _ _ ho, r⟩
set_option maxHeartbeats 8000000 in
theorem b1_spec (w : World) {p : Program} {loose : List Str} {mean : ExcName → Option Value} {mg mb : Str → Option Value} : ∀ (c : Nat) (tk : Tok) (A : Around) (s : Shared) (Q E : Value → Shared → Prop)
    (X : (KX w.params).In s.heap) (T : Top p loose mean mg mb s.heap) (B1 : s.heap.SetOf (intKind PySem.Challenge.rw_sh0039_01.row.prog w) 84 b1S 27) (hd : A.depth < recursionLimit)
    (ret : ∀ h' tk', Ext s.heap h' → Q (.bool (b1S c)) { s with heap := h', toks := tk' }), wpAny (model PySem.Challenge.rw_sh0039_01.row.prog w) A (call (.ref 94) [.str ⟨#[c]⟩ tk]) Q E s := by
  k_fill
  intro c tk A s Q E X T B1 hd ret
  k_dflt (refine' enter (K := KX w.params) X T ?k6 ?k7 hd ?k9 ?kB ?_ ?c2 ?c3 ?c4 ?c5)
  (case k6 => k_is)
  (case k7 => k_is)
  (case k9 => exact BindsTo.of_eq rfl)
  (case kB => exact locs rfl)
  (case c2 => exact rfl)
  (case c3 => exact rfl)
  (case c4 => exact rfl)
  (case c5 => decide)
  clear X T
  intro h₁ F N X T
  (try k_fold)
  k_steps
  refine wpAny_inSet_of (knd := intKind PySem.Challenge.rw_sh0039_01.row.prog w) (k := (c : Int)) ?_ rfl (SetOf.ext B1 F.keep) ?_
  · simp [intKind, Value.isInt]
  k_steps
  exact ret _ _ F.keep
end Mine
end
section -- HeadK
open PySem PySem.W PyProof.Rows
set_option maxRecDepth 100000
namespace Mine
noncomputable def set84 (o : Obj) : Bool := (match o.cls with | .type n => n == "set" | _ => false) && o.dict.isNone && o.slots.size == 0 &&
  (match o.data with
   | .set es _ t => es.size == 27 && t.fits es.size && es.toList.all (fun e => (match e.2 with | .int k _ => b1S k && e.1 == hashInt k | _ => false) && e.2.scannable) && b1L.all (fun c => es.toList.any fun e => Value.isInt (Int.ofNat c) e.2)
   | _ => false)
noncomputable def seen84 (h : Heap) : Bool := match h.get? 84 with | some o => set84 o | none => false
theorem set84_of {p : Program} {w : World} {h : Heap} (e : seen84 h = true) : h.SetOf (intKind p w) 84 b1S 27 := by
  unfold seen84 at e
  split at e
  · rename_i o ho
    unfold set84 at e
    simp only [Bool.and_eq_true] at e
    ((refine And.elim ?_ e); (try clear e); intro hZ1; (refine And.elim ?_ hZ1); clear hZ1; intro hZ2; (refine And.elim ?_ hZ2); clear hZ2; intro e1 e2 e3 e4)
    split at e4
    · rename_i es ep t hd
      simp only [Bool.and_eq_true, beq_iff_eq, List.all_eq_true, List.any_eq_true] at e4
      ((refine And.elim ?_ e4); (try clear e4); intro hZ1; (refine And.elim ?_ hZ1); clear hZ1; intro hZ2; (refine And.elim ?_ hZ2); clear hZ2; intro f1 f2 f3 f4)
      refine ⟨o, es, ep, t, ho, ⟨?_, by simpa using e2, by simpa using e3⟩, hd, fun x hx => ?_, fun k => ⟨fun hk => ?_, fun hk => ?_⟩, by rw [f1]; decide, f2, f1⟩
      · split at e1
        · rename_i n hn
          rw [hn]; congr 1; exact eq_of_beq e1
        · cases e1
      · ((refine And.elim ?_ (f3 x hx)); intro g1 g2)
        refine ⟨?_, g2⟩
        split at g1
        · rename_i k t' hk
          simp only [Bool.and_eq_true, beq_iff_eq] at g1
          exact ⟨k, by rw [hk]; simp [intKind, Value.isInt], g1.2⟩
        · cases g1
      · unfold b1S at hk
        rw [decide_eq_true_eq, List.mem_map] at hk
        ((refine Exists.elim hk ?_); (try clear hk); intro c; intro hZ1; (refine And.elim ?_ hZ1); clear hZ1; intro hc; intro hZ2; obtain rfl := hZ2)
        exact f4 c hc
      · ((refine Exists.elim hk ?_); (try clear hk); intro x; intro hZ1; (refine And.elim ?_ hZ1); clear hZ1; intro hx hk)
        ((refine And.elim ?_ (f3 x hx)); intro g1 g2)
        ((refine Exists.elim (Value.isInt_shape (show Value.isInt k x.2 = true from hk)) ?_); intro t' ht)
        rw [ht] at g1
        simp only [Bool.and_eq_true] at g1
        exact g1.1
    · cases e4
  · cases e
noncomputable def lawObs (s : Shared) : List (Option Obj) × Option Obj × Bool := (kxAs.map s.heap.get?, s.heap.get? 290, seen84 s.heap)
noncomputable def lawVal (K : Params → Frag) (w : World) : List (Option Obj) × Option Obj × Bool := ((K w.params).map fun p => some p.2, some (tabObj #[]), true)
noncomputable def lawHook : Hook where
  α := List (Option Obj) × Option Obj × Bool
  obs := lawObs
  val := lawVal KX
  says := fun w h => InK KX w h ∧ h.get? 290 = some (tabObj #[]) ∧ seen84 h = true
  of := fun w s x => ⟨InK.of (as := kxAs) (fun _ => rfl) w s (Prod.mk.inj x).1, (Prod.mk.inj (Prod.mk.inj x).2).1, (Prod.mk.inj (Prod.mk.inj x).2).2⟩
  keeps := fun w h h' x k => ⟨InK.keeps w h h' x.1 k, k _ _ x.2.1, by
    have := x.2.2
    unfold seen84 at *
    split at this
    · rename_i o ho
      rw [k _ _ ho]; exact this
    · cases this⟩
noncomputable def lawLoose : List Str := [Str.ofString "_twin_re_1", Str.ofString "_twin_re_2", Str.ofString "b1_set", Str.ofString "_name_disallowed_re", Str.ofString "_value_disallowed_re"]
noncomputable def lawXtF (q : Program) (rs : WRecords) (s : Shared) : Bool := xlAt q [] s && recOk rs s
noncomputable def headF (p q : Program) (l : List Str) (rs : WRecords) (w : World) := headT treeTable p w 5298 (fun s => (openSeen q l (importedModules p.main.body) (lawXtF q rs) true s, lawObs s))
noncomputable def goodF (q : Program) (l : List Str) (K : Params → Frag) (w : World) := some (openGood q l, lawVal K w)
noncomputable def forget {α β : Type} (_ : α) (_ : β) : Bool := true
theorem mk1 : forget headF goodF = true := by k_qdec
noncomputable def viewIdx : List Nat := [0, 1, 3, 4, 5, 6, 8, 9, 10, 13, 15, 16, 17, 19, 20, 21, 22, 23, 24, 25, 26, 27, 28, 29]
noncomputable def lawView : Program := { PySem.Challenge.pw_sh0039_01 with main := { PySem.Challenge.pw_sh0039_01.main with body := viewIdx.map kSt } }
noncomputable def lawXt (s : Shared) : Bool := lawXtF lawView (RowW.records PySem.Challenge.rw_sh0039_01.row.toRowW) s
theorem left_law (h : ∀ w, headF PySem.Challenge.pw_sh0039_01 lawView lawLoose (RowW.records PySem.Challenge.rw_sh0039_01.row.toRowW) w = goodF lawView lawLoose KX w) : LeftO PySem.Challenge.rw_sh0039_01.row.toRowW.prog lawView lawLoose lawXt lawHook.obs lawHook.val 5298 := left_of h
noncomputable def saidF (l : OpenLaw) : Bool := l.wellSaid
def forget1 {α : Type} (_ : α) : Bool := true
set_option maxHeartbeats 0 in
theorem head_f (w : World) : PySem.W.Fast.tw3491609773287562567 PySem.Challenge.pw_sh0039_01 lawView lawLoose (RowW.records PySem.Challenge.rw_sh0039_01.row.toRowW) (World.withFollow w "special-get-raises" false) = PySem.W.Fast.tw4208135344925943067 lawView lawLoose KX (World.withFollow w "special-get-raises" false) := by kernel_rfl
set_option maxHeartbeats 0 in
theorem head_t (w : World) : PySem.W.Fast.tw3491609773287562567 PySem.Challenge.pw_sh0039_01 lawView lawLoose (RowW.records PySem.Challenge.rw_sh0039_01.row.toRowW) (World.withFollow w "special-get-raises" true) = PySem.W.Fast.tw4208135344925943067 lawView lawLoose KX (World.withFollow w "special-get-raises" true) := by kernel_rfl
theorem head_all : ∀ w, headF PySem.Challenge.pw_sh0039_01 lawView lawLoose (RowW.records PySem.Challenge.rw_sh0039_01.row.toRowW) w = goodF lawView lawLoose KX w := by
  rw [PySem.W.Fast.te3491609773287562567, PySem.W.Fast.te4208135344925943067]
  exact byRow2 "special-get-raises" (P := fun w => PySem.W.Fast.tw3491609773287562567 PySem.Challenge.pw_sh0039_01 lawView lawLoose (RowW.records PySem.Challenge.rw_sh0039_01.row.toRowW) w = PySem.W.Fast.tw4208135344925943067 lawView lawLoose KX w) head_f head_t
theorem mk2 : forget1 saidF = true := by k_qdec
set_option maxHeartbeats 0 in
theorem said_f : PySem.W.Fast.tw17042165093326287127 PySem.Challenge.rw_sh0039_01 = true := by kernel_rfl
theorem said_law : PySem.Challenge.rw_sh0039_01.wellSaid = true := by
  have h : saidF PySem.Challenge.rw_sh0039_01 = true := by rw [PySem.W.Fast.te17042165093326287127]; exact said_f
  exact h
end Mine
end
section -- S1
open PySem PySem.W PyProof.Rows
set_option maxRecDepth 100000
set_option linter.unusedVariables false
set_option maxHeartbeats 4000000
namespace Mine
noncomputable def layP {α : Type} (t : SetTable) (xs : Array α) (h : Int) (x : α) : Array α × SetTable × Bool × Bool :=
  match t.freeSlot h with
  | some (slot, wd) => (SetTable.insertAt xs (t.put slot).2 x, (t.put slot).1.orStandIn (SetTable.insertAt xs (t.put slot).2 x).size, wd, !(t.put slot).1.fits (SetTable.insertAt xs (t.put slot).2 x).size)
  | none => (xs.push x, t.standIn (xs.size + 1), false, true)
theorem lay_eq (t : SetTable) (es : Array (Int × Value)) (h : Int) (x : Value) : layNew t es h x = layP t es h (h, x) := by
  unfold layNew layP
  cases t.freeSlot h with
  | none => rfl
  | some p => obtain ⟨slot, wd⟩ := p; rfl
theorem insertAt_map {α β : Type} (f : α → β) (xs : Array α) (p : Nat) (x : α) : SetTable.insertAt (xs.map f) p (f x) = (SetTable.insertAt xs p x).map f := by
  unfold SetTable.insertAt
  simp
theorem layP_map {α β : Type} (f : α → β) (t : SetTable) (xs : Array α) (h : Int) (x : α) : layP t (xs.map f) h (f x) = ((layP t xs h x).1.map f, (layP t xs h x).2) := by
  unfold layP
  cases t.freeSlot h with
  | none => simp
  | some p => obtain ⟨slot, wd⟩ := p; simp only [insertAt_map, Array.size_map]
noncomputable def relayP {α : Type} (hash : α → Int) (t : SetTable) (xs : Array α) (wanted : Nat) : Array α × SetTable × Bool :=
  match t.relaid (xs.map hash) wanted with
  | some (t', order) => if coversAll order xs.size && t'.fits (order.filterMap (xs[·]?)).size then (order.filterMap (xs[·]?), t', false) else (xs, t.standIn xs.size, true)
  | none => (xs, t.standIn xs.size, true)
theorem relay_eq (t : SetTable) (es : Array (Int × Value)) (wanted : Nat) : relayAll t es wanted = relayP (·.1) t es wanted := by
  unfold relayAll relayP
  cases t.relaid (es.map (·.1)) wanted with
  | none => rfl
  | some p => obtain ⟨t', order⟩ := p; rfl
theorem filterMap_map {α β : Type} (f : α → β) (xs : Array α) (order : Array Nat) : order.filterMap (fun i => (xs.map f)[i]?) = (order.filterMap (fun i => xs[i]?)).map f := by
  apply Array.toList_inj.mp
  simp only [Array.toList_filterMap, Array.toList_map, List.map_filterMap]
  congr 1
  funext i
  simp
theorem relayP_map {α β : Type} (f : α → β) (hash : β → Int) (t : SetTable) (xs : Array α) (wanted : Nat) : relayP hash t (xs.map f) wanted = ((relayP (hash ∘ f) t xs wanted).1.map f, (relayP (hash ∘ f) t xs wanted).2) := by
  unfold relayP
  rw [Array.map_map]
  cases t.relaid (xs.map (hash ∘ f)) wanted with
  | none => simp
  | some p =>
    obtain ⟨t', order⟩ := p
    simp only [filterMap_map, Array.size_map]
    split <;> simp
noncomputable def kf (e : Int × Value) : Int × Int := (e.1, numOf e.2)
abbrev KSt := Array (Int × Int) × SetTable
/-- a number comes into a set: what the table tells -/
noncomputable def addK (st : KSt) (k : Int) : KSt :=
  if st.1.any (fun e => e.2 == k) then st else
    if !(layP st.2 st.1 (hashInt k) (hashInt k, k)).2.2.1 && (layP st.2 st.1 (hashInt k) (hashInt k, k)).2.1.tooFull then
      ((relayP (·.1) (layP st.2 st.1 (hashInt k) (hashInt k, k)).2.1 (layP st.2 st.1 (hashInt k) (hashInt k, k)).1 (SetTable.grown (layP st.2 st.1 (hashInt k) (hashInt k, k)).1.size)).1,
       (relayP (·.1) (layP st.2 st.1 (hashInt k) (hashInt k, k)).2.1 (layP st.2 st.1 (hashInt k) (hashInt k, k)).1 (SetTable.grown (layP st.2 st.1 (hashInt k) (hashInt k, k)).1.size)).2.1)
    else ((layP st.2 st.1 (hashInt k) (hashInt k, k)).1, (layP st.2 st.1 (hashInt k) (hashInt k, k)).2.1)
/-- the set in the heap, as its table tells -/
noncomputable def SetX (h : Heap) (a : Addr) (st : KSt) : Prop :=
  ∃ o es ep, h.get? a = some o ∧ o.ExactSet ∧ o.data = .set es ep st.2 ∧ es.map kf = st.1 ∧ (∀ e ∈ es.toList, ∃ k t, e = (hashInt k, Value.int k t)) ∧ st.2.fits es.size = true
section
variable {prog : Program} {w : World} {A : Around} {E : Value → Shared → Prop} {s : Shared}
theorem elems_of {es : Array (Int × Value)} (h : ∀ e ∈ es.toList, ∃ k t, e = (hashInt k, Value.int k t)) : ElemsOf (intKind prog w) es.toList := fun e he => by
  ((refine Mine.ex2 (h e he) ?_); intro k t; intro hZ1; obtain rfl := hZ1)
  exact ⟨⟨k, intKind_is _ _ _ _, rfl⟩, rfl⟩
theorem is_int {k k' : Int} {t : Tok} : (intKind prog w).is k (Value.int k' t) = (k' == k) := by
  show Value.isInt k (Value.int k' t) = _
  simp [Value.isInt]
theorem SetX.store {h : Heap} {a : Addr} {o : Obj} {es es' : Array (Int × Value)} {ep : Nat} {t t' : SetTable} {ks : Array (Int × Int)} (ho : h.get? a = some o) (hex : o.ExactSet) (hd : o.data = .set es ep t) (hk : es'.map kf = ks) (he : ∀ e ∈ es'.toList, ∃ k t, e = (hashInt k, Value.int k t)) (hf : t'.fits es'.size = true) :
    (h.update a (Obj.putSet es' t')).get? a = some { o with data := .set es' (ep + 1) t' } ∧ SetX (h.update a (Obj.putSet es' t')) a (ks, t') := by
  have hg : (h.update a (Obj.putSet es' t')).get? a = some { o with data := .set es' (ep + 1) t' } := by
    have := Heap.get?_update_self (Obj.putSet es' t') ho (by rw [putSet_of es' t' hd]; rfl)
    rw [putSet_of es' t' hd] at this; exact this
  exact ⟨hg, _, es', ep + 1, hg, hex, rfl, hk, he, hf⟩
theorem add_tail {g : Bool → Sem Unit} (hg : ∀ (b : Bool) (s₁ : Shared) (Q' : Unit → Shared → Prop), Q' () s₁ → wpAny (model prog w) A (g b) Q' E s₁)
    {a : Addr} {o : Obj} {es : Array (Int × Value)} {ep : Nat} {t : SetTable} (ho : s.heap.get? a = some o) (hex : o.ExactSet) (hd : o.data = .set es ep t)
    {es1 : Array (Int × Value)} {t2 : SetTable} (hes1 : ∀ e ∈ es1.toList, ∃ k t, e = (hashInt k, Value.int k t)) (hb1 : es1.size < scanBound) (hf2 : t2.fits es1.size = true) {wasDummy : Bool} {R : Option Bool → Shared → Prop}
    (h : ∀ h', Heap.SameBut a s.heap h' → SetX h' a (if (!wasDummy && t2.tooFull) = true then ((relayAll t2 es1 (SetTable.grown es1.size)).1.map kf, (relayAll t2 es1 (SetTable.grown es1.size)).2.1) else (es1.map kf, t2)) → R (some true) { s with heap := h' }) :
    wpAny (model prog w) A (do
        storeSet a es1 t2
        if (!wasDummy && t2.tooFull) = true then do
            g (relayAll t2 es1 (SetTable.grown es1.size)).2.2
            storeSet a (relayAll t2 es1 (SetTable.grown es1.size)).1 (relayAll t2 es1 (SetTable.grown es1.size)).2.1
            pure (some true)
          else pure (some true)) R E s := by
  refine wpAny_bind (wpAny_storeSet_of ho hd ?_ (fits_of_scanBound hb1))
  ((refine And.elim ?_ (SetX.store (t' := t2) ho hex hd rfl hes1 hf2)); intro ho1 hS1)
  have hsb1 := Heap.SameBut.update s.heap a (Obj.putSet es1 t2)
  split
  · rename_i hc
    rw [if_pos hc] at h
    have hp := relayAll_perm t2 es1 (SetTable.grown es1.size)
    have hfr := relayAll_fits t2 es1 (SetTable.grown es1.size)
    generalize relayAll t2 es1 (SetTable.grown es1.size) = Rl at hp hfr h ⊢
    obtain ⟨es2, t3, gave2⟩ := Rl
    dsimp only at hp hfr h ⊢
    have hes2 : ∀ e ∈ es2.toList, ∃ k t, e = (hashInt k, Value.int k t) := fun e he => hes1 e (hp.mem_iff.mp he)
    have hsz : es2.size = es1.size := by rw [← Array.length_toList, hp.length_eq, Array.length_toList]
    refine wpAny_bind (hg _ _ _ ?_)
    refine wpAny_bind (wpAny_storeSet_of ho1 rfl ?_ (fits_of_scanBound (by rw [hsz]; exact hb1)))
    ((refine And.elim ?_ (SetX.store (t' := t3) ho1 hex rfl rfl hes2 hfr)); intro _ hS2)
    exact wpAny_pure (h _ (hsb1.trans (Heap.SameBut.update _ a _)) hS2)
  · rename_i hc
    rw [if_neg hc] at h
    exact wpAny_pure (h _ hsb1 hS1)
theorem add_exact {a : Addr} {st : KSt} {k : Int} {tk : Tok} {Q : Bool → Shared → Prop} (hS : SetX s.heap a st) (hroom : st.1.size + 1 < scanBound)
    (h : ∀ b h', Heap.SameBut a s.heap h' → SetX h' a (addK st k) → Q b { s with heap := h' }) : wpAny (model prog w) A (setAddHashed a (.int k tk) (hashInt k)) Q E s := by
  ((refine Mine.ex3 hS ?_); (try clear hS); intro o es ep; intro hZ1; (refine Mine.and6 hZ1 ?_); clear hZ1; intro ho hex hd hks hes hf)
  have hel : ElemsOf (intKind prog w) es.toList := elems_of hes
  have hsz : es.size = st.1.size := by rw [← hks, Array.size_map]
  have hb : es.size < scanBound := by omega
  unfold setAddHashed setAddHashedIn
  refine wpAny_holding (wpAny_bind (wpAny_setState_of ho hd hf ?_))
  dsimp only
  rw [byScan_of (knd := intKind prog w) (x := Value.int k tk) rfl hb hel]
  simp only [↓reduceIte]
  unfold setAddByScan
  refine wpAny_bind ?_
  refine wpAny_bind (wpAny_rule ?_)
  refine wpAny_bind (wpAny_setScan_of (knd := intKind prog w) (k := k) (intKind_is _ _ _ _) ho hd hf hel ?_)
  have hany : st.1.any (fun e => e.2 == k) = es.toList.any fun e => (intKind prog w).is k e.2 := by
    rw [← hks, Array.any_map, ← Array.any_toList, Bool.eq_iff_iff, List.any_eq_true, List.any_eq_true]
    constructor
    · intro hJ0
      ((refine Exists.elim hJ0 ?_); (try clear hJ0); intro e; intro hZ1; (refine And.elim ?_ hZ1); clear hZ1; intro he q)
      ((refine Mine.ex2 (hes e he) ?_); intro k' t'; intro hZ1; obtain rfl := hZ1)
      exact ⟨_, he, by rw [is_int]; exact q⟩
    · intro hJ0
      ((refine Exists.elim hJ0 ?_); (try clear hJ0); intro e; intro hZ1; (refine And.elim ?_ hZ1); clear hZ1; intro he q)
      ((refine Mine.ex2 (hes e he) ?_); intro k' t'; intro hZ1; obtain rfl := hZ1)
      exact ⟨_, he, by rw [is_int] at q; exact q⟩
  cases hr : List.findIdx? (fun e => (intKind prog w).is k e.2) es.toList with
  | some j =>
    dsimp only
    ((refine Exists.elim (List.findIdx?_eq_some_iff_getElem.mp hr) ?_); intro hj; intro hZ1; (refine And.elim ?_ hZ1); clear hZ1; intro hpj _)
    have hin : st.1.any (fun e => e.2 == k) = true := by rw [hany, List.any_eq_true]; exact ⟨es.toList[j], List.getElem_mem hj, hpj⟩
    refine wpAny_pure (wpAny_pure ?_)
    have e : s = { s with heap := s.heap } := by cases s; rfl
    rw [e]
    refine h _ s.heap (Heap.SameBut.refl a s.heap) ?_
    unfold addK
    rw [if_pos hin]
    exact ⟨o, es, ep, ho, hex, hd, hks, hes, hf⟩
  | none =>
    dsimp only
    have hin : ¬ st.1.any (fun e => e.2 == k) = true := by
      rw [hany, List.any_eq_true]
      intro hJ0
      ((refine Exists.elim hJ0 ?_); (try clear hJ0); intro e; intro hZ1; (refine And.elim ?_ hZ1); clear hZ1; intro he q)
      have := List.findIdx?_eq_none_iff.mp hr e he
      rw [q] at this; cases this
    have hgw : ∀ (b : Bool) {s₁ : Shared} {Q' : Unit → Shared → Prop}, Q' () s₁ → wpAny (model prog w) A (match b with | true => rule "set.scan.the-table-gave-way" | false => pure ()) Q' E s₁ :=
      fun b s₁ Q' hq => by cases b <;> first | exact wpAny_pure hq | exact wpAny_rule hq
    have hperm := layNew_perm st.2 es (hashInt k) (.int k tk)
    have hfits := layNew_fits st.2 es (hashInt k) (.int k tk)
    have hmap := layP_map kf st.2 es (hashInt k) (hashInt k, Value.int k tk)
    rw [hks] at hmap
    have hmap' : layP st.2 st.1 (hashInt k) (hashInt k, k) = ((layNew st.2 es (hashInt k) (.int k tk)).1.map kf, (layNew st.2 es (hashInt k) (.int k tk)).2) := by rw [lay_eq]; exact hmap
    have hadd : addK st k = if !(layNew st.2 es (hashInt k) (.int k tk)).2.2.1 && (layNew st.2 es (hashInt k) (.int k tk)).2.1.tooFull then
        ((relayAll (layNew st.2 es (hashInt k) (.int k tk)).2.1 (layNew st.2 es (hashInt k) (.int k tk)).1 (SetTable.grown (layNew st.2 es (hashInt k) (.int k tk)).1.size)).1.map kf,
         (relayAll (layNew st.2 es (hashInt k) (.int k tk)).2.1 (layNew st.2 es (hashInt k) (.int k tk)).1 (SetTable.grown (layNew st.2 es (hashInt k) (.int k tk)).1.size)).2.1)
        else ((layNew st.2 es (hashInt k) (.int k tk)).1.map kf, (layNew st.2 es (hashInt k) (.int k tk)).2.1) := by
      unfold addK
      rw [if_neg hin, hmap']
      dsimp only
      rw [Array.size_map, relayP_map kf, relay_eq]
      rfl
    generalize hL : layNew st.2 es (hashInt k) (.int k tk) = L at hperm hfits hadd ⊢
    obtain ⟨es1, t1, wasDummy, gave⟩ := L
    dsimp only at hperm hfits hadd ⊢
    rw [Array.toList_push] at hperm
    have hes1 : ∀ e ∈ es1.toList, ∃ k t, e = (hashInt k, Value.int k t) := fun e he => by
      rcases List.mem_append.mp (hperm.mem_iff.mp he) with q | q
      · exact hes e q
      · rw [List.mem_singleton.mp q]; exact ⟨_, _, rfl⟩
    have hb1 : es1.size < scanBound := by rw [← Array.length_toList, hperm.length_eq, List.length_append, Array.length_toList]; simp; omega
    refine wpAny_bind (hgw _ ?_)
    rw [hadd] at h
    split
    · refine wpAny_bind ?_
      rw [hashByValue_scannable 8 rfl]
      refine wpAny_pure ?_
      refine add_tail ?_ ho hex hd hes1 hb1 ?_ ?_
      · intro b s₁ Q' hq; cases b <;> first | exact wpAny_pure hq | exact wpAny_rule hq
      · exact hfits
      · intro h' hsb hS'; dsimp only; exact wpAny_pure (h _ h' hsb hS')
    · refine wpAny_bind (wpAny_pure ?_)
      simp only [↓reduceIte]
      refine add_tail ?_ ho hex hd hes1 hb1 hfits ?_
      · intro b s₁ Q' hq; cases b <;> first | exact wpAny_pure hq | exact wpAny_rule hq
      · intro h' hsb hS'; dsimp only; exact wpAny_pure (h _ h' hsb hS')
end
end Mine
end
section -- S4
open PySem PySem.W PyProof.Rows
set_option maxRecDepth 100000
set_option linter.unusedVariables false
set_option maxHeartbeats 4000000
namespace Mine
theorem sl_it_next : Slot "set_iterator" "__next__" "set_iterator.__next__" :=
  .of (owner := "set_iterator") (n := "__next__") (by rw [typeLookup_type, builtinLookup_eq_fast]; kernel_rfl) (by decide +kernel) (by decide +kernel) (by decide +kernel)
    (by first | exact .inl (by decide +kernel) | exact .inr (by decide +kernel)) (by rw [isSubtype_type]; kernel_rfl)
theorem sl_it_iter : Slot "set_iterator" "__iter__" "set_iterator.__iter__" :=
  .of (owner := "set_iterator") (n := "__iter__") (by rw [typeLookup_type, builtinLookup_eq_fast]; kernel_rfl) (by decide +kernel) (by decide +kernel) (by decide +kernel)
    (by first | exact .inl (by decide +kernel) | exact .inr (by decide +kernel)) (by rw [isSubtype_type]; kernel_rfl)
theorem en_it_next : entryFor table "set_iterator.__next__" = some Builtin.«set_iterator.__next__» := entryFor_of_tree (by kernel_rfl)
theorem en_it_iter : entryFor table "set_iterator.__iter__" = some Builtin.«dict_keyiterator.__iter__» :=
  entryFor_alias (id' := "dict_keyiterator.__iter__") (by kernel_rfl) rfl (by decide +kernel) (by kernel_rfl)
theorem en_set_iter : entryFor table "set.__iter__" = some Builtin.«frozenset.__iter__» :=
  entryFor_alias (id' := "frozenset.__iter__") (by kernel_rfl) rfl (by decide +kernel) (by kernel_rfl)
theorem ow_it : Manifest.owners.lookup (String.ofList ['r', 'o', 't', 'a', 'r', 'e', 't', 'i', '_', 't', 'e', 's'].reverse) = some Manifest.sig_set_iterator := by kernel_rfl
theorem ar_it_next (a : Value) : argsOk "set_iterator.__next__" ⟨[a], []⟩ := by
  unfold argsOk; rw [signature?_of (id := "set_iterator.__next__") (n := ['_', '_', 't', 'x', 'e', 'n', '_', '_']) (o := ['r', 'o', 't', 'a', 'r', 'e', 't', 'i', '_', 't', 'e', 's']) (by kernel_rfl) ow_it]; kernel_rfl
theorem ar_it_iter (a : Value) : argsOk "set_iterator.__iter__" ⟨[a], []⟩ := by
  unfold argsOk; rw [signature?_of (id := "set_iterator.__iter__") (n := ['_', '_', 'r', 'e', 't', 'i', '_', '_']) (o := ['r', 'o', 't', 'a', 'r', 'e', 't', 'i', '_', 't', 'e', 's']) (by kernel_rfl) ow_it]; kernel_rfl
/-- the set that is walked: its entries stand still -/
noncomputable def SetS (h : Heap) (a : Addr) (es : Array (Int × Value)) (ep : Nat) (t : SetTable) : Prop := ∃ o, h.get? a = some o ∧ o.ExactSet ∧ o.data = .set es ep t
noncomputable def byTextOf (w : World) : Bool := w.params.followText "set-order"
/-- the order of the walk -/
noncomputable def ordOf (w : World) (a : Addr) (es : Array (Int × Value)) (ep : Nat) : Array (Int × Value) := if byTextOf w then pickOrder (w.params.setOrder a ep) es else es
noncomputable def slotAt (w : World) (t : SetTable) (i : Nat) : Nat := if byTextOf w then 0 else if i = 0 then 0 else t.place.getD (i - 1) 0 + 1
noncomputable def ItAt (w : World) (h : Heap) (I a : Addr) (t : SetTable) (n ep i : Nat) : Prop := ∃ o, h.get? I = some o ∧ o.cls = .type "set_iterator" ∧ o.data = .fields #[.int (slotAt w t i : Nat) 0, .int (i : Nat) 0, .ref a, .int (n : Nat) 0, .int (ep : Nat) 0]
/-- what the table must tell -/
structure TabOk (w : World) (t : SetTable) (n : Nat) : Prop where
  fits : t.fits n = true
  led : t.led = !byTextOf w
  plain : t.plain = true
  go : byTextOf w = false → ∀ i, i ≤ n → SetTable.below t.place (slotAt w t i) = i
theorem erase_perm {α : Type} : ∀ (l : List α) (i : Nat) (h : i < l.length), (l[i] :: l.eraseIdx i).Perm l
  | a :: l, 0, h => List.Perm.refl _
  | a :: l, i + 1, h => by
    have ih := erase_perm l i (by simpa using h)
    simp only [List.getElem_cons_succ, List.eraseIdx_cons_succ]
    exact (List.Perm.swap _ _ _).trans (ih.cons a)
theorem go_suc {α : Type} (f : Nat → Nat) (fuel k : Nat) (l : List α) (out : Array α) : pickOrder.go f (fuel + 1) k l out = match l[f k % l.length]? with
    | some x => pickOrder.go f fuel (k + 1) (l.eraseIdx (f k % l.length)) (out.push x) | none => out := rfl
theorem go_size {f : Nat → Nat} {α : Type} : ∀ (fuel k : Nat) (l : List α) (out : Array α), l.length = fuel → (pickOrder.go f fuel k l out).toList.Perm (out.toList ++ l)
  | 0, k, l, out, h => by
    obtain rfl := List.length_eq_zero_iff.mp h
    rw [List.append_nil]; exact List.Perm.refl _
  | fuel + 1, k, l, out, h => by
    have hlt : f k % l.length < l.length := Nat.mod_lt _ (by omega)
    rw [go_suc]
    rw [List.getElem?_eq_getElem hlt]
    dsimp only
    have ih := go_size (f := f) fuel (k + 1) (l.eraseIdx (f k % l.length)) (out.push l[f k % l.length]) (by rw [List.length_eraseIdx_of_lt hlt, h]; rfl)
    refine ih.trans ?_
    rw [Array.toList_push, List.append_assoc]
    refine List.Perm.append_left _ ?_
    exact erase_perm l _ hlt
theorem ord_perm (w : World) (a : Addr) (es : Array (Int × Value)) (ep : Nat) : (ordOf w a es ep).toList.Perm es.toList := by
  unfold ordOf
  split
  · unfold pickOrder
    have := go_size (f := w.params.setOrder a ep) es.size 0 es.toList #[] (by simp)
    simpa using this
  · exact List.Perm.refl _
end Mine
end
section -- S5
open PySem PySem.W PyProof.Rows
set_option maxRecDepth 100000
set_option linter.unusedVariables false
set_option maxHeartbeats 4000000
namespace Mine
section
variable {prog : Program} {w : World} {A : Around} {E : Value → Shared → Prop} {s : Shared} {a I : Addr} {es : Array (Int × Value)} {ep : Nat} {t : SetTable}
theorem SetS.typeIs (H : SetS s.heap a es ep t) : s.TypeIs (.ref a) "set" := let ⟨o, ho, hx, _⟩ := H; ⟨o, ho, hx.1⟩
theorem ItAt.typeIs {n i : Nat} (H : ItAt w s.heap I a t n ep i) : s.TypeIs (.ref I) "set_iterator" := let ⟨o, ho, hc, _⟩ := H; ⟨o, ho, hc⟩
theorem hint_set {Q : Bool → Shared → Prop} (hT : s.TypeIs (.ref a) "set") (h : Q false s) : wpAny (model prog w) A (Builtin.List.listLengthHint (.ref a)) Q E s := by
  unfold Builtin.List.listLengthHint
  refine wpAny_bind (wpAny_specialOf hT PySem.F.slot_set_len.lookup ?_)
  generalize hid : ("set.__len__" : String) = id0
  wp_delta
  rw [show splitId id0 = some ("set", "__len__") from by subst hid; decide +kernel]
  subst hid
  refine wpAny_bind (wpAny_isInstance (T := "set") (b := true) hT (by rw [isSubtype_type]; kernel_rfl) ?_)
  refine wpAny_ite_split (fun hab => absurd hab (by decide)) (fun _ => ?_)
  refine wpAny_ite_split (fun _ => ?_) (fun hab => absurd (by decide +kernel) hab)
  refine wpAny_bind (wpAny_typeOf hT ?_)
  exact wpAny_pure h
theorem iter_set {Q : Value → Shared → Prop} (H : SetS s.heap a es ep t) (T : TabOk w t es.size)
    (hQ : Q (.ref s.heap.objs.size) { s with heap := s.heap.push { cls := .type "set_iterator", data := .fields #[.int 0 0, .int 0 0, .ref a, .int (es.size : Nat) 0, .int (ep : Nat) 0] } }) : wpAny (model prog w) A (pyIter (.ref a)) Q E s := by
  ((refine Exists.elim (id H) ?_); intro o; intro hZ1; (refine Mine.and3 hZ1 ?_); clear hZ1; intro ho hx hd)
  refine wpAny_pyIter_slot H.typeIs PySem.F.slot_set_iter (wpAny_call_entry PySem.F.slot_set_iter H.typeIs en_set_iter ?_ (PySem.F.args_set_iter_1 _))
  unfold Builtin.«frozenset.__iter__»
  refine wpAny_bind (wpAny_pure ?_)
  unfold Builtin.Frozenset.sizeOf
  refine wpAny_bind (wpAny_bind (wpAny_setEntries_of ho hd T.fits (wpAny_pure ?_)))
  unfold setDrawn
  refine wpAny_bind ?_
  refine wpAny_bind (wpAny_setState_of ho hd T.fits ?_)
  dsimp only
  unfold setsByText
  refine wpAny_bind (wpAny_bind (wpAny_askSetting (wpAny_pure ?_)))
  refine wpAny_pure ?_
  rw [if_neg (by
    show ¬ ((!_ && (!t.plain && decide (es.size > 1))) = true)
    rw [T.plain]; simp)]
  refine wpAny_bind (wpAny_pure ?_)
  refine wpAny_bind (wpAny_setEpoch_of ho hd T.fits ?_)
  refine wpAny_bind ?_
  refine wpAny_newObj_type (wpAny_pure ⟨_, rfl, "set_iterator", _, ⟨_, Heap.get?_push_size _ rfl, rfl⟩, sl_it_next.lookup, ?_⟩)
  simpa [rawInt] using hQ
theorem set_step {i : Nat} {Q : Option (Value × Nat) → Shared → Prop} (H : SetS s.heap a es ep t) (T : TabOk w t es.size) (hi : i ≤ es.size) (h : Q (((ordOf w a es ep)[i]?).map fun e => (e.2, slotAt w t (i + 1))) s) : wpAny (model prog w) A (setNext a (slotAt w t i) i ep) Q E s := by
  ((refine Exists.elim (id H) ?_); intro o; intro hZ1; (refine Mine.and3 hZ1 ?_); clear hZ1; intro ho hx' hd)
  unfold setNext
  refine wpAny_bind (wpAny_setState_of ho hd T.fits ?_)
  dsimp only
  unfold setsByText
  refine wpAny_bind (wpAny_bind (wpAny_askSetting (wpAny_pure ?_)))
  cases hb : byTextOf w with
  | true =>
    have hb' : (model prog w).w.params.followText "set-order" = true := hb
    have e1 : ordOf w a es ep = pickOrder (w.params.setOrder a ep) es := by unfold ordOf; rw [hb]; rfl
    have e2 : ∀ j, slotAt w t j = 0 := fun j => by unfold slotAt; rw [hb]; rfl
    rw [e1, e2] at h
    rw [e2]
    dsimp only
    rw [if_pos hb']
    simp only [bne_self_eq_false, Bool.false_eq_true, if_false]
    unfold setWalk
    refine wpAny_bind (wpAny_bind (wpAny_setState_of ho hd T.fits ?_))
    dsimp only
    unfold setsByText
    refine wpAny_bind (wpAny_bind (wpAny_askSetting (wpAny_pure ?_)))
    dsimp only
    rw [if_pos hb']
    refine wpAny_bind (wpAny_askSetting (wpAny_pure ?_))
    exact wpAny_pure h
  | false =>
    have hb' : (model prog w).w.params.followText "set-order" = false := hb
    have e1 : ordOf w a es ep = es := by unfold ordOf; rw [hb]; rfl
    rw [e1] at h
    dsimp only
    rw [if_neg (by rw [hb']; exact Bool.false_ne_true)]
    rw [if_neg (by
      show ¬ ((!t.plain && decide (es.size > 1)) = true)
      rw [T.plain]; simp)]
    refine wpAny_bind ?_
    show wpAny _ _ (if (!t.led && !es.isEmpty) = true then unsupported "set:maker-not-led" else pure ()) _ _ _
    rw [if_neg (by rw [T.led, hb]; simp)]
    refine wpAny_pure ?_
    have hgo := T.go hb i hi
    rw [hgo]
    have hps : t.place.size = es.size := by
      have := T.fits
      simp only [SetTable.fits, Bool.and_eq_true, beq_iff_eq] at this
      exact this.1
    refine wpAny_pure ?_
    by_cases hlt : i < es.size
    · have hlp : i < t.place.size := by omega
      rw [Array.getElem?_eq_getElem hlt] at h ⊢
      rw [Array.getElem?_eq_getElem hlp]
      have e3 : slotAt w t (i + 1) = t.place[i] + 1 := by
        unfold slotAt
        rw [hb]
        simp [hlp]
      rw [e3] at h
      exact h
    · rw [Array.getElem?_eq_none (by omega)] at h ⊢
      exact h
theorem set_next {i : Nat} {v : Value} {h0 : Int} {Q : Option Value → Shared → Prop} (H : SetS s.heap a es ep t) (T : TabOk w t es.size) (hit : ItAt w s.heap I a t es.size ep i) (hx : (ordOf w a es ep)[i]? = some (h0, v))
    (hQ : ∀ h', ItAt w h' I a t es.size ep (i + 1) → Heap.SameBut I s.heap h' → Q (some v) { s with heap := h' }) : wpAny (model prog w) A (pyNext (.ref I)) Q E s := by
  ((refine Exists.elim (id H) ?_); intro o; intro hZ1; (refine Mine.and3 hZ1 ?_); clear hZ1; intro ho hx' hd)
  ((refine Exists.elim (id hit) ?_); intro oi; intro hZ1; (refine Mine.and3 hZ1 ?_); clear hZ1; intro hoi hci hdi)
  unfold pyNext
  refine wpAny_bind (wpAny_attempt (wpAny_callSpecial?_slot (name := Str.ofString "__next__") hit.typeIs sl_it_next
    (wpAny_call_entry sl_it_next hit.typeIs en_it_next ?_ (ar_it_next _))))
  unfold Builtin.«set_iterator.__next__»
  refine wpAny_bind (wpAny_pure ?_)
  refine wpAny_bind (wpAny_fieldsOf hoi hdi ?_)
  dsimp only
  refine wpAny_bind (wpAny_setEntries_of ho hd T.fits ?_)
  have hlt : i < es.size := by
    have h1 := (Array.getElem?_eq_some_iff.mp hx).1
    have h2 := (ord_perm w a es ep).length_eq
    rw [Array.length_toList, Array.length_toList] at h2
    omega
  rw [if_neg (by simp)]
  simp only [Int.toNat_natCast]
  refine wpAny_bind (set_step H T (by omega) ?_)
  rw [hx, Option.map_some]
  dsimp only
  refine wpAny_bind (wpAny_setField hoi hdi (by simp) ?_)
  have g1 := Heap.get?_update_self (Obj.mapFields (·.setIfInBounds 0 (rawInt (slotAt w t (i + 1) : Nat)))) hoi (Obj.isFreed_of_fields (Obj.data_mapFields hdi _))
  refine wpAny_bind (wpAny_setField g1 (Obj.data_mapFields hdi _) (by simp) ?_)
  refine wpAny_pure ⟨_, rfl, wpAny_pure (hQ _ ⟨_, Heap.get?_update_self _ g1 (Obj.isFreed_of_fields (Obj.data_mapFields (Obj.data_mapFields hdi _) _)), ?_, ?_⟩ ((Heap.SameBut.update ..).trans (Heap.SameBut.update ..)))⟩
  · rw [Obj.cls_mapFields, Obj.cls_mapFields]; exact hci
  · rw [Obj.data_mapFields (Obj.data_mapFields hdi _)]
    simp [rawInt]
theorem set_end {Q : Option Value → Shared → Prop} (hh : A.handled = none) (H : SetS s.heap a es ep t) (T : TabOk w t es.size) (hit : ItAt w s.heap I a t es.size ep es.size)
    (hQ : ∀ h', Heap.ExtBut I s.heap h' → Q none { s with heap := h' }) : wpAny (model prog w) A (pyNext (.ref I)) Q E s := by
  ((refine Exists.elim (id H) ?_); intro o; intro hZ1; (refine Mine.and3 hZ1 ?_); clear hZ1; intro ho hx' hd)
  ((refine Exists.elim (id hit) ?_); intro oi; intro hZ1; (refine Mine.and3 hZ1 ?_); clear hZ1; intro hoi hci hdi)
  unfold pyNext
  refine wpAny_bind (wpAny_attempt (wpAny_callSpecial?_slot (name := Str.ofString "__next__") hit.typeIs sl_it_next
    (wpAny_call_entry sl_it_next hit.typeIs en_it_next ?_ (ar_it_next _))))
  unfold Builtin.«set_iterator.__next__»
  refine wpAny_bind (wpAny_pure ?_)
  refine wpAny_bind (wpAny_fieldsOf hoi hdi ?_)
  dsimp only
  refine wpAny_bind (wpAny_setEntries_of ho hd T.fits ?_)
  have hx : (ordOf w a es ep)[es.size]? = none := by
    have h2 := (ord_perm w a es ep).length_eq
    rw [Array.length_toList, Array.length_toList] at h2
    exact Array.getElem?_eq_none (by omega)
  rw [if_neg (by simp)]
  simp only [Int.toNat_natCast]
  refine wpAny_bind (set_step H T (Nat.le_refl _) ?_)
  rw [hx, Option.map_none]
  dsimp only
  refine wpAny_bind (wpAny_setField hoi hdi (by simp) ?_)
  refine wpAny_bind ?_
  simp only [newExc, newTuple]
  refine wpAny_bind (wpAny_newObj_type ?_ (by size_fits))
  refine wpAny_bind (m := firstArgMember _ _) (wpAny_of_eq (a := Value.none) (by first | rfl | (simp only [firstArgMember]; rfl)) ?_)
  refine wpAny_newObj_type ?_ (by size_fits)
  simp only [raiseNew]
  refine wpAny_bind (wpAny_handled ?_)
  rw [show A.in1.handled = none from hh]
  refine wpAny_bind (wpAny_pure (wpAny_throw ?_))
  refine wpAny_bind (wpAny_isInstance (T := "StopIteration") (b := true) ⟨_, Heap.get?_push_size _ rfl, rfl⟩ isSubtype_stop ?_)
  exact wpAny_pure (hQ _ (((Heap.SameBut.update ..).extBut.push _).push _))
theorem self_set {n i : Nat} {Q : Value → Shared → Prop} (hit : ItAt w s.heap I a t n ep i) (h : Q (.ref I) s) : wpAny (model prog w) A (pyIter (.ref I)) Q E s := by
  refine wpAny_pyIter_slot hit.typeIs sl_it_iter (wpAny_call_entry sl_it_iter hit.typeIs en_it_iter ?_ (ar_it_iter _))
  show wpAny _ _ (ret (.ref I)) _ _ s
  exact wpAny_pure ⟨_, rfl, "set_iterator", _, hit.typeIs, sl_it_next.lookup, h⟩
theorem SetS.keep {h h' : Heap} (H : SetS h a es ep t) (k : ∀ o, h.get? a = some o → h'.get? a = some o) : SetS h' a es ep t := let ⟨o, ho, r⟩ := H; ⟨o, k _ ho, r⟩
theorem ItAt.keep {h h' : Heap} {n i : Nat} (H : ItAt w h I a t n ep i) (k : ∀ o, h.get? I = some o → h'.get? I = some o) : ItAt w h' I a t n ep i := let ⟨o, ho, r⟩ := H; ⟨o, k _ ho, r⟩
theorem walks_set (hh : A.handled = none) (I : Addr) (hne : a ≠ I) (T : TabOk w t es.size) : Walks prog w A I [I, a] [I] es.size (fun i v => ∃ h0, (ordOf w a es ep)[i]? = some (h0, v)) (fun i h => ItAt w h I a t es.size ep i ∧ SetS h a es ep t) where
  sub := fun b hb => by simp at hb; simp [hb]
  frame := fun _ _ _ st hk => ⟨st.1.keep fun o e => hk I (by simp) o e, st.2.keep fun o e => hk a (by simp) o e⟩
  item := fun i s Q E hi st hQ => by
    have h2 := (ord_perm w a es ep).length_eq
    rw [Array.length_toList, Array.length_toList] at h2
    obtain ⟨⟨h0, v⟩, hx⟩ : ∃ e, (ordOf w a es ep)[i]? = some e := ⟨_, Array.getElem?_eq_getElem (by omega)⟩
    refine set_next st.2 T st.1 hx fun h' hit' hs' => ?_
    exact hQ v h' s.toks ⟨h0, hx⟩ ⟨hit', st.2.keep fun o e => (hs'.2 a hne).trans e⟩ fun b o hb e => hs'.extBut b o (fun h => hb (by simp [h])) e
  done := fun s Q E st hQ => set_end hh st.2 T st.1 fun h' he' => hQ h' s.toks fun b o hb e => he' b o (fun h => hb (by simp [h])) e
  self := fun _ _ _ _ st hQ => self_set st.1 hQ
theorem src_set (T : TabOk w t es.size) : KdlSrc prog w "set" a a es.size (fun i v => ∃ h0, (ordOf w a es ep)[i]? = some (h0, v)) (fun h => SetS h a es ep t) where
  type := fun _ hm => hm.typeIs
  there := fun _ hm => ⟨let ⟨_, ho, _⟩ := hm; Heap.lt_size ho, let ⟨_, ho, _⟩ := hm; Heap.lt_size ho⟩
  keep := fun _ _ hm hk => hm.keep fun o e => hk a (.inl rfl) o e
  notList := by decide
  notTuple := by decide
  hint := fun _ _ _ _ hm hq => hint_set hm.typeIs hq
  iter := fun _ s hh hm => ⟨_, _, (fun _ _ hq => iter_set hm T hq), walks_set hh _ (Nat.ne_of_lt (let ⟨_, ho, _⟩ := hm; Heap.lt_size ho)) T, ⟨⟨_, Heap.get?_push_size _ rfl, rfl, by
    have e : slotAt w t 0 = 0 := by unfold slotAt; split <;> rfl
    rw [e]; rfl⟩, hm.keep fun o e => Heap.get?_push_of_some _ e⟩⟩
end
end Mine
end
section -- S3
open PySem PySem.W PyProof.Rows
set_option maxRecDepth 100000
set_option linter.unusedVariables false
set_option maxHeartbeats 4000000
namespace Mine
noncomputable def initK (led : Bool) : KSt := (#[], .fresh 0 0 led)
noncomputable def foldK (led : Bool) (ns : List Int) : KSt := ns.foldl addK (initK led)
theorem foldK_snoc (led : Bool) (ns : List Int) (i : Nat) (h : i < ns.length) : foldK led (ns.take (i + 1)) = addK (foldK led (ns.take i)) (ns.getD i 0) := by
  unfold foldK
  rw [List.take_add_one, List.getElem?_eq_getElem h, List.foldl_append]
  simp [h]
noncomputable def ledOf (w : World) : Bool := !w.params.followText "set-order"
section
variable {prog : Program} {w : World} {A : Around} {R : Result → Shared → Prop} {I : Addr} {fp wr : List Addr} {G : Array GenState → Array GenState → Prop} {P : Nat → Value → Prop} {St : Nat → Shared → Prop}
theorem SetX.keep {h h' : Heap} {a : Addr} {st : KSt} (H : SetX h a st) (k : ∀ o, h.get? a = some o → h'.get? a = some o) : SetX h' a st := by
  ((refine Mine.ex3 H ?_); (try clear H); intro o es ep; intro hZ1; (refine And.elim ?_ hZ1); clear hZ1; intro ho r)
  exact ⟨o, es, ep, k _ ho, r⟩
theorem up_loop {led : Bool} {ns : List Int} (W : WalksS prog w A.in1 I fp wr G ns.length P St) (S : Addr) (hSf : S ∉ fp)
    (hval : ∀ i v, P i v → ∃ t, v = .int (ns.getD i 0) t) (hroom : ∀ i, i < ns.length → (foldK led (ns.take i)).1.size + 1 < scanBound) :
    ∀ (k i : Nat) (s : Shared), ns.length - i = k → i ≤ ns.length → St i s → SetX s.heap S (foldK led (ns.take i)) →
      (∀ s', Moved (S :: wr) G s s' → SetX s'.heap S (foldK led ns) → R (.ok (.ret .none)) s') →
      codeAny (model prog w) A (.builtin "set.update.loop" ⟨[.ref S, .ref I], []⟩) R s := by
  have hSw : S ∉ wr := fun h => hSf (W.sub _ h)
  have hsub : ∀ b ∈ wr, b ∈ S :: wr := fun b hb => List.mem_cons_of_mem _ hb
  intro k
  induction k with
  | zero =>
    intro i s hk hi hst hS hR
    have hin : i = ns.length := Nat.le_antisymm hi (Nat.le_of_sub_eq_zero hk)
    subst hin
    rw [List.take_length] at hS
    refine codeAny_builtin F.entry_set_update_loop ?_
    rw [Around.under_plainId F.plain_set_update_loop _]
    show wpAny _ A.in1 (pyNext (.ref I) >>= _) _ _ s
    refine wpAny_bind (W.done s _ _ hst fun s' hm => ?_)
    show wpAny _ A.in1 (ret Value.none) _ _ s'
    exact wpAny_pure (hR s' (hm.mono hsub) (hS.keep fun o ho => hm.heap S _ hSw ho))
  | succ k ih =>
    intro i s hk hi hst hS hR
    have hlt : i < ns.length := (down_ix hk).1
    refine codeAny_builtin F.entry_set_update_loop ?_
    rw [Around.under_plainId F.plain_set_update_loop _]
    show wpAny _ A.in1 (pyNext (.ref I) >>= _) _ _ s
    refine wpAny_bind (W.item i s _ _ hlt hst fun v s' hP hst' hm => ?_)
    ((refine Exists.elim (hval i v hP) ?_); intro t; intro hZ1; obtain rfl := hZ1)
    have hS' : SetX s'.heap S (foldK led (ns.take i)) := hS.keep fun o ho => hm.heap S _ hSw ho
    show wpAny _ A.in1 (holding [Value.int (ns.getD i 0) t] (setAdd S (.int (ns.getD i 0) t)) >>= _) _ _ s'
    refine wpAny_bind (wpAny_holding ?_)
    unfold setAdd
    refine wpAny_holding ?_
    refine wpAny_bind ((intKind prog w).pyHash (k := ns.getD i 0) (intKind_is _ _ _ _) ?_)
    refine add_exact (s := { s' with toks := s'.toks + 1 }) hS' (hroom i hlt) fun b h' hsb hS2 => ?_
    rw [← foldK_snoc led ns i hlt] at hS2
    refine wpAny_pure ⟨plainId_quiet F.plain_set_update_loop _, ih (i + 1) _ (down_ix hk).2.2.1 hlt (W.frame _ s' _ _ hst' (Nat.le_succ _) fun b hb o e => ?_) hS2 fun s'' hm'' hS'' => ?_⟩
    · rw [hsb.2 b (fun h : b = S => hSf (by rw [← h]; exact hb))]; exact e
    · refine hR s'' (Moved.trans W.gtrans ((hm.mono hsub).then_heap (Nat.le_succ _) fun b o hb e => ?_) hm'') hS''
      rw [hsb.2 b (fun h : b = S => hb (by rw [h]; exact List.mem_cons_self))]; exact e
end
section
variable {prog : Program} {w : World} {A : Around} {E : Value → Shared → Prop} {s : Shared}
theorem new_set_code (a : Value) {Q₁ : Value → Shared → Prop}
    (h : Q₁ (.ref s.heap.objs.size) { s with heap := s.heap.push { cls := .type "set", dict := none, data := .set #[] 0 (.fresh 0 0 (ledOf w)) } }) :
    codeAny (model prog w) A (.call (.builtin "set.__new__") ⟨[.type "set", a], []⟩) (wants Q₁ E) s := by
  refine codeAny_of_tree ?_
  show wpAny _ A.in1 (do checkBuiltinCall "set.__new__" ⟨[.type "set", a], []⟩; again (.builtin "set.__new__" ⟨[.type "set", a], []⟩)) _ _ s
  refine wpAny_bind (wpAny_of_eq (PySem.F.newCall_set_1 a) (wpAny_pure ⟨plainId_quiet PySem.F.plain_set_new _, codeAny_builtin PySem.F.entry_set_new ?_⟩))
  rw [Around.under_plainId PySem.F.plain_set_new _]
  unfold Builtin.«set.__new__» Builtin.Frozenset.newClass
  have hsub := sub_set_self
  obtain ⟨hp, g, d, tk, os⟩ := s
  dsimp only
  wp_walk
  refine wpAny_askSetting (wpAny_pure ?_)
  dsimp only
  simp only [newObj]
  refine wpAny_bind (wpAny_alloc (wpAny_pure ?_))
  exact wpAny_pure h
set_option maxRecDepth 100000 in
set_option maxHeartbeats 3200000 in
theorem set_list {l : Addr} {items : Array Value} {ns : List Int} {Q : Value → Shared → Prop}
    (hh : A.handled = none) (hl : s.heap.IsList l items) (hi : IntsAre items.toList ns) (hroom : ∀ i, i < ns.length → (foldK (ledOf w) (ns.take i)).1.size + 1 < scanBound)
    (h : ∀ (h' : Heap) (tk : Nat), SetX h' s.heap.objs.size (foldK (ledOf w) ns) → (∀ b o, b < s.heap.objs.size → s.heap.get? b = some o → h'.get? b = some o) → Q (.ref s.heap.objs.size) { s with heap := h', toks := tk }) :
    wpAny (model prog w) A (call (.type "set") [.ref l]) Q E s := by
  ((refine Mine.ex2 PySem.F.called_set.mro ?_); intro c tl hmro)
  have hmade := PySem.F.called_set.made
  have hsub := PySem.F.called_set.sub
  have hlen : ns.length = items.size := by have := hi.length; rw [Array.length_toList] at this; exact this.symm
  refine wpAny_call (codeAny_of_tree ?_)
  show wpAny _ _ (callAny (.type "set") _) _ _ _
  refine wpAny_pure ⟨Code.quiet_builtin _ (by decide +kernel), codeAny_builtin PySem.F.entry_type_call ?_⟩
  rw [Around.under_plain (weight_type_call_type "set" [.ref l] []) rfl]
  have h1 := PySem.F.called_set.notType
  have h2 := PySem.F.called_set.canCreate
  have hct := PySem.F.typeCall_set_1 (.ref l)
  repeat (any_goals (first | assumption | wp_step))
  refine codeAny_mono (new_set_code (.ref l) (E := E) (Q₁ := fun obj s₁ => obj = .ref s.heap.objs.size ∧ s₁ = { s with heap := s.heap.push { cls := .type "set", dict := none, data := .set #[] 0 (.fresh 0 0 (ledOf w)) } }) ⟨rfl, rfl⟩) fun r s₁ hr => ?_
  cases r with
  | error e => exact hr
  | ok fl =>
    cases fl with
    | ret obj =>
      ((refine And.elim ?_ hr); (try clear hr); intro hZ1; obtain rfl := hZ1; intro hZ2; obtain rfl := hZ2)
      have hS : (s.heap.push { cls := .type "set", dict := none, data := .set #[] 0 (.fresh 0 0 (ledOf w)) }).get? s.heap.objs.size = some { cls := .type "set", dict := none, data := .set #[] 0 (.fresh 0 0 (ledOf w)) } := Heap.get?_push_size _ rfl
      have hT : Shared.TypeIs { s with heap := s.heap.push { cls := .type "set", dict := none, data := .set #[] 0 (.fresh 0 0 (ledOf w)) } } (.ref s.heap.objs.size) "set" := ⟨_, hS, rfl⟩
      have hli := PySem.F.called_set.init.lookup
      have hbi := PySem.F.called_set.init.bind (.ref s.heap.objs.size)
      repeat (any_goals (first | assumption | wp_step))
      refine codeAny_mono (codeAny_call_builtin (R := wants (fun r s₂ => r = .none ∧ ∃ h' tk, s₂ = { s with heap := h', toks := tk } ∧ SetX h' s.heap.objs.size (foldK (ledOf w) ns) ∧
          (∀ b o, b < s.heap.objs.size → s.heap.get? b = some o → h'.get? b = some o)) E) PySem.F.called_set.init.plain PySem.F.entry_set_init (check_set_init_1 hT ?_)) fun r₂ s₂ hr₂ => ?_
      · ((refine Exists.elim hl ?_); (try clear hl); intro ol; intro hZ1; (refine Mine.and3 hZ1 ?_); clear hZ1; intro hol hcl; intro hZ2; (refine Exists.elim hZ2 ?_); clear hZ2; intro nl hdl)
        obtain ⟨ocls, odict, odata, oslots⟩ := ol
        simp only at hcl hdl
        subst hcl; subst hdl
        have hol' : (s.heap.push { cls := .type "set", dict := none, data := .set #[] 0 (.fresh 0 0 (ledOf w)) }).get? l = some { cls := .type "list", dict := odict, data := .seq items nl, slots := oslots } := Heap.get?_push_of_some _ hol
        have hsls := PySem.F.sub_list_set
        have hslf := PySem.F.sub_list_frozenset
        have hne : (Value.type "list" == Value.type "dict") = false := by decide
        have hl1 : (s.heap.push { cls := .type "set", dict := none, data := .set #[] 0 (.fresh 0 0 (ledOf w)) }).IsList l items := ⟨_, hol', rfl, nl, rfl⟩
        unfold Builtin.«set.__init__» noKeywords Builtin.Frozenset.updateFrom
        generalize hPI : pyIter = PI
        wp_walk
        subst hPI
        refine wpAny_pyIter_list hl1 ?_
        refine wpAny_bind (wpAny_runValue ?_)
        have hlS : l < s.heap.objs.size := Heap.lt_size hol
        have hh3 : A.in1.in1.in1.handled = none := by simp [hh]
        have hneI : l ≠ (s.heap.push { cls := .type "set", dict := none, data := .set #[] 0 (.fresh 0 0 (ledOf w)) }).objs.size := by
          rw [Heap.size_push]; exact Nat.ne_of_lt (Nat.lt_succ_of_lt hlS)
        have hSf : s.heap.objs.size ∉ [(s.heap.push { cls := .type "set", dict := none, data := .set #[] 0 (.fresh 0 0 (ledOf w)) }).objs.size, l] := by
          rw [Heap.size_push]; simp only [List.mem_cons, List.mem_singleton, List.not_mem_nil, or_false, not_or]
          exact ⟨Nat.ne_of_lt (Nat.lt_succ_self _), Nat.ne_of_gt hlS⟩
        have hval : ∀ (i : Nat) (v : Value), items[i]? = some v → ∃ t, v = .int (ns.getD i 0) t := fun i v hv =>
          IntsAre.int_at hi i v (by rw [Array.getElem?_toList]; exact hv)
        have W := (Walks.list (prog := prog) (w := w) hh3 _ l hneI items).toS
        rw [← hlen] at W
        refine up_loop W s.heap.objs.size hSf hval hroom ns.length 0 _ (by omega) (Nat.zero_le _) ⟨⟨_, Heap.get?_push_size _ rfl, rfl, rfl⟩, (hl1.push _)⟩ ?hS0 ?hR
        case hS0 =>
          rw [List.take_zero]
          exact ⟨_, #[], 0, Heap.get?_push_of_some _ hS, ⟨rfl, rfl, rfl⟩, rfl, by simp [foldK, initK], fun e he => by simp at he, rfl⟩
        case hR =>
          intro s' hm hS'
          obtain ⟨h', g', d', tk', os'⟩ := s'
          have eg : g' = s.gens := hm.gens
          have ed : d' = s.drawn := hm.drawn
          have eo : os' = s.os := hm.os
          subst eg; subst ed; subst eo
          show wpAny _ _ _ _ _ _
          refine wpAny_pure ?_
          show wpAny _ _ (ret Value.none) _ _ _
          refine wpAny_pure ⟨rfl, h', tk', rfl, hS', fun b o hb e => ?_⟩
          have hb1 : b ≠ s.heap.objs.size := Nat.ne_of_lt hb
          have hb2 : b ≠ (s.heap.push { cls := .type "set", dict := none, data := .set #[] 0 (.fresh 0 0 (ledOf w)) }).objs.size := by
            rw [Heap.size_push]; exact Nat.ne_of_lt (Nat.lt_succ_of_lt hb)
          exact hm.heap b o (by simp only [List.mem_cons, List.mem_singleton, List.not_mem_nil, or_false, not_or]; exact ⟨hb1, hb2⟩) (Heap.get?_push_of_some _ (Heap.get?_push_of_some _ e))
      · cases r₂ with
        | error e => exact hr₂
        | ok fl₂ =>
          cases fl₂ with
          | ret r =>
            ((refine Mine.hideG fun G kG => ?_); (refine And.elim ?_ hr₂); (try clear hr₂); intro hZ1; obtain rfl := hZ1; intro hZ2; (refine Mine.ex2 hZ2 ?_); clear hZ2; intro h' tk; intro hZ3; (refine Mine.and3 hZ3 ?_); clear hZ3; intro hZ4; obtain rfl := hZ4; intro hS' hk'; (refine kG ?_); clear kG G)
            repeat (any_goals (first | assumption | wp_step))
            exact h _ _ hS' hk'
          | _ => exact hr₂.elim
    | _ => exact hr.elim
end
end Mine
end
section -- E1
open PySem PySem.W PyProof.Rows
set_option maxRecDepth 100000
namespace Mine
open PySem.Builtin PySem.Builtin.Re
theorem runFor_some {m : Sre.M} (h : m.outcome.isSome = true) : ∀ n, m.runFor n = m
  | 0 => rfl
  | n + 1 => by rw [Sre.M.runFor, if_pos h]
theorem runFor_add (a : Nat) : ∀ (m : Sre.M) (b : Nat), m.runFor (a + b) = (m.runFor a).runFor b := by
  induction a with
  | zero => intro m b; rw [Nat.zero_add]; rfl
  | succ a ih =>
    intro m b
    by_cases h : m.outcome.isSome = true
    · rw [runFor_some h, runFor_some h, runFor_some h]
    · rw [Nat.succ_add, Sre.M.runFor, if_neg h, Sre.M.runFor, if_neg h, ih]
section
variable {M : Model} {A : Around} {E : Value → Shared → Prop} {s : Shared}
theorem wpAny_reDrive : ∀ (k : Nat) (m : Sre.M) (N : Nat) {Q : Sre.M → Shared → Prop}, N ≤ 4 * k → (m.runFor N).outcome.isSome = true → 0 < k → Q (m.runFor N) s → wpAny M A (reDrive k m) Q E s
  | 0, _, _, _, _, _, h0, _ => absurd h0 (Nat.lt_irrefl _)
  | k + 1, m, N, Q, hN, ho, _, hq => by
    show wpAny M A (if (m.runFor reTurnSteps).outcome.isSome = true then pure (m.runFor reTurnSteps) else _) Q E s
    by_cases h : (m.runFor reTurnSteps).outcome.isSome = true
    · rw [if_pos h]
      have e : m.runFor N = m.runFor reTurnSteps := by
        by_cases hle : N ≤ reTurnSteps
        · ((refine Exists.elim (Nat.le.dest hle) ?_); intro d hd)
          rw [← hd, runFor_add, runFor_some ho]
        · ((refine Exists.elim (Nat.le.dest (Nat.le_of_not_le hle)) ?_); intro d hd)
          rw [← hd, runFor_add, runFor_some h]
      rw [e] at hq
      exact wpAny_pure hq
    · rw [if_neg h]
      have hgt : reTurnSteps < N := by
        refine Nat.lt_of_not_le fun hle => h ?_
        ((refine Exists.elim (Nat.le.dest hle) ?_); intro d hd)
        rw [← hd, runFor_add, runFor_some ho]; exact ho
      ((refine Exists.elim (Nat.le.dest (Nat.le_of_lt hgt)) ?_); intro d hd)
      have h4 : reTurnSteps = 4 := rfl
      rw [← hd, runFor_add] at ho hq
      refine wpAny_bind (wpAny_rule ?_)
      exact wpAny_reDrive k _ d (by omega) ho (by omega) hq
theorem wpAny_rules (l : List Nat) (p : Nat → Bool) (f : Nat → String) {Q : PUnit → Shared → Prop} (h : Q ⟨⟩ s) :
    wpAny M A (forIn l PUnit.unit fun i _ => if p i = true then do rule (f i); pure (ForInStep.yield PUnit.unit) else pure (ForInStep.yield PUnit.unit)) Q E s := by
  induction l with
  | nil => exact wpAny_pure h
  | cons a r ih =>
    rw [List.forIn_cons]
    refine wpAny_bind ?_
    split
    · exact wpAny_bind (wpAny_rule (wpAny_pure ih))
    · exact wpAny_pure ih
theorem wpAny_reRun {m : Sre.M} {N : Nat} {Q : Option Sre.M → Shared → Prop} (hN : N ≤ 4 * 2 ^ 64)
    (h : ((m.runFor N).outcome = some .matched ∧ Q (some (m.runFor N)) s) ∨ ((m.runFor N).outcome = some .failed ∧ Q none s)) : wpAny M A (reRunToEnd m) Q E s := by
  unfold reRunToEnd
  refine wpAny_bind (wpAny_reDrive _ m N hN ?_ (Nat.two_pow_pos _) ?_)
  · rcases h with ⟨h, _⟩ | ⟨h, _⟩ <;> rw [h] <;> rfl
  refine wpAny_bind (wpAny_rules _ _ _ ?_)
  rcases h with ⟨h, q⟩ | ⟨h, q⟩ <;> rw [h]
  · exact wpAny_pure q
  · exact wpAny_pure q
end
noncomputable def codeName : Array Nat := #[14, 10, 4, 1, 1, 22, 0, 31, 16, 127, 0, 13, 7, 22, 0, 31, 16, 127, 0, 1]
noncomputable def codeValue : Array Nat := #[14, 14, 4, 1, 1, 9, 4294966783, 0, 0, 2147483648, 0, 0, 0, 0, 0, 13, 11, 9, 4294966783, 0, 0, 2147483648, 0, 0, 0, 0, 0, 1]
theorem name_set {c : Nat} (h : 32 ≤ c ∧ c ≠ 127) (seen : Sre.Seen) : ∃ seen', Sre.inSet codeName c codeName.size 5 true seen = .ok (false, seen') := by
  refine ⟨((seen.add 22).add 16).add 0, ?_⟩
  have e1 : ¬ (0 ≤ c && c ≤ 31) = true := by simp; omega
  have e2 : ¬ (c == 127) = true := fun e => h.2 (eq_of_beq e)
  exact (show Sre.inSet codeName c 20 5 true seen = (if (0 ≤ c && c ≤ 31) = true then .ok (true, seen.add 22) else Sre.inSet codeName c 19 8 true (seen.add 22)) from rfl).trans ((if_neg e1).trans
    ((show Sre.inSet codeName c 19 8 true (seen.add 22) = (if (c == 127) = true then .ok (true, (seen.add 22).add 16) else Sre.inSet codeName c 18 10 true ((seen.add 22).add 16)) from rfl).trans ((if_neg e2).trans rfl)))
theorem value_set {c : Nat} (h : 32 ≤ c ∧ c ≠ 127) (seen : Sre.Seen) : ∃ seen', Sre.inSet codeValue c codeValue.size 5 true seen = .ok (false, seen') := by
  refine ⟨(seen.add 9).add 0, ?_⟩
  have e1 : ¬ (decide (c < 256) && (codeValue.getD (5 + (1 + c / 32)) 0).testBit (c % 32)) = true := by
    by_cases hc : c < 256
    · have : ∀ c : Fin 256, 32 ≤ c.val ∧ c.val ≠ 127 → (codeValue.getD (5 + (1 + c.val / 32)) 0).testBit (c.val % 32) = false := by decide +kernel
      rw [this ⟨c, hc⟩ h, Bool.and_false]; exact nofun
    · simp [hc]
  exact (show Sre.inSet codeValue c 28 5 true seen = (if (decide (c < 256) && (codeValue.getD (5 + (1 + c / 32)) 0).testBit (c % 32)) = true then .ok (true, seen.add 9) else Sre.inSet codeValue c 27 14 true (seen.add 9)) from rfl).trans ((if_neg e1).trans rfl)
theorem admitted_suc (m : Sre.M) (fuel s : Nat) (seen : Sre.Seen) : m.admitted (fuel + 1) s seen = if s ≥ m.lim then .ok (none, seen) else match Sre.inSet m.code (m.text.getD s 0) m.code.size 5 true seen with
    | .ok (true, seen) => .ok (some s, seen) | .ok (false, seen) => m.admitted fuel (s + 1) seen | .error why => .error why := rfl
theorem admitted_none {m : Sre.M} (hs : ∀ i, i < m.lim → ∀ seen, ∃ seen', Sre.inSet m.code (m.text.getD i 0) m.code.size 5 true seen = .ok (false, seen')) :
    ∀ (fuel s : Nat) (seen : Sre.Seen), ∃ seen', m.admitted fuel s seen = .ok (none, seen')
  | 0, s, seen => ⟨_, rfl⟩
  | fuel + 1, s, seen => by
    rw [admitted_suc]
    by_cases h : s ≥ m.lim
    · exact ⟨_, by rw [if_pos h]⟩
    · ((refine Exists.elim (hs s (by omega) seen) ?_); intro seen' e)
      ((refine Exists.elim (admitted_none hs fuel (s + 1) seen') ?_); intro seen'' e')
      exact ⟨seen'', by rw [if_neg h, e]; exact e'⟩
theorem attemptFrom_none {m : Sre.M} (hf : m.hasFirstSet = true) (hs : ∀ i, i < m.lim → ∀ seen, ∃ seen', Sre.inSet m.code (m.text.getD i 0) m.code.size 5 true seen = .ok (false, seen')) (s : Nat) (first : Bool) :
    ∃ seen', m.attemptFrom s first = { m with seen := seen' }.say false := by
  ((refine Exists.elim (admitted_none hs (m.lim + 1 - s) s m.seen) ?_); intro seen' e)
  exact ⟨seen', by unfold Sre.M.attemptFrom; rw [if_neg (by rw [hf]; decide), e]⟩
/-- the machine ahead of its first step -/
noncomputable def freshM (code text : Array Nat) (groups pos lim : Nat) (mustAdvance : Bool) : Sre.M :=
  { code, text, lim, start := pos, pc := (Sre.header code).2, pos, handed := pos, marks := Array.replicate (2 * groups) none, mustAdvance,
    seen := if (Sre.header code).2 == 0 then {} else ({} : Sre.Seen).add 14 }
theorem forSearch_eq (code text : Array Nat) (groups pos lim : Nat) (must : Bool) : Sre.forSearch code text groups pos lim must =
    (if (pos > lim || lim - pos < (Sre.header code).1) = true then (freshM code text groups pos lim must).say false
     else { freshM code text groups pos lim must with lastStart := if ((Sre.header code).1 > 1 && !((Sre.header code).2 != 0 && code.getD 2 0 &&& 5 != 0)) = true then max pos (lim - ((Sre.header code).1 - 1)) else lim }.attemptFrom pos true) := rfl
theorem said_false {m : Sre.M} (h1 : m.answer = some false) (h2 : m.frames = []) (h3 : m.outcome = none) (n : Nat) : (m.runFor (n + 1)).outcome = some .failed := by
  have h0 : m.outcome.isSome = false := by rw [h3]; rfl
  rw [Sre.M.runFor, if_neg (by rw [h0]; decide)]
  have e : (m.step).outcome = some .failed := by
    unfold Sre.M.step
    rw [if_neg (by rw [h0]; decide), h1, h2]
    rfl
  rw [runFor_some (by rw [e]; rfl), e]
theorem search_none {code text : Array Nat} (hc : code = codeName ∨ code = codeValue) (ht : ∀ i, i < text.size → 32 ≤ text.getD i 0 ∧ text.getD i 0 ≠ 127) :
    ((Sre.forSearch code text 0 0 text.size false).runFor 4).outcome = some .failed := by
  have hin : ∀ c, 32 ≤ c ∧ c ≠ 127 → ∀ seen, ∃ seen', Sre.inSet code c code.size 5 true seen = .ok (false, seen') := by
    rcases hc with rfl | rfl
    · exact fun c h => name_set h
    · exact fun c h => value_set h
  have hfs : ∀ m : Sre.M, m.code = code → m.hasFirstSet = true := by
    intro m hm
    unfold Sre.M.hasFirstSet
    rw [hm]
    rcases hc with rfl | rfl <;> rfl
  rw [forSearch_eq]
  split
  · exact said_false rfl rfl rfl _
  · obtain ⟨seen', e⟩ := attemptFrom_none (m := { freshM code text 0 0 text.size false with lastStart := _ }) (hfs _ rfl) (fun i hi => hin _ (ht i hi)) 0 true
    rw [e]
    exact said_false rfl rfl rfl _
end Mine
end
section -- E2
open PySem PySem.W PyProof.Rows
set_option maxRecDepth 100000
namespace Mine
open PySem.Sre (M ops accepts itemWidth)
section
variable {m : M}
theorem step_exec (ho : m.outcome = none) (ha : m.answer = none) (hpc : m.pc < m.code.size) : m.step = m.exec := by
  unfold M.step
  rw [ho, ha, if_neg (by decide)]
  exact if_pos hpc
theorem step_answer {b : Bool} {f : Sre.Frame} {rest : List Sre.Frame} (ho : m.outcome = none) (ha : m.answer = some b) (hf : m.frames = f :: rest) :
    m.step = M.resume { m with answer := none, frames := rest, weight := m.weight - (1 + f.kept.marks.size), pc := f.pc, pos := f.pos, outermost := f.outermost } f b := by
  unfold M.step
  rw [ho, ha, hf]
  rfl
theorem step_done {b : Bool} (ho : m.outcome = none) (ha : m.answer = some b) (hf : m.frames = []) :
    m.step = { m with outcome := some (if b then .matched else .failed) } := by
  unfold M.step
  rw [ho, ha, hf]
  rfl
theorem exec_LIT_yes (hop : m.code.getD m.pc 0 = 16) (hp : m.pos < m.lim) (hc : m.text.getD m.pos 0 = m.code.getD (m.pc + 1) 0) :
    m.exec = { m with seen := m.seen.add 16, pc := m.pc + 2, pos := m.pos + 1 } := by
  unfold M.exec
  rw [show m.word 0 = 16 from hop]
  show (if m.pos ≥ m.lim then _ else _) = _
  rw [if_neg (Nat.not_le.mpr hp)]
  show (match accepts m.code m.pc (m.text.getD m.pos 0) (m.seen.add 16) with | .error why => _ | .ok (false, seen) => _ | .ok (true, seen) => _) = _
  unfold accepts itemWidth
  rw [hop, hc]
  show (match (Except.ok (m.code.getD (m.pc + 1) 0 == m.code.getD (m.pc + 1) 0, m.seen.add 16) : Except String (Bool × Sre.Seen)) with | .error why => _ | .ok (false, seen) => _ | .ok (true, seen) => _) = _
  rw [beq_self_eq_true]
  rfl
theorem exec_LIT_no (hop : m.code.getD m.pc 0 = 16) (hc : m.lim ≤ m.pos ∨ m.text.getD m.pos 0 ≠ m.code.getD (m.pc + 1) 0) :
    m.exec = { m with seen := m.seen.add 16, answer := some false } := by
  unfold M.exec
  rw [show m.word 0 = 16 from hop]
  show (if m.pos ≥ m.lim then _ else _) = _
  by_cases hp : m.pos ≥ m.lim
  · rw [if_pos hp]; rfl
  · have hc : m.text.getD m.pos 0 ≠ m.code.getD (m.pc + 1) 0 := hc.resolve_left hp
    rw [if_neg hp]
    show (match accepts m.code m.pc (m.text.getD m.pos 0) (m.seen.add 16) with | .error why => _ | .ok (false, seen) => _ | .ok (true, seen) => _) = _
    unfold accepts
    rw [hop]
    show (match (Except.ok (m.text.getD m.pos 0 == m.code.getD (m.pc + 1) 0, m.seen.add 16) : Except String (Bool × Sre.Seen)) with | .error why => _ | .ok (false, seen) => _ | .ok (true, seen) => _) = _
    rw [beq_false_of_ne hc]
    rfl
theorem exec_JUMP (hop : m.code.getD m.pc 0 = 15) : m.exec = { m with seen := m.seen.add 15, pc := m.pc + 1 + m.code.getD (m.pc + 1) 0 } := by
  unfold M.exec
  rw [show m.word 0 = 15 from hop]
  rfl
theorem exec_SUCCESS (hop : m.code.getD m.pc 0 = 1) (h1 : m.wholeText = false) (h2 : m.mustAdvance = false) :
    m.exec = { m with seen := m.seen.add 1, handed := m.pos, answer := some true } := by
  unfold M.exec
  rw [show m.word 0 = 1 from hop]
  show (if (m.outermost && ((m.wholeText && m.pos != m.lim) || (m.mustAdvance && m.pos == m.start))) = true then _ else _) = _
  rw [h1, h2]
  exact (if_neg (by cases m.outermost <;> exact nofun)).trans rfl
theorem exec_AT (hop : m.code.getD m.pc 0 = 6) (h1 : m.code.getD (m.pc + 1) 0 = 1) :
    m.exec = if (m.pos == 0 || m.text.getD (m.pos - 1) 0 == 10) = true then { m with seen := (m.seen.add 6).add 44, pc := m.pc + 2 } else { m with seen := (m.seen.add 6).add 44, answer := some false } := by
  unfold M.exec
  rw [show m.word 0 = 6 from hop]
  show (match M.isAt { m with seen := m.seen.add 6 } (m.word 1) with | .error why => _ | .ok yes => _) = _
  rw [show m.word 1 = 1 from h1]
  show (if (m.pos == 0 || m.text.getD (m.pos - 1) 0 == 10) = true then _ else _) = _
  split
  · show ({ m with seen := (m.seen.add 6).add (43 + m.code.getD (m.pc + 1) 0), pc := m.pc + 2 } : M) = _
    rw [h1]
  · show ({ m with seen := (m.seen.add 6).add (43 + m.code.getD (m.pc + 1) 0), answer := some false } : M) = _
    rw [h1]
theorem exec_BRANCH (hop : m.code.getD m.pc 0 = 7) (hi : m.inner = none) (hz : m.code.getD (m.pc + 1) 0 ≠ 0) (hw : m.weight < 1000) :
    m.exec = { m with seen := m.seen.add 7, frames := { wait := .nextBranch, pc := m.pc + 1, pos := m.pos, outermost := m.outermost, kept := { lastmark := m.lastmark, lastindex := m.lastindex, whole := false, marks := #[] } } :: m.frames, weight := m.weight + 1, pc := m.pc + 2, handed := m.pos } := by
  unfold M.exec
  rw [show m.word 0 = 7 from hop]
  show M.alternative { m with seen := m.seen.add 7 } (m.pc + 1) (M.keep { m with seen := m.seen.add 7 } m.inner.isSome) = _
  rw [hi]
  unfold M.alternative
  refine (if_neg (fun e => hz (eq_of_beq e))).trans ?_
  unfold M.attempt
  exact (if_neg (show ¬ (m.weight + 1 + 0 > 16777216) by omega)).trans rfl
theorem exec_ASSERT_NOT (hop : m.code.getD m.pc 0 = 5) (hi : m.inner = none) (h2 : m.code.getD (m.pc + 2) 0 = 0) (hw : m.weight < 1000) :
    m.exec = { m with seen := m.seen.add 5, frames := { wait := .lookNot, pc := m.pc, pos := m.pos, outermost := m.outermost, kept := { lastmark := m.lastmark, lastindex := m.lastindex, whole := false, marks := #[] } } :: m.frames, weight := m.weight + 1, pc := m.pc + 3, handed := m.pos, outermost := false } := by
  unfold M.exec
  rw [show m.word 0 = 5 from hop]
  show (if m.pos < m.word 2 then _ else M.attempt { m with seen := m.seen.add 5 } { M.frame { m with seen := m.seen.add 5 } .lookNot with kept := M.keep { m with seen := m.seen.add 5 } (true && m.inner.isSome) } (m.pc + 3) (m.pos - m.word 2) false) = _
  rw [show m.word 2 = 0 from h2, if_neg (Nat.not_lt_zero _), hi]
  unfold M.attempt
  exact (if_neg (show ¬ (m.weight + 1 + 0 > 16777216) by omega)).trans rfl
end
end Mine
end
section -- E3
open PySem PySem.W PyProof.Rows
set_option maxRecDepth 100000
namespace Mine
open PySem.Sre (M ops accepts itemWidth)
structure RunsTo (k : Nat) (m : M) (P : M → Prop) : Prop where
  ex : ∃ n, n ≤ k ∧ P (m.runFor n)
theorem RunsTo.done {k : Nat} {m : M} {P : M → Prop} (h : P m) : RunsTo k m P := ⟨0, Nat.zero_le _, h⟩
theorem RunsTo.step {k : Nat} {m : M} {P : M → Prop} (ho : m.outcome = none) (h : RunsTo k m.step P) : RunsTo (k + 1) m P := by
  obtain ⟨n, hn, hp⟩ := h
  refine ⟨n + 1, by omega, ?_⟩
  rw [M.runFor, if_neg (by rw [ho]; decide)]
  exact hp
theorem RunsTo.mono {k k' : Nat} {m : M} {P : M → Prop} (h : RunsTo k m P) (hk : k ≤ k') : RunsTo k' m P := by
  obtain ⟨n, hn, hp⟩ := h
  exact ⟨n, by omega, hp⟩
/-- the machine's states that are met here -/
noncomputable def st (code text : Array Nat) (lim p ls pc pos handed : Nat) (om : Bool) (fr : List Sre.Frame) (w : Nat) (ans : Option Bool) (seen : Sre.Seen) : M :=
  { code, text, lim, start := p, lastStart := ls, pc, pos, handed, outermost := om, marks := #[], frames := fr, weight := w, answer := ans, seen }
noncomputable def codeA : Array Nat := #[14, 4, 0, 1, 1, 6, 1, 16, 46, 1]
noncomputable def codeB : Array Nat := #[14, 9, 4, 1, 2, 16, 10, 16, 13, 0, 7, 7, 16, 13, 16, 10, 15, 18, 5, 16, 10, 15, 13, 11, 16, 13, 5, 5, 0, 16, 10, 1, 15, 2, 0, 1]
structure Found (p e : Nat) (m : M) : Prop where
  out : m.outcome = some .matched
  start : m.start = p
  handed : m.handed = e
noncomputable def fr0 (pc p : Nat) (first : Bool) : Sre.Frame := { wait := .nextStart, pc := pc, pos := p, outermost := first }
noncomputable def frB (pc p : Nat) (first : Bool) : Sre.Frame := { wait := .nextBranch, pc := pc, pos := p, outermost := first, kept := { lastmark := -1, lastindex := -1, whole := false, marks := #[] } }
theorem fin_true {code text : Array Nat} {lim p ls pc pos handed : Nat} {om : Bool} {w : Nat} {seen : Sre.Seen} : RunsTo 1 (st code text lim p ls pc pos handed om [] w (some true) seen) (Found p handed) := by
  refine .step rfl (.done ?_)
  rw [step_done rfl rfl rfl]
  exact ⟨rfl, rfl, rfl⟩
theorem res_start_true {k : Nat} {P : M → Prop} {code text : Array Nat} {lim p ls pc pos handed pc0 p0 : Nat} {om f : Bool} {w : Nat} {seen : Sre.Seen} {rest : List Sre.Frame}
    (h : RunsTo k (st code text lim p ls pc0 p0 handed f rest (w - 1) (some true) seen) P) : RunsTo (k + 1) (st code text lim p ls pc pos handed om (fr0 pc0 p0 f :: rest) w (some true) seen) P := by
  refine .step rfl ?_
  rw [step_answer rfl rfl rfl]
  exact h
theorem res_branch_true {k : Nat} {P : M → Prop} {code text : Array Nat} {lim p ls pc pos handed pc0 p0 : Nat} {om f : Bool} {w : Nat} {seen : Sre.Seen} {rest : List Sre.Frame}
    (h : RunsTo k (st code text lim p ls pc0 p0 handed f rest (w - 1) (some true) seen) P) : RunsTo (k + 1) (st code text lim p ls pc pos handed om (frB pc0 p0 f :: rest) w (some true) seen) P := by
  refine .step rfl ?_
  rw [step_answer rfl rfl rfl]
  exact h
theorem ex_LIT {k : Nat} {P : M → Prop} {code text : Array Nat} {lim p ls pc pos handed : Nat} {om : Bool} {w : Nat} {seen : Sre.Seen} {fr : List Sre.Frame} {c : Nat}
    (hpc : pc < code.size) (hop : code.getD pc 0 = 16) (hc : code.getD (pc + 1) 0 = c)
    (hy : pos < lim → text.getD pos 0 = c → RunsTo k (st code text lim p ls (pc + 2) (pos + 1) handed om fr w none (seen.add 16)) P)
    (hn : lim ≤ pos ∨ text.getD pos 0 ≠ c → RunsTo k (st code text lim p ls pc pos handed om fr w (some false) (seen.add 16)) P) : RunsTo (k + 1) (st code text lim p ls pc pos handed om fr w none seen) P := by
  refine .step rfl ?_
  rw [step_exec rfl rfl hpc]
  by_cases h1 : pos < lim
  · by_cases h2 : text.getD pos 0 = c
    · rw [exec_LIT_yes hop h1 (h2.trans hc.symm)]
      exact hy h1 h2
    · rw [exec_LIT_no hop (.inr (by show text.getD pos 0 ≠ code.getD (pc + 1) 0; rw [hc]; exact h2))]
      exact hn (.inr h2)
  · rw [exec_LIT_no hop (.inl (Nat.le_of_not_lt h1))]
    exact hn (.inl (Nat.le_of_not_lt h1))
theorem ex_JUMP {k : Nat} {P : M → Prop} {code text : Array Nat} {lim p ls pc pos handed : Nat} {om : Bool} {w : Nat} {seen : Sre.Seen} {fr : List Sre.Frame} {d : Nat}
    (hpc : pc < code.size) (hop : code.getD pc 0 = 15) (hc : code.getD (pc + 1) 0 = d)
    (h : RunsTo k (st code text lim p ls (pc + 1 + d) pos handed om fr w none (seen.add 15)) P) : RunsTo (k + 1) (st code text lim p ls pc pos handed om fr w none seen) P := by
  refine .step rfl ?_
  rw [step_exec rfl rfl hpc, exec_JUMP hop]
  subst hc
  exact h
theorem ex_SUCCESS {k : Nat} {P : M → Prop} {code text : Array Nat} {lim p ls pc pos handed : Nat} {om : Bool} {w : Nat} {seen : Sre.Seen} {fr : List Sre.Frame}
    (hpc : pc < code.size) (hop : code.getD pc 0 = 1)
    (h : RunsTo k (st code text lim p ls pc pos pos om fr w (some true) (seen.add 1)) P) : RunsTo (k + 1) (st code text lim p ls pc pos handed om fr w none seen) P := by
  refine .step rfl ?_
  rw [step_exec rfl rfl hpc, exec_SUCCESS hop rfl rfl]
  exact h
theorem ex_BRANCH {k : Nat} {P : M → Prop} {code text : Array Nat} {lim p ls pc pos handed : Nat} {om : Bool} {w : Nat} {seen : Sre.Seen} {fr : List Sre.Frame}
    (hpc : pc < code.size) (hop : code.getD pc 0 = 7) (hz : code.getD (pc + 1) 0 ≠ 0) (hw : w < 1000)
    (h : RunsTo k (st code text lim p ls (pc + 2) pos pos om (frB (pc + 1) pos om :: fr) (w + 1) none (seen.add 7)) P) : RunsTo (k + 1) (st code text lim p ls pc pos handed om fr w none seen) P := by
  refine .step rfl ?_
  rw [step_exec rfl rfl hpc, exec_BRANCH hop rfl hz hw]
  exact h
noncomputable def frN (pc p : Nat) (first : Bool) : Sre.Frame := { wait := .lookNot, pc := pc, pos := p, outermost := first, kept := { lastmark := -1, lastindex := -1, whole := false, marks := #[] } }
theorem ex_ASSERT_NOT {k : Nat} {P : M → Prop} {code text : Array Nat} {lim p ls pc pos handed : Nat} {om : Bool} {w : Nat} {seen : Sre.Seen} {fr : List Sre.Frame}
    (hpc : pc < code.size) (hop : code.getD pc 0 = 5) (hz : code.getD (pc + 2) 0 = 0) (hw : w < 1000)
    (h : RunsTo k (st code text lim p ls (pc + 3) pos pos false (frN pc pos om :: fr) (w + 1) none (seen.add 5)) P) : RunsTo (k + 1) (st code text lim p ls pc pos handed om fr w none seen) P := by
  refine .step rfl ?_
  rw [step_exec rfl rfl hpc, exec_ASSERT_NOT hop rfl hz hw]
  exact h
/-- a branch that failed: the next one -/
theorem res_branch_false {k : Nat} {P : M → Prop} {code text : Array Nat} {lim p ls pc pos handed pc0 p0 : Nat} {om f : Bool} {w : Nat} {seen : Sre.Seen} {rest : List Sre.Frame} {d : Nat}
    (hd : code.getD pc0 0 = d) (hz : code.getD (pc0 + d) 0 ≠ 0) (hw : w < 1000) (hw0 : 0 < w)
    (h : RunsTo k (st code text lim p ls (pc0 + d + 1) p0 p0 f (frB (pc0 + d) p0 f :: rest) w none seen) P) : RunsTo (k + 1) (st code text lim p ls pc pos handed om (frB pc0 p0 f :: rest) w (some false) seen) P := by
  refine .step rfl ?_
  rw [step_answer rfl rfl rfl]
  have e : M.resume { (st code text lim p ls pc pos handed om (frB pc0 p0 f :: rest) w (some false) seen) with answer := none, frames := rest, weight := w - 1, pc := pc0, pos := p0, outermost := f } (frB pc0 p0 f) false =
      st code text lim p ls (pc0 + d + 1) p0 p0 f (frB (pc0 + d) p0 f :: rest) w none seen := by
    unfold M.resume
    show M.alternative _ (pc0 + code.getD pc0 0) _ = _
    rw [hd]
    unfold M.alternative
    refine (if_neg (fun e => hz (eq_of_beq e))).trans ?_
    unfold M.attempt
    refine (if_neg (show ¬ (w - 1 + 1 + 0 > 16777216) by omega)).trans ?_
    exact congrArg (fun w => st code text lim p ls (pc0 + d + 1) p0 p0 f (frB (pc0 + d) p0 f :: rest) w none seen) (Nat.sub_add_cancel hw0)
  exact (congrArg (fun m => RunsTo k m P) e).mpr h
theorem res_lookNot_false {k : Nat} {P : M → Prop} {code text : Array Nat} {lim p ls pc pos handed pc0 p0 : Nat} {om f : Bool} {w : Nat} {seen : Sre.Seen} {rest : List Sre.Frame} {d : Nat}
    (hd : code.getD (pc0 + 1) 0 = d)
    (h : RunsTo k (st code text lim p ls (pc0 + 1 + d) p0 handed f rest (w - 1) none seen) P) : RunsTo (k + 1) (st code text lim p ls pc pos handed om (frN pc0 p0 f :: rest) w (some false) seen) P := by
  refine .step rfl ?_
  rw [step_answer rfl rfl rfl]
  subst hd
  exact h
end Mine
end
section -- E4
open PySem PySem.W PyProof.Rows
set_option maxRecDepth 100000
namespace Mine
open PySem.Sre (M ops accepts itemWidth)
noncomputable def isNl (c : Nat) : Bool := c == 10 || c == 13
theorem setB (c : Nat) (seen : Sre.Seen) : ∃ seen', Sre.inSet codeB c codeB.size 5 true seen = .ok (isNl c, seen') := by
  unfold isNl
  have s1 : Sre.inSet codeB c 36 5 true seen = (if (c == 10) = true then .ok (true, seen.add 16) else Sre.inSet codeB c 35 7 true (seen.add 16)) := rfl
  have s2 : Sre.inSet codeB c 35 7 true (seen.add 16) = (if (c == 13) = true then .ok (true, (seen.add 16).add 16) else Sre.inSet codeB c 34 9 true ((seen.add 16).add 16)) := rfl
  by_cases h1 : (c == 10) = true
  · rw [h1]
    exact ⟨seen.add 16, s1.trans (if_pos h1)⟩
  · rw [eq_false_of_ne_true h1, Bool.false_or]
    by_cases h2 : (c == 13) = true
    · rw [h2]
      exact ⟨(seen.add 16).add 16, s1.trans ((if_neg h1).trans (s2.trans (if_pos h2)))⟩
    · rw [eq_false_of_ne_true h2]
      exact ⟨((seen.add 16).add 16).add 0, s1.trans ((if_neg h1).trans (s2.trans ((if_neg h2).trans rfl)))⟩
theorem admB {m : M} (hc : m.code = codeB) : ∀ (fuel s : Nat) (seen : Sre.Seen), m.lim ≤ s + fuel →
    (∃ p seen', s ≤ p ∧ p < m.lim ∧ isNl (m.text.getD p 0) = true ∧ (∀ q, s ≤ q → q < p → isNl (m.text.getD q 0) = false) ∧ m.admitted fuel s seen = .ok (some p, seen')) ∨
    (∃ seen', (∀ q, s ≤ q → q < m.lim → isNl (m.text.getD q 0) = false) ∧ m.admitted fuel s seen = .ok (none, seen'))
  | 0, s, seen, hf => .inr ⟨seen, fun q h1 h2 => by omega, rfl⟩
  | fuel + 1, s, seen, hf => by
    rw [admitted_suc]
    by_cases h : s ≥ m.lim
    · exact .inr ⟨seen, fun q h1 h2 => by omega, by rw [if_pos h]⟩
    · rw [if_neg h, hc]
      ((refine Exists.elim (setB (m.text.getD s 0) seen) ?_); intro seen' e)
      rw [e]
      cases hn : isNl (m.text.getD s 0) with
      | true => exact .inl ⟨s, seen', Nat.le_refl _, by omega, hn, fun q h1 h2 => by omega, rfl⟩
      | false =>
        rcases admB hc fuel (s + 1) seen' (by omega) with ⟨p, seen'', h1, h2, h3, h4, h5⟩ | ⟨seen'', h1, h2⟩
        · refine .inl ⟨p, seen'', by omega, h2, h3, fun q q1 q2 => ?_, h5⟩
          by_cases e : q = s
          · exact e ▸ hn
          · exact h4 q (by omega) q2
        · refine .inr ⟨seen'', fun q q1 q2 => ?_, h2⟩
          by_cases e : q = s
          · exact e ▸ hn
          · exact h1 q (by omega) q2
noncomputable def endB (text : Array Nat) (p : Nat) : Nat := if text.getD p 0 = 13 ∧ p + 1 < text.size ∧ text.getD (p + 1) 0 = 10 then p + 2 else p + 1
theorem noway {a b p lim : Nat} (h : lim ≤ p ∨ a ≠ b) (h1 : p < lim) (h2 : a = b) : False := by
  rcases h with h | h
  · omega
  · exact h h2
theorem runB {text : Array Nat} {p ls : Nat} {seen : Sre.Seen} (hp : p < text.size) (hn : isNl (text.getD p 0) = true) :
    RunsTo 30 (st codeB text text.size p ls 10 p p true [fr0 10 p true] 1 none seen) (Found p (endB text p)) := by
  refine ex_BRANCH (by decide) rfl (by decide) (by decide) ?_
  have fin : ∀ (pc pos handed : Nat) (seen : Sre.Seen) (q : Nat), pc = 35 → pos = endB text p → RunsTo (q + 5) (st codeB text text.size p ls pc pos handed true [frB 23 p true, fr0 10 p true] 2 none seen) (Found p (endB text p)) ∧
      RunsTo (q + 5) (st codeB text text.size p ls pc pos handed true [frB 18 p true, fr0 10 p true] 2 none seen) (Found p (endB text p)) ∧
      RunsTo (q + 5) (st codeB text text.size p ls pc pos handed true [frB 11 p true, fr0 10 p true] 2 none seen) (Found p (endB text p)) := by
    rintro pc pos handed seen q rfl rfl
    refine ⟨?_, ?_, ?_⟩ <;>
    exact ex_SUCCESS (by decide) rfl (res_branch_true (res_start_true (fin_true.mono (by omega))))
  refine ex_LIT (c := 13) (by decide) rfl rfl (fun h1 h2 => ?_) (fun h1 => ?_)
  · refine ex_LIT (c := 10) (by decide) rfl rfl (fun h3 h4 => ?_) (fun h3 => ?_)
    · refine ex_JUMP (d := 18) (by decide) rfl rfl ?_
      exact (fin _ _ _ _ 21 rfl (by rw [endB, if_pos ⟨h2, h3, h4⟩])).2.2
    · refine res_branch_false (d := 7) rfl (by decide) (by decide) (by decide) ?_
      refine ex_LIT (c := 10) (by decide) rfl rfl (fun h5 h6 => by rw [h2] at h6; cases h6) (fun h5 => ?_)
      refine res_branch_false (d := 5) rfl (by decide) (by decide) (by decide) ?_
      refine ex_LIT (c := 13) (by decide) rfl rfl (fun h7 h8 => ?_) (fun h7 => (noway h7 h1 h2).elim)
      refine ex_ASSERT_NOT (by decide) rfl rfl (by decide) ?_
      refine ex_LIT (c := 10) (by decide) rfl rfl (fun h9 h10 => (noway h3 h9 h10).elim) (fun h9 => ?_)
      refine res_lookNot_false (d := 5) rfl ?_
      refine ex_JUMP (d := 2) (by decide) rfl rfl ?_
      refine (fin _ _ _ _ 14 rfl ?_).1
      rw [endB, if_neg]
      intro hJ0
      ((refine Mine.and3 hJ0 ?_); (try clear hJ0); intro _ g1 g2)
      rcases h3 with h3 | h3
      · omega
      · exact h3 g2
  · have h13 : text.getD p 0 ≠ 13 := h1.resolve_left (by omega)
    have h10 : text.getD p 0 = 10 := by
      unfold isNl at hn
      rcases Bool.or_eq_true _ _ ▸ hn with h | h
      · exact eq_of_beq h
      · exact absurd (eq_of_beq h) h13
    refine res_branch_false (d := 7) rfl (by decide) (by decide) (by decide) ?_
    refine ex_LIT (c := 10) (by decide) rfl rfl (fun h5 h6 => ?_) (fun h5 => (noway h5 hp h10).elim)
    refine ex_JUMP (d := 13) (by decide) rfl rfl ?_
    exact (fin _ _ _ _ 20 rfl (by rw [endB, if_neg (fun g => h13 g.1)])).2.1
structure Failed (m : M) : Prop where
  out : m.outcome = some .failed
theorem runs_said {k : Nat} {m : M} (h1 : m.answer = some false) (h2 : m.frames = []) (h3 : m.outcome = none) : RunsTo (k + 1) m Failed := by
  refine .step h3 (.done ⟨?_⟩)
  rw [step_done h3 h1 h2]; rfl
theorem searchB (text : Array Nat) (s : Nat) :
    (∃ p, s ≤ p ∧ p < text.size ∧ isNl (text.getD p 0) = true ∧ (∀ q, s ≤ q → q < p → isNl (text.getD q 0) = false) ∧ RunsTo 40 (Sre.forSearch codeB text 0 s text.size false) (Found p (endB text p))) ∨
    ((∀ q, s ≤ q → q < text.size → isNl (text.getD q 0) = false) ∧ RunsTo 40 (Sre.forSearch codeB text 0 s text.size false) Failed) := by
  generalize hR : Sre.forSearch codeB text 0 s text.size false = R
  rw [forSearch_eq] at hR
  by_cases h : (s > text.size || text.size - s < (Sre.header codeB).1) = true
  · rw [if_pos h] at hR
    refine .inr ⟨fun q h1 h2 => ?_, by rw [← hR]; exact runs_said rfl rfl rfl⟩
    rw [show (Sre.header codeB).1 = 1 from rfl] at h
    simp at h; omega
  · rw [if_neg h] at hR
    generalize hm : ({ freshM codeB text 0 s text.size false with lastStart := _ } : M) = m at hR
    have hmc : m.code = codeB := by rw [← hm]; rfl
    have hml : m.lim = text.size := by rw [← hm]; rfl
    have hmt : m.text = text := by rw [← hm]; rfl
    unfold M.attemptFrom at hR
    have hfs : m.hasFirstSet = true := by unfold M.hasFirstSet; rw [hmc]; rfl
    rw [if_neg (by rw [hfs]; decide)] at hR
    rcases admB hmc (m.lim + 1 - s) s m.seen (le_add_sub1 _ _) with ⟨p, seen', h1, h2, h3, h4, h5⟩ | ⟨seen', h1, h2⟩
    · rw [h5] at hR
      rw [hml] at h2
      rw [hmt] at h3 h4
      refine .inl ⟨p, h1, h2, h3, h4, ?_⟩
      subst hm
      rw [← hR]
      exact (runB h2 h3).mono (by decide)
    · rw [h2] at hR
      rw [hml, hmt] at h1
      refine .inr ⟨h1, ?_⟩
      subst hm
      rw [← hR]
      exact runs_said rfl rfl rfl
noncomputable def atDot (text : Array Nat) (s : Nat) : Bool := (s == 0 || text.getD (s - 1) 0 == 10) && decide (s < text.size) && text.getD s 0 == 46
theorem runA_at {text : Array Nat} {s ls handed : Nat} {first : Bool} {seen : Sre.Seen} {P : M → Prop} {k : Nat}
    (hy : atDot text s = true → RunsTo (k + 2) (st codeA text text.size s ls 9 (s + 1) (s + 1) first [fr0 5 s first] 1 (some true) ((((seen.add 6).add 44).add 16).add 1)) P)
    (hn : ∀ seen' pc, atDot text s = false → RunsTo k (st codeA text text.size s ls pc s handed first [fr0 5 s first] 1 (some false) seen') P) :
    RunsTo (k + 5) (st codeA text text.size s ls 5 s handed first [fr0 5 s first] 1 none seen) P := by
  refine .step rfl ?_
  rw [step_exec rfl rfl (by show 5 < codeA.size; decide), exec_AT rfl rfl]
  show RunsTo _ (if (s == 0 || text.getD (s - 1) 0 == 10) = true then st codeA text text.size s ls 7 s handed first [fr0 5 s first] 1 none ((seen.add 6).add 44)
    else st codeA text text.size s ls 5 s handed first [fr0 5 s first] 1 (some false) ((seen.add 6).add 44)) P
  by_cases h : (s == 0 || text.getD (s - 1) 0 == 10) = true
  · rw [if_pos h]
    refine ex_LIT (pc := 7) (c := 46) (by decide) rfl rfl (fun h1 h2 => ?_) (fun h1 => ?_)
    · refine ex_SUCCESS (by decide) rfl ?_
      refine hy ?_
      unfold atDot
      rw [h, h2]; simp [h1]
    · refine (hn (((seen.add 6).add 44).add 16) 7 (by
        unfold atDot
        rw [h]
        rcases h1 with h1 | h1
        · have : ¬ s < text.size := by omega
          simp [this]
        · rw [beq_false_of_ne h1, Bool.and_false])).mono (by omega)
  · rw [if_neg h]
    exact (hn ((seen.add 6).add 44) 5 (by unfold atDot; rw [Bool.eq_false_iff.mpr h]; rfl)).mono (by omega)
/-- the search's next place -/
theorem res_start_false {k : Nat} {P : M → Prop} {text : Array Nat} {lim p ls pc pos handed p0 : Nat} {om f : Bool} {seen : Sre.Seen}
    (h1 : p0 < ls → RunsTo k (st codeA text lim (p0 + 1) ls 5 (p0 + 1) (p0 + 1) false [fr0 5 (p0 + 1) false] 1 none seen) P)
    (h2 : ¬ p0 < ls → RunsTo k (st codeA text lim p ls 5 p0 handed f [] 0 (some false) seen) P) : RunsTo (k + 1) (st codeA text lim p ls pc pos handed om [fr0 5 p0 f] 1 (some false) seen) P := by
  refine .step rfl ?_
  rw [step_answer rfl rfl rfl]
  have e : M.resume { (st codeA text lim p ls pc pos handed om [fr0 5 p0 f] 1 (some false) seen) with answer := none, frames := [], weight := 0, pc := 5, pos := p0, outermost := f } (fr0 5 p0 f) false =
      if p0 < ls then st codeA text lim (p0 + 1) ls 5 (p0 + 1) (p0 + 1) false [fr0 5 (p0 + 1) false] 1 none seen else st codeA text lim p ls 5 p0 handed f [] 0 (some false) seen := by
    show (if p0 < ls then _ else _) = _
    split <;> rfl
  refine (congrArg (fun m => RunsTo k m P) e).mpr ?_
  by_cases h : p0 < ls
  · rw [if_pos h]; exact h1 h
  · rw [if_neg h]; exact h2 h
theorem runA (text : Array Nat) : ∀ (n s handed : Nat) (first : Bool) (seen : Sre.Seen), text.size ≤ s + n → s ≤ text.size →
    (∃ p, s ≤ p ∧ atDot text p = true ∧ (∀ q, s ≤ q → q < p → atDot text q = false) ∧ RunsTo (10 * n + 20) (st codeA text text.size s text.size 5 s handed first [fr0 5 s first] 1 none seen) (Found p (p + 1))) ∨
    ((∀ q, s ≤ q → atDot text q = false) ∧ RunsTo (10 * n + 20) (st codeA text text.size s text.size 5 s handed first [fr0 5 s first] 1 none seen) Failed) := by
  intro n
  induction n with
  | zero =>
    intro s handed first seen h1 h2
    have hs : s = text.size := by omega
    have hno : ∀ q, s ≤ q → atDot text q = false := by
      intro q hq
      unfold atDot
      have : ¬ q < text.size := by omega
      simp [this]
    refine .inr ⟨hno, RunsTo.mono (k := 2 + 5) ?_ (by omega)⟩
    refine runA_at (fun h => ?_) (fun seen' pc _ => ?_)
    · rw [hno s (Nat.le_refl _)] at h; cases h
    · refine res_start_false (fun h => by omega) (fun _ => ?_)
      exact runs_said rfl rfl rfl
  | succ n ih =>
    intro s handed first seen h1 h2
    cases hd : atDot text s with
    | true =>
      refine .inl ⟨s, Nat.le_refl _, hd, fun q h3 h4 => by omega, RunsTo.mono (k := 0 + 5) ?_ (by omega)⟩
      refine runA_at (fun h => ?_) (fun seen' pc h => by rw [hd] at h; cases h)
      exact res_start_true (fin_true)
    | false =>
      by_cases hs : s < text.size
      · have key := fun (seen' : Sre.Seen) => ih (s + 1) (s + 1) false seen' (by omega) hs
        have step : ∀ (P : M → Prop), (∀ seen', RunsTo (10 * n + 20) (st codeA text text.size (s + 1) text.size 5 (s + 1) (s + 1) false [fr0 5 (s + 1) false] 1 none seen') P) →
            RunsTo (10 * (n + 1) + 20) (st codeA text text.size s text.size 5 s handed first [fr0 5 s first] 1 none seen) P := by
          intro P hP
          refine RunsTo.mono (k := 10 * n + 21 + 5) ?_ (by omega)
          refine runA_at (fun h => by rw [hd] at h; cases h) (fun seen' pc _ => ?_)
          exact res_start_false (fun _ => hP seen') (fun h => absurd hs h)
        by_cases hex : ∃ p, s + 1 ≤ p ∧ atDot text p = true ∧ ∀ q, s + 1 ≤ q → q < p → atDot text q = false
        · ((refine Exists.elim hex ?_); (try clear hex); intro p; intro hZ1; (refine Mine.and3 hZ1 ?_); clear hZ1; intro g1 g2 g3)
          refine .inl ⟨p, by omega, g2, fun q q1 q2 => ?_, step _ fun seen' => ?_⟩
          · by_cases e : q = s
            · exact e ▸ hd
            · exact g3 q (by omega) q2
          · rcases key seen' with ⟨p', k1, k2, k3, k4⟩ | ⟨k1, _⟩
            · have : p' = p := by
                by_cases e1 : p' < p
                · rw [g3 p' k1 e1] at k2; cases k2
                · by_cases e2 : p < p'
                  · rw [k3 p g1 e2] at g2; cases g2
                  · omega
              exact this ▸ k4
            · rw [k1 p g1] at g2; cases g2
        · refine .inr ⟨fun q q1 => ?_, step _ fun seen' => ?_⟩
          · by_cases e : q = s
            · exact e ▸ hd
            · rcases key {} with ⟨p', k1, k2, k3, k4⟩ | ⟨k1, _⟩
              · exact absurd ⟨p', k1, k2, k3⟩ hex
              · exact k1 q (by omega)
          · rcases key seen' with ⟨p', k1, k2, k3, k4⟩ | ⟨_, k2⟩
            · exact absurd ⟨p', k1, k2, k3⟩ hex
            · exact k2
      · have hs : s = text.size := by omega
        have hno : ∀ q, s ≤ q → atDot text q = false := by
          intro q hq
          unfold atDot
          have : ¬ q < text.size := by omega
          simp [this]
        refine .inr ⟨hno, RunsTo.mono (k := 2 + 5) ?_ (by omega)⟩
        refine runA_at (fun h => ?_) (fun seen' pc _ => ?_)
        · rw [hno s (Nat.le_refl _)] at h; cases h
        · refine res_start_false (fun h => by omega) (fun _ => ?_)
          exact runs_said rfl rfl rfl
theorem searchA (text : Array Nat) (s : Nat) :
    (∃ p, s ≤ p ∧ atDot text p = true ∧ (∀ q, s ≤ q → q < p → atDot text q = false) ∧ RunsTo (10 * text.size + 20) (Sre.forSearch codeA text 0 s text.size false) (Found p (p + 1))) ∨
    ((∀ q, s ≤ q → atDot text q = false) ∧ RunsTo (10 * text.size + 20) (Sre.forSearch codeA text 0 s text.size false) Failed) := by
  rw [forSearch_eq]
  by_cases h : (s > text.size || text.size - s < (Sre.header codeA).1) = true
  · rw [if_pos h]
    rw [show (Sre.header codeA).1 = 1 from rfl] at h
    refine .inr ⟨fun q h1 => ?_, (runs_said (k := 0) rfl rfl rfl).mono (by omega)⟩
    unfold atDot
    have : ¬ q < text.size := by simp at h; omega
    simp [this]
  · rw [if_neg h]
    have hs : s ≤ text.size := by simp at h; omega
    have e : ({ freshM codeA text 0 s text.size false with lastStart := if ((Sre.header codeA).1 > 1 && !((Sre.header codeA).2 != 0 && codeA.getD 2 0 &&& 5 != 0)) = true then max s (text.size - ((Sre.header codeA).1 - 1)) else text.size } : M).attemptFrom s true =
        st codeA text text.size s text.size 5 s s true [fr0 5 s true] 1 none (({} : Sre.Seen).add 14) := rfl
    rw [e]
    rcases runA text (text.size - s) s s true (({} : Sre.Seen).add 14) (le_add_sub _ _) hs with ⟨p, k1, k2, k3, k4⟩ | ⟨k1, k2⟩
    · exact .inl ⟨p, k1, k2, k3, k4.mono (by omega)⟩
    · exact .inr ⟨k1, k2.mono (by omega)⟩
end Mine
end
section -- HB
open PySem PySem.W PyProof.Rows
set_option maxRecDepth 100000
namespace Mine
theorem hide_ext {b₀ h : Heap} {hs : List Addr} (e : Ext b₀ h) (hn : ∀ a ∈ hs, b₀.get? a = none) : Ext b₀ (hideAll h hs) := fun b o q =>
  hideAll_get hs (e b o q) fun m => by rw [hn b m] at q; cases q
theorem ext_unhide {h h' : Heap} {hs : List Addr} (e : Ext (hideAll h hs) h') (k : ∀ a ∈ hs, ∀ o, h.get? a = some o → h'.get? a = some o) : Ext h h' := fun b o q => by
  by_cases m : b ∈ hs
  · exact k b m o q
  · exact e b o (hideAll_get hs q m)
/-- enters a def whose arguments' objects (hs) it may change -/
theorem enterH {prog : Program} {w : World} {A : Around} {s : Shared} {K : Frag} {p : Program} {loose : List Str} {mean : ExcName → Option Value} {mg mb : Str → Option Value}
    {name qual : Str} {params : Arguments} {body : List Stmt} {scope : Scope} {dV kV doc pm cdv ct oc : Value} {an od : Option Addr} {osl : Array (Option Value)} {f : Addr} {args : List Value} {kw : List (Str × Value)} {binds : List (Str × Value)} {Q E : Value → Shared → Prop}
    {hs : List Addr} {news : List (Addr × Obj)}
    (X : K.In (hideAll s.heap hs)) (T : Top p loose mean mg mb (hideAll s.heap hs)) (N : ∀ q ∈ news, s.heap.get? q.1 = some q.2 ∧ q.1 ∈ hs)
    (ho : K.lookup f = some ⟨oc, od, .func (fnOf name qual params body scope dV kV doc pm an cdv ct), osl⟩) (hcd : codeIn K cdv qual = true) (hroom : A.depth < recursionLimit)
    (hbind : BindsTo s (fnOf name qual params body scope dV kV doc pm an cdv ct) ⟨args, kw⟩ binds) (hloc : ∀ y ∈ binds, scope.names.lookup y.1 = some .local)
    (h : ∀ h₁, Fr (hideAll s.heap hs) s.heap.objs.size h₁ (fun y => binds.reverse.lookup y) → News (hideAll s.heap hs) s.heap.objs.size h₁ news → K.In (hideAll s.heap hs) → Top p loose mean mg mb (hideAll s.heap hs) →
      wpAny (model prog w) (A.deeper (envOf qual scope s.heap.objs.size f cdv)) (execs body (envOf qual scope s.heap.objs.size f cdv))
        (fun fl s' => Q (match fl with | .ret v => v | _ => .none) s') (fun _ _ => False)
        { s with heap := h₁, toks := s.toks + binds.length })
    (hco : scope.isCoroutine = false) (hgen : scope.isGenerator = false) (hk : scope.kind = .function)
    (hcell : ∀ x ∈ scope.names, x.2 ≠ .cell) : wpAny (model prog w) A (call (.ref f) args kw) Q E s := by
  have up : Ext (hideAll s.heap hs) s.heap := fun b o e => of_hideAll _ e
  refine wpAny_call ?_
  refine codeAny_call_def (fd := fnOf name qual params body scope dV kV doc pm an cdv ct) (body := body) (binds := binds) hroom (X.keeps up _ _ ho) rfl (T.nolimit.keeps up) (codeRec_of (X.keeps up) hcd) rfl hbind hcell hloc (fun h₁ hns hk₁ => ?_) hco hgen hk
  refine wpAny_mono (h h₁ ⟨hns, fun b o e => hk₁ b o (of_hideAll _ e), Nat.le_of_eq (hideAll_size _ _)⟩
    (fun q hq => ⟨hk₁ _ _ (N q hq).1, Nat.ne_of_lt (Heap.lt_size (N q hq).1), hideAll_none _ (N q hq).2⟩) X T) (fun fl s' q => ?_) (fun _ _ q => q.elim)
  exact q
/-- the same, of the code -/
theorem enterH0 {prog : Program} {w : World} {A : Around} {s : Shared} {K : Frag} {p : Program} {loose : List Str} {mean : ExcName → Option Value} {mg mb : Str → Option Value}
    {name qual : Str} {params : Arguments} {body : List Stmt} {scope : Scope} {dV kV doc pm cdv ct oc : Value} {an od : Option Addr} {osl : Array (Option Value)} {f : Addr} {args : List Value} {kw : List (Str × Value)} {binds : List (Str × Value)} {R : Result → Shared → Prop}
    {hs : List Addr} {news : List (Addr × Obj)}
    (X : K.In (hideAll s.heap hs)) (T : Top p loose mean mg mb (hideAll s.heap hs)) (N : ∀ q ∈ news, s.heap.get? q.1 = some q.2 ∧ q.1 ∈ hs)
    (ho : K.lookup f = some ⟨oc, od, .func (fnOf name qual params body scope dV kV doc pm an cdv ct), osl⟩) (hcd : codeIn K cdv qual = true) (hroom : A.depth < recursionLimit)
    (hbind : BindsTo s (fnOf name qual params body scope dV kV doc pm an cdv ct) ⟨args, kw⟩ binds) (hloc : ∀ y ∈ binds, scope.names.lookup y.1 = some .local)
    (h : ∀ h₁, Fr (hideAll s.heap hs) s.heap.objs.size h₁ (fun y => binds.reverse.lookup y) → News (hideAll s.heap hs) s.heap.objs.size h₁ news → K.In (hideAll s.heap hs) → Top p loose mean mg mb (hideAll s.heap hs) →
      wpAny (model prog w) (A.deeper (envOf qual scope s.heap.objs.size f cdv)) (execs body (envOf qual scope s.heap.objs.size f cdv))
        (fun fl s' => R (.ok (.ret (match fl with | .ret v => v | _ => .none))) s') (fun _ _ => False)
        { s with heap := h₁, toks := s.toks + binds.length })
    (hco : scope.isCoroutine = false) (hgen : scope.isGenerator = false) (hk : scope.kind = .function)
    (hcell : ∀ x ∈ scope.names, x.2 ≠ .cell) : codeAny (model prog w) A (.call (.ref f) ⟨args, kw⟩) R s := by
  have up : Ext (hideAll s.heap hs) s.heap := fun b o e => of_hideAll _ e
  refine codeAny_call_def (fd := fnOf name qual params body scope dV kV doc pm an cdv ct) (body := body) (binds := binds) hroom (X.keeps up _ _ ho) rfl (T.nolimit.keeps up) (codeRec_of (X.keeps up) hcd) rfl hbind hcell hloc (fun h₁ hns hk₁ => ?_) hco hgen hk
  refine wpAny_mono (h h₁ ⟨hns, fun b o e => hk₁ b o (of_hideAll _ e), Nat.le_of_eq (hideAll_size _ _)⟩
    (fun q hq => ⟨hk₁ _ _ (N q hq).1, Nat.ne_of_lt (Heap.lt_size (N q hq).1), hideAll_none _ (N q hq).2⟩) X T) (fun fl s' q => ?_) (fun _ _ q => q.elim)
  exact q
end Mine
end
section -- H1
open PySem PySem.W PyProof.Rows
set_option maxRecDepth 100000
namespace Mine
/-- halts the walk -/
structure Stop (P : Prop) : Prop where
  h : P
structure LpEnd (h₀ : Heap) (L : Addr) (P : (Str → Option Value) → Prop) (need : List (Addr × Obj)) (s s' : Shared) : Prop where
  ex : ∃ h tk m, s' = { s with heap := h, toks := tk } ∧ Fr h₀ L h m ∧ News h₀ L h need ∧ P m
section
variable {prog : Program} {w : World} {A : Around} {E : Value → Shared → Prop} {s : Shared}
theorem letOwned_list {elts : List PySem.Expr} {x1} {pos : Pos} {a l : Addr} {i : Nat} {v : Value} {Q : Unit → Shared → Prop} (hg : s.heap.IsListIter a l i) (hQ : Q () s) :
    wpAny (model prog w) A (letOwnedTupleGo (.Tuple elts x1 pos) (.ref a) v) Q E s := by
  ((refine Exists.elim hg ?_); (try clear hg); intro o; intro hZ1; (refine Mine.and3 hZ1 ?_); clear hZ1; intro ho hc hd)
  cases v with
  | ref T =>
    unfold letOwnedTupleGo
    refine wpAny_bind (wpAny_load ho ?_)
    rw [hc, hd]
    show wpAny _ A (if (["enumerate", "zip", "dict_itemiterator", "dict_reverseitemiterator", "odict_iterator", "itertools.zip_longest", "itertools.pairwise"].contains "list_iterator" &&
        (#[.ref l, .int i 0] : Array Value)[0]? == some (rawInt T)) = true then _ else _) Q E s
    rw [if_neg (by
      intro h
      rw [show (["enumerate", "zip", "dict_itemiterator", "dict_reverseitemiterator", "odict_iterator", "itertools.zip_longest", "itertools.pairwise"].contains "list_iterator") = false from by decide, Bool.false_and] at h
      cases h)]
    exact wpAny_pure hQ
  | _ => exact wpAny_pure hQ
/-- a for loop over a list of pairs (the list stands in the ledger) -/
theorem forTup {R : Result → Shared → Prop} {env : Env} {h₀ : Heap} {xi xc : Str} {pk pv pt : Pos} {x1 : Nat} {body : List Stmt} {l I : Addr} {vs : List Value} {nl : Nat} {p1 p2 : Nat → Value}
    {m : Str → Option Value} {news : List (Addr × Obj)} (hh : A.handled = none) (hrow : ∀ i v, vs[i]? = some v → ∃ T, v = .ref T ∧ h₀.IsTuple T #[p1 i, p2 i])
    (hxi : env.kindOf xi = some .local) (hxc : env.kindOf xc = some .local)
    (hp : (env.scope.kind == .class || (env.scope.kind == .module && env.locals != env.globals)) = false)
    (hI : ∃ i, i = 0 ∧ s.heap.IsListIter I l i) (hIL : I ≠ env.locals) (hI0 : h₀.get? I = none) (hIn : ∀ p ∈ news, p.1 ≠ I) (hl : (l, listOf vs.toArray nl) ∈ news)
    (F : Fr h₀ env.locals s.heap m) (N : News h₀ env.locals s.heap news)
    (J : Nat → (Str → Option Value) → Prop) (h0 : J 0 m)
    (step : ∀ i oI m₁ h tk, i < vs.length → J i m₁ → Fr h₀ env.locals h (fun y => if y = xc then some (p2 i) else if y = xi then some (p1 i) else m₁ y) → News h₀ env.locals h ((I, oI) :: news) →
      wpAny (model prog w) A (execs body env) (fun f s₃ => match f with
        | .ret v => R (.ok (.ret v)) s₃
        | .brk => R (.ok .next) s₃
        | _ => LpEnd h₀ env.locals (J (i + 1)) ((I, oI) :: news) s s₃) (notedBy (model prog w) A env fun e s' => R (.error e) s') { s with heap := h, toks := tk })
    (done : ∀ h tk m', Fr h₀ env.locals h m' → News h₀ env.locals h news → J vs.length m' → R (.ok .next) { s with heap := h, toks := tk }) :
    codeAny (model prog w) A (.forLoop (.Tuple [.Name xi pk, .Name xc pv] x1 pt) (.ref I) body [] env) R s := by
  refine codeAny_forLoop_any
    (fun k s' => ∃ H tk m' i, s' = { s with heap := H, toks := tk } ∧ H.IsListIter I l i ∧ Fr h₀ env.locals H m' ∧ News h₀ env.locals H news ∧ J i m' ∧ i ≤ vs.length ∧ k = vs.length + 1 - i) ?_ (vs.length + 1)
    ⟨s.heap, s.toks, m, 0, rfl, (by ((refine Exists.elim hI ?_); (try clear hI); intro i; intro hZ1; (refine And.elim ?_ hZ1); clear hZ1; intro hZ2; obtain rfl := hZ2; intro h); exact h), F, N, h0, Nat.zero_le _, rfl⟩
  intro k s' hJ2
  ((refine Mine.hideG fun G kG => ?_); (refine Mine.ex4 hJ2 ?_); (try clear hJ2); intro H tk m' i; intro hZ1; (refine Mine.and7 hZ1 ?_); clear hZ1; intro hZ2; obtain rfl := hZ2; intro hit F' N' hJ hi; intro hZ3; obtain rfl := hZ3; (refine kG ?_); clear kG G)
  have hls : H.IsList l vs.toArray := ⟨_, (N' _ hl).1, rfl, _, rfl⟩
  have next : ∀ h₁ : Heap, (∀ b o, b ≠ I → H.get? b = some o → h₁.get? b = some o) → Fr h₀ env.locals h₁ m' ∧ News h₀ env.locals h₁ news := fun h₁ hk₁ =>
    ⟨⟨F'.ns.at' fun o e => hk₁ _ o (Ne.symm hIL) e, fun b o e => hk₁ b o (fun q => by rw [q, hI0] at e; cases e) (F'.keep b o e), F'.above⟩, fun p hp => ⟨hk₁ _ _ (hIn p hp) (N' p hp).1, (N' p hp).2⟩⟩
  by_cases hlt : i < vs.length
  · ((refine Exists.elim (hrow i vs[i] (by simp [hlt])) ?_); intro T; intro hZ1; (refine And.elim ?_ hZ1); clear hZ1; intro hT hTup)
    refine wpAny_pyNext_list_item hit hls (x := vs[i]) (by simp [hlt]) fun h₁ hit₁ hs₁ => ?_
    ((refine And.elim ?_ (next h₁ fun b o hb e => (hs₁.2 b hb).trans e)); intro F₁ N₁)
    rw [hT]
    refine letOwned_list hit₁ ?_
    have ht₁ : h₁.IsTuple T #[p1 i, p2 i] := hTup.at fun o e => F₁.keep _ _ e
    refine wpAny_assign_Tuple hh ht₁ rfl rfl fun h₃ hx₃ => ?_
    replace hx₃ : Heap.ExtBut h₁.objs.size h₁ h₃ := hx₃
    have up₃ : ∀ b o, h₁.get? b = some o → h₃.get? b = some o := fun b o x => hx₃ b o (Nat.ne_of_lt (Heap.lt_size x)) x
    have F₃ := F₁.keeps up₃
    have N₃ := N₁.grown up₃
    show wpAny _ A (do holding [p2 i] (assign (.Name xi pk) env (p1 i)); do holding [] (assign (.Name xc pv) env (p2 i)); pure ()) _ _ _
    refine wpAny_bind (wpAny_holding (wpAny_assign_Name (wpAny_storeName_local hxi F₃.ns (fun h₄ hn₄ hs₄ => ?_) hp)))
    replace hs₄ : Heap.SameBut env.locals h₃ h₄ := hs₄
    have F₄ := F₃.set hn₄ hs₄
    refine wpAny_bind (wpAny_holding (wpAny_assign_Name (wpAny_storeName_local hxc F₄.ns (fun h₅ hn₅ hs₅ => wpAny_pure ?_) hp)))
    replace hs₅ : Heap.SameBut env.locals h₄ h₅ := hs₅
    have F₅ := F₄.set hn₅ hs₅
    have N₅ : News h₀ env.locals h₅ news := (N₃.set hs₄).set hs₅
    ((refine Exists.elim (id hit₁) ?_); intro oI'; intro hZ1; (refine Mine.and3 hZ1 ?_); clear hZ1; intro hoI hIc hId)
    have hI5 : h₅.get? I = some oI' := (hs₅.2 _ hIL).trans ((hs₄.2 _ hIL).trans (up₃ _ _ hoI))
    have N₆ : News h₀ env.locals h₅ ((I, oI') :: news) := fun p hp => by
      rcases List.mem_cons.mp hp with rfl | hp
      · exact ⟨hI5, hIL, hI0⟩
      · exact N₅ p hp
    refine wpAny_mono (step i oI' m' h₅ _ hlt hJ F₅ N₆) (fun f s₃ h₆ => ?_) fun _ _ e => e
    have fin : LpEnd h₀ env.locals (J (i + 1)) ((I, oI') :: news) s s₃ →
        ∃ mk, mk < vs.length + 1 - i ∧ ∃ H tk m' i, s₃ = { s with heap := H, toks := tk } ∧ H.IsListIter I l i ∧ Fr h₀ env.locals H m' ∧ News h₀ env.locals H news ∧ J i m' ∧ i ≤ vs.length ∧ mk = vs.length + 1 - i := by
      intro hJ0
      obtain ⟨⟨h', tk', m₂, rfl, F₇, N₇, hJ₇⟩⟩ := hJ0
      exact ⟨vs.length + 1 - (i + 1), sub_dn1 hlt, h', tk', m₂, i + 1, rfl, ⟨oI', (N₇ _ (.head _)).1, hIc, hId⟩, F₇, fun p hp => N₇ p (.tail _ hp), hJ₇, hlt, rfl⟩
    cases f with
    | ret v => exact h₆
    | brk => exact h₆
    | cont => exact fin h₆
    | next => exact fin h₆
  · have hin : i = vs.length := by omega
    subst hin
    refine wpAny_pyNext_list_end hh hit hls (by simp) fun h₁ hs₁ => wpAny_execs_nil ?_
    ((refine And.elim ?_ (next h₁ hs₁)); intro F₁ N₁)
    exact done h₁ _ m' F₁ N₁ hJ
end
end Mine
end
section -- HC
open PySem PySem.W PyProof.Rows PyProof.Rows.LCg PyProof.Rows.LCp PyProof.Rows.LCt
set_option maxRecDepth 100000
set_option linter.unusedVariables false
namespace Mine
section
variable {prog : Program} {w : World} {A : Around} {h₀ : Heap} {L : Addr} {m : Str → Option Value} {env : Env}
theorem compEnd_mono {s₁ : Shared} {I C D : Addr} {oI oC oD : Obj} {S : List (Addr × Obj) → Prop} {rest rest' : Value → List (Addr × Obj) → Prop} {y : Value} {s₂ : Shared}
    (h : CompEnd h₀ L m s₁ I oI C oC D oD S rest y s₂) (k : ∀ news', rest y news' → rest' y news') : CompEnd h₀ L m s₁ I oI C oC D oD S rest' y s₂ := by
  ((refine Mine.ex3 h ?_); (try clear h); intro h' tk news'; intro hZ1; (refine Mine.and6 hZ1 ?_); clear hZ1; intro e F N o hS r)
  exact ⟨h', tk, news', e, F, N, o, hS, k _ r⟩
theorem restP_ind {elt : PySem.Expr} {x x₂ : Str} {scope : Scope} {cl : List (Str × Addr)} {s : Shared} {S : List (Addr × Obj) → Prop} {P : Nat → Value → Prop} {Fin : List Value → List (Addr × Obj) → Prop} {news : List (Addr × Obj)}
    (J : Nat → List Value → List (Addr × Obj) → Prop) (n : Nat)
    (step : ∀ i ys news v, i < n → J i ys news → P i v → ∃ (t : Addr) (ot : Obj) (v₁ v₂ : Value) (nt : Nat), v = .ref t ∧ (t, ot) ∈ news ∧ ot.cls = .type "tuple" ∧ ot.data = .seq #[v₁, v₂] nt ∧
      ∀ I oI C oC D m₂ h tk (E' : Value → Shared → Prop), NsObj oC m₂ → m₂ x = some v₁ → m₂ x₂ = some v₂ → Fr h₀ L h m → News h₀ L h ((I, oI) :: (C, oC) :: (D, lst ys) :: news) → Off3 I C D news → ((@Ne Nat I C) ∧ (@Ne Nat I D) ∧ (@Ne Nat C D)) →
        wpAny (model prog w) A (eval elt (compEnvC scope cl C env)) (CompEnd h₀ L m { s with heap := h, toks := tk } I oI C oC D (lst ys) S (fun y news' => J (i + 1) (ys ++ [y]) news')) E' { s with heap := h, toks := tk })
    (fin : ∀ ys news, J n ys news → Fin ys news) (h0 : J 0 [] news) : CompRestP prog w A h₀ L m env elt x x₂ scope cl s S P Fin n 0 [] news := by
  have main : ∀ (k i : Nat) (ys : List Value) (news : List (Addr × Obj)), i + k = n → J i ys news → CompRestP prog w A h₀ L m env elt x x₂ scope cl s S P Fin k i ys news := by
    intro k
    induction k with
    | zero => intro i ys news hi hJ; obtain rfl : i = n := by omega
              exact CompRestP.zero (fin _ _ hJ)
    | succ k ih =>
      intro i ys news hi hJ
      refine CompRestP.succ fun v hv => ?_
      ((refine Mine.ex5 (step i ys news v (by omega) hJ hv) ?_); intro t ot v₁ v₂ nt; intro hZ1; (refine Mine.and5 hZ1 ?_); clear hZ1; intro e1 e2 e3 e4 go)
      refine ⟨t, ot, v₁, v₂, nt, e1, e2, e3, e4, ?_⟩
      intro I oI C oC D m₂ h tk E' a1 a2 a3 F N o ne
      exact wpAny_mono (go I oI C oC D m₂ h tk E' a1 a2 a3 F N o ne) (fun y s₂ q => compEnd_mono q fun news' r => ih (i + 1) _ _ (by omega) r) fun _ _ q => q
  exact main n 0 [] news (by omega) h0
theorem restU_ind {elt : PySem.Expr} {x : Str} {scope : Scope} {cl : List (Str × Addr)} {s : Shared} {S : List (Addr × Obj) → Prop} {P : Nat → Value → Prop} {Fin : List Value → List (Addr × Obj) → Prop} {news : List (Addr × Obj)}
    (J : Nat → List Value → List (Addr × Obj) → Prop) (n : Nat)
    (step : ∀ i ys news v I oI C oC D m₂ h tk (E' : Value → Shared → Prop), i < n → J i ys news → P i v → NsObj oC m₂ → m₂ x = some v → Fr h₀ L h m → News h₀ L h ((I, oI) :: (C, oC) :: (D, lst ys) :: news) → Off3 I C D news → ((@Ne Nat I C) ∧ (@Ne Nat I D) ∧ (@Ne Nat C D)) →
        wpAny (model prog w) A (eval elt (compEnvC scope cl C env)) (CompEnd h₀ L m { s with heap := h, toks := tk } I oI C oC D (lst ys) S (fun y news' => J (i + 1) (ys ++ [y]) news')) E' { s with heap := h, toks := tk })
    (fin : ∀ ys news, J n ys news → Fin ys news) (h0 : J 0 [] news) : CompRest prog w A h₀ L m env elt x scope cl s S P Fin n 0 [] news := by
  have main : ∀ (k i : Nat) (ys : List Value) (news : List (Addr × Obj)), i + k = n → J i ys news → CompRest prog w A h₀ L m env elt x scope cl s S P Fin k i ys news := by
    intro k
    induction k with
    | zero => intro i ys news hi hJ; obtain rfl : i = n := by omega
              exact CompRest.zero (fin _ _ hJ)
    | succ k ih =>
      intro i ys news hi hJ
      refine CompRest.succ ?_
      intro v I oI C oC D m₂ h tk E' a0 a1 a2 F N o ne
      exact wpAny_mono (step i ys news v I oI C oC D m₂ h tk E' (by omega) hJ a0 a1 a2 F N o ne) (fun y s₂ q => compEnd_mono q fun news' r => ih (i + 1) _ _ (by omega) r) fun _ _ q => q
  exact main n 0 [] news (by omega) h0
theorem restT_ind {ct elt : PySem.Expr} {x : Str} {scope : Scope} {cl : List (Str × Addr)} {s : Shared} {S : List (Addr × Obj) → Prop} {P : Nat → Value → Prop} {Fin : List Value → List (Addr × Obj) → Prop} {news : List (Addr × Obj)}
    (J : Nat → List Value → List (Addr × Obj) → Prop) (n : Nat)
    (step : ∀ i ys news v I oI C oC D m₂ h tk (E' : Value → Shared → Prop), i < n → J i ys news → P i v → NsObj oC m₂ → m₂ x = some v → Fr h₀ L h m → News h₀ L h ((I, oI) :: (C, oC) :: (D, lst ys) :: news) → Off3 I C D news → ((@Ne Nat I C) ∧ (@Ne Nat I D) ∧ (@Ne Nat C D)) →
      wpAny (model prog w) A (isTrue ct (compEnvC scope cl C env) (eval ct (compEnvC scope cl C env))) (fun ok s' => if ok = true then
        wpAny (model prog w) A (eval elt (compEnvC scope cl C env)) (CompEnd h₀ L m { s with heap := h, toks := tk } I oI C oC D (lst ys) S (fun y news' => J (i + 1) (ys ++ [y]) news')) E' s'
        else CompEnd h₀ L m { s with heap := h, toks := tk } I oI C oC D (lst ys) S (fun _ news' => J (i + 1) ys news') Value.none s') E' { s with heap := h, toks := tk })
    (fin : ∀ ys news, J n ys news → Fin ys news) (h0 : J 0 [] news) : CompRestT prog w A h₀ L m env ct elt x scope cl s S P Fin n 0 [] news := by
  have main : ∀ (k i : Nat) (ys : List Value) (news : List (Addr × Obj)), i + k = n → J i ys news → CompRestT prog w A h₀ L m env ct elt x scope cl s S P Fin k i ys news := by
    intro k
    induction k with
    | zero => intro i ys news hi hJ; obtain rfl : i = n := by omega
              exact CompRestT.zero (fin _ _ hJ)
    | succ k ih =>
      intro i ys news hi hJ
      refine CompRestT.succ ?_
      intro v I oI C oC D m₂ h tk E' a0 a1 a2 F N o ne
      refine wpAny_mono (step i ys news v I oI C oC D m₂ h tk E' (by omega) hJ a0 a1 a2 F N o ne) (fun ok s₂ q => ?_) fun _ _ q => q
      cases ok with
      | true => exact wpAny_mono q (fun y s₃ q => compEnd_mono q fun news' r => ih (i + 1) _ _ (by omega) r) fun _ _ q => q
      | false =>
        rw [if_neg (by decide)] at q ⊢
        exact compEnd_mono q fun news' r => ih (i + 1) _ _ (by omega) r
  exact main n 0 [] news (by omega) h0
end
end Mine
end
section -- NC
open PySem PySem.W PyProof.Rows PyProof.Rows.LCg
set_option maxRecDepth 100000
set_option linter.unusedVariables false
set_option maxHeartbeats 4000000
namespace Mine
section
variable (elt it1 it2 : PySem.Expr) (x y : Str) (px py : Pos) (scope : Scope) (pos : Pos)
abbrev comp2 : PySem.Expr := .ListComp elt [⟨.Name x px, it1, [], 0⟩, ⟨.Name y py, it2, [], 0⟩] scope pos
theorem turn0_eq (it acc : Value) (env : Env) : compTurn (comp2 elt it1 it2 x y px py scope pos) 0 it acc env = (standAt it1.pos >>= fun _ => pyNext it >>= fun r => match r with
    | none => pure (.done .next)
    | some v => letOwnedTupleGo (.Name x px) it v >>= fun _ => assign (.Name x px) env v >>= fun _ =>
      eval it2 env >>= fun z => standAt it2.pos >>= fun _ => foldedSetIterable it2 env z >>= fun z => (holding [z] (pyIter z)) >>= fun z => runOwn (.compStart (comp2 elt it1 it2 x y px py scope pos) 1 z acc env) env >>= fun _ =>
        again (.compLoop (comp2 elt it1 it2 x y px py scope pos) 0 it acc env)) := by rfl
theorem turn1_eq (it acc : Value) (env : Env) : compTurn (comp2 elt it1 it2 x y px py scope pos) 1 it acc env = (standAt it2.pos >>= fun _ => pyNext it >>= fun r => match r with
    | none => pure (.done .next)
    | some v => letOwnedTupleGo (.Name y py) it v >>= fun _ => assign (.Name y py) env v >>= fun _ =>
      (eval elt env >>= fun z => call (.builtin "list.append") [acc, z] >>= fun _ => pure ()) >>= fun _ =>
        again (.compLoop (comp2 elt it1 it2 x y px py scope pos) 1 it acc env)) := by rfl
end
section
variable {prog : Program} {w : World} {A : Around} {E : Value → Shared → Prop} {R : Result → Shared → Prop} {s : Shared} {elt it1 it2 : PySem.Expr} {x y : Str} {px py : Pos} {scope : Scope} {pos : Pos}
theorem start1 {it acc : Value} {env : Env} (h0 : codeAny (model prog w) A (.compLoop (comp2 elt it1 it2 x y px py scope pos) 1 it acc env) R s)
    (h : wpAny (model prog w) A (pyIter it) (fun it' s' => codeAny (model prog w) A (.compLoop (comp2 elt it1 it2 x y px py scope pos) 1 it' acc env) R s') (notedBy (model prog w) A env fun x s' => R (.error x) s') s) :
    codeAny (model prog w) A (.compStart (comp2 elt it1 it2 x y px py scope pos) 1 it acc env) R s := by
  refine codeAny_of_tree ?_
  show wpAny _ _ ((compStart (comp2 elt it1 it2 x y px py scope pos) 1 it acc env).onRaise (fun x => do noteFrame x env; standAt theWindowsPlace)) _ _ s
  refine wpAny_notedAt ?_
  unfold compStart
  show wpAny _ _ (ask >>= _) _ _ s
  refine wpAny_bind (wpAny_askSetting (wpAny_ite ?_))
  split
  · first
      | exact wpAny_bind (wpAny_pure (wpAny_pure (And.intro rfl h0)))
      | exact wpAny_pure (And.intro rfl h0)
  · first
      | exact wpAny_bind (wpAny_rule (wpAny_bind (wpAny_standAt (wpAny_bind (wpAny_mono h (fun it' s' h' => wpAny_pure (And.intro rfl h')) fun _ _ x => x)))))
      | (refine wpAny_bind (wpAny_rule ?_); show wpAny _ _ (standAt it2.pos >>= _) _ _ s; exact wpAny_bind (wpAny_standAt (wpAny_bind (wpAny_mono h (fun it' s' h' => wpAny_pure (And.intro rfl h')) fun _ _ x => x))))
/-- all but these stand -/
noncomputable def KeepX (bad : List Addr) (h h' : Heap) : Prop := ∀ b o, b ∉ bad → h.get? b = some o → h'.get? b = some o
theorem KeepX.trans {bad : List Addr} {h h' h'' : Heap} (a : KeepX bad h h') (b : KeepX bad h' h'') : KeepX bad h h'' := fun c o m e => b c o m (a c o m e)
theorem KeepX.same {a : Addr} {bad : List Addr} {h h' : Heap} (s : Heap.SameBut a h h') (m : a ∈ bad) : KeepX bad h h' := fun c o n e => (s.2 c (fun q => n (q ▸ m))).trans e
theorem KeepX.ext {a : Addr} {bad : List Addr} {h h' : Heap} (s : Heap.ExtBut a h h') (m : a ∈ bad) : KeepX bad h h' := fun c o n e => s c o (fun q => n (q ▸ m)) e
theorem KeepX.more {bad bad' : List Addr} {h h' : Heap} (k : KeepX bad h h') (m : ∀ a ∈ bad, a ∈ bad') : KeepX bad' h h' := fun c o n e => k c o (fun q => n (m c q)) e
/-- a new pair -/
noncomputable def NewPair (h h' : Heap) (v : Value) (p : Int × Int) : Prop := ∃ T ta tb, v = .ref T ∧ h'.IsTuple T #[.int p.1 ta, .int p.2 tb] ∧ h.get? T = none
theorem Paired.imp {α β : Type} {F G : α → β → Prop} : ∀ {a : List α} {b : List β}, Paired F a b → (∀ u v, F u v → G u v) → Paired G a b :=
  fun H k => Paired.rec (motive := fun a b _ => Paired G a b) .nil (fun h _ ih => .cons (k _ _ h) ih) H
theorem Paired.append {α β : Type} {F : α → β → Prop} : ∀ {a a' : List α} {b b' : List β}, Paired F a b → Paired F a' b' → Paired F (a ++ a') (b ++ b') :=
  fun H k => Paired.rec (motive := fun a b _ => Paired F (a ++ _) (b ++ _)) k (fun h _ ih => .cons h ih) H
theorem NewPair.keep {h h' h'' : Heap} {bad : List Addr} {v : Value} {p : Int × Int} (H : NewPair h h' v p) (k : KeepX bad h' h'') (hb : ∀ a ∈ bad, ∃ o, h.get? a = some o) : NewPair h h'' v p := by
  ((refine Mine.hideG fun G kG => ?_); (refine Mine.ex3 H ?_); (try clear H); intro T ta tb; intro hZ1; (refine Mine.and3 hZ1 ?_); clear hZ1; intro e; intro hZ2; (refine Exists.elim hZ2 ?_); clear hZ2; intro o; intro hZ3; (refine And.elim ?_ hZ3); clear hZ3; intro ho r hn; (refine kG ?_); clear kG G)
  exact ⟨T, ta, tb, e, ⟨o, k T o (fun m => by ((refine Exists.elim (hb T m) ?_); intro o' e'); rw [hn] at e'; cases e') ho, r⟩, hn⟩
theorem inner_loop {cenv : Env} {I2 D2 D : Addr} {us ys0 : List Value} {ns : List Int} {a : Int} {ta : Tok} {m : Str → Option Value} (hh : A.handled = none) (hy : cenv.kindOf y = some .local)
    (hp : (cenv.scope.kind == .class || (cenv.scope.kind == .module && cenv.locals != cenv.globals)) = false) (hxy : x ≠ y)
    (n1 : D ≠ cenv.locals) (n2 : I2 ≠ cenv.locals) (n3 : I2 ≠ D) (n4 : D2 ≠ I2) (n5 : D2 ≠ cenv.locals) (n6 : D2 ≠ D)
    (hus : IntsAre us ns) (hsz : ys0.length + ns.length ≤ 1000)
    (helt : ∀ (s₃ : Shared) (m₃ : Str → Option Value) (b : Int) (tb : Tok) (Q E' : Value → Shared → Prop), s₃.heap.Ns cenv.locals m₃ → m₃ x = some (.int a ta) → m₃ y = some (.int b tb) →
      (∀ tk, Q (.ref s₃.heap.objs.size) { s₃ with heap := s₃.heap.push { cls := .type "tuple", data := .seq #[.int a ta, .int b tb] 0 }, toks := tk }) → wpAny (model prog w) A (eval elt cenv) Q E' s₃)
    (hit : s.heap.IsListIter I2 D2 0) (hl : s.heap.IsList D2 us.toArray) (hD : s.heap.get? D = some (lst ys0)) (hC : s.heap.Ns cenv.locals m) (hm : m x = some (.int a ta))
    (hR : ∀ h' tk zs m', KeepX [I2, cenv.locals, D] s.heap h' → h'.get? D = some (lst (ys0 ++ zs)) → h'.Ns cenv.locals m' → Paired (fun v b => NewPair s.heap h' v (a, b)) zs ns → R (.ok .next) { s with heap := h', toks := tk }) :
    codeAny (model prog w) A (.compLoop (comp2 elt it1 it2 x y px py scope pos) 1 (.ref I2) (.ref D) cenv) R s := by
  have hul := hus.length
  have hbad : ∀ b ∈ [I2, cenv.locals, D], ∃ o, s.heap.get? b = some o := fun b hb => by
    replace hb := mem3 hb
    (rcases hb with hZ | rfl | hZ <;> (try ((replace hZ := Eq.symm hZ); obtain rfl := hZ)))
    · ((refine Exists.elim hit ?_); (try clear hit); intro o; intro hZ1; (refine And.elim ?_ hZ1); clear hZ1; intro ho _); exact ⟨o, ho⟩
    · ((refine Mine.ex3 hC ?_); (try clear hC); intro o _ _; intro hZ1; (refine And.elim ?_ hZ1); clear hZ1; intro ho _); exact ⟨o, ho⟩
    · exact ⟨_, hD⟩
  refine codeAny_loop rfl (fun n s' => ∃ h' tk i zs m', s' = { s with heap := h', toks := tk } ∧ i ≤ ns.length ∧ n = ns.length + 1 - i ∧ h'.IsListIter I2 D2 i ∧ KeepX [I2, cenv.locals, D] s.heap h' ∧ h'.get? D = some (lst (ys0 ++ zs)) ∧ h'.Ns cenv.locals m' ∧ m' x = some (.int a ta) ∧
      Paired (fun v b => NewPair s.heap h' v (a, b)) zs (ns.take i)) (fun n s' hI => ?_) (ns.length + 1) ⟨s.heap, s.toks, 0, [], m, rfl, Nat.zero_le _, rfl, hit, fun _ _ _ e => e, by simpa using hD, hC, hm, .nil⟩
  ((refine Mine.hideG fun G kG => ?_); (refine Mine.ex5 hI ?_); (try clear hI); intro h' tk i zs m'; intro hZ1; (refine Mine.and9 hZ1 ?_); clear hZ1; intro hZ2; obtain rfl := hZ2; intro hi; intro hZ3; obtain rfl := hZ3; intro hit' hk hD' hC' hm' hP; (refine kG ?_); clear kG G)
  have hl' : h'.IsList D2 us.toArray := by
    ((refine Exists.elim hl ?_); (try clear hl); intro o; intro hZ1; (refine And.elim ?_ hZ1); clear hZ1; intro ho r)
    exact ⟨o, hk D2 o (by simp [n4, n5, n6]) ho, r⟩
  have hzl : zs.length ≤ ns.length := by have := Paired.length hP; rw [this, List.length_take]; omega
  show wpAny _ A ((compTurn (comp2 elt it1 it2 x y px py scope pos) 1 (.ref I2) (.ref D) cenv).onRaise (fun x => do noteFrame x cenv; theTreesLotGoes x)) _ _ _
  refine wpAny_noted ?_
  rw [turn1_eq]
  refine wpAny_bind (wpAny_standAt (wpAny_bind ?_))
  by_cases hlt : i < ns.length
  · ((refine Exists.elim (hus.get i ns[i] (List.getElem?_eq_getElem hlt)) ?_); intro tb hv)
    refine wpAny_pyNext_list_item hit' hl' (x := .int ns[i] tb) (by simpa using hv) fun h₁ hit₁ hs₁ => ?_
    refine wpAny_bind (wpAny_of_eq (a := ()) rfl ?_)
    refine wpAny_bind (wpAny_assign_Name (wpAny_storeName_local hy (hC'.sameBut hs₁ (Ne.symm n2)) (fun h₂ hn₂ hs₂ => ?_) hp))
    obtain ⟨m₂, hn₂, hmx, hmy⟩ : ∃ m₂, h₂.Ns cenv.locals m₂ ∧ m₂ x = some (.int a ta) ∧ m₂ y = some (.int ns[i] tb) := ⟨_, hn₂, by rw [if_neg hxy]; exact hm', if_pos rfl⟩
    refine wpAny_bind (wpAny_bind ?_)
    refine helt _ _ ns[i] tb _ _ hn₂ hmx hmy (fun tk3 => ?_)
    have hD2 : h₂.get? D = some (lst (ys0 ++ zs)) := (hs₂.2 D n1).trans ((hs₁.2 D (Ne.symm n3)).trans hD')
    have hD3 : (h₂.push { cls := .type "tuple", data := .seq #[.int a ta, .int ns[i] tb] 0 }).get? D = some (lst (ys0 ++ zs)) := Heap.get?_push_of_some _ hD2
    refine wpAny_bind (append_at (hsz := by show (ys0 ++ zs).toArray.size ≤ sizeLine; rw [List.size_toArray, List.length_append, sizeLine_eq]; omega) hD3 fun h₄ hs₄ hD₄ => ?_)
    refine wpAny_pure (wpAny_pure ⟨rfl, ns.length + 1 - (i + 1), sub_dn1 hlt, h₄, _, i + 1, zs ++ [.ref h₂.objs.size], m₂, rfl, hlt, rfl, ?_, ?_, ?_, ?_, ?_, ?_⟩)
    · ((refine Exists.elim hit₁ ?_); (try clear hit₁); intro o; intro hZ1; (refine And.elim ?_ hZ1); clear hZ1; intro ho r)
      exact ⟨o, (hs₄.2 I2 n3).trans (Heap.get?_push_of_some _ ((hs₂.2 I2 n2).trans ho)), r⟩
    · refine KeepX.trans hk (KeepX.trans (KeepX.same hs₁ (.head _)) (KeepX.trans (KeepX.same hs₂ (.tail _ (.head _))) (KeepX.trans (fun b o _ e => Heap.get?_push_of_some _ e) (KeepX.same hs₄ (.tail _ (.tail _ (.head _)))))))
    · rw [hD₄, ← List.append_assoc]
      exact congrArg some (lst_snoc _ _)
    · exact (hn₂.push _).sameBut hs₄ (Ne.symm n1)
    · exact hmx
    · have kk : KeepX [I2, cenv.locals, D] h' h₄ := KeepX.trans (KeepX.same hs₁ (.head _)) (KeepX.trans (KeepX.same hs₂ (.tail _ (.head _))) (KeepX.trans (fun b o _ e => Heap.get?_push_of_some _ e) (KeepX.same hs₄ (.tail _ (.tail _ (.head _))))))
      have e : ns.take (i + 1) = ns.take i ++ [ns[i]] := by rw [List.take_add_one, List.getElem?_eq_getElem hlt]; rfl
      rw [e]
      refine Paired.append (Paired.imp hP fun v b q => q.keep kk hbad) (.cons ?_ .nil)
      have hnew : s.heap.get? h₂.objs.size = none := by
        cases q : s.heap.get? h₂.objs.size with
        | none => rfl
        | some o =>
          have k2 : KeepX [I2, cenv.locals, D] s.heap h₂ := KeepX.trans hk (KeepX.trans (KeepX.same hs₁ (.head _)) (KeepX.same hs₂ (.tail _ (.head _))))
          have hno : h₂.get? h₂.objs.size = none := Heap.get?_none_of_le (Nat.le_refl _)
          by_cases hb : h₂.objs.size ∈ [I2, cenv.locals, D]
          · exfalso
            replace hb := mem3 hb
            rcases hb with hb | hb | hb
            · ((refine Exists.elim hit₁ ?_); (try clear hit₁); intro o'; intro hZ1; (refine And.elim ?_ hZ1); clear hZ1; intro ho' _)
              rw [hb, hs₂.2 I2 n2, ho'] at hno; cases hno
            · ((refine Mine.ex3 hn₂ ?_); (try clear hn₂); intro o' _ _; intro hZ1; (refine And.elim ?_ hZ1); clear hZ1; intro ho' _)
              rw [hb, ho'] at hno; cases hno
            · rw [hb, hD2] at hno; cases hno
          · rw [k2 _ o hb q] at hno; cases hno
      refine ⟨h₂.objs.size, ta, tb, rfl, ⟨_, (hs₄.2 _ ?_).trans (Heap.get?_push_size _ rfl), rfl, 0, rfl⟩, hnew⟩
      exact fun q => by rw [← q, Heap.get?_none_of_le (Nat.le_refl _)] at hD2; cases hD2
  · obtain rfl : i = ns.length := by omega
    refine wpAny_pyNext_list_end hh hit' hl' (by simp [hul]) fun h₁ hs₁ => ?_
    rw [List.take_length] at hP
    have kk : KeepX [I2, cenv.locals, D] h' h₁ := KeepX.ext hs₁ (.head _)
    refine wpAny_pure (hR h₁ _ zs m' (hk.trans kk) (hs₁ D _ (Ne.symm n3) hD') (hC'.at' fun o e => hs₁ _ o (Ne.symm n2) e) (Paired.imp hP fun v b q => q.keep kk hbad))
theorem NewPair.back {h h₂ h' : Heap} {bad : List Addr} {v : Value} {p : Int × Int} (H : NewPair h₂ h' v p) (k : KeepX bad h h₂) (hb : ∀ a ∈ bad, ∃ o, h₂.get? a = some o) : NewPair h h' v p := by
  ((refine Mine.ex3 H ?_); (try clear H); intro T ta tb; intro hZ1; (refine Mine.and3 hZ1 ?_); clear hZ1; intro e hT hn)
  refine ⟨T, ta, tb, e, hT, ?_⟩
  cases q : h.get? T with
  | none => rfl
  | some o =>
    by_cases m : T ∈ bad
    · ((refine Exists.elim (hb T m) ?_); intro o' e'); rw [hn] at e'; cases e'
    · rw [k T o m q] at hn; cases hn
theorem lt_nat {h : Heap} {b : Addr} {o : Obj} (e : h.get? b = some o) : @LT.lt Nat _ b h.objs.size := Heap.lt_size e
noncomputable def pairsOfL (as bs : List Int) : List (Int × Int) := as.flatMap fun a => bs.map fun b => (a, b)
theorem Paired.mapR {α β γ : Type} {F : α → γ → Prop} {g : β → γ} : ∀ {a : List α} {b : List β}, Paired (fun u v => F u (g v)) a b → Paired F a (b.map g) :=
  fun H => Paired.rec (motive := fun a b _ => Paired F a (b.map g)) .nil (fun h _ ih => .cons h ih) H
theorem outer_loop {cenv : Env} {I ax D : Addr} {vs : List Value} {as bs : List Int} {m : Str → Option Value} (hh : A.handled = none) (hx : cenv.kindOf x = some .local) (hy : cenv.kindOf y = some .local)
    (hp : (cenv.scope.kind == .class || (cenv.scope.kind == .module && cenv.locals != cenv.globals)) = false) (hxy : x ≠ y)
    (n1 : D ≠ cenv.locals) (n2 : I ≠ cenv.locals) (n3 : I ≠ D) (n4 : ax ≠ I) (n5 : ax ≠ cenv.locals) (n6 : ax ≠ D)
    (hvs : IntsAre vs as) (hsz : as.length * bs.length + bs.length ≤ 1000) (hs2 : ∀ z, foldedSetIterable it2 cenv z = pure z)
    (helt : ∀ (a : Int) (ta : Tok) (s₃ : Shared) (m₃ : Str → Option Value) (b : Int) (tb : Tok) (Q E' : Value → Shared → Prop), s₃.heap.Ns cenv.locals m₃ → m₃ x = some (.int a ta) → m₃ y = some (.int b tb) →
      (∀ tk, Q (.ref s₃.heap.objs.size) { s₃ with heap := s₃.heap.push { cls := .type "tuple", data := .seq #[.int a ta, .int b tb] 0 }, toks := tk }) → wpAny (model prog w) A (eval elt cenv) Q E' s₃)
    (hit2 : ∀ (s₃ : Shared) (m₃ : Str → Option Value) (Q E' : Value → Shared → Prop), (∃ h tk, s₃ = { s with heap := h, toks := tk }) → KeepX [I, cenv.locals, D] s.heap s₃.heap → s₃.heap.Ns cenv.locals m₃ →
      (∀ D2 h' tk us k, s₃.heap.get? D2 = none → h'.get? D2 = some (listOf (List.toArray us) k) → IntsAre us bs → Ext s₃.heap h' → Q (.ref D2) { s₃ with heap := h', toks := tk }) → wpAny (model prog w) A (eval it2 cenv) Q E' s₃)
    (hit : s.heap.IsListIter I ax 0) (hl : s.heap.IsList ax vs.toArray) (hD : s.heap.get? D = some (lst [])) (hC : s.heap.Ns cenv.locals m)
    (hR : ∀ h' tk zs m', KeepX [I, cenv.locals, D] s.heap h' → h'.get? D = some (lst zs) → h'.Ns cenv.locals m' → Paired (NewPair s.heap h') zs (pairsOfL as bs) → R (.ok .next) { s with heap := h', toks := tk }) :
    codeAny (model prog w) A (.compLoop (comp2 elt it1 it2 x y px py scope pos) 0 (.ref I) (.ref D) cenv) R s := by
  have hul := hvs.length
  have hbad : ∀ b ∈ [I, cenv.locals, D], ∃ o, s.heap.get? b = some o := fun b hb => by
    replace hb := mem3 hb
    (rcases hb with hZ | rfl | hZ <;> (try ((replace hZ := Eq.symm hZ); obtain rfl := hZ)))
    · ((refine Exists.elim hit ?_); (try clear hit); intro o; intro hZ1; (refine And.elim ?_ hZ1); clear hZ1; intro ho _); exact ⟨o, ho⟩
    · ((refine Mine.ex3 hC ?_); (try clear hC); intro o _ _; intro hZ1; (refine And.elim ?_ hZ1); clear hZ1; intro ho _); exact ⟨o, ho⟩
    · exact ⟨_, hD⟩
  have plen : ∀ l : List Int, (pairsOfL l bs).length = l.length * bs.length := fun l => by
    unfold pairsOfL
    induction l with
    | nil => simp
    | cons a r ih => rw [List.flatMap_cons, List.length_append, ih, List.length_map, List.length_cons, Nat.succ_mul]; omega
  refine codeAny_loop rfl (fun n s' => ∃ h' tk i zs m', s' = { s with heap := h', toks := tk } ∧ i ≤ as.length ∧ n = as.length + 1 - i ∧ h'.IsListIter I ax i ∧ KeepX [I, cenv.locals, D] s.heap h' ∧ h'.get? D = some (lst zs) ∧ h'.Ns cenv.locals m' ∧
      Paired (NewPair s.heap h') zs (pairsOfL (as.take i) bs)) (fun n s' hI => ?_) (as.length + 1) ⟨s.heap, s.toks, 0, [], m, rfl, Nat.zero_le _, rfl, hit, fun _ _ _ e => e, hD, hC, .nil⟩
  ((refine Mine.hideG fun G kG => ?_); (refine Mine.ex5 hI ?_); (try clear hI); intro h' tk i zs m'; intro hZ1; (refine Mine.and8 hZ1 ?_); clear hZ1; intro hZ2; obtain rfl := hZ2; intro hi; intro hZ3; obtain rfl := hZ3; intro hit' hk hD' hC' hP; (refine kG ?_); clear kG G)
  have hl' : h'.IsList ax vs.toArray := by
    ((refine Exists.elim hl ?_); (try clear hl); intro o; intro hZ1; (refine And.elim ?_ hZ1); clear hZ1; intro ho r)
    exact ⟨o, hk ax o (by simp [n4, n5, n6]) ho, r⟩
  have hzl : zs.length ≤ as.length * bs.length := by
    have := Paired.length hP
    rw [this, plen, List.length_take]
    exact Nat.mul_le_mul_right _ (Nat.min_le_right _ _)
  show wpAny _ A ((compTurn (comp2 elt it1 it2 x y px py scope pos) 0 (.ref I) (.ref D) cenv).onRaise (fun x => do noteFrame x cenv; theTreesLotGoes x)) _ _ _
  refine wpAny_noted ?_
  rw [turn0_eq]
  refine wpAny_bind (wpAny_standAt (wpAny_bind ?_))
  by_cases hlt : i < as.length
  · ((refine Exists.elim (hvs.get i as[i] (List.getElem?_eq_getElem hlt)) ?_); intro ta hv)
    refine wpAny_pyNext_list_item hit' hl' (x := .int as[i] ta) (by simpa using hv) fun h₁ hit₁ hs₁ => ?_
    refine wpAny_bind (wpAny_of_eq (a := ()) rfl ?_)
    refine wpAny_bind (wpAny_assign_Name (wpAny_storeName_local hx (hC'.sameBut hs₁ (Ne.symm n2)) (fun h₂ hn₂ hs₂ => ?_) hp))
    obtain ⟨m₂, hn₂, hmx⟩ : ∃ m₂, h₂.Ns cenv.locals m₂ ∧ m₂ x = some (.int as[i] ta) := ⟨_, hn₂, if_pos rfl⟩
    have k2 : KeepX [I, cenv.locals, D] s.heap h₂ := KeepX.trans hk (KeepX.trans (KeepX.same hs₁ (.head _)) (KeepX.same hs₂ (.tail _ (.head _))))
    have hD2 : h₂.get? D = some (lst zs) := (hs₂.2 D n1).trans ((hs₁.2 D (Ne.symm n3)).trans hD')
    have hI2 : h₂.IsListIter I ax (i + 1) := by
      ((refine Exists.elim hit₁ ?_); (try clear hit₁); intro o; intro hZ1; (refine And.elim ?_ hZ1); clear hZ1; intro ho r)
      exact ⟨o, (hs₂.2 I n2).trans ho, r⟩
    refine wpAny_bind (hit2 _ m₂ _ _ ⟨_, _, rfl⟩ k2 hn₂ fun D2 h₃ tk3 us k3 fr3 g3 hus e3 => ?_)
    refine wpAny_bind (wpAny_standAt (wpAny_bind ?_))
    rw [hs2]
    refine wpAny_pure (wpAny_bind (wpAny_holding ?_))
    have hD2l : h₃.IsList D2 us.toArray := ⟨_, g3, rfl, k3, rfl⟩
    refine wpAny_pyIter_list hD2l ?_
    have up : Ext h₃ (h₃.push { cls := .type "list_iterator", data := .fields #[.ref D2, .int 0 0] }) := fun b o e => Heap.get?_push_of_some _ e
    have hI3 : h₃.objs.size ≠ D := fun q => by
      have := e3 _ _ hD2
      rw [← q, Heap.get?_none_of_le (Nat.le_refl _)] at this; cases this
    have hI4 : h₃.objs.size ≠ cenv.locals := fun q => by
      ((refine Mine.ex3 hn₂ ?_); (try clear hn₂); intro o _ _; intro hZ1; (refine And.elim ?_ hZ1); clear hZ1; intro ho _)
      have := e3 _ _ ho
      rw [← q, Heap.get?_none_of_le (Nat.le_refl _)] at this; cases this
    have dn : ∀ b o, h₂.get? b = some o → D2 ≠ b := fun b o e q => by
      have fr3' : h₂.get? D2 = none := fr3
      rw [q, e] at fr3'; cases fr3'
    have dC : D2 ≠ cenv.locals := by ((refine Mine.ex3 (id hn₂) ?_); intro o _ _; intro hZ1; (refine And.elim ?_ hZ1); clear hZ1; intro ho _); exact dn _ _ ho
    have dD : D2 ≠ D := dn _ _ hD2
    have dI : D2 ≠ h₃.objs.size := Nat.ne_of_lt (Heap.lt_size g3)
    have hn₄ : (h₃.push { cls := .type "list_iterator", data := .fields #[.ref D2, .int 0 0] }).Ns cenv.locals m₂ := hn₂.at' fun o e => up _ _ (e3 _ _ e)
    have inner : codeAny (model prog w) A (.compLoop (comp2 elt it1 it2 x y px py scope pos) 1 (.ref h₃.objs.size) (.ref D) cenv) (fun r s' => match r with
        | .ok f => wpAny (model prog w) A (again (.compLoop (comp2 elt it1 it2 x y px py scope pos) 0 (.ref I) (.ref D) cenv)) (fun fin s' => match fin with
            | .done f => R (.ok f) s'
            | .again c' => c' = (.compLoop (comp2 elt it1 it2 x y px py scope pos) 0 (.ref I) (.ref D) cenv) ∧ ∃ m, m < as.length + 1 - i ∧ ∃ h' tk i zs m', s' = { s with heap := h', toks := tk } ∧ i ≤ as.length ∧ m = as.length + 1 - i ∧ h'.IsListIter I ax i ∧ KeepX [I, cenv.locals, D] s.heap h' ∧ h'.get? D = some (lst zs) ∧ h'.Ns cenv.locals m' ∧
                Paired (NewPair s.heap h') zs (pairsOfL (as.take i) bs)) (notedBy (model prog w) A cenv fun e s' => R (.error e) s') s'
        | .error e => cameBackBy (model prog w) A cenv (notedBy (model prog w) A cenv fun e s' => R (.error e) s') e s') { s with heap := h₃.push { cls := .type "list_iterator", data := .fields #[.ref D2, .int 0 0] }, toks := tk3 } := by
      refine inner_loop (ns := bs) (a := as[i]) (ta := ta) (m := m₂) (us := us) (ys0 := zs) hh hy hp hxy n1 hI4 hI3 dI dC dD hus (by omega) (helt as[i] ta) ⟨_, Heap.get?_push_size _ rfl, rfl, rfl⟩ (IsList.ext hD2l up) (up _ _ (e3 _ _ hD2)) hn₄ hmx ?_
      intro h₅ tk5 zs5 m5 k5 g5 hn5 hP5
      have k4 : KeepX [I, cenv.locals, D] s.heap (h₃.push { cls := .type "list_iterator", data := .fields #[.ref D2, .int 0 0] }) := KeepX.trans k2 fun b o _ e => up _ _ (e3 _ _ e)
      have hb4 : ∀ b ∈ [I, cenv.locals, D], ∃ o, (h₃.push { cls := .type "list_iterator", data := .fields #[.ref D2, .int 0 0] }).get? b = some o := fun b hb => by
        replace hb := mem3 hb
        (rcases hb with hZ | rfl | hZ <;> (try ((replace hZ := Eq.symm hZ); obtain rfl := hZ)))
        · ((refine Exists.elim hI2 ?_); (try clear hI2); intro o; intro hZ1; (refine And.elim ?_ hZ1); clear hZ1; intro ho _); exact ⟨o, up _ _ (e3 _ _ ho)⟩
        · ((refine Mine.ex3 hn₄ ?_); (try clear hn₄); intro o _ _; intro hZ1; (refine And.elim ?_ hZ1); clear hZ1; intro ho _); exact ⟨o, ho⟩
        · exact ⟨_, up _ _ (e3 _ _ hD2)⟩
      have k25 : ∀ b o, b ≠ cenv.locals → b ≠ D → h₂.get? b = some o → h₅.get? b = some o := fun b o q1 q2 e => by
        have e' := e3 _ _ e
        refine k5 b o ?_ (up _ _ e')
        simp only [List.mem_cons, List.not_mem_nil, or_false, not_or]
        exact ⟨Nat.ne_of_lt (Heap.lt_size e'), q1, q2⟩
      refine wpAny_pure ⟨rfl, as.length + 1 - (i + 1), sub_dn1 hlt, h₅, tk5, i + 1, zs ++ zs5, m5, rfl, hlt, rfl, ?_, ?_, g5, hn5, ?_⟩
      · ((refine Exists.elim hI2 ?_); (try clear hI2); intro o; intro hZ1; (refine And.elim ?_ hZ1); clear hZ1; intro ho r)
        exact ⟨o, k25 I o n2 n3 ho, r⟩
      · intro b o hb e
        have e2 := k2 b o hb e
        simp only [List.mem_cons, List.not_mem_nil, or_false, not_or] at hb
        exact k25 b o hb.2.1 hb.2.2 e2
      · have e : pairsOfL (as.take (i + 1)) bs = pairsOfL (as.take i) bs ++ bs.map fun b => (as[i], b) := by
          unfold pairsOfL
          rw [List.take_add_one, List.getElem?_eq_getElem hlt, List.flatMap_append]
          simp
        rw [e]
        refine Paired.append (Paired.imp hP fun v p q => ?_) (Paired.mapR (Paired.imp hP5 fun v b q => q.back k4 hb4))
        have k15 : KeepX [I, cenv.locals, D] h' h₅ := fun b o hb e => by
          have e2 := (KeepX.trans (KeepX.same hs₁ (.head _)) (KeepX.same hs₂ (.tail _ (.head _))) : KeepX [I, cenv.locals, D] h' h₂) b o hb e
          simp only [List.mem_cons, List.not_mem_nil, or_false, not_or] at hb
          exact k25 b o hb.2.1 hb.2.2 e2
        exact q.keep k15 hbad
    refine wpAny_bind (wpAny_runOwn (start1 inner ?_))
    exact wpAny_pyIter_listiter (i := 0) (l := D2) ⟨_, Heap.get?_push_size _ rfl, rfl, rfl⟩ inner
  · obtain rfl : i = as.length := by omega
    refine wpAny_pyNext_list_end hh hit' hl' (by simp [hul]) fun h₁ hs₁ => ?_
    rw [List.take_length] at hP
    have kk : KeepX [I, cenv.locals, D] h' h₁ := KeepX.ext hs₁ (.head _)
    exact wpAny_pure (hR h₁ _ zs m' (hk.trans kk) (hs₁ D _ (Ne.symm n3) hD') (hC'.at' fun o e => hs₁ _ o (Ne.symm n2) e) (Paired.imp hP fun v b q => q.keep kk hbad))
end
section
variable {prog : Program} {w : World} {A : Around} {E : Value → Shared → Prop} {s : Shared} {elt it1 it2 : PySem.Expr} {x y : Str} {px py : Pos} {scope : Scope} {pos spos : Pos} {env : Env} {B : Heap} {M : Str → Option Value}
theorem assign_comp2 {p : Str} {pp : Pos} {cl : List (Str × Addr)} {Q : Flow → Shared → Prop} {as bs : List Int}
    (hsw : swapsWith (comp2 elt it1 it2 x y px py scope pos) (some (.Name p pp)) spos.line env = pure true)
    (hs1 : ∀ z, foldedSetIterable it1 env z = pure z) (hs2 : ∀ C z, foldedSetIterable it2 (compEnvC scope cl C env) z = pure z)
    (hclos : closureFor scope env = pure cl) (hcell : ∀ z ∈ scope.names, z.2 ≠ .cell) (hkind : scope.kind = .function)
    (hnames : ∀ z ∈ scope.names, z.2 = .local → scope.names.lookup z.1 = some .local) (hx : scope.names.lookup x = some .local) (hy : scope.names.lookup y = some .local) (hxy : x ≠ y)
    (hpn : env.kindOf p = some .local) (hpc : (env.scope.kind == .class || (env.scope.kind == .module && env.locals != env.globals)) = false) (hh : A.handled = none) (hsz : as.length * bs.length + bs.length ≤ 1000)
    (helt : ∀ (C : Addr) (a : Int) (ta : Tok) (s₃ : Shared) (m₃ : Str → Option Value) (b : Int) (tb : Tok) (Q E' : Value → Shared → Prop), s₃.heap.Ns C m₃ → m₃ x = some (.int a ta) → m₃ y = some (.int b tb) →
      (∀ tk, Q (.ref s₃.heap.objs.size) { s₃ with heap := s₃.heap.push { cls := .type "tuple", data := .seq #[.int a ta, .int b tb] 0 }, toks := tk }) → wpAny (model prog w) A (eval elt (compEnvC scope cl C env)) Q E' s₃)
    (h : wpAny (model prog w) A (eval it1 env) (fun xv s₁ => ∃ ax vs, xv = .ref ax ∧ Fr B env.locals s₁.heap M ∧ s₁.heap.IsList ax (List.toArray vs) ∧ IntsAre vs as ∧
      (∀ (C : Addr) (s₃ : Shared) (m₃ : Str → Option Value) (Q E' : Value → Shared → Prop), (∃ h tk, s₃ = { s₁ with heap := h, toks := tk }) → Ext s₁.heap s₃.heap → s₃.heap.Ns C m₃ →
        (∀ D2 h' tk us k, s₃.heap.get? D2 = none → h'.get? D2 = some (listOf (List.toArray us) k) → IntsAre us bs → Ext s₃.heap h' → Q (.ref D2) { s₃ with heap := h', toks := tk }) → wpAny (model prog w) A (eval it2 (compEnvC scope cl C env)) Q E' s₃) ∧
      (∀ D h' tk zs, Fr B env.locals h' (fun z => if z = p then some (.ref D) else M z) → h'.get? D = some (lst zs) → Paired (NewPair s₁.heap h') zs (pairsOfL as bs) → (∀ b o, b ≠ env.locals → s₁.heap.get? b = some o → h'.get? b = some o) → s₁.heap.get? D = none → Q .next { s₁ with heap := h', toks := tk })) E s) :
    wpAny (model prog w) A (exec (.Assign [.Name p pp] (comp2 elt it1 it2 x y px py scope pos) spos) env) Q E s := by
  rw [exec_Assign_Name_used _ _ _ _ hsw]
  refine wpAny_bind (wpAny_standAt (wpAny_bind ?_))
  show wpAny _ A (do let _ ← comprehension (comp2 elt it1 it2 x y px py scope pos) scope env _ (newList []) false (eval it1 env) (some (assign (.Name p pp) env))) _ _ s
  refine wpAny_bind (wpAny_mono (wpAny_comprehension_free (use := some (assign (.Name p pp) env)) (Q := fun _ s' => Q .next s') rfl hs1 hclos hkind hnames
    (wpAny_mono h (fun xv s₁ h₁ => ?_) fun _ _ e => e)) (fun _ s' hq => wpAny_pure (wpAny_pure hq)) fun _ _ e => e)
  ((refine Mine.ex2 h₁ ?_); (try clear h₁); intro ax vs; intro hZ1; (refine Mine.and6 hZ1 ?_); clear hZ1; intro hZ2; obtain rfl := hZ2; intro F hl hvs hit2 fin)
  refine wpAny_pyIter_list hl ?_
  refine wpAny_newObj_type (wpAny_newFunctionEnv hcell (by intro y hy; simp at hy) (fun h₁ hns₁ hsb₁ => ?_) hkind)
  dsimp only at hns₁ hsb₁ ⊢
  have hI : (s₁.heap.push { cls := .type "list_iterator", data := .fields #[.ref ax, .int 0 0] }).get? s₁.heap.objs.size = some { cls := .type "list_iterator", data := .fields #[.ref ax, .int 0 0] } := Heap.get?_push_size _ rfl
  generalize hH1 : s₁.heap.push { cls := .type "list_iterator", data := .fields #[.ref ax, .int 0 0] } = H1 at *
  have z1 : H1.objs.size = s₁.heap.objs.size + 1 := by rw [← hH1, Heap.size_push]
  have e1 : Ext s₁.heap H1 := fun b o e => hH1 ▸ Heap.get?_push_of_some _ e
  generalize hH2 : H1.push { cls := .type "list", dict := none, data := .seq ([] : List Value).toArray } = H2 at *
  have z2 : H2.objs.size = H1.objs.size + 1 := by rw [← hH2, Heap.size_push]
  have e2 : Ext H1 H2 := fun b o e => hH2 ▸ Heap.get?_push_of_some _ e
  have hD2 : H2.get? H1.objs.size = some (lst []) := hH2 ▸ Heap.get?_push_size _ rfl
  have up : ∀ b o, b ≠ H2.objs.size → H2.get? b = some o → h₁.get? b = some o := fun b o hb e => hsb₁.extBut b o hb (Heap.get?_push_of_some _ e)
  have old : Ext s₁.heap h₁ := fun b o e => up b o (Nat.ne_of_lt (by have := lt_nat e; omega)) (e2 _ _ (e1 _ _ e))
  have fresh : ∀ a, s₁.heap.objs.size ≤ a → s₁.heap.get? a = none := fun a ha => Heap.get?_none_of_le ha
  have hLlt : @LT.lt Nat _ env.locals s₁.heap.objs.size := F.ns.lt
  have axlt : @LT.lt Nat _ ax s₁.heap.objs.size := by ((refine Exists.elim hl ?_); (try clear hl); intro o; intro hZ1; (refine And.elim ?_ hZ1); clear hZ1; intro ho _); exact Heap.lt_size ho
  have loop : codeAny (model prog w) A (.compLoop (comp2 elt it1 it2 x y px py scope pos) 0 (.ref s₁.heap.objs.size) (.ref H1.objs.size) (compEnvC scope cl H2.objs.size env))
      (compPost (model prog w) A E (some (assign (.Name p pp) env)) (fun _ s' => Q .next s') (.ref H1.objs.size) H2.objs.size) { s₁ with heap := h₁, toks := s₁.toks + ([] : List (Str × Value)).length } := by
    refine outer_loop (I := s₁.heap.objs.size) (ax := ax) (D := H1.objs.size) (vs := vs) (as := as) (bs := bs) (cenv := compEnvC scope cl H2.objs.size env) (m := fun _ => none) hh (lookup_relabel_local hx) (lookup_relabel_local hy) (by simp [compEnvC, relabel, hkind]) hxy
      (Nat.ne_of_lt (show H1.objs.size < H2.objs.size by omega)) (Nat.ne_of_lt (show s₁.heap.objs.size < H2.objs.size by omega)) (Nat.ne_of_lt (by omega)) (Nat.ne_of_lt axlt) (Nat.ne_of_lt (show @LT.lt Nat _ ax H2.objs.size by omega)) (Nat.ne_of_lt (by omega)) hvs hsz (hs2 _) (helt _) ?_ ?_ (IsList.ext hl old) (up _ _ (Nat.ne_of_lt (by omega)) hD2) (hns₁.at' fun o e => e) ?_
    · intro s₃ m₃ Q₃ E₃ hs3 hk hn3 hq
      refine hit2 _ s₃ m₃ Q₃ E₃ ?_ (fun b o e => ?_) hn3 hq
      · ((refine Mine.ex2 hs3 ?_); (try clear hs3); intro h tk; intro hZ1; obtain rfl := hZ1); exact ⟨h, tk, rfl⟩
      · refine hk b o ?_ (old b o e)
        have := lt_nat e
        simp only [List.mem_cons, List.not_mem_nil, or_false, not_or]
        exact ⟨Nat.ne_of_lt (by omega), Nat.ne_of_lt (show @LT.lt Nat _ b H2.objs.size by omega), Nat.ne_of_lt (by omega)⟩
    · exact ⟨_, up _ _ (Nat.ne_of_lt (by omega)) (e2 _ _ hI), rfl, rfl⟩
    · intro h' tk zs m' hk hD' hn' hP
      have oldX : ∀ b o, s₁.heap.get? b = some o → h'.get? b = some o := fun b o e => by
        refine hk b o ?_ (old b o e)
        have := lt_nat e
        simp only [List.mem_cons, List.not_mem_nil, or_false, not_or]
        exact ⟨Nat.ne_of_lt (by omega), Nat.ne_of_lt (show @LT.lt Nat _ b H2.objs.size by omega), Nat.ne_of_lt (by omega)⟩
      have F' : Fr B env.locals h' M := F.keeps oldX
      show wpAny _ A (assign (.Name p pp) env (.ref H1.objs.size)) _ _ _
      refine wpAny_assign_Name (wpAny_storeName_local hpn F'.ns (fun h₂ hn₂ hs₂ => ?_) hpc)
      have hL₀ : B.get? env.locals = none := Heap.get?_none_of_le F'.above
      have F₂ : Fr B env.locals h₂ (fun z => if z = p then some (.ref H1.objs.size) else M z) := ⟨hn₂, fun b o e => hs₂.extBut b o (fun q => by rw [q, hL₀] at e; cases e) (F'.keep b o e), F'.above⟩
      have cL : H2.objs.size ≠ env.locals := Nat.ne_of_gt (by omega)
      have dL : H1.objs.size ≠ env.locals := Nat.ne_of_gt (by omega)
      refine ⟨m', hn'.sameBut hs₂ cL, fun h'' hs'' => ?_⟩
      have hC₀ : B.get? H2.objs.size = none := Heap.get?_none_of_le (by have := F.above; omega)
      have k3 : ∀ b o, b ≠ env.locals → b ≠ H2.objs.size → h'.get? b = some o → h''.get? b = some o := fun b o q1 q2 e => hs''.extBut b o q2 (hs₂.extBut b o q1 e)
      have hnew : ∀ T, h₁.get? T = none → s₁.heap.get? T = none := fun T q => by
        cases e : s₁.heap.get? T with
        | none => rfl
        | some o => rw [old _ _ e] at q; cases q
      refine fin H1.objs.size h'' _ zs (F₂.change hs'' cL hC₀) (k3 _ _ dL (Nat.ne_of_lt (by omega)) hD') (Paired.imp hP fun v q hq => ?_) (fun b o q1 e => k3 b o q1 (Nat.ne_of_lt (by have := lt_nat e; omega)) (oldX b o e)) (fresh _ (by omega))
      ((refine Mine.hideG fun G kG => ?_); (refine Mine.ex3 hq ?_); (try clear hq); intro T ta tb; intro hZ1; (refine Mine.and3 hZ1 ?_); clear hZ1; intro ev; intro hZ2; (refine Exists.elim hZ2 ?_); clear hZ2; intro o; intro hZ3; (refine And.elim ?_ hZ3); clear hZ3; intro ho r hn; (refine kG ?_); clear kG G)
      refine ⟨T, ta, tb, ev, ⟨o, k3 T o ?_ ?_ ho, r⟩, hnew T hn⟩
      · rintro rfl
        ((refine Mine.ex3 F.ns ?_); intro o' _ _; intro hZ1; (refine And.elim ?_ hZ1); clear hZ1; intro ho' _)
        rw [old _ _ ho'] at hn; cases hn
      · rintro rfl
        ((refine Mine.ex3 hns₁ ?_); (try clear hns₁); intro o' _ _; intro hZ1; (refine And.elim ?_ hZ1); clear hZ1; intro ho' _)
        have hn' : h₁.get? H2.objs.size = none := hn
        rw [ho'] at hn'; cases hn'
  refine codeAny_compStart_list loop ?_
  exact wpAny_pyIter_listiter (i := 0) (l := ax) ⟨_, up _ _ (Nat.ne_of_lt (by omega)) (e2 _ _ hI), rfl, rfl⟩ loop
end
end Mine
end
section -- G1
open PySem PySem.W PyProof.Rows
set_option maxRecDepth 100000
namespace Mine
section
variable {M : Model} {A : Around} {R : GenEnd} {Y : Protocol} {n : Nat} {s₀ : Shared} {c : Code} {fs : List Frame} {s : Shared} {env : Env}
  {K : Flow → Sem Fin} {H : Value → Sem Fin} {gd : Bool → Bool} {lv : List Value → List Value}
theorem seg_wrapF {α : Type} {m : Sem α} {K : α → Sem Fin} {H : Value → Sem Fin} {gd lv}
    (h : wpAny M (A.over c fs) m (fun a s' => Seg M A R Y n s₀ c (K a) fs s') (fun _ _ => False) s) :
    Seg M A R Y n s₀ c (m.wrap K H gd lv) fs s := seg_wrap (wpAny_mono h (fun _ _ x => x) fun _ _ x => x.elim)
theorem seg_If {test : PySem.Expr} {body orelse : List Stmt} {pos : Pos}
    (h : wpAny M (A.over c fs) (isTrue test env (eval test env)) (fun b s' => if b = true then Seg M A R Y n s₀ c ((execs body env).wrap K H gd lv) fs s'
      else Seg M A R Y n s₀ c ((execs orelse env).wrap K H gd lv) fs s') (fun _ _ => False) s) :
    Seg M A R Y n s₀ c ((exec (.If test body orelse pos) env).wrap K H gd lv) fs s := by
  show Seg M A R Y n s₀ c (.at pos fun _ => (isTrue test env (eval test env) >>= fun b => if b = true then execs body env else execs orelse env).wrap K H gd lv) fs s
  refine seg_at ?_
  rw [Sem.bind_eq_wrap', Sem.wrap_wrap]
  refine seg_wrapF (wpAny_mono h (fun b s' h' => ?_) fun _ _ x => x)
  cases b <;> simpa using h'
theorem seg_stmt {st : Stmt} {rest : List Stmt}
    (h : wpAny M (A.over c fs) (exec st env) (fun f s' => f = .next ∧ Seg M A R Y n s₀ c ((execs rest env).wrap K H gd lv) fs s') (fun _ _ => False) s) :
    Seg M A R Y n s₀ c ((execs (st :: rest) env).wrap K H gd lv) fs s :=
  seg_execs_cons (seg_wrapF (wpAny_mono h (by rintro f s' ⟨rfl, h⟩; exact h) fun _ _ x => x))
noncomputable def backF (env : Env) : Result → Sem Flow := fun r => ((match r with | .ok f => (.pure f : Sem Flow) | .error e => .raise e).onRaise fun (x : Value) => do
        if (← field x 1) == Value.none then unsupported "frame.own-activation:exception-without-traceback"
        setFlight x env.frame)
theorem seg_For {target iter : PySem.Expr} {body orelse : List Stmt} {pos : Pos}
    (h : wpAny M (A.over c fs) (eval iter env) (fun x s₁ => wpAny M (A.over c fs) (pyIter x) (fun it s₂ => ∀ p,
      Seg M A R Y n s₀ (.forLoop target it body orelse env) (M.den (.forLoop target it body orelse env)) (.ret (fun r => (backF env r).wrap K H gd lv) none (gd false) (lv []) c p [] :: fs) s₂) (fun _ _ => False) s₁) (fun _ _ => False) s)
    (hs : ∀ x, foldedSetIterable iter env x = pure x := by intro _; rfl) :
    Seg M A R Y n s₀ c ((exec (.For target iter body orelse pos) env).wrap K H gd lv) fs s := by
  rw [exec_For]
  show Seg M A R Y n s₀ c (.at pos fun _ => _) fs s
  refine seg_at ?_
  show Seg M A R Y n s₀ c (Sem.wrap K H gd lv (eval iter env >>= fun y => _)) fs s
  rw [Sem.bind_eq_wrap', Sem.wrap_wrap]
  refine seg_wrapF (wpAny_mono h (fun x s₁ h₁ => ?_) fun _ _ x => x)
  rw [hs x]
  show Seg M A R Y n s₀ c (.at iter.pos fun _ => Sem.wrap K H gd lv (holding [x] (pyIter x) >>= fun it => _)) fs s₁
  refine seg_at ?_
  rw [Sem.bind_eq_wrap', Sem.wrap_wrap]
  refine seg_wrapF (wpAny_holding (wpAny_mono h₁ (fun it s₂ h₂ => ?_) fun _ _ x => x))
  exact seg_call h₂
end
section
variable {prog : Program} {w : World} {A : Around} {R : GenEnd} {Y : Protocol} {n : Nat} {s₀ : Shared} {fs : List Frame} {s : Shared} {env : Env}
noncomputable def turnK (target : PySem.Expr) (it : Value) (body orelse : List Stmt) (env : Env) : Flow → Sem Fin := fun f => match f with
            | .next | .cont => .pure (.again (.forLoop target it body orelse env))
            | .brk => .pure (.done .next)
            | .ret v => .pure (.done (.ret v))
noncomputable def turnH (env : Env) : Value → Sem Fin := fun e => (do noteFrame e env; theTreesLotGoes e : Sem Unit).wrap (fun _ => .raise e) .raise id id
theorem seg_forLoop {target : PySem.Expr} {it : Value} {body : List Stmt}
    (h : wpAny (model prog w) (A.over (.forLoop target it body [] env) fs) (pyNext it) (fun r s' => match r with
      | none => Seg (model prog w) A R Y n s₀ (.block [] env) (leafOf (.ok .next)) fs s'
      | some v => wpAny (model prog w) (A.over (.forLoop target it body [] env) fs) (letOwnedTupleGo target it v) (fun _ s₁ =>
          wpAny (model prog w) (A.over (.forLoop target it body [] env) fs) (assign target env v) (fun _ s₂ =>
            Seg (model prog w) A R Y n s₀ (.forLoop target it body [] env) ((execs body env).wrap (turnK target it body [] env) (turnH env) id id) fs s₂) (fun _ _ => False) s₁) (fun _ _ => False) s') (fun _ _ => False) s) :
    Seg (model prog w) A R Y n s₀ (.forLoop target it body [] env) ((model prog w).den (.forLoop target it body [] env)) fs s := by
  show Seg _ A R Y n s₀ _ ((forTurn target it body [] env).onRaise (fun x => do noteFrame x env; theTreesLotGoes x)) fs s
  unfold forTurn
  rw [Sem.onRaise_eq_wrap]
  show Seg _ A R Y n s₀ _ (.at target.pos fun _ => _) fs s
  refine seg_at ?_
  show Seg _ A R Y n s₀ _ (Sem.wrap _ _ _ _ ((pyNext it).onRaise (fun _ => standAt { target.pos with line := 0 }) >>= fun r => _)) fs s
  rw [Sem.bind_eq_wrap', Sem.wrap_wrap]
  refine seg_wrapF (wpAny_onRaise (wpAny_mono h (fun r s' hr => ?_) fun _ _ x => x.elim))
  cases r with
  | none =>
    show Seg _ A R Y n s₀ _ (.pure (.again (.block [] env))) fs s'
    exact seg_again rfl hr
  | some v =>
    show Seg _ A R Y n s₀ _ (Sem.wrap _ _ _ _ (letOwnedTupleGo target it v >>= fun _ => _)) fs s'
    rw [Sem.bind_eq_wrap', Sem.wrap_wrap]
    refine seg_wrapF (wpAny_mono hr (fun _ s₁ h₁ => ?_) fun _ _ x => x)
    show Seg _ A R Y n s₀ _ (Sem.wrap _ _ _ _ (assign target env v >>= fun _ => _)) fs s₁
    rw [Sem.bind_eq_wrap', Sem.wrap_wrap]
    refine seg_wrapF (wpAny_mono h₁ (fun _ s₂ h₂ => ?_) fun _ _ x => x)
    show Seg _ A R Y n s₀ _ (Sem.wrap _ _ _ _ (execs body env >>= fun _ => _)) fs s₂
    rw [Sem.bind_eq_wrap', Sem.wrap_wrap]
    rw [Sem.wrap_congr (execs body env) _ _ (K' := turnK target it body [] env) (H' := turnH env) (fun f => by cases f <;> rfl)
      (fun e => by first | rfl | (unfold turnH; rw [Sem.bind_eq_wrap]; rfl) | (show (do noteFrame e env; theTreesLotGoes e : Sem Unit).bind (fun _ => .raise e) = _; rw [Sem.bind_eq_wrap]; rfl))]
    exact h₂
end
end Mine
end
section -- G2
open PySem PySem.W PyProof.Rows
set_option maxRecDepth 100000
namespace Mine
/-- what the generator gives out of the signs from place p on -/
noncomputable def toks : List Nat → Nat → Bool → List (Nat × List Nat)
  | [], _, _ => []
  | c :: r, p, true => (p, [92, c]) :: toks r (p + 1) false
  | c :: r, p, false => if c = 92 then toks r (p + 1) true else (p, [c]) :: toks r (p + 1) false
noncomputable def escEnd : List Nat → Bool → Bool
  | [], e => e
  | _ :: r, true => escEnd r false
  | c :: r, false => escEnd r (c == 92)

/-- only the generator's own objects turn -/
structure Moved (own : List Addr) (s s' : Shared) : Prop where
  heap : ∀ b o, b ∉ own → s.heap.get? b = some o → s'.heap.get? b = some o
  gens : s'.gens = s.gens
  drawn : s'.drawn = s.drawn
  os : s'.os = s.os
theorem Moved.refl (own : List Addr) (s : Shared) : Moved own s s := ⟨fun _ _ _ e => e, rfl, rfl, rfl⟩
theorem Moved.trans {own : List Addr} {s s' s'' : Shared} (a : Moved own s s') (b : Moved own s' s'') : Moved own s s'' :=
  ⟨fun x o n e => b.heap x o n (a.heap x o n e), b.gens.trans a.gens, b.drawn.trans a.drawn, b.os.trans a.os⟩
/-- what must stand for the generator to go on -/
structure OwnKept (own : List Addr) (b₀ : Heap) (s s' : Shared) : Prop where
  own : ∀ b ∈ own, ∀ o, s.heap.get? b = some o → s'.heap.get? b = some o
  base : Ext b₀ s'.heap
abbrev escY (own : List Addr) (b₀ : Heap) (all : List (Nat × List Nat)) : Protocol := fun n s₀ v s₁ kap =>
  ∃ T p c u₁ u₂, all[all.length - 1 - n]? = some (p, c) ∧ v = .ref T ∧ IsTup s₁.heap T #[.int p u₁, .str ⟨c.toArray⟩ u₂] ∧ s₀.heap.objs.size ≤ T ∧ Moved own s₀ s₁ ∧
    (∀ s'', OwnKept own b₀ s₁ s'' → kap (.send .none) s'')
abbrev escR (own : List Addr) : GenEnd := fun n s₀ r s₁ => r = .ok (.ret .none) ∧ (n = 0 ∧ Moved own s₀ s₁)

noncomputable def escSt (x : Str) (t : Tok) (e it : Addr) (i : Nat) (h : Heap) : Prop := (∃ old, IsEnum h e it i old) ∧ h.IsStrIter it (strIterType x) x t i
theorem walkE {prog : Program} {w : World} {A : Around} (hh : A.handled = none) (x : Str) (t : Tok) (e it : Addr) (hne : e ≠ it) :
    WalksT prog w A e [e, it] [e, it] x.cps.size (fun i vals => ∃ u y, (∃ c u', x.cps[i]? = some c ∧ y = .str ⟨#[c]⟩ u') ∧ vals = #[.int i u, y])
      (fun i h => escSt x t e it i h) (fun i T h => (∃ y, IsEnumOut h e it ((i : Int) + 1) y T) ∧ h.IsStrIter it (strIterType x) x t (i + 1) ∧ T ≠ e ∧ T ≠ it) := by
  unfold escSt
  cases ha : x.cps.all (· < 128)
  · have : strIterType x = "str_iterator" := by simp [strIterType, ha]
    rw [this]
    exact WalksT.enumerateD (Draws.strWide (A := A.in1) hh it x t) e hne (by simpa using hne) (by simp)
  · have : strIterType x = "str_ascii_iterator" := by simp [strIterType, ha]
    rw [this]
    exact WalksT.enumerateD (Draws.strAscii (A := A.in1) hh it x t) e hne (by simpa using hne) (by simp)
end Mine
end
section -- G3
open PySem PySem.W PyProof.Rows
set_option maxRecDepth 100000
namespace Mine
theorem zoff_G3 : True := by
  w_top off
  k_with_none
  k_with "Hid" => (refine Mine.Hid.go (by with_reducible assumption) ?_)
  k_with "execs cons" => ((fail_if_success (with_reducible refine Mine.isHid ?_)); (refine Mine.hideQ fun _ _ => ?_))
  k_with "exec Assign" => ((fail_if_success (with_reducible refine Mine.isHid ?_)); (refine Mine.hideQ fun _ _ => ?_))
  k_with "exec Expr" => ((fail_if_success (with_reducible refine Mine.isHid ?_)); (refine Mine.hideQ fun _ _ => ?_))
  k_with "exec Return" => ((fail_if_success (with_reducible refine Mine.isHid ?_)); (refine Mine.hideQ fun _ _ => ?_))
  k_with "exec AugAssign" => ((fail_if_success (with_reducible refine Mine.isHid ?_)); (refine Mine.hideQ fun _ _ => ?_))
  k_with "exec If" => ((fail_if_success (with_reducible refine Mine.isHid ?_)); (refine Mine.hideQ fun _ _ => ?_))
  trivial
theorem seg_loop_ind {M : Model} {A : Around} {R : GenEnd} {Y : Protocol} {c : Code} {fs : List Frame} (J : Nat → Nat → Shared → Shared → Prop)
    (turn : ∀ k, (∀ k' n' s₀' s', k' < k → J k' n' s₀' s' → Seg M A R Y n' s₀' c (M.den c) fs s') → ∀ n s₀ s, J k n s₀ s → Seg M A R Y n s₀ c (M.den c) fs s) :
    ∀ k n s₀ s, J k n s₀ s → Seg M A R Y n s₀ c (M.den c) fs s := by
  intro k
  induction k using Nat.strongRecOn with
  | _ k ih => exact turn k fun k' n' s₀' s' h => ih k' h n' s₀' s'
theorem OwnKept.trans {own : List Addr} {b₀ : Heap} {s s' s'' : Shared} (a : OwnKept own b₀ s s') (b : OwnKept own b₀ s' s'') : OwnKept own b₀ s s'' :=
  ⟨fun x hx o e => b.own x hx o (a.own x hx o e), b.base⟩
structure GenAt (prog : Program) (w : World) (A : Around) (own : List Addr) (b₀ : Heap) (all : List (Nat × List Nat)) (a : Addr) (g n : Nat) (s : Shared) : Prop where
  isGen : s.heap.IsGen a g
  st : ∃ gs, s.gens[g]? = some gs ∧ gs.bare = true ∧ ∀ s', OwnKept own b₀ s s' → gs.Goes (model prog w) A.in1 (escR own) (escY own b₀ all) n (.send .none) s'
structure GenReady (prog : Program) (w : World) (A : Around) (own : List Addr) (b₀ : Heap) (all : List (Nat × List Nat)) (a : Addr) (g n : Nat) (s : Shared) : Prop where
  isGen : s.heap.IsGen a g
  st : ∃ gs, s.gens[g]? = some gs ∧ gs.bare = true ∧ gs.Goes (model prog w) A.in1 (escR own) (escY own b₀ all) n (.send .none) (s.setGen g .running)
theorem GenAt.ready {prog : Program} {w : World} {A : Around} {own : List Addr} {b₀ : Heap} {all : List (Nat × List Nat)} {a : Addr} {g n : Nat} {s : Shared}
    (H : GenAt prog w A own b₀ all a g n s) (hb : Ext b₀ s.heap) : GenReady prog w A own b₀ all a g n s := by
  obtain ⟨h, gs, e, hbr, k⟩ := H
  exact ⟨h, gs, e, hbr, k _ ⟨fun _ _ _ e => e, hb⟩⟩
theorem GenAt.frame {prog : Program} {w : World} {A : Around} {own : List Addr} {b₀ : Heap} {all : List (Nat × List Nat)} {a : Addr} {g n : Nat} {s s' : Shared}
    (H : GenAt prog w A own b₀ all a g n s) (k : OwnKept own b₀ s s') (ka : ∀ o, s.heap.get? a = some o → s'.heap.get? a = some o) (hg : s'.gens[g]? = s.gens[g]?) :
    GenAt prog w A own b₀ all a g n s' := by
  obtain ⟨⟨o, nm, qn, ho, r⟩, gs, e, hbr, h⟩ := H
  exact ⟨⟨o, nm, qn, ka _ ho, r⟩, gs, hg.trans e, hbr, fun s'' k' => h s'' (k.trans k')⟩
theorem nEC : ¬ (Str.ofString "escape" = Str.ofString "ch") := by decide
theorem nEP : ¬ (Str.ofString "escape" = Str.ofString "pos") := by decide
theorem nAC : ¬ (Str.ofString "addr" = Str.ofString "ch") := by decide
theorem nAP : ¬ (Str.ofString "addr" = Str.ofString "pos") := by decide
theorem nPC : ¬ (Str.ofString "pos" = Str.ofString "ch") := by decide
theorem nAE : ¬ (Str.ofString "addr" = Str.ofString "escape") := by decide
theorem notown {b L : Nat} (h : b < L) : b ∉ [L + 3, L + 2] := by
  simp only [List.mem_cons, List.not_mem_nil, or_false, not_or]; omega
theorem notownL (L : Nat) : L ∉ [L + 3, L + 2] := by
  simp only [List.mem_cons, List.not_mem_nil, or_false, not_or]; omega
theorem bsl : Str.ofString "\\" = ⟨#[92]⟩ := by decide +kernel
theorem bsl_of {c : Nat} (h : (({ cps := #[c] } : Str) == Str.ofString "\\") = true) : c = 92 := by
  have := eq_of_beq h
  rw [bsl] at this
  simpa using this
theorem bsl_not {c : Nat} (h : (({ cps := #[c] } : Str) == Str.ofString "\\") = false) : ¬ c = 92 := by
  rintro rfl
  rw [bsl] at h
  exact absurd h (by decide)
theorem idx_of {α : Type} {all pre r : List α} {a : α} {n : Nat} (h : all = pre ++ a :: r) (hn : n + 1 = (a :: r).length) : all[all.length - 1 - n]? = some a := by
  subst h
  have : (pre ++ a :: r).length - 1 - n = pre.length := by simp at hn ⊢; exact add_sub_of hn
  rw [this]
  simp
structure Got (P : List Value → Prop) (h : Heap) (s1 : Shared) (vs : List Value) (s' : Shared) : Prop where
  vs : P vs
  heap : s'.heap = h
  gens : s'.gens = s1.gens
  drawn : s'.drawn = s1.drawn
  os : s'.os = s1.os
structure GInv (b₀ : Heap) (x : Str) (t : Tok) (L e it : Addr) (i : Nat) (esc : Bool) (s : Shared) : Prop where
  base : Ext b₀ s.heap
  loc : ∃ m, s.heap.Ns L m ∧ m "addr" = some (.str x t) ∧ m "escape" = some (.bool esc)
  st : escSt x t e it i s.heap
theorem enter_gen {prog : Program} {w : World} {A : Around} {s : Shared} {K : Frag} {p : Program} {loose : List Str} {mean : ExcName → Option Value} {mg mb : Str → Option Value}
    {name qual : Str} {params : Arguments} {body : List Stmt} {scope : Scope} {dV kV doc pm cdv ct oc : Value} {an od : Option Addr} {osl : Array (Option Value)} {f : Addr} {args : List Value} {binds : List (Str × Value)} {Q E : Value → Shared → Prop}
    (X : K.In s.heap) (T : Top p loose mean mg mb s.heap)
    (ho : K.lookup f = some ⟨oc, od, .func (fnOf name qual params body scope dV kV doc pm an cdv ct), osl⟩) (hcd : codeIn K cdv qual = true) (hroom : A.depth < recursionLimit)
    (hbind : bindArgs (fnOf name qual params body scope dV kV doc pm an cdv ct) ⟨args, []⟩ = pure binds) (hloc : ∀ y ∈ binds, scope.names.lookup y.1 = some .local)
    (h : ∀ h₁ tk, Fr s.heap s.heap.objs.size h₁ (fun y => binds.reverse.lookup y) → h₁.objs.size = s.heap.objs.size + 1 →
      Q (.ref h₁.objs.size) { s with gens := s.gens.push (.fresh (.func body (envOf qual scope s.heap.objs.size f cdv))), toks := tk + 1 + 1, heap := h₁.push { cls := .type "generator", data := .fields #[.int s.gens.size 0, .str name tk, .str qual (tk + 1)] } })
    (hco : scope.isCoroutine = false) (hgen : scope.isGenerator = true) (hk : scope.kind = .function)
    (hcell : ∀ x ∈ scope.names, x.2 ≠ .cell) : wpAny (model prog w) A (call (.ref f) args) Q E s := by
  refine wpAny_call ?_
  refine codeAny_call_generator (fd := fnOf name qual params body scope dV kV doc pm an cdv ct) (body := body) hroom (X _ _ ho) rfl hco hgen rfl (codeRec_of X hcd) ?_
  rw [hbind]
  refine wpAny_pure (wpAny_newFunctionEnv hcell hloc (fun h₁ hns hsb => ⟨T.nolimit.fresh _ hsb, ?_⟩) hk)
  have ext : ∀ b o, s.heap.get? b = some o → h₁.get? b = some o := fun b o e => hsb.extBut b o (Nat.ne_of_lt (Heap.lt_size e)) (Heap.get?_push_of_some _ e)
  exact h h₁ _ ⟨hns, ext, Nat.le_refl _⟩ (by rw [hsb.1, Heap.size_push])
set_option maxHeartbeats 8000000 in
theorem esc_call (w : World) {p : Program} {loose : List Str} {mean : ExcName → Option Value} {mg mb : Str → Option Value} : ∀ (b₀ : Heap) (x : Str) (tk : Tok) (A A' : Around) (s : Shared) (Q E : Value → Shared → Prop),
    (KX w.params).In b₀ → Top p loose mean mg mb b₀ → Ext b₀ s.heap → b₀.objs.size ≤ s.heap.objs.size → A.depth < recursionLimit → A'.handled = none → A'.depth + 4 < recursionLimit → escEnd x.cps.toList false = false →
    (∀ L h' tk' gs, L = s.heap.objs.size → Ext s.heap h' → h'.objs.size = L + 2 → gs.bare = true →
      GenReady PySem.Challenge.rw_sh0039_01.row.prog w A' [L, L + 3, L + 2] b₀ (toks x.cps.toList 0 false) (L + 1) s.gens.size (toks x.cps.toList 0 false).length { s with heap := h', toks := tk', gens := s.gens.push gs } →
      Q (.ref (L + 1)) { s with heap := h', toks := tk', gens := s.gens.push gs }) →
    wpAny (model PySem.Challenge.rw_sh0039_01.row.prog w) A (call (.ref 62) [.str x tk]) Q E s := by
  k_fill
  intro b₀ x tk A A' s Q E X T hb hbs hd hh hd' hesc ret
  k_dflt (refine' enter_gen (K := KX w.params) (X.keeps hb) (T.keeps hb) ?k6 ?k7 hd ?k9 ?kB ?_ ?c2 ?c3 ?c4 ?c5)
  (case k6 => k_is)
  (case k7 => k_is)
  (case k9 => exact rfl)
  (case kB => exact locs rfl)
  (case c2 => exact rfl)
  (case c3 => exact rfl)
  (case c4 => exact rfl)
  (case c5 => decide)
  intro h₁ tk' F hz
  rw [hz]
  refine ret s.heap.objs.size _ _ _ rfl (fun b o e => Heap.get?_push_of_some _ (F.keep b o e)) (by rw [Heap.size_push, hz]) rfl ?_
  refine ⟨⟨_, _, _, (by rw [← hz]; exact Heap.get?_push_size _ rfl), rfl, rfl, rfl⟩, _, Array.getElem?_push_size, rfl, rfl, ?_⟩
  have F0 : Fr b₀ s.heap.objs.size (h₁.push { cls := .type "generator", data := .fields #[.int s.gens.size 0, .str (Str.ofString "_iter_escaped_chars") tk', .str (Str.ofString "_iter_escaped_chars") (tk' + 1)] }) _ := ⟨(F.push _).ns, fun b o e => Heap.get?_push_of_some _ (F.keep b o (hb b o e)), hbs⟩
  have N0 : News b₀ s.heap.objs.size (h₁.push { cls := .type "generator", data := .fields #[.int s.gens.size 0, .str (Str.ofString "_iter_escaped_chars") tk', .str (Str.ofString "_iter_escaped_chars") (tk' + 1)] }) [] := News.nil
  have hz2 : (h₁.push { cls := .type "generator", data := .fields #[.int s.gens.size 0, .str (Str.ofString "_iter_escaped_chars") tk', .str (Str.ofString "_iter_escaped_chars") (tk' + 1)] }).objs.size = s.heap.objs.size + 2 := by rw [Heap.size_push, hz]
  refine seg_func ?_
  dsimp only [Shared.setGen]
  generalize (h₁.push { cls := .type "generator", data := .fields #[.int s.gens.size 0, .str (Str.ofString "_iter_escaped_chars") tk', .str (Str.ofString "_iter_escaped_chars") (tk' + 1)] }) = hp at *
  clear F hz ret
  generalize hLg : s.heap.objs.size = L at *
  refine seg_stmt (wpAny_Assign_Name (wpAny_Constant_int (wpAny_storeName_local (by rfl) F0.ns (fun hp1 hn1 hs1 => ⟨rfl, ?_⟩))))
  have F1 := F0.set hn1 hs1
  refine seg_stmt (wpAny_Assign_Name (wpAny_Constant_bool (wpAny_storeName_local (by rfl) F1.ns (fun hp2 hn2 hs2 => ⟨rfl, ?_⟩))))
  have F2 := F1.set hn2 hs2
  have hz4 : hp2.objs.size = L + 2 := by rw [hs2.1, hs1.1, hz2]
  replace F2 : Fr b₀ L hp2 _ := F2
  have N2 : News b₀ L hp2 [] := News.nil
  clear N0
  refine seg_execs_cons (seg_For ?_)
  (try k_fold)
  k_steps
  refine call_enumerate_str fun h3 he hit hz3 hk3 => ?_
  replace he : IsEnum h3 (hp2.objs.size + 1) hp2.objs.size 0 .none := he
  replace hit : h3.IsStrIter hp2.objs.size (strIterType x) x tk 0 := hit
  rw [hz4] at he hit
  show qk (.ref (hp2.objs.size + 1)) _
  rw [hz4]
  k_unfold
  refine wpAny_pyIter_enum he ?_
  intro pp
  refine seg_loop_ind (fun k n s₀ s => ∃ i esc, i ≤ x.cps.size ∧ k = x.cps.size - i ∧ GInv b₀ x tk L (L + 3) (L + 2) i esc s ∧ escEnd (x.cps.toList.drop i) esc = false ∧
    n = (toks (x.cps.toList.drop i) i esc).length ∧ (∃ pre, toks x.cps.toList 0 false = pre ++ toks (x.cps.toList.drop i) i esc) ∧ Moved [L, L + 3, L + 2] s₀ s ∧ s₀.heap.objs.size ≤ s.heap.objs.size) ?_ x.cps.size _ _ _ ?_
  · intro k IH n s₀ s1 hI0
    ((refine Mine.ex2 hI0 ?_); clear hI0; intro i esc; intro hZ1; (refine Mine.and8 hZ1 ?_); clear hZ1; intro hi hk G hes hn hZ2 mv hsz; (refine Exists.elim hZ2 ?_); clear hZ2; intro pre hpre)
    obtain ⟨base, ⟨m, hm, ha, hesc'⟩, st⟩ := G
    refine seg_forLoop ?_
    have hh2 : ∀ (c : Code) (k : Result → Sem Fin) (g : Bool) (l : List Value) (c' : Code) (p : Pos), ((A'.in1).over c [.ret k none g l c' p []]).handled = none := by
      intro c k g l c' p
      simp [Around.over, marksOver, Frame.marks, markOver, hh]
    have hne : (L + 3 : Nat) ≠ L + 2 := by omega
    by_cases hlt : i < x.cps.size
    · refine (walkE (hh2 _ _ _ _ _ _) x tk (L + 3) (L + 2) hne).item i s1 _ _ hlt st (fun Tt vals h' tk2 hP hT hTup hMid hkk => ?_)
      ((refine Mine.hideG fun G kG => ?_); (refine Mine.ex2 hP ?_); (try clear hP); intro u y; intro hZ1; (refine And.elim ?_ hZ1); clear hZ1; intro hZ2; (refine Mine.ex2 hZ2 ?_); clear hZ2; intro c u'; intro hZ3; (refine And.elim ?_ hZ3); clear hZ3; intro hc; intro hZ4; obtain rfl := hZ4; intro hZ5; obtain rfl := hZ5; (refine kG ?_); clear kG G)
      refine (walkE (hh2 _ _ _ _ _ _) x tk (L + 3) (L + 2) hne).go _ _ _ i Tt _ _ _ hMid (fun h'' hst'' hk'' => ?_)
      have hap := (walkE (prog := PySem.Challenge.rw_sh0039_01.row.prog) (w := w) (hh2 (.block [] default) (fun _ => .raise .none) false [] (.block [] default) default) x tk (L + 3) (L + 2) hne).apart i Tt h' hMid
      have hk3' : ∀ b o, b ∉ [L + 3, L + 2] → s1.heap.get? b = some o → h''.get? b = some o := fun b o hb e => hk'' b o hb (hkk b o hb e)
      have hlow : ∀ b o, b₀.get? b = some o → h''.get? b = some o := fun b o e => hk3' b o (notown (Nat.lt_of_lt_of_le (Heap.lt_size e) hbs)) (base b o e)
      have hmL : h''.Ns L m := by
        ((refine Mine.ex3 hm ?_); (try clear hm); intro o es ep; intro hZ1; (refine And.elim ?_ hZ1); clear hZ1; intro ho r)
        exact ⟨o, es, ep, hk3' L o (notownL L) ho, r⟩
      have hTup' : IsTup h'' Tt #[.int i u, .str ⟨#[c]⟩ u'] := by
        ((refine Exists.elim hTup ?_); (try clear hTup); intro o; intro hZ1; (refine And.elim ?_ hZ1); clear hZ1; intro ho r)
        exact ⟨o, hk'' Tt o hap ho, r⟩
      have hmN : ∀ b o, h''.get? b = some o → b < h''.objs.size := fun b o e => Heap.lt_size e
      refine assign_Tuple_tuple (hh2 _ _ _ _ _ _) hTup' rfl rfl (fun h3 he3 => ?_)
      have k3 : ∀ b o, h''.get? b = some o → h3.get? b = some o := fun b o e => he3 b o (Nat.ne_of_lt (Heap.lt_size e)) e
      have m3 : h3.Ns L m := hmL.keeps k3
      refine assignInOrder_cons (wpAny_assign_Name (wpAny_storeName_local (by rfl) m3 (fun h4 m4 s4 => ?_)))
      refine assignInOrder_cons (wpAny_assign_Name (wpAny_storeName_local (by rfl) m4 (fun h5 m5 s5 => ?_)))
      refine assignInOrder_nil ?_
      replace m5 : h5.Ns L _ := m5
      have k5 : ∀ b o, b ≠ L → h''.get? b = some o → h5.get? b = some o := fun b o hb e => (s5.2 b hb).trans ((s4.2 b hb).trans (k3 b o e))
      have key : ∃ M5, Fr b₀ L h5 M5 ∧ M5 (Str.ofString "escape") = some (.bool esc) ∧ M5 (Str.ofString "addr") = some (.str x tk) ∧ M5 (Str.ofString "ch") = some (.str ⟨#[c]⟩ u') ∧ M5 (Str.ofString "pos") = some (.int i u) :=
        ⟨_, ⟨m5, fun b o e => k5 b o (Nat.ne_of_lt (Nat.lt_of_lt_of_le (Heap.lt_size e) hbs)) (hlow b o e), hbs⟩, by simpa [nEC, nEP] using hesc', by simpa [nAC, nAP] using ha, by simp, by simp [nPC]⟩
      clear m5 s5 s4 m4 m3 he3
      ((refine Exists.elim key ?_); (try clear key); intro M5; intro hZ1; (refine Mine.and5 hZ1 ?_); clear hZ1; intro F5 q1 q2 q3 q4)
      have N5 : News b₀ L h5 [] := News.nil
      have hap2 : L + 3 ≠ L ∧ L + 2 ≠ L := by omega
      have st5 : escSt x tk (L + 3) (L + 2) (i + 1) h5 := by
        ((refine And.elim ?_ hst''); (try clear hst''); intro hZ1; (refine Exists.elim hZ1 ?_); clear hZ1; intro old he hit)
        ((refine Exists.elim hit ?_); (try clear hit); intro o; intro hZ1; (refine And.elim ?_ hZ1); clear hZ1; intro ho r)
        exact ⟨⟨old, k5 _ _ hap2.1 he⟩, ⟨o, k5 _ _ hap2.2 ho, r⟩⟩
      have kk5 : ∀ b o, b ∉ [L, L + 3, L + 2] → s1.heap.get? b = some o → h5.get? b = some o := by
        intro b o hb' e
        simp only [List.mem_cons, List.not_mem_nil, or_false, not_or] at hb'
        exact k5 b o hb'.1 (hk3' b o (by simp [hb'.2]) e)
      clear hn1 hs1 hn2 hs2 F1 F2 N2
      refine seg_execs_cons (seg_If ?_)
      (try k_fold)
      k_steps
      refine ld F5 q1 ?_
      have hcons : x.cps.toList.drop i = c :: x.cps.toList.drop (i + 1) := by
        rw [List.drop_eq_getElem_cons (by simpa using hlt)]
        congr 1
        have := hc
        rw [Array.getElem?_eq_getElem hlt] at this
        simpa using this
      rw [hcons] at hes hn hpre
      have hTt : Tt < h5.objs.size := by
        ((refine Exists.elim hTup' ?_); (try clear hTup'); intro o; intro hZ1; (refine And.elim ?_ hZ1); clear hZ1; intro ho _)
        have hL : L < s1.heap.objs.size := by ((refine Mine.ex3 hm ?_); (try clear hm); intro o' es ep; intro hZ1; (refine And.elim ?_ hZ1); clear hZ1; intro ho' _); exact Heap.lt_size ho'
        exact Heap.lt_size (k5 _ _ (by omega) ho)
      cases esc
      · k_steps
        refine seg_execs_cons (seg_If ?_)
        (try k_fold)
        k_steps
        refine ld F5 q3 ?_
        k_steps
        · rename_i h92
          have hc92 : c = 92 := bsl_of h92
          subst hc92
          refine seg_stmt (wpAny_Assign_Name (wpAny_Constant_bool (wpAny_storeName_local (by rfl) F5.ns (fun h6 hn6 hs6 => ⟨rfl, ?_⟩))))
          refine seg_execs_nil ?_
          refine seg_execs_nil ?_
          refine seg_execs_nil ?_
          refine seg_again rfl ?_
          refine IH _ _ _ _ (hk ▸ sub_dn hlt) ⟨i + 1, true, hlt, rfl, ⟨?_, ⟨_, hn6, by simp [nAE, q2], by simp⟩, ?_⟩, ?_, ?_, ⟨pre, ?_⟩, ?_, ?_⟩
          · exact (F5.set hn6 hs6).keep
          · ((refine Mine.hideG fun G kG => ?_); (refine And.elim ?_ st5); (try clear st5); intro hZ1; (refine Exists.elim hZ1 ?_); clear hZ1; intro old he; intro hZ2; (refine Exists.elim hZ2 ?_); clear hZ2; intro o; intro hZ3; (refine And.elim ?_ hZ3); clear hZ3; intro ho r; (refine kG ?_); clear kG G)
            exact ⟨⟨old, (hs6.2 _ hap2.1).trans he⟩, ⟨o, (hs6.2 _ hap2.2).trans ho, r⟩⟩
          · simpa [escEnd] using hes
          · simpa [toks] using hn
          · simpa [toks] using hpre
          · exact mv.trans ⟨fun b o hb' e => (hs6.2 b (fun q => hb' (by rw [q]; exact List.mem_cons_self ..))).trans (kk5 b o hb' e), rfl, rfl, rfl⟩
          · show s₀.heap.objs.size ≤ h6.objs.size
            have e6 : h6.objs.size = h5.objs.size := hs6.1
            omega
        · rename_i h92
          have hc92 : ¬ c = 92 := bsl_not h92
          rw [toks, if_neg hc92] at hn hpre
          obtain ⟨n', rfl⟩ : ∃ n', n = n' + 1 := ⟨_, hn⟩
          refine seg_execs_cons (seg_Expr_Yield rfl rfl rfl (wpAny_Tuple ?_))
          refine wpAny_mono (Q := Got (fun vs => ∃ u₁ u₂, vs = [.int i u₁, .str ⟨#[c]⟩ u₂]) h5 s1) ?_ (fun vs s' hq => ?_) (fun _ _ x => x)
          · (try k_fold)
            k_steps
            refine ld F5 q4 ?_
            k_steps
            refine ld F5 q3 ?_
            k_steps
            exact ⟨⟨_, _, rfl⟩, rfl, rfl, rfl, rfl⟩
          obtain ⟨⟨u₁, u₂, rfl⟩, gh, gg, gd, go⟩ := hq
          have pu : ∀ X b o, h5.get? b = some o → (s'.heap.push X).get? b = some o := fun X b o e => Heap.get?_push_of_some X (by rw [gh]; exact e)
          refine ⟨(by show 2 ≤ sizeLine; decide), fun kap hkap => ?_⟩
          refine ⟨_, _, _, u₁, u₂, idx_of hpre hn, rfl, ?_, ?_, ?_, fun s'' hO => ?_⟩
          · rw [gh]
            exact ⟨_, Heap.get?_push_size _ rfl, rfl, _, rfl⟩
          · rw [gh]; omega
          · exact mv.trans ⟨fun b o hb' e => pu _ _ _ (kk5 b o hb' e), gg, gd, go⟩
          have kO : ∀ b ∈ [L, L + 3, L + 2], ∀ o, h5.get? b = some o → s''.heap.get? b = some o := fun b hb' o e => hO.own b hb' o (pu _ _ _ e)
          have st6 : escSt x tk (L + 3) (L + 2) (i + 1) s''.heap := by
            ((refine Mine.hideG fun G kG => ?_); (refine And.elim ?_ st5); (try clear st5); intro hZ1; (refine Exists.elim hZ1 ?_); clear hZ1; intro old he; intro hZ2; (refine Exists.elim hZ2 ?_); clear hZ2; intro o; intro hZ3; (refine And.elim ?_ hZ3); clear hZ3; intro ho r; (refine kG ?_); clear kG G)
            exact ⟨⟨old, kO _ (by simp) _ he⟩, ⟨o, kO _ (by simp) _ ho, r⟩⟩
          have ns6 : s''.heap.Ns L M5 := by
            ((refine Mine.ex3 F5.ns ?_); intro o es ep; intro hZ1; (refine And.elim ?_ hZ1); clear hZ1; intro ho r)
            exact ⟨o, es, ep, kO L (by simp) _ ho, r⟩
          refine hkap _ _ ?_
          refine seg_execs_nil ?_
          refine seg_execs_nil ?_
          refine seg_execs_nil ?_
          refine seg_again rfl ?_
          refine IH _ _ _ _ (hk ▸ sub_dn hlt) ⟨i + 1, false, hlt, rfl, ⟨hO.base, ⟨M5, ns6, q2, q1⟩, st6⟩, ?_, ?_, ⟨pre ++ [(i, [c])], ?_⟩, Moved.refl _ _, Nat.le_refl _⟩
          · simpa only [escEnd, beq_false_of_ne hc92] using hes
          · simpa using hn
          · rw [hpre]; simp
      · k_steps
        rw [toks] at hn hpre
        obtain ⟨n', rfl⟩ : ∃ n', n = n' + 1 := ⟨_, hn⟩
        refine seg_execs_cons (seg_Expr_Yield rfl rfl rfl (wpAny_Tuple ?_))
        refine wpAny_mono (Q := Got (fun vs => ∃ u₁ u₂, vs = [.int i u₁, .str ⟨#[92, c]⟩ u₂]) h5 s1) ?_ (fun vs s' hq => ?_) (fun _ _ x => x)
        · (try k_fold)
          k_steps
          refine ld F5 q4 ?_
          k_steps
          refine ld F5 q3 ?_
          k_steps
          exact ⟨⟨_, _, rfl⟩, rfl, rfl, rfl, rfl⟩
        obtain ⟨⟨u₁, u₂, rfl⟩, gh, gg, gd, go⟩ := hq
        have pu : ∀ X b o, h5.get? b = some o → (s'.heap.push X).get? b = some o := fun X b o e => Heap.get?_push_of_some X (by rw [gh]; exact e)
        refine ⟨(by show 2 ≤ sizeLine; decide), fun kap hkap => ?_⟩
        refine ⟨_, _, _, u₁, u₂, idx_of hpre hn, rfl, ?_, ?_, ?_, fun s'' hO => ?_⟩
        · rw [gh]
          exact ⟨_, Heap.get?_push_size _ rfl, rfl, _, rfl⟩
        · rw [gh]; omega
        · exact mv.trans ⟨fun b o hb' e => pu _ _ _ (kk5 b o hb' e), gg, gd, go⟩
        have kO : ∀ b ∈ [L, L + 3, L + 2], ∀ o, h5.get? b = some o → s''.heap.get? b = some o := fun b hb' o e => hO.own b hb' o (pu _ _ _ e)
        have st6 : escSt x tk (L + 3) (L + 2) (i + 1) s''.heap := by
          ((refine Mine.hideG fun G kG => ?_); (refine And.elim ?_ st5); (try clear st5); intro hZ1; (refine Exists.elim hZ1 ?_); clear hZ1; intro old he; intro hZ2; (refine Exists.elim hZ2 ?_); clear hZ2; intro o; intro hZ3; (refine And.elim ?_ hZ3); clear hZ3; intro ho r; (refine kG ?_); clear kG G)
          exact ⟨⟨old, kO _ (by simp) _ he⟩, ⟨o, kO _ (by simp) _ ho, r⟩⟩
        have ns6 : s''.heap.Ns L M5 := by
          ((refine Mine.ex3 F5.ns ?_); intro o es ep; intro hZ1; (refine And.elim ?_ hZ1); clear hZ1; intro ho r)
          exact ⟨o, es, ep, kO L (by simp) _ ho, r⟩
        refine hkap _ _ ?_
        refine seg_stmt (wpAny_Assign_Name (wpAny_Constant_bool (wpAny_storeName_local (by rfl) ns6 (fun h6 hn6 hs6 => ⟨rfl, ?_⟩))))
        refine seg_execs_nil ?_
        refine seg_execs_nil ?_
        refine seg_again rfl ?_
        refine IH _ _ _ _ (hk ▸ sub_dn hlt) ⟨i + 1, false, hlt, rfl, ⟨?_, ⟨_, hn6, by simp [nAE, q2], by simp⟩, ?_⟩, ?_, ?_, ⟨pre ++ [(i, [92, c])], ?_⟩, ?_, ?_⟩
        · exact fun b o e => (hs6.2 b (Nat.ne_of_lt (Nat.lt_of_lt_of_le (Heap.lt_size e) hbs))).trans (hO.base b o e)
        · ((refine Mine.hideG fun G kG => ?_); (refine And.elim ?_ st6); (try clear st6); intro hZ1; (refine Exists.elim hZ1 ?_); clear hZ1; intro old he; intro hZ2; (refine Exists.elim hZ2 ?_); clear hZ2; intro o; intro hZ3; (refine And.elim ?_ hZ3); clear hZ3; intro ho r; (refine kG ?_); clear kG G)
          exact ⟨⟨old, (hs6.2 _ hap2.1).trans he⟩, ⟨o, (hs6.2 _ hap2.2).trans ho, r⟩⟩
        · simpa [escEnd] using hes
        · simpa using hn
        · rw [hpre]; simp
        · exact ⟨fun b o hb' e => (hs6.2 b (fun q => hb' (by rw [q]; exact List.mem_cons_self ..))).trans e, rfl, rfl, rfl⟩
        · exact Nat.le_of_eq hs6.1.symm
    · have hieq : i = x.cps.size := by omega
      subst hieq
      refine (walkE (hh2 _ _ _ _ _ _) x tk (L + 3) (L + 2) hne).done s1 _ _ st (fun h' tk2 hkk => ?_)
      clear hn1 hs1 hn2 hs2 F1 F2 N2
      have hd0 : List.drop x.cps.size x.cps.toList = [] := by simp
      rw [hd0] at hes hn
      replace hes : esc = false := hes
      rw [hes] at hesc'
      replace hn : n = 0 := hn
      subst hn
      have hmL : h'.Ns L m := by
        ((refine Mine.ex3 hm ?_); (try clear hm); intro o es ep; intro hZ1; (refine And.elim ?_ hZ1); clear hZ1; intro ho r)
        exact ⟨o, es, ep, hkk L o (notownL L) ho, r⟩
      have F5 : Fr b₀ L h' m := ⟨hmL, fun b o e => hkk b o (notown (Nat.lt_of_lt_of_le (Heap.lt_size e) hbs)) (base b o e), hbs⟩
      have N5 : News b₀ L h' [] := News.nil
      refine seg_leaf _ ?_
      refine seg_wrapF (wpAny_onRaise (wpAny_pure ?_))
      refine seg_execs_cons (seg_If ?_)
      (try k_fold)
      k_steps
      refine ld F5 hesc' ?_
      k_steps
      refine seg_execs_nil ?_
      refine seg_execs_nil ?_
      refine seg_end (.ok (.ret .none)) ⟨rfl, rfl, mv.trans ⟨fun b o hb' e => hkk b o (fun q => hb' (List.mem_cons_of_mem _ q)) e, rfl, rfl, rfl⟩⟩
  · refine ⟨0, false, Nat.zero_le _, by simp, ⟨?_, ⟨_, F2.ns.keeps hk3, rfl, rfl⟩, ⟨⟨_, he⟩, hit⟩⟩, by simpa using hesc, by simp, ⟨[], by simp⟩, ⟨?_, rfl, rfl, rfl⟩, ?_⟩
    · exact fun b o e => hk3 _ _ (F2.keep b o e)
    · intro b o hb' e
      refine hk3 _ _ ((hs2.2 b ?_).trans ((hs1.2 b ?_).trans e)) <;> (intro q; exact hb' (by rw [q]; exact List.mem_cons_self ..))
    · show hp.objs.size ≤ h3.objs.size
      have : h3.objs.size = hp2.objs.size + 2 := hz3
      omega
end Mine
end
section -- G4
open PySem PySem.W PyProof.Rows
set_option maxRecDepth 100000
namespace Mine
noncomputable def GB (a b : Array GenState) : Prop := (∀ x ∈ a, x.bare = true) → ∀ x ∈ b, x.bare = true
theorem GB.refl (a : Array GenState) : GB a a := fun h => h
theorem GB.trans {a b c : Array GenState} (x : GB a b) (y : GB b c) : GB a c := fun h => y (x h)
theorem GB.set {a : Array GenState} {g : Nat} {y : GenState} (hy : y.bare = true) : GB a (a.setIfInBounds g y) := by
  intro h x hx
  rcases Array.mem_or_eq_of_mem_setIfInBounds hx with h1 | h1
  · exact h x h1
  · exact h1 ▸ hy
theorem GB.push {a : Array GenState} {y : GenState} (hy : y.bare = true) : GB a (a.push y) := by
  intro h x hx
  rcases Array.mem_push.mp hx with h1 | h1
  · exact h x h1
  · exact h1 ▸ hy
section
variable {prog : Program} {w : World} {A : Around} {E : Value → Shared → Prop} {s : Shared}
theorem esc_next {own : List Addr} {b₀ : Heap} {all : List (Nat × List Nat)} {a : Addr} {g n : Nat} {Q : Option Value → Shared → Prop} (hh : A.handled = none)
    (hl : s.heap.NoLimit) (hroom : A.depth < recursionLimit) (H : GenReady prog w A own b₀ all a g n s) (hb : Ext b₀ s.heap) (hob : ∀ b ∈ own, b₀.get? b = none) (ha : a ∉ own)
    (hY : ∀ m T p c u₁ u₂ h' tk gs', n = m + 1 → all[all.length - 1 - m]? = some (p, c) → IsTup h' T #[.int p u₁, .str ⟨c.toArray⟩ u₂] → s.heap.objs.size ≤ T →
      (∀ b o, b ∉ own → s.heap.get? b = some o → h'.get? b = some o) → GB s.gens gs' → GenAt prog w A own b₀ all a g m { s with heap := h', toks := tk, gens := gs' } → Q (some (.ref T)) { s with heap := h', toks := tk, gens := gs' })
    (hN : ∀ h' tk gs', n = 0 → (∀ b o, b ∉ own → s.heap.get? b = some o → h'.get? b = some o) → GB s.gens gs' → Q none { s with heap := h', toks := tk, gens := gs' }) :
    wpAny (model prog w) A (pyNext (.ref a)) Q E s := by
  obtain ⟨hg, gs, hgs, hbare, hgo⟩ := H
  have hgl : g < s.gens.size := (Array.getElem?_eq_some_iff.mp hgs).1
  unfold pyNext
  refine wpAny_bind (wpAny_attempt (wpAny_callSpecial?_slot (name := Str.ofString "__next__") hg.typeIs slot_gen_next
    (wpAny_call_entry slot_gen_next hg.typeIs entry_gen_next ?_ (args_gen_next _))))
  show wpAny _ A.in1 (Builtin.Generator.genWake (.ref a) (.send .none)) _ _ s
  unfold Builtin.Generator.genWake
  refine wpAny_bind (wpAny_holding (wpAny_genNumber hg (wpAny_bind (wpAny_genState hgs ?_))))
  cases gs with
  | running => exact hgo.elim
  | finished => exact hgo.elim
  | _ =>
    refine wpAny_bind (wpAny_roomToWake hl hroom ?_)
    show wpAny _ A.in1 (.resume g (.send .none) [] _) _ _ s
    refine wpAny_resumeQ hgs hgo (fun x s₁ hx => ?_) (fun v s₁ gs' hbr hv => ?_)
    · ((refine Mine.and3 hx ?_); (try clear hx); intro hZ1; obtain rfl := hZ1; intro hn0 mv)
      show wpAny _ A.in1 (newExc (.type "StopIteration") [] >>= _) _ _ _
      refine wpAny_bind ?_
      simp only [newExc, newTuple]
      refine wpAny_bind (wpAny_newObj_type ?_ (by size_fits))
      refine wpAny_bind (m := firstArgMember _ _) (wpAny_of_eq (a := Value.none) (by first | rfl | (simp only [firstArgMember]; rfl)) ?_)
      refine wpAny_newObj_type ?_ (by size_fits)
      simp only [raiseNew]
      refine wpAny_bind (wpAny_bind (wpAny_handled ?_))
      first | rw [show A.in1.handled = none from hh] | rw [hh]
      refine wpAny_throw ?_
      refine wpAny_bind (wpAny_isInstance (T := "StopIteration") (b := true) ⟨_, Heap.get?_push_size _ rfl, rfl⟩ isSubtype_stop ?_)
      refine wpAny_pure ?_
      obtain ⟨mh, mg', md, mo⟩ := mv
      obtain ⟨sh, sg, sd, st, so⟩ := s₁
      simp only at mg' md mo
      subst mg' md mo
      exact hN _ _ _ hn0 (fun b o hb' e => Heap.get?_push_of_some _ (Heap.get?_push_of_some _ (mh b o hb' e))) ((GB.set rfl).trans (GB.set rfl))
    · ((refine Mine.ex5 hv ?_); (try clear hv); intro T p c u₁ u₂; intro hZ1; (refine Mine.and6 hZ1 ?_); clear hZ1; intro hall; intro hZ2; obtain rfl := hZ2; intro hT hsz mv hk)
      refine wpAny_pure ⟨_, rfl, wpAny_pure ?_⟩
      obtain ⟨mh, mg', md, mo⟩ := mv
      have e1 : Ext b₀ s₁.heap := fun b o e => mh b o (fun q => by rw [hob b q] at e; cases e) (hb b o e)
      cases n with
      | zero => exact (hk s₁ ⟨fun _ _ _ e => e, e1⟩).elim
      | succ m =>
        obtain ⟨sh, sg, sd, st, so⟩ := s₁
        simp only at mg' md mo
        subst mg' md mo
        refine hY m T p c u₁ u₂ _ _ _ rfl hall hT hsz mh ((GB.set rfl).trans (GB.set hbr)) ⟨?_, gs', ?_, hbr, fun s' hO => hk s' ⟨hO.own, hO.base⟩⟩
        · ((refine Mine.ex3 hg ?_); (try clear hg); intro o nm qn; intro hZ1; (refine And.elim ?_ hZ1); clear hZ1; intro ho r)
          exact ⟨o, nm, qn, mh _ _ ha ho, r⟩
        · show (Array.setIfInBounds _ _ _)[g]? = _
          rw [Array.getElem?_setIfInBounds]
          simp [Shared.setGen, hgl]
theorem letOwned_gen {elts : List PySem.Expr} {x1} {pos : Pos} {a T : Addr} {g : Nat} {Q : Unit → Shared → Prop} (hg : s.heap.IsGen a g) (hQ : Q () s) :
    wpAny (model prog w) A (letOwnedTupleGo (.Tuple elts x1 pos) (.ref a) (.ref T)) Q E s := by
  ((refine Mine.ex3 hg ?_); (try clear hg); intro o nm qn; intro hZ1; (refine Mine.and4 hZ1 ?_); clear hZ1; intro ho hc hd _)
  unfold letOwnedTupleGo
  refine wpAny_bind (wpAny_load ho ?_)
  rw [hc, hd]
  show wpAny _ A (if (["enumerate", "zip", "dict_itemiterator", "dict_reverseitemiterator", "odict_iterator", "itertools.zip_longest", "itertools.pairwise"].contains "generator" &&
      (#[.int g 0, nm, qn] : Array Value)[0]? == some (rawInt T)) = true then _ else _) Q E s
  rw [if_neg (by
    intro h
    rw [show (["enumerate", "zip", "dict_itemiterator", "dict_reverseitemiterator", "odict_iterator", "itertools.zip_longest", "itertools.pairwise"].contains "generator") = false from by decide, Bool.false_and] at h
    cases h)]
  exact wpAny_pure hQ
theorem forEsc {R : Result → Shared → Prop} {env : Env} {h₀ : Heap} {xi xc : Str} {pk pv pt : Pos} {x1 : Nat} {body : List Stmt} {own : List Addr} {all : List (Nat × List Nat)} {a : Addr} {g : Nat}
    {m : Str → Option Value} {news : List (Addr × Obj)} (hh : A.handled = none) (hroom : A.depth < recursionLimit) (hl : ∀ h' : Heap, Ext h₀ h' → h'.NoLimit)
    (hxi : env.kindOf xi = some .local) (hxc : env.kindOf xc = some .local)
    (hp : (env.scope.kind == .class || (env.scope.kind == .module && env.locals != env.globals)) = false)
    (hLf : env.locals ∉ a :: own) (hwr : ∀ b ∈ a :: own, h₀.get? b = none) (hnw : ∀ p ∈ news, p.1 ∉ own) (ha : a ∉ own)
    (hst : GenReady prog w A own h₀ all a g all.length s) (F : Fr h₀ env.locals s.heap m) (N : News h₀ env.locals s.heap news)
    (J : Nat → (Str → Option Value) → List (Addr × Obj) → Prop) (h0 : J 0 m news)
    (step : ∀ (i p : Nat) (c : List Nat) (u₁ u₂ : Tok) m₁ news₁ s₁ own', (∃ h tk gs', s₁ = { s with heap := h, toks := tk, gens := gs' } ∧ GB s.gens gs') → all[i]? = some (p, c) → J i m₁ news₁ → news₁.map (·.1) = news.map (·.1) → (∀ p ∈ own', p.1 ∈ a :: own) →
      Fr h₀ env.locals s₁.heap (fun y => if y = xc then some (.str ⟨c.toArray⟩ u₂) else if y = xi then some (.int p u₁) else m₁ y) → News h₀ env.locals s₁.heap (own' ++ news₁) →
      wpAny (model prog w) A (execs body env) (LoopStep3 h₀ env.locals own' news₁ (J (i + 1)) s₁ (fun v s' => R (.ok (.ret v)) s') fun s' => R (.ok .next) s') (notedBy (model prog w) A env fun e s' => R (.error e) s') s₁)
    (hR : ∀ h' tk gs' m' news', GB s.gens gs' → Fr h₀ env.locals h' m' → News h₀ env.locals h' news' → news'.map (·.1) = news.map (·.1) → J all.length m' news' → R (.ok .next) { s with heap := h', toks := tk, gens := gs' }) :
    codeAny (model prog w) A (.forLoop (.Tuple [.Name xi pk, .Name xc pv] x1 pt) (.ref a) body [] env) R s := by
  have hob : ∀ b ∈ own, h₀.get? b = none := fun b q => hwr b (List.mem_cons_of_mem _ q)
  have hLw : env.locals ∉ own := fun h => hLf (List.mem_cons_of_mem _ h)
  have old : ∀ b o, h₀.get? b = some o → b ∉ own := fun b o e hb => by rw [hob b hb] at e; cases e
  have hnw' : ∀ news' : List (Addr × Obj), news'.map (·.1) = news.map (·.1) → ∀ p ∈ news', p.1 ∉ own := fun news' ha p hp => by
    have : p.1 ∈ news.map (·.1) := ha ▸ List.mem_map.mpr ⟨p, hp, rfl⟩
    ((refine Exists.elim (List.mem_map.mp this) ?_); intro q; intro hZ1; (refine And.elim ?_ hZ1); clear hZ1; intro hq e)
    exact e ▸ hnw q hq
  refine codeAny_forLoop_any
    (fun k s' => ∃ H tk gs' m' news' i, s' = { s with heap := H, toks := tk, gens := gs' } ∧ GB s.gens gs' ∧ GenReady prog w A own h₀ all a g (all.length - i) s' ∧ Fr h₀ env.locals H m' ∧ News h₀ env.locals H news' ∧ news'.map (·.1) = news.map (·.1) ∧ J i m' news' ∧ i ≤ all.length ∧ k = all.length + 1 - i) ?_ (all.length + 1)
    ⟨s.heap, s.toks, s.gens, m, news, 0, rfl, GB.refl _, hst, F, N, rfl, h0, Nat.zero_le _, rfl⟩
  intro k s' hJ2
  ((refine Mine.hideG fun G kG => ?_); (refine Mine.ex6 hJ2 ?_); (try clear hJ2); intro H tk gs m' news' i; intro hZ1; (refine Mine.and9 hZ1 ?_); clear hZ1; intro hZ2; obtain rfl := hZ2; intro hgb hst' F' N' ha' hJ hi; intro hZ3; obtain rfl := hZ3; (refine kG ?_); clear kG G)
  have next : ∀ h₁ : Heap, (∀ b o, b ∉ own → H.get? b = some o → h₁.get? b = some o) → Fr h₀ env.locals h₁ m' ∧ News h₀ env.locals h₁ news' := fun h₁ hk₁ =>
    ⟨⟨F'.ns.at' fun o e => hk₁ _ o hLw e, fun b o e => hk₁ b o (old b o e) (F'.keep b o e), F'.above⟩, fun p hp => ⟨hk₁ _ _ (hnw' news' ha' p hp) (N' p hp).1, (N' p hp).2⟩⟩
  refine esc_next hh (hl _ F'.keep) hroom hst' F'.keep hob ha ?_ ?_
  · intro mm T p c u₁ u₂ h₁ tk₁ gs₁ hm hall hT hsz hk₁ hgb₁ hat
    have hlt : i < all.length := (down_ix hm).1
    have hidx : all.length - 1 - mm = i := (down_ix hm).2.1
    rw [hidx] at hall
    refine letOwned_gen hat.isGen ?_
    have ht₁ : h₁.IsTuple T #[.int p u₁, .str ⟨c.toArray⟩ u₂] := hT
    refine wpAny_assign_Tuple hh ht₁ rfl rfl fun h₃ hx₃ => ?_
    replace hx₃ : Heap.ExtBut h₁.objs.size h₁ h₃ := hx₃
    have up₃ : ∀ b o, h₁.get? b = some o → h₃.get? b = some o := fun b o x => hx₃ b o (Nat.ne_of_lt (Heap.lt_size x)) x
    ((refine And.elim ?_ (next h₃ fun b o hb x => up₃ b o (hk₁ b o hb x))); intro F₃ N₃)
    show wpAny _ A (do holding [Value.str ⟨c.toArray⟩ u₂] (assign (.Name xi pk) env (.int p u₁)); do holding [] (assign (.Name xc pv) env (.str ⟨c.toArray⟩ u₂)); pure ()) _ _ _
    refine wpAny_bind (wpAny_holding (wpAny_assign_Name (wpAny_storeName_local hxi F₃.ns (fun h₄ hn₄ hs₄ => ?_) hp)))
    replace hs₄ : Heap.SameBut env.locals h₃ h₄ := hs₄
    have F₄ := F₃.set hn₄ hs₄
    refine wpAny_bind (wpAny_holding (wpAny_assign_Name (wpAny_storeName_local hxc F₄.ns (fun h₅ hn₅ hs₅ => wpAny_pure ?_) hp)))
    replace hs₅ : Heap.SameBut env.locals h₄ h₅ := hs₅
    have F₅ := F₄.set hn₅ hs₅
    have N₅ : News h₀ env.locals h₅ news' := (N₃.set hs₄).set hs₅
    have up₅ : ∀ b ∈ a :: own, ∀ o, h₁.get? b = some o → h₅.get? b = some o := fun b hb o e => hs₅.extBut b o (fun q => hLf (q ▸ hb)) (hs₄.extBut b o (fun q => hLf (q ▸ hb)) (up₃ b o e))
    have at₅ : ∀ tk, GenAt prog w A own h₀ all a g mm { s with heap := h₅, toks := tk, gens := gs₁ } := fun tk =>
      hat.frame ⟨fun b hb o e => up₅ b (List.mem_cons_of_mem _ hb) o e, F₅.keep⟩ (fun o e => up₅ a (List.mem_cons_self ..) o e) rfl
    refine wpAny_mono (step i p c u₁ u₂ m' news' _ (ownOf h₀ (a :: own) h₅) ⟨_, _, _, rfl, hgb.trans hgb₁⟩ hall hJ ha' ownOf_sub F₅ ((news_ownOf hLf).append N₅)) (fun f s₃ h₆ => ?_) fun _ _ e => e
    have fin : ∀ s₃, LoopStep2 h₀ env.locals (ownOf h₀ (a :: own) h₅) news' (J (i + 1)) { s with heap := h₅, toks := tk₁ + 1 + 1, gens := gs₁ } .next s₃ → ∃ mk, mk < all.length + 1 - i ∧ ∃ H tk gs' m' news' i, s₃ = { s with heap := H, toks := tk, gens := gs' } ∧ GB s.gens gs' ∧ GenReady prog w A own h₀ all a g (all.length - i) s₃ ∧ Fr h₀ env.locals H m' ∧ News h₀ env.locals H news' ∧ news'.map (·.1) = news.map (·.1) ∧ J i m' news' ∧ i ≤ all.length ∧ mk = all.length + 1 - i := by
      intro s₃ hJ1
      ((refine Mine.hideG fun G kG => ?_); (refine And.elim ?_ hJ1); (try clear hJ1); intro _; intro hZ1; (refine Mine.ex4 hZ1 ?_); clear hZ1; intro h₆' tk₆ m₂ news₂; intro hZ2; (refine Mine.and5 hZ2 ?_); clear hZ2; intro hZ3; obtain rfl := hZ3; intro F₆ N₆ ha₆ hJ₆; (refine kG ?_); clear kG G)
      have up₆ : ∀ b ∈ a :: own, ∀ o, h₅.get? b = some o → h₆'.get? b = some o := fun b hb o e => (N₆ _ (List.mem_append_left _ (mem_ownOf hb (hwr b hb) e))).1
      refine ⟨all.length + 1 - (i + 1), (down_ix hm).2.2.2, h₆', tk₆, gs₁, m₂, news₂, i + 1, rfl, hgb.trans hgb₁, ?_, F₆, N₆.right, ha₆.trans ha', hJ₆, hlt, rfl⟩
      have hmm : all.length - (i + 1) = mm := (down_ix hm).2.2.1
      rw [hmm]
      exact ((at₅ 0).frame (s' := { s with heap := h₆', toks := tk₆, gens := gs₁ }) ⟨fun b hb o e => up₆ b (List.mem_cons_of_mem _ hb) o e, F₆.keep⟩ (fun o e => up₆ a (List.mem_cons_self ..) o e) rfl).ready F₆.keep
    cases f with
    | ret v => exact h₆
    | brk => exact h₆
    | cont => exact fin _ h₆
    | next => exact fin _ h₆
  · intro h₁ tk₁ gs₁ hn hk₁ hgb₁
    have hin : i = all.length := by omega
    subst hin
    ((refine And.elim ?_ (next h₁ hk₁)); intro F₁ N₁)
    exact wpAny_execs_nil (hR h₁ tk₁ gs₁ m' news' (hgb.trans hgb₁) F₁ N₁ ha' hJ)
end
end Mine
end
section -- G5
open PySem PySem.W PyProof.Rows
set_option maxRecDepth 100000
namespace Mine
theorem zoff_G5 : True := by
  w_top off
  k_with_none
  k_with "Hid" => (refine Mine.Hid.go (by with_reducible assumption) ?_)
  k_with "execs cons" => ((fail_if_success (with_reducible refine Mine.isHid ?_)); (refine Mine.hideQ fun _ _ => ?_))
  k_with "exec Assign" => ((fail_if_success (with_reducible refine Mine.isHid ?_)); (refine Mine.hideQ fun _ _ => ?_))
  k_with "exec Expr" => ((fail_if_success (with_reducible refine Mine.isHid ?_)); (refine Mine.hideQ fun _ _ => ?_))
  k_with "exec Return" => ((fail_if_success (with_reducible refine Mine.isHid ?_)); (refine Mine.hideQ fun _ _ => ?_))
  k_with "exec AugAssign" => ((fail_if_success (with_reducible refine Mine.isHid ?_)); (refine Mine.hideQ fun _ _ => ?_))
  k_with "exec If" => ((fail_if_success (with_reducible refine Mine.isHid ?_)); (refine Mine.hideQ fun _ _ => ?_))
  trivial
theorem Upd.append {d : Addr} {o o' : Obj} {own r r' : List (Addr × Obj)} (h : ∀ q ∈ own, q.1 ≠ d) (u : Upd d o o' r r') : Upd d o o' (own ++ r) (own ++ r') := by
  induction own with
  | nil => exact u
  | cons a t ih => exact .tail (h a (List.mem_cons_self ..)) (ih fun q hq => h q (List.mem_cons_of_mem _ hq))
local macro_rules | `(tactic| k_upd) => `(tactic| (refine' Upd.append ?a ?b; (case a => assumption); (case b => k_upd)))
local macro_rules | `(tactic| k_mem) => `(tactic| (refine List.mem_append.mpr (Or.inr ?_); k_mem))
theorem zk_G5_1 : True := by
  k_with "eval Name" => (refine ld (by assumption) (by assumption) ?_)
  trivial
structure SS where
  start : Nat
  opn : Option Nat
  res : List Str
noncomputable def sliceN (x : Str) (a b : Nat) : Str := Txt.slice x (some (a : Int)) (some (b : Int))
noncomputable def stripStep (x : Str) (st : SS) (t : Nat × List Nat) : SS :=
  if t.2 = [34] then
    match st.opn with
    | none => { st with opn := some t.1 }
    | some o => { start := t.1 + 1, opn := none, res := if st.start = o then st.res else st.res ++ [sliceN x st.start o] }
  else st
noncomputable def stripFold (x : Str) (j : Nat) : SS := ((toks x.cps.toList 0 false).take j).foldl (stripStep x) ⟨0, none, []⟩
theorem esc_call' (w : World) {p : Program} {loose : List Str} {mean : ExcName → Option Value} {mg mb : Str → Option Value} {A : Around} : ∀ (b₀ : Heap) (x : Str) (tk : Tok) (s : Shared) (Q E : Value → Shared → Prop),
    (KX w.params).In b₀ → Top p loose mean mg mb b₀ → Ext b₀ s.heap → b₀.objs.size ≤ s.heap.objs.size → A.handled = none → A.depth + 4 < recursionLimit → escEnd x.cps.toList false = false →
    (∀ L h' tk' gs, L = s.heap.objs.size → Ext s.heap h' → h'.objs.size = L + 2 → gs.bare = true →
      GenReady PySem.Challenge.rw_sh0039_01.row.prog w A [L, L + 3, L + 2] b₀ (toks x.cps.toList 0 false) (L + 1) s.gens.size (toks x.cps.toList 0 false).length { s with heap := h', toks := tk', gens := s.gens.push gs } →
      Q (.ref (L + 1)) { s with heap := h', toks := tk', gens := s.gens.push gs }) →
    wpAny (model PySem.Challenge.rw_sh0039_01.row.prog w) A (call (.ref 62) [.str x tk]) Q E s :=
  fun b₀ x tk s Q E X T hb hbs hh hd hesc ret => esc_call w b₀ x tk A A s Q E X T hb hbs (by omega) hh hd hesc ret
theorem own1 {z L : Nat} (h : z < L) : z ∉ [L + 1, L, L + 3, L + 2] := by
  simp only [List.mem_cons, List.not_mem_nil, or_false, not_or]; omega
theorem own2 {z L : Nat} (h : z ≤ L) : ∀ b ∈ [L + 1, L, L + 3, L + 2], z ≤ b := by
  intro b hb
  simp only [List.mem_cons, List.not_mem_nil, or_false] at hb; omega
theorem own3 (L : Nat) : L + 1 ∉ [L, L + 3, L + 2] := by
  simp only [List.mem_cons, List.not_mem_nil, or_false, not_or]; omega
theorem nRC : ¬ (Str.ofString "result" = Str.ofString "ch") := by decide
theorem nRP : ¬ (Str.ofString "result" = Str.ofString "pos") := by decide
theorem nSC : ¬ (Str.ofString "start" = Str.ofString "ch") := by decide
theorem nSP : ¬ (Str.ofString "start" = Str.ofString "pos") := by decide
theorem nOC : ¬ (Str.ofString "open_pos" = Str.ofString "ch") := by decide
theorem nOP : ¬ (Str.ofString "open_pos" = Str.ofString "pos") := by decide
theorem none_of_le {h : Heap} {b : Addr} (hb : h.objs.size ≤ b) : h.get? b = none := by
  cases e : h.get? b with
  | none => rfl
  | some o => exact absurd (Heap.lt_size e) (Nat.not_lt.mpr hb)
theorem toks_length_le : ∀ (l : List Nat) (p : Nat) (e : Bool), (toks l p e).length ≤ l.length
  | [], _, _ => Nat.le_refl _
  | c :: r, p, true => by rw [toks]; have := toks_length_le r (p + 1) false; simp only [List.length_cons]; omega
  | c :: r, p, false => by
    rw [toks]
    have h1 := toks_length_le r (p + 1) false
    have h2 := toks_length_le r (p + 1) true
    split <;> simp only [List.length_cons] <;> omega
theorem strsAre_snoc {vs : List Value} {ys : List Str} {y : Str} {t : Tok} (h : StrsAre vs ys) : StrsAre (vs ++ [.str y t]) (ys ++ [y]) := by
  induction h with
  | nil => exact .cons _ _ .nil
  | cons y' t' _ ih => exact .cons _ _ ih
theorem quo : Str.ofString "\"" = ⟨#[34]⟩ := by decide +kernel
theorem quo_of {c : List Nat} (h : (({ cps := c.toArray } : Str) == Str.ofString "\"") = true) : c = [34] := by
  have := eq_of_beq h
  rw [quo] at this
  have := congrArg (fun z : Str => z.cps.toList) this
  simpa using this
theorem quo_not {c : List Nat} (h : (({ cps := c.toArray } : Str) == Str.ofString "\"") = false) : ¬ c = [34] := by
  rintro rfl
  rw [quo] at h
  exact absurd h (by decide)
theorem stripFold_succ {x : Str} {i p : Nat} {c : List Nat} (h : (toks x.cps.toList 0 false)[i]? = some (p, c)) : stripFold x (i + 1) = stripStep x (stripFold x i) (p, c) := by
  unfold stripFold
  rw [List.take_add_one, h]
  simp [List.foldl_append]
noncomputable def stripRes (x : Str) : List Str :=
  let st := stripFold x (toks x.cps.toList 0 false).length
  if st.start < x.length then st.res ++ [Txt.slice x (some (st.start : Int)) none] else st.res
noncomputable def stripOf (x : Str) : Str := if 34 ∈ x.cps.toList then Txt.join (Str.ofString "") (stripRes x) else x
theorem stripOf_none {x : Str} (h : (Builtin.Str.occurrences x (Str.ofString "\"") 0 x.length 1).isEmpty = true) : stripOf x = x := by
  have := StrLaws.found_one x 34
  rw [quo] at h
  rw [h] at this
  exact if_neg (by simpa using this.symm)
theorem stripOf_some {x : Str} (h : (Builtin.Str.occurrences x (Str.ofString "\"") 0 x.length 1).isEmpty = false) : stripOf x = Txt.join (Str.ofString "") (stripRes x) := by
  have := StrLaws.found_one x 34
  rw [quo] at h
  rw [h] at this
  exact if_pos (by simpa using this.symm)
theorem stripFold_res (x : Str) : ∀ j, (stripFold x j).res.length ≤ j ∧ ∀ y ∈ (stripFold x j).res, y.length ≤ x.length
  | 0 => by simp [stripFold]
  | j + 1 => by
    have ih := stripFold_res x j
    cases h : (toks x.cps.toList 0 false)[j]? with
    | none =>
      have : stripFold x (j + 1) = stripFold x j := by
        unfold stripFold
        rw [List.take_add_one, h]; simp
      rw [this]
      exact ⟨Nat.le_succ_of_le ih.1, ih.2⟩
    | some t =>
      obtain ⟨p, c⟩ := t
      rw [stripFold_succ h]
      unfold stripStep
      split
      · split
        · exact ⟨Nat.le_succ_of_le ih.1, ih.2⟩
        · dsimp only
          split
          · exact ⟨Nat.le_succ_of_le ih.1, ih.2⟩
          · refine ⟨by simp; omega, fun y hy => ?_⟩
            rcases List.mem_append.mp hy with h1 | h1
            · exact ih.2 y h1
            · cases List.mem_singleton.mp h1
              exact PyProof.Txt.length_slice_le x _ _
      · exact ⟨Nat.le_succ_of_le ih.1, ih.2⟩
theorem sum_le_of {l : List Str} {b : Nat} (h : ∀ y ∈ l, y.length ≤ b) : (l.map (·.length)).sum ≤ l.length * b := by
  induction l with
  | nil => simp
  | cons a r ih =>
    have h1 := h a (List.mem_cons_self ..)
    have h2 := ih fun y hy => h y (List.mem_cons_of_mem _ hy)
    simp only [List.map_cons, List.sum_cons, List.length_cons, Nat.succ_mul]; omega
theorem stripRes_ok {x : Str} (hx : x.length ≤ 2000) : ((stripRes x).map (·.length)).sum + (stripRes x).length * 64 ≤ 16777216 := by
  have h := stripFold_res x (toks x.cps.toList 0 false).length
  have hle := toks_length_le x.cps.toList 0 false
  have hx2 : x.cps.toList.length = x.length := by simp [Str.length]
  have h2 : (stripRes x).length ≤ 2001 ∧ ∀ y ∈ stripRes x, y.length ≤ 2000 := by
    unfold stripRes
    dsimp only
    split
    · refine ⟨by simp only [List.length_append, List.length_singleton]; omega, fun y hy => ?_⟩
      rcases List.mem_append.mp hy with h1 | h1
      · exact Nat.le_trans (h.2 y h1) hx
      · cases List.mem_singleton.mp h1
        exact Nat.le_trans (PyProof.Txt.length_slice_le x _ _) hx
    · exact ⟨by omega, fun y hy => Nat.le_trans (h.2 y hy) hx⟩
  have h3 := sum_le_of h2.2
  have h4 : (stripRes x).length * 2000 ≤ 2001 * 2000 := Nat.mul_le_mul_right _ h2.1
  omega
structure StripJ (x : Str) (tk : Tok) (lr : Addr) (i : Nat) (m : Str → Option Value) (news : List (Addr × Obj)) : Prop where
  news : ∃ arr n, news = [(lr, W.listOf arr n)] ∧ StrsAre arr.toList (stripFold x i).res ∧ arr.size ≤ i
  addr : m (Str.ofString "addr") = some (.str x tk)
  result : m (Str.ofString "result") = some (.ref lr)
  start : ∃ t, m (Str.ofString "start") = some (.int (stripFold x i).start t)
  opn : (∃ o t, (stripFold x i).opn = some o ∧ m (Str.ofString "open_pos") = some (.int o t)) ∨ ((stripFold x i).opn = none ∧ m (Str.ofString "open_pos") = some .none)
set_option maxHeartbeats 8000000 in
theorem strip_spec (w : World) {p : Program} {loose : List Str} {mean : ExcName → Option Value} {mg mb : Str → Option Value} : ∀ (x : Str) (tk : Tok) (A : Around) (s : Shared) (Q E : Value → Shared → Prop),
    (KX w.params).In s.heap → Top p loose mean mg mb s.heap → A.depth + 10 < recursionLimit → A.handled = none → escEnd x.cps.toList false = false → x.length ≤ 2000 →
    (∀ h' tk' t2 gs', Ext s.heap h' → GB s.gens gs' → Q (.str (stripOf x) t2) { s with heap := h', toks := tk', gens := gs' }) →
    wpAny (model PySem.Challenge.rw_sh0039_01.row.prog w) A (call (.ref 69) [.str x tk]) Q E s := by
  k_fill
  intro x xt A s Q E X T hd0 hh hesc hxl ret
  have hd : A.depth < recursionLimit := by omega
  k_dflt (refine' enter (K := KX w.params) X T ?k6 ?k7 hd ?k9 ?kB ?_ ?c2 ?c3 ?c4 ?c5)
  (case k6 => k_is)
  (case k7 => k_is)
  (case k9 => exact BindsTo.of_eq rfl)
  (case kB => exact locs rfl)
  (case c2 => exact rfl)
  (case c3 => exact rfl)
  (case c4 => exact rfl)
  (case c5 => decide)
  clear X T
  intro h₁ F N X T
  (try (refine Mine.hideQ fun _ _ => ?_))
  (try k_fold)
  k_steps
  · have e : stripOf x = x := stripOf_none (by assumption)
    rw [e] at ret
    exact ret _ _ _ _ F.keep (GB.refl _)
  (with_reducible rename Fr _ _ _ _ => F1)
  (with_reducible rename News _ _ _ _ => N1)
  have key : ∃ lr M, Fr s.heap s.heap.objs.size _ M ∧ News s.heap s.heap.objs.size _ [(lr, W.listOf #[] 0)] ∧ M (Str.ofString "addr") = some (.str x _) ∧ M (Str.ofString "result") = some (.ref lr) ∧
      (∃ t, M (Str.ofString "start") = some (.int 0 t)) ∧ M (Str.ofString "open_pos") = some .none := ⟨_, _, F1, N1, rfl, rfl, ⟨_, rfl⟩, rfl⟩
  clear F1 N1
  ((refine Mine.ex2 key ?_); (try clear key); intro lr M1; intro hZ1; (refine Mine.and6 hZ1 ?_); clear hZ1; intro F1 N1 ja jr js jo)
  refine wpAny_For ?_
  (try k_fold)
  k_steps
  refine esc_call' w s.heap x _ _ _ _ X T F1.keep ?_ ?_ ?_ hesc ?_
  · ((refine Mine.ex3 F1.ns ?_); intro o _ _; intro hZ1; (refine And.elim ?_ hZ1); clear hZ1; intro ho _)
    exact Nat.le_of_lt (Heap.lt_size ho)
  · exact hh
  · simp only [depth_deeper]; omega
  intro L2 h2 tk2 gs eL e2 hz2 hbare hR
  have F2 := Fr.keeps F1 e2
  have N2 := News.grown N1 e2
  have hL2 : s.heap.objs.size < L2 := by
    ((refine Mine.ex3 F1.ns ?_); intro o _ _; intro hZ1; (refine And.elim ?_ hZ1); clear hZ1; intro ho _)
    rw [eL]
    exact Heap.lt_size ho
  have hlr : lr < L2 := by rw [eL]; exact Heap.lt_size (N1.get (List.mem_singleton.mpr rfl))
  clear F1 N1
  refine wpAny_pyIter_gen hR.isGen ?_
  dsimp only
  refine forEsc (h₀ := s.heap) hh (by simp only [depth_deeper]; omega) (fun h' e => (T.keeps e).nolimit) rfl rfl rfl ?_ ?_ ?_ ?_ hR F2 N2 (StripJ x xt lr) ?_ ?_ ?_
  · exact own1 hL2
  · exact fun b hb => none_of_le (own2 (Nat.le_of_lt hL2) b hb)
  · intro p hp
    (try (refine Mine.hideQ fun _ _ => ?_))
    cases List.mem_singleton.mp hp
    exact fun q => own1 hlr (List.mem_cons_of_mem _ q)
  · exact own3 L2
  · exact ⟨⟨_, _, rfl, StrsAre.nil, Nat.le_refl _⟩, ja, jr, js, .inr ⟨rfl, jo⟩⟩
  · intro i p c u₁ u₂ m₁ news₁ s₁ own' hJ9 hall hJ hnn hown F3 N3
    (try (refine Mine.hideQ fun _ _ => ?_))
    ((refine Mine.ex3 hJ9 ?_); (try clear hJ9); intro hq tkq gsq; intro hZ1; (refine And.elim ?_ hZ1); clear hZ1; intro hZ2; obtain rfl := hZ2; intro hgb)
    obtain ⟨⟨arr, nn, rfl, hS, hsz⟩, ja, jr, ⟨ts, js⟩, jo⟩ := hJ
    have key : ∃ M, Fr s.heap s.heap.objs.size hq M ∧ M (Str.ofString "ch") = some (.str ⟨c.toArray⟩ u₂) ∧ M (Str.ofString "pos") = some (.int p u₁) ∧ M (Str.ofString "addr") = some (.str x _) ∧ M (Str.ofString "result") = some (.ref lr) ∧
        M (Str.ofString "start") = some (.int (stripFold x i).start ts) ∧ M (Str.ofString "open_pos") = m₁ (Str.ofString "open_pos") :=
      ⟨_, F3, by simp, by simp [nPC], by simpa [nAC, nAP] using ja, by simpa [nRC, nRP] using jr, by simpa [nSC, nSP] using js, by simp [nOC, nOP]⟩
    clear F3
    ((refine Exists.elim key ?_); (try clear key); intro M; intro hZ1; (refine Mine.and7 hZ1 ?_); clear hZ1; intro F3 q1 q2 q3 q4 q5 q6)
    clear F2 N2 ja jr js
    have hoff : ∀ q ∈ own', q.1 ≠ lr := fun q hq e => own1 hlr (e ▸ hown q hq)
    replace N3 : News s.heap s.heap.objs.size hq (own' ++ [(lr, W.listOf arr nn)]) := N3
    have hi2 : i < 2000 := by
      have h1 := (List.getElem?_eq_some_iff.mp hall).1
      have h2 := toks_length_le x.cps.toList 0 false
      have hx2 : x.cps.toList.length = x.length := by simp [Str.length]
      omega
    rcases jo with ⟨o, to, ho, jo⟩ | ⟨ho, jo⟩ <;> rw [jo] at q6
    all_goals clear jo
    (try k_fold)
    k_steps
    all_goals have e := stripFold_succ hall
    · have hc : c = [34] := quo_of (by assumption)
      have hne : ((stripFold x i).start : Int) ≠ (o : Int) := by assumption
      have e2 : stripFold x (i + 1) = ⟨p + 1, none, (stripFold x i).res ++ [sliceN x (stripFold x i).start o]⟩ := by
        rw [e, stripStep, if_pos hc, ho]
        dsimp only
        rw [if_neg (by omega)]
      refine ⟨⟨_, _, rfl, ?_, ?_⟩, ?_, ?_, ⟨_, by rw [if_neg (by decide), if_pos rfl, e2]; rfl⟩, .inr ⟨?_, ?_⟩⟩
      · rw [e2]; simpa [sliceN] using strsAre_snoc hS
      · simp only [Array.size_push]; omega
      · rw [if_neg (by decide), if_neg (by decide)]; exact q3
      · rw [if_neg (by decide), if_neg (by decide)]; exact q4
      · rw [e2]
      · rw [if_pos rfl]
    · have hc : c = [34] := quo_of (by assumption)
      have hne : ((stripFold x i).start : Int) = (o : Int) := by assumption
      have e2 : stripFold x (i + 1) = ⟨p + 1, none, (stripFold x i).res⟩ := by
        rw [e, stripStep, if_pos hc, ho]
        dsimp only
        rw [if_pos (by omega)]
      refine ⟨⟨_, _, rfl, ?_, ?_⟩, ?_, ?_, ⟨_, by rw [if_neg (by decide), if_pos rfl, e2]; rfl⟩, .inr ⟨?_, ?_⟩⟩
      · rw [e2]; exact hS
      · omega
      · rw [if_neg (by decide), if_neg (by decide)]; exact q3
      · rw [if_neg (by decide), if_neg (by decide)]; exact q4
      · rw [e2]
      · rw [if_pos rfl]
    · have hc : ¬ c = [34] := quo_not (by assumption)
      rw [stripStep, if_neg hc] at e
      exact ⟨⟨_, _, rfl, by rw [e]; exact hS, by omega⟩, q3, q4, ⟨_, by rw [e]; exact q5⟩, .inl ⟨o, to, by rw [e]; exact ho, q6⟩⟩
    · have hc : c = [34] := quo_of (by assumption)
      have e2 : stripFold x (i + 1) = ⟨(stripFold x i).start, some p, (stripFold x i).res⟩ := by
        rw [e, stripStep, if_pos hc, ho]
      refine ⟨⟨_, _, rfl, ?_, ?_⟩, ?_, ?_, ⟨_, by rw [if_neg (by decide), e2]; exact q5⟩, .inl ⟨p, _, by rw [e2], by rw [if_pos rfl]⟩⟩
      · rw [e2]; exact hS
      · omega
      · rw [if_neg (by decide)]; exact q3
      · rw [if_neg (by decide)]; exact q4
    · have hc : ¬ c = [34] := quo_not (by assumption)
      rw [stripStep, if_neg hc] at e
      exact ⟨⟨_, _, rfl, by rw [e]; exact hS, by omega⟩, q3, q4, ⟨_, by rw [e]; exact q5⟩, .inr ⟨by rw [e]; exact ho, q6⟩⟩
  · intro h9 tk9 gs9 m9 news9 hgb9 F9 N9 hn9 hJ9
    (try (refine Mine.hideQ fun _ _ => ?_))
    obtain ⟨⟨arr, nn, rfl, hS, hsz⟩, ja9, jr9, ⟨ts9, js9⟩, _⟩ := hJ9
    have hle := toks_length_le x.cps.toList 0 false
    have hx2 : x.cps.toList.length = x.length := by simp [Str.length]
    clear F2 N2
    (try k_fold)
    k_steps
    · refine join_listC (ys := stripRes x) (News.isList (by assumption) (.head _)) ?_ (by decide) (stripRes_ok hxl) ?_
      · rw [show stripRes x = (stripFold x (toks x.cps.toList 0 false).length).res ++ [Txt.slice x (some ((stripFold x (toks x.cps.toList 0 false).length).start : Int)) none] from if_pos (by omega)]
        simpa using strsAre_snoc hS
      · intro _ _
        (try (refine Mine.hideQ fun _ _ => ?_))
        rw [stripOf_some (by assumption)] at ret
        repeat (refine Mine.Hid.go (by with_reducible assumption) ?_)
        exact ret _ _ _ _ (Fr.keep (by assumption)) ((GB.push hbare).trans hgb9)
    · refine join_listC (ys := stripRes x) (News.isList (by assumption) (.head _)) ?_ (by decide) (stripRes_ok hxl) ?_
      · rw [show stripRes x = (stripFold x (toks x.cps.toList 0 false).length).res from if_neg (by omega)]
        exact hS
      · intro _ _
        (try (refine Mine.hideQ fun _ _ => ?_))
        rw [stripOf_some (by assumption)] at ret
        repeat (refine Mine.Hid.go (by with_reducible assumption) ?_)
        exact ret _ _ _ _ F9.keep ((GB.push hbare).trans hgb9)
end Mine
end
section -- G6
open PySem PySem.W PyProof.Rows
set_option maxRecDepth 100000
namespace Mine
theorem zoff_G6 : True := by
  w_top off
  k_with_none
  k_with "Hid" => (refine Mine.Hid.go (by with_reducible assumption) ?_)
  k_with "execs cons" => ((fail_if_success (with_reducible refine Mine.isHid ?_)); (refine Mine.hideQ fun _ _ => ?_))
  k_with "exec Assign" => ((fail_if_success (with_reducible refine Mine.isHid ?_)); (refine Mine.hideQ fun _ _ => ?_))
  k_with "exec Expr" => ((fail_if_success (with_reducible refine Mine.isHid ?_)); (refine Mine.hideQ fun _ _ => ?_))
  k_with "exec Return" => ((fail_if_success (with_reducible refine Mine.isHid ?_)); (refine Mine.hideQ fun _ _ => ?_))
  k_with "exec AugAssign" => ((fail_if_success (with_reducible refine Mine.isHid ?_)); (refine Mine.hideQ fun _ _ => ?_))
  k_with "exec If" => ((fail_if_success (with_reducible refine Mine.isHid ?_)); (refine Mine.hideQ fun _ _ => ?_))
  trivial
local macro_rules | `(tactic| k_upd) => `(tactic| (refine' Upd.append ?a ?b; (case a => assumption); (case b => k_upd)))
local macro_rules | `(tactic| k_mem) => `(tactic| (refine List.mem_append.mpr (Or.inr ?_); k_mem))
theorem zk_G6_1 : True := by
  k_with "eval Name" => (refine ld (by assumption) (by assumption) ?_)
  k_with "loadName" => (refine ldn (by assumption) (by assumption) ?_)
  trivial
noncomputable def opensAt (y : Str) (j : Nat) : Int := ((toks y.cps.toList 0 false).take j).foldl (fun o t => if t.2 = [40] then o + 1 else if t.2 = [41] then o - 1 else o) 0
noncomputable def checkOf (x : Str) : Bool := decide ((∀ j, j ≤ (toks (stripOf x).cps.toList 0 false).length → 0 ≤ opensAt (stripOf x) j) ∧ opensAt (stripOf x) (toks (stripOf x).cps.toList 0 false).length = 0)
theorem opensAt_succ {y : Str} {i p : Nat} {c : List Nat} (h : (toks y.cps.toList 0 false)[i]? = some (p, c)) :
    opensAt y (i + 1) = if c = [40] then opensAt y i + 1 else if c = [41] then opensAt y i - 1 else opensAt y i := by
  unfold opensAt
  rw [List.take_add_one, h]
  simp [List.foldl_append]
theorem lpar : Str.ofString "(" = ⟨#[40]⟩ := by decide +kernel
theorem rpar : Str.ofString ")" = ⟨#[41]⟩ := by decide +kernel
theorem lit_of {t : String} {k : Nat} {c : List Nat} (e : Str.ofString t = ⟨#[k]⟩) (h : (({ cps := c.toArray } : Str) == Str.ofString t) = true) : c = [k] := by
  have := eq_of_beq h
  rw [e] at this
  have := congrArg (fun z : Str => z.cps.toList) this
  simpa using this
theorem lit_not {t : String} {k : Nat} {c : List Nat} (e : Str.ofString t = ⟨#[k]⟩) (h : (({ cps := c.toArray } : Str) == Str.ofString t) = false) : ¬ c = [k] := by
  rintro rfl
  rw [e] at h
  simp at h
theorem le_succ_of {f : Nat → Int} {i : Nat} (h : ∀ j, j ≤ i → 0 ≤ f j) (h1 : 0 ≤ f (i + 1)) : ∀ j, j ≤ i + 1 → 0 ≤ f j := by
  intro j hj
  by_cases e : j = i + 1
  · exact e ▸ h1
  · exact h j (by omega)
structure CheckJ (y : Str) (i : Nat) (m : Str → Option Value) (news : List (Addr × Obj)) : Prop where
  news : news = []
  opens : ∃ t, m (Str.ofString "opens") = some (.int (opensAt y i) t)
  pos : ∀ j, j ≤ i → 0 ≤ opensAt y j
theorem nOpC : ¬ (Str.ofString "opens" = Str.ofString "ch") := by decide
theorem nOpP : ¬ (Str.ofString "opens" = Str.ofString "pos") := by decide
set_option maxHeartbeats 8000000 in
theorem check_spec (w : World) {p : Program} {loose : List Str} {mean : ExcName → Option Value} {mg mb : Str → Option Value} : ∀ (x : Str) (tk : Tok) (A : Around) (s : Shared) (Q E : Value → Shared → Prop),
    (KX w.params).In s.heap → Top p loose mean mg mb s.heap → A.depth + 20 < recursionLimit → A.handled = none → escEnd x.cps.toList false = false → x.length ≤ 2000 →
    escEnd (stripOf x).cps.toList false = false → (stripOf x).length ≤ 2000 →
    (∀ h' tk' gs', Ext s.heap h' → GB s.gens gs' → Q (.bool (checkOf x)) { s with heap := h', toks := tk', gens := gs' }) →
    wpAny (model PySem.Challenge.rw_sh0039_01.row.prog w) A (call (.ref 76) [.str x tk]) Q E s := by
  k_fill
  intro x xt A s Q E X T hd0 hh hesc hxl hesc2 hyl ret
  have hd : A.depth < recursionLimit := by omega
  k_dflt (refine' enter (K := KX w.params) X T ?k6 ?k7 hd ?k9 ?kB ?_ ?c2 ?c3 ?c4 ?c5)
  (case k6 => k_is)
  (case k7 => k_is)
  (case k9 => exact BindsTo.of_eq rfl)
  (case kB => exact locs rfl)
  (case c2 => exact rfl)
  (case c3 => exact rfl)
  (case c4 => exact rfl)
  (case c5 => decide)
  clear X T
  intro h₁ F N X T
  (try k_fold)
  k_steps
  refine strip_spec w x _ _ _ _ _ (X.keeps F.keep) (T.keeps F.keep) (by simp only [depth_deeper]; omega) hh hesc hxl ?_
  intro hA tA t2 gA eA gbA
  have F1 := Fr.keeps F eA
  have N1 := News.grown N eA
  clear F N
  unfold checkOf at ret
  generalize stripOf x = y at *
  dsimp only
  k_steps
  (with_reducible rename Fr _ _ _ _ => F2)
  (with_reducible rename News _ _ _ _ => N2)
  have key : ∃ M, Fr s.heap s.heap.objs.size _ M ∧ News s.heap s.heap.objs.size _ [] ∧ M (Str.ofString "addr") = some (.str y t2) ∧ (∃ t, M (Str.ofString "opens") = some (.int 0 t)) := ⟨_, F2, N2, rfl, ⟨_, rfl⟩⟩
  clear F2 N2
  ((refine Exists.elim key ?_); (try clear key); intro M1; intro hZ1; (refine Mine.and4 hZ1 ?_); clear hZ1; intro F1 N1 ja jo)
  refine wpAny_For ?_
  (try k_fold)
  k_steps
  refine esc_call' w s.heap y _ _ _ _ X T F1.keep ?_ hh ?_ hesc2 ?_
  · ((refine Mine.ex3 F1.ns ?_); intro o _ _; intro hZ1; (refine And.elim ?_ hZ1); clear hZ1; intro ho _)
    exact Nat.le_of_lt (Heap.lt_size ho)
  · simp only [depth_deeper]; omega
  intro L2 h2 tk2 gs eL e2 hz2 hbare hR
  have F2 := Fr.keeps F1 e2
  have N2 := News.grown N1 e2
  have hL2 : s.heap.objs.size < L2 := by
    ((refine Mine.ex3 F1.ns ?_); intro o _ _; intro hZ1; (refine And.elim ?_ hZ1); clear hZ1; intro ho _)
    rw [eL]
    exact Heap.lt_size ho
  clear F1 N1
  refine wpAny_pyIter_gen hR.isGen ?_
  dsimp only
  refine forEsc (h₀ := s.heap) hh (by simp only [depth_deeper]; omega) (fun h' e => (T.keeps e).nolimit) rfl rfl rfl (own1 hL2) (fun b hb => none_of_le (own2 (Nat.le_of_lt hL2) b hb)) ?_ (own3 L2) hR F2 N2 (CheckJ y) ?_ ?_ ?_
  · intro p hp
    exact nomatch hp
  · exact ⟨rfl, jo, fun j hj => by cases Nat.le_zero.mp hj; exact Int.le_refl _⟩
  · intro i p c u₁ u₂ m₁ news₁ s₁ own' hJ9 hall hJ hnn hown F3 N3
    ((refine Mine.ex3 hJ9 ?_); (try clear hJ9); intro hq tkq gsq; intro hZ1; (refine And.elim ?_ hZ1); clear hZ1; intro hZ2; obtain rfl := hZ2; intro hgb)
    obtain ⟨rfl, ⟨to, jo'⟩, hpos⟩ := hJ
    have key : ∃ M, Fr s.heap s.heap.objs.size hq M ∧ M (Str.ofString "ch") = some (.str ⟨c.toArray⟩ u₂) ∧ M (Str.ofString "opens") = some (.int (opensAt y i) to) :=
      ⟨_, F3, by simp, by simpa [nOpC, nOpP] using jo'⟩
    clear F3 F2 N2 ja jo
    replace N3 : News s.heap s.heap.objs.size hq (own' ++ []) := N3
    ((refine Exists.elim key ?_); (try clear key); intro M; intro hZ1; (refine Mine.and3 hZ1 ?_); clear hZ1; intro F3 q1 q2)
    (try k_fold)
    k_steps
    all_goals have e := opensAt_succ hall
    · rw [if_pos (lit_of lpar (by assumption))] at e
      have h1 := hpos i (Nat.le_refl _)
      exact ⟨rfl, ⟨_, by rw [if_pos rfl, e]⟩, le_succ_of hpos (by omega)⟩
    · rw [if_neg (lit_not lpar (by assumption)), if_pos (lit_of rpar (by assumption))] at e
      have hneg : opensAt y i - 1 < 0 := by assumption
      rw [decide_eq_false (fun h => by have h1 := h.1 (i + 1) (List.getElem?_eq_some_iff.mp hall).1; omega)] at ret
      exact ret _ _ _ (Fr.keep (by assumption)) (gbA.trans ((GB.push hbare).trans hgb))
    · rw [if_neg (lit_not lpar (by assumption)), if_pos (lit_of rpar (by assumption))] at e
      have hneg : ¬ opensAt y i - 1 < 0 := by assumption
      exact ⟨rfl, ⟨_, by rw [if_pos rfl, e]⟩, le_succ_of hpos (by omega)⟩
    · rw [if_neg (lit_not lpar (by assumption)), if_neg (lit_not rpar (by assumption))] at e
      have h1 := hpos i (Nat.le_refl _)
      exact ⟨rfl, ⟨_, by rw [e]; exact q2⟩, le_succ_of hpos (by omega)⟩
  · intro h9 tk9 gs9 m9 news9 hgb9 F9 N9 hn9 hJ9
    obtain ⟨rfl, ⟨to, jo'⟩, hpos⟩ := hJ9
    clear F2 N2 ja jo
    (try k_fold)
    k_steps
    have e : (opensAt y (toks y.cps.toList 0 false).length == 0) = decide ((∀ j, j ≤ (toks y.cps.toList 0 false).length → 0 ≤ opensAt y j) ∧ opensAt y (toks y.cps.toList 0 false).length = 0) := by
      rw [Bool.eq_iff_iff]; simp only [beq_iff_eq, decide_eq_true_eq]; exact ⟨fun h => ⟨hpos, h⟩, fun h => h.2⟩
    rw [← e] at ret
    exact ret _ _ _ F9.keep (gbA.trans ((GB.push hbare).trans hgb9))
end Mine
end
section -- W1
open PySem PySem.W PyProof.Rows
set_option maxRecDepth 100000
namespace Mine
theorem zoff_W1 : True := by
  w_top off
  k_with_none
  k_with "Hid" => (refine Mine.Hid.go (by with_reducible assumption) ?_)
  k_with "execs cons" => ((fail_if_success (with_reducible refine Mine.isHid ?_)); (refine Mine.hideQ fun _ _ => ?_))
  k_with "exec Assign" => ((fail_if_success (with_reducible refine Mine.isHid ?_)); (refine Mine.hideQ fun _ _ => ?_))
  k_with "exec Expr" => ((fail_if_success (with_reducible refine Mine.isHid ?_)); (refine Mine.hideQ fun _ _ => ?_))
  k_with "exec Return" => ((fail_if_success (with_reducible refine Mine.isHid ?_)); (refine Mine.hideQ fun _ _ => ?_))
  k_with "exec AugAssign" => ((fail_if_success (with_reducible refine Mine.isHid ?_)); (refine Mine.hideQ fun _ _ => ?_))
  k_with "exec If" => ((fail_if_success (with_reducible refine Mine.isHid ?_)); (refine Mine.hideQ fun _ _ => ?_))
  trivial
noncomputable def Tr.write : Tr → Str
  | .leaf c => c
  | .node l r => Str.ofString "(" ++ l.write ++ r.write ++ Str.ofString ")"
set_option maxHeartbeats 8000000 in
theorem write_spec (w : World) {p : Program} {loose : List Str} {mean : ExcName → Option Value} {mg mb : Str → Option Value} : ∀ (n : Nat) (t : Tr), t.size ≤ n → ∀ (A : Around) (s : Shared) (v : Value) (Q E : Value → Shared → Prop),
    TreeAt s.heap v t → (KX w.params).In s.heap → Top p loose mean mg mb s.heap → A.depth + t.size < recursionLimit → t.write.length ≤ 1000 →
    (∀ tk h' tk', Ext s.heap h' → Q (.str t.write tk) { s with heap := h', toks := tk' }) → wpAny (model PySem.Challenge.rw_sh0039_01.row.prog w) A (call (.ref 245) [v]) Q E s := by
  k_fill
  intro n
  induction n with
  | zero => intro t h; cases t <;> simp [Tr.size] at h
  | succ n ih =>
    intro t hn A s v Q E hR X T hd hl ret
    have hd0 : A.depth < recursionLimit := by omega
    k_dflt (refine' enter (K := KX w.params) X T ?k6 ?k7 hd0 ?k9 ?kB ?_ ?c2 ?c3 ?c4 ?c5)
    (case k6 => k_is)
    (case k7 => k_is)
    (case k9 => exact BindsTo.of_eq rfl)
    (case kB => exact locs rfl)
    (case c2 => exact rfl)
    (case c3 => exact rfl)
    (case c4 => exact rfl)
    (case c5 => decide)
    clear X T
    intro h₁ F N X T
    cases hR
    · (try k_fold)
      k_steps
      exact ret _ _ _ F.keep
    · rename_i a v₁ v₂ l r hL h1 h2
      simp only [Tr.size, Tr.write] at *
      have hl' : (l.write).length ≤ 1000 ∧ (r.write).length ≤ 1000 := by
        simp only [Str.length_append] at hl; omega
      (try k_fold)
      k_steps
      refine ih l (by omega) _ _ _ _ _ (h1.ext F.keep) (X.keeps F.keep) (T.keeps F.keep) (by simp only [depth_deeper]; omega) hl'.1 ?_
      intro tk1 h1' tk1' e1
      have F1 := Fr.keeps F e1
      have N1 := News.grown N e1
      clear F N
      dsimp only
      k_steps
      refine ih r (by omega) _ _ _ _ _ (h2.ext F1.keep) (X.keeps F1.keep) (T.keeps F1.keep) (by simp only [depth_deeper]; omega) hl'.2 ?_
      intro tk2 h2' tk2' e2
      have F2 := Fr.keeps F1 e2
      have N2 := News.grown N1 e2
      clear F1 N1
      dsimp only
      k_steps
      exact ret _ _ _ F2.keep
end Mine
end
section -- R1
open PySem PySem.W PyProof.Rows
set_option maxRecDepth 100000
namespace Mine
theorem sl_ss {x : Str} {a b : Int} (h0 : 0 ≤ a) (h1 : a ≤ b) (h2 : b ≤ x.length) : Txt.slice x (some a) (some b) = ⟨((x.cps.toList.drop a.toNat).take (b - a).toNat).toArray⟩ := eq_of_beq (slice_closesL h0 h1 h2)
theorem sl_ns {x : Str} {b : Int} (h1 : 0 ≤ b) (h2 : b ≤ x.length) : Txt.slice x none (some b) = ⟨(x.cps.toList.take b.toNat).toArray⟩ := by
  have := eq_of_beq (slice_closes_toL h1 h2)
  simpa using this
theorem sl_sn {x : Str} {a : Int} (h0 : 0 ≤ a) (h2 : a ≤ x.length) : Txt.slice x (some a) none = ⟨(x.cps.toList.drop a.toNat).toArray⟩ := by
  have := eq_of_beq (slice_closes_fromL h0 h2 rfl)
  rw [this]
  congr 1
  congr 1
  apply List.take_of_length_le
  simp [Str.length]; omega
/-- code points of a tree's formula -/
noncomputable def Tr.w : Tr → List Nat
  | .leaf c => c.cps.toList
  | .node l r => 40 :: (l.w ++ r.w ++ [41])
theorem Tr.write_w : ∀ t : Tr, t.write.cps.toList = t.w
  | .leaf c => rfl
  | .node l r => by
    have h1 := Tr.write_w l
    have h2 := Tr.write_w r
    simp only [Tr.write, Tr.w, cps_toList_append, h1, h2, lpar, rpar]
    simp
inductive Tr.Ok : Tr → Prop where
  | leaf {k : Nat} : k ≠ 40 → k ≠ 41 → k ≠ 34 → k ≠ 92 → Tr.Ok (.leaf ⟨#[k]⟩)
  | node {l r : Tr} : Tr.Ok l → Tr.Ok r → Tr.Ok (.node l r)
noncomputable def bal (l : List Nat) : Int := l.foldl (fun o c => if c = 40 then o + 1 else if c = 41 then o - 1 else o) 0
theorem bal_from (l : List Nat) : ∀ z : Int, l.foldl (fun o c => if c = 40 then o + 1 else if c = 41 then o - 1 else o) z = z + bal l := by
  unfold bal
  induction l with
  | nil => intro z; simp
  | cons c r ih =>
    intro z
    simp only [List.foldl_cons]
    rw [ih, ih (if c = 40 then 0 + 1 else if c = 41 then 0 - 1 else 0)]
    split
    · omega
    · split <;> omega
theorem bal_append (a b : List Nat) : bal (a ++ b) = bal a + bal b := by
  rw [bal, List.foldl_append, bal_from]; rfl
theorem Tr.Ok.noq {t : Tr} (h : t.Ok) : 34 ∉ t.w ∧ 92 ∉ t.w := by
  induction h with
  | leaf a b c d => simp [Tr.w, Ne.symm c, Ne.symm d]
  | node _ _ i1 i2 => simp [Tr.w, i1, i2]
theorem Tr.Ok.pos {t : Tr} (h : t.Ok) : 0 < t.w.length := by
  induction h with
  | leaf a b c d => simp [Tr.w]
  | node _ _ i1 i2 => simp [Tr.w]
theorem Tr.Ok.bal {t : Tr} (h : t.Ok) : bal t.w = 0 ∧ ∀ j, 0 ≤ bal (t.w.take j) := by
  induction h with
  | @leaf k a b c d =>
    refine ⟨by simp [Tr.w, Mine.bal, a, b], fun j => ?_⟩
    cases j <;> simp [Tr.w, Mine.bal, a, b]
  | @node l r _ _ i1 i2 =>
    refine ⟨?_, fun j => ?_⟩
    · rw [Tr.w, ← List.singleton_append, bal_append, bal_append, bal_append, i1.1, i2.1]; decide
    · cases j with
      | zero => simp [Mine.bal]
      | succ j =>
        rw [Tr.w, List.take_succ_cons, ← List.singleton_append, bal_append, List.append_assoc, List.take_append, List.take_append, bal_append, bal_append]
        have h1 := i1.2 j
        have h2 := i2.2 (j - l.w.length)
        have h3 : -1 ≤ Mine.bal (List.take (j - l.w.length - r.w.length) [41]) := by
          cases (j - l.w.length - r.w.length) <;> simp [Mine.bal]
        have h4 : Mine.bal [40] = 1 := by decide
        omega
theorem Tr.node_pre {l r : Tr} (hl : l.Ok) (hr : r.Ok) {j : Nat} (h0 : 0 < j) (h1 : j < (Tr.node l r).w.length) : 0 < Mine.bal ((Tr.node l r).w.take j) := by
  obtain ⟨j, rfl⟩ : ∃ k, j = k + 1 := ⟨j - 1, by omega⟩
  simp only [Tr.w, List.length_cons, List.length_append, List.length_nil] at h1
  rw [Tr.w, List.take_succ_cons, ← List.singleton_append, bal_append, List.append_assoc, List.take_append, List.take_append, bal_append, bal_append]
  have h1 := hl.bal.2 j
  have h2 := hr.bal.2 (j - l.w.length)
  have h3 : j - l.w.length - r.w.length = 0 := by omega
  have h4 : Mine.bal [40] = 1 := by decide
  rw [h3]
  simp only [List.take_zero]
  have h5 : Mine.bal [] = 0 := rfl
  omega
theorem toks_plain : ∀ (l : List Nat) (p : Nat), 92 ∉ l → toks l p false = (l.zipIdx p).map fun c => (c.2, [c.1])
  | [], _, _ => rfl
  | c :: r, p, h => by
    have h1 : ¬ c = 92 := fun e => h (e ▸ List.mem_cons_self ..)
    rw [toks, if_neg h1, toks_plain r (p + 1) (fun q => h (List.mem_cons_of_mem _ q))]
    simp
theorem escEnd_plain : ∀ (l : List Nat), 92 ∉ l → escEnd l false = false
  | [], _ => rfl
  | c :: r, h => by
    have h1 : (c == 92) = false := beq_false_of_ne fun e => h (e ▸ List.mem_cons_self ..)
    rw [escEnd, h1]
    exact escEnd_plain r (fun q => h (List.mem_cons_of_mem _ q))
theorem opensAt_plain {y : Str} (h : 92 ∉ y.cps.toList) (j : Nat) : opensAt y j = bal (y.cps.toList.take j) := by
  unfold opensAt
  rw [toks_plain _ _ h, ← List.map_take, List.foldl_map]
  have : ∀ (l : List (Nat × Nat)) (z : Int), l.foldl (fun o t => if (t.2, [t.1]).2 = [40] then o + 1 else if (t.2, [t.1]).2 = [41] then o - 1 else o) z = (l.map (·.1)).foldl (fun o c => if c = 40 then o + 1 else if c = 41 then o - 1 else o) z := by
    intro l
    induction l with
    | nil => intro z; rfl
    | cons a r ih => intro z; simp only [List.foldl_cons, List.map_cons]; rw [ih]; simp
  rw [this, bal]
  congr 1
  rw [List.map_take, List.zipIdx_map_fst]
theorem checkOf_plain {x : Str} (hq : 34 ∉ x.cps.toList) (he : 92 ∉ x.cps.toList) : checkOf x = true ↔ ((∀ j, 0 ≤ bal (x.cps.toList.take j)) ∧ bal x.cps.toList = 0) := by
  have h1 : stripOf x = x := if_neg hq
  unfold checkOf
  rw [h1]
  have h2 : (toks x.cps.toList 0 false).length = x.cps.toList.length := by rw [toks_plain _ _ he]; simp
  rw [h2]
  simp only [opensAt_plain he, decide_eq_true_eq]
  rw [List.take_length]
  refine ⟨fun h => ⟨fun j => ?_, h.2⟩, fun h => ⟨fun j _ => h.1 j, h.2⟩⟩
  by_cases hj : j ≤ x.cps.toList.length
  · exact h.1 j hj
  · rw [List.take_of_length_le (by omega), h.2]; exact Int.le_refl _
end Mine
end
section -- R2
open PySem PySem.W PyProof.Rows
set_option maxRecDepth 100000
namespace Mine
theorem zoff_R2 : True := by
  w_top off
  k_with_none
  k_with "Hid" => (refine Mine.Hid.go (by with_reducible assumption) ?_)
  k_with "execs cons" => ((fail_if_success (with_reducible refine Mine.isHid ?_)); (refine Mine.hideQ fun _ _ => ?_))
  k_with "exec Assign" => ((fail_if_success (with_reducible refine Mine.isHid ?_)); (refine Mine.hideQ fun _ _ => ?_))
  k_with "exec Expr" => ((fail_if_success (with_reducible refine Mine.isHid ?_)); (refine Mine.hideQ fun _ _ => ?_))
  k_with "exec Return" => ((fail_if_success (with_reducible refine Mine.isHid ?_)); (refine Mine.hideQ fun _ _ => ?_))
  k_with "exec AugAssign" => ((fail_if_success (with_reducible refine Mine.isHid ?_)); (refine Mine.hideQ fun _ _ => ?_))
  k_with "exec If" => ((fail_if_success (with_reducible refine Mine.isHid ?_)); (refine Mine.hideQ fun _ _ => ?_))
  trivial
local macro_rules | `(tactic| k_upd) => `(tactic| (refine' Upd.append ?a ?b; (case a => assumption); (case b => k_upd)))
local macro_rules | `(tactic| k_mem) => `(tactic| (refine List.mem_append.mpr (Or.inr ?_); k_mem))
theorem zk_R2_1 : True := by
  k_with "eval Name" => (refine ld (by assumption) (by assumption) ?_)
  k_with "loadName" => (refine ldn (by assumption) (by assumption) ?_)
  k_with "exec While" => (refine wpAny_While ?_)
  k_with "exec While BoolOp" => (refine wpAny_While ?_)
  trivial
theorem snap {h₀ h : Heap} {L : Addr} {m : Str → Option Value} (_F : Fr h₀ L h m) : ∃ own, News h₀ L h own ∧ ∀ b o, b ≠ L → h.get? b = some o → h₀.get? b = some o ∨ (b, o) ∈ own := by
  refine ⟨ownOf h₀ ((List.range h.objs.size).filter (· ≠ L)) h, news_ownOf (by simp), fun b o hb e => ?_⟩
  cases hn : h₀.get? b with
  | none => exact .inr (mem_ownOf (by simp [hb, Heap.lt_size e]) hn e)
  | some o' =>
    have := _F.keep b o' hn
    rw [e] at this
    exact .inl this.symm
theorem snap_keep {h₀ h h' : Heap} {L : Addr} {m' : Str → Option Value} {own news : List (Addr × Obj)} (F' : Fr h₀ L h' m') (N' : News h₀ L h' news)
    (hs : ∀ b o, b ≠ L → h.get? b = some o → h₀.get? b = some o ∨ (b, o) ∈ own) (hsub : ∀ q ∈ own, q ∈ news) : ∀ b o, b ≠ L → h.get? b = some o → h'.get? b = some o := by
  intro b o hb e
  rcases hs b o hb e with h1 | h1
  · exact F'.keep b o h1
  · exact (N' _ (hsub _ h1)).1
theorem TreeAt.keepL {h h' : Heap} {L : Addr} {v : Value} {t : Tr} (nl : ∀ a xs, h.IsList a xs → a ≠ L) (k : ∀ b o, b ≠ L → h.get? b = some o → h'.get? b = some o) (H : TreeAt h v t) : TreeAt h' v t := by
  induction H with
  | leaf => exact .leaf
  | node hl _ _ i1 i2 =>
    have hne := nl _ _ hl
    ((refine Exists.elim hl ?_); (try clear hl); intro o; intro hZ1; (refine And.elim ?_ hZ1); clear hZ1; intro ho r)
    exact .node ⟨o, k _ _ hne ho, r⟩ i1 i2
structure Again (n : Nat) (I : Nat → Shared → Prop) (s : Shared) : Prop where
  ex : ∃ m, m < n ∧ I m s
theorem whileR {prog : Program} {w : World} {A : Around} {R : Result → Shared → Prop} {s : Shared} {test body orelse env} (I : Nat → Shared → Prop)
    (turn : ∀ n s, I n s →
      wpAny (model prog w) A (isTrue test env (eval test env)) (fun b s₂ =>
        if b then wpAny (model prog w) A (execs body env) (fun f s₃ => match f with
            | .next | .cont => Again n I s₃
            | .brk => R (.ok .next) s₃
            | .ret v => R (.ok (.ret v)) s₃) (notedBy (model prog w) A env fun e s' => R (.error e) s') s₂
        else wpAny (model prog w) A (execs orelse env) (fun f s₃ => R (.ok f) s₃) (notedBy (model prog w) A env fun e s' => R (.error e) s') s₂)
        (notedBy (model prog w) A env fun e s' => R (.error e) s') s)
    (n : Nat) (h : I n s) : codeAny (model prog w) A (.whileLoop test body orelse env) R s := by
  refine codeAny_whileLoop I (fun n s hI => wpAny_mono (turn n s hI) (fun b s₂ h₂ => ?_) fun _ _ x => x) n h
  cases b with
  | false => exact h₂
  | true => exact wpAny_mono h₂ (fun f s₃ h₃ => by cases f <;> first | exact h₃.ex | exact h₃) fun _ _ x => x
structure ReadJ (s : Shared) (inner : Str) (W : Nat) (n : Nat) (s' : Shared) : Prop where
  ex : ∃ h tk gs M size, s' = { s with heap := h, toks := tk, gens := gs } ∧ GB s.gens gs ∧ Fr s.heap s.heap.objs.size h M ∧ (∃ t, M (Str.ofString "inner") = some (.str inner t)) ∧
          (∃ t, M (Str.ofString "size") = some (.int (size : Nat) t)) ∧ 1 ≤ size ∧ size ≤ W ∧ n = W - size
theorem sliceIdx_1m1 (len : Nat) (h : 2 ≤ len) : Builtin.Str.strSliceIndices (some 1) (some (-1)) 1 len = Builtin.Str.strSliceIndices (some 1) (some ((len : Int) - 1)) 1 len := by
  have a2 : ¬ ((len : Int) < 0) := by omega
  have a3 : ¬ ((len : Int) - 1 < 0) := by omega
  have e : max (0 : Int) (min (-1 + len) (len : Int)) = max 0 (min ((len : Int) - 1) (len : Int)) := by rw [Int.add_comm (-1)]; rfl
  simp [Builtin.Str.strSliceIndices, a2, a3, e]
theorem sl_1m1 {x : Str} {m : List Nat} {a b : Nat} (h : x.cps.toList = a :: (m ++ [b])) : Txt.slice x (some 1) (some (-1)) = ⟨m.toArray⟩ := by
  have hl : x.length = m.length + 2 := by
    have := congrArg List.length h
    simpa [Str.length] using this
  have e : Txt.slice x (some 1) (some (-1)) = Txt.slice x (some 1) (some ((x.length : Int) - 1)) := by
    show StrLaws.sliceText x (some 1) (some (-1)) = StrLaws.sliceText x (some 1) (some ((x.length : Int) - 1))
    unfold StrLaws.sliceText
    rw [sliceIdx_1m1 x.length (by omega)]
  rw [e, sl_ss (by omega) (by omega) (by omega), h]
  have : ((x.length : Int) - 1 - 1).toNat = m.length := toNat_sub11 hl
  rw [this]
  simp
set_option maxHeartbeats 8000000 in
theorem read_spec (w : World) {p : Program} {loose : List Str} {mean : ExcName → Option Value} {mg mb : Str → Option Value} : ∀ (n : Nat) (t : Tr), t.size ≤ n → ∀ (x : Str) (tk : Tok) (A : Around) (s : Shared) (Q E : Value → Shared → Prop), t.Ok → x.cps.toList = t.w →
    (KX w.params).In s.heap → Top p loose mean mg mb s.heap → A.depth + t.size + 30 < recursionLimit → A.handled = none → x.length ≤ 1000 →
    (∀ v h' tk' gs', Ext s.heap h' → GB s.gens gs' → TreeAt h' v t → Q v { s with heap := h', toks := tk', gens := gs' }) →
    wpAny (model PySem.Challenge.rw_sh0039_01.row.prog w) A (call (.ref 259) [.str x tk]) Q E s := by
  k_fill
  intro n
  induction n with
  | zero => intro t h; cases t <;> simp [Tr.size] at h
  | succ n ih =>
    intro t hn x xt A s Q E hok hxw X T hd0 hh hxl ret
    (try (refine Mine.hideQ fun _ _ => ?_))
    have hd : A.depth < recursionLimit := by omega
    k_dflt (refine' enter (K := KX w.params) X T ?k6 ?k7 hd ?k9 ?kB ?_ ?c2 ?c3 ?c4 ?c5)
    (case k6 => k_is)
    (case k7 => k_is)
    (case k9 => exact BindsTo.of_eq rfl)
    (case kB => exact locs rfl)
    (case c2 => exact rfl)
    (case c3 => exact rfl)
    (case c4 => exact rfl)
    (case c5 => decide)
    clear X T
    intro h₁ F N X T
    (try (refine Mine.hideQ fun _ _ => ?_))
    have hxlen : x.length = t.w.length := by rw [← hxw]; simp [Str.length]
    (try k_fold)
    cases hok with
    | @leaf k a b c d =>
      have hx1 : x.length = 1 := hxlen
      k_steps
      have e : x = ⟨#[k]⟩ := by
        obtain ⟨c⟩ := x
        congr 1
        apply Array.toList_inj.mp
        exact hxw
      subst e
      exact ret _ _ _ _ F.keep (GB.refl _) TreeAt.leaf
    | @node l r hl hr =>
      have hx1 : 4 ≤ x.length := by
        have h1 := hl.pos
        have h2 := hr.pos
        rw [hxlen]; simp only [Tr.w, List.length_cons, List.length_append, List.length_nil]; (try omega)
      k_steps
      have hin := sl_1m1 (x := x) (m := l.w ++ r.w) hxw
      generalize Txt.slice x (some 1) (some (-1)) = inner at *
      have hilen : inner.length = l.w.length + r.w.length := by rw [hin]; simp [Str.length]
      have hl0 := hl.pos
      have hr0 := hr.pos
      have hxl2 : x.length = l.w.length + r.w.length + 2 := by rw [hxlen]; simp only [Tr.w, List.length_cons, List.length_append, List.length_nil]; (try omega)
      have hnq := hl.noq
      have hiL : inner.cps.toList = l.w ++ r.w := by rw [hin]
      have hit : ∀ (i k : Nat), i < l.w.length → l.w[i]? = some k → Txt.item inner (i : Int) = ⟨#[k]⟩ := by
        intro i k hi hk
        (try (refine Mine.hideQ fun _ _ => ?_))
        refine item_meets (by omega) ?_
        rw [← Array.getElem?_toList, hiL, Int.toNat_natCast, List.getElem?_append_left hi]
        exact hk
      have hz : ∀ i : Nat, i ≤ l.w.length → Txt.slice inner none (some (i : Int)) = ⟨(l.w.take i).toArray⟩ := by
        intro i hi
        (try (refine Mine.hideQ fun _ _ => ?_))
        rw [sl_ns (by omega) (by omega), hiL, Int.toNat_natCast, List.take_append_of_le_length hi]
      have hz2 : Txt.slice inner (some (l.w.length : Int)) none = ⟨r.w.toArray⟩ := by
        rw [sl_sn (by omega) (by omega), hiL, Int.toNat_natCast, List.drop_left]
      have hlast : ∀ ll lr : Tr, l = .node ll lr → Txt.item inner ((l.w.length - 1 : Nat) : Int) = ⟨#[41]⟩ := by
        rintro ll lr rfl
        refine hit _ _ (Nat.sub_lt (by assumption) Nat.one_pos) ?_
        have : (Tr.node ll lr).w = (40 :: (ll.w ++ lr.w)) ++ [41] := by simp [Tr.w]
        have hlen : (Tr.node ll lr).w.length - 1 = (40 :: (ll.w ++ lr.w)).length := by rw [this]; simp; (try omega)
        rw [hlen, this, List.getElem?_append_right (Nat.le_refl _)]
        simp
      k_steps
      · cases hl with
        | leaf a b c d =>
          have h1 := hit 0 _ (by simp [Tr.w]) rfl
          have h2 : (Txt.item inner 0 == Str.ofString "(") = true := by assumption
          rw [show ((0 : Nat) : Int) = 0 from rfl] at h1
          rw [h1, lpar] at h2
          simp at h2
          exact absurd h2 a
        | @node ll lr hll hlr =>
        have hpre := fun j => Tr.node_pre (j := j) hll hlr
        have hbal := (Tr.Ok.node hll hlr).bal
        have hlast := hlast ll lr rfl
        have hlOk : (Tr.node ll lr).Ok := .node hll hlr
        generalize hlg : Tr.node ll lr = l at *
        (with_reducible rename Fr _ _ _ _ => F1)
        have key : ∃ M, Fr s.heap s.heap.objs.size _ M ∧ (∃ t, M (Str.ofString "inner") = some (.str inner t)) ∧ (∃ t, M (Str.ofString "size") = some (.int (1 : Nat) t)) := ⟨_, F1, ⟨_, rfl⟩, ⟨_, rfl⟩⟩
        clear F1
        ((refine Exists.elim key ?_); (try clear key); intro M1; intro hZ1; (refine Mine.and3 hZ1 ?_); clear hZ1; intro F1 j1 j2)
        refine whileR (ReadJ s inner l.w.length) ?_ (l.w.length - 1) ⟨_, _, _, M1, 1, rfl, GB.refl _, F1, j1, j2, Nat.le_refl _, by omega, rfl⟩
        clear F1 j1 j2
        intro k s1 hJ2
        (try (refine Mine.hideQ fun _ _ => ?_))
        ((refine Mine.hideG fun G kG => ?_); (refine Mine.ex5 hJ2.ex ?_); clear hJ2; intro hq tkq gsq M size; intro hZ1; (refine Mine.and8 hZ1 ?_); clear hZ1; intro hZ2 hgb F3 hZ3 hZ4 hs1 hs2 hZ5; (refine Exists.elim hZ3 ?_); clear hZ3; intro t1 q1; (refine Exists.elim hZ4 ?_); clear hZ4; intro t2 q2; obtain rfl := hZ2; obtain rfl := hZ5; (refine kG ?_); clear kG G)
        have N3 : News s.heap s.heap.objs.size hq [] := News.nil
        have hsub : (size : Int) - 1 = ((size - 1 : Nat) : Int) := (Int.ofNat_sub hs1).symm
        (try k_fold)
        have hz3 := hz size hs2
        k_steps
        · have h1 : (Txt.item inner ((size : Int) - 1) != Str.ofString ")") = true := by assumption
          have hne : size ≠ l.w.length := by
            rintro rfl
            rw [hsub, hlast, rpar] at h1
            exact absurd h1 (by decide)
          refine ⟨⟨l.w.length - (size + 1), sub_dn (Nat.lt_of_le_of_ne hs2 hne), ⟨_, _, _, _, size + 1, rfl, hgb, by assumption, ⟨_, by rw [if_neg (by decide)]; exact q1⟩, ⟨_, by rw [if_pos rfl]; rfl⟩, Nat.succ_le_succ (Nat.zero_le _), Nat.lt_of_le_of_ne hs2 hne, rfl⟩⟩⟩
        · generalize Txt.slice inner none (some (size : Int)) = z at *
          have hzw : z.cps.toList = l.w.take size := by rw [hz3]
          have hzq : 34 ∉ z.cps.toList ∧ 92 ∉ z.cps.toList := by
            rw [hzw]
            exact ⟨fun q => hnq.1 (List.mem_of_mem_take q), fun q => hnq.2 (List.mem_of_mem_take q)⟩
          have hstrip : stripOf z = z := if_neg hzq.1
          have hzlen : z.length ≤ 2000 := by
            have : z.length = (l.w.take size).length := by rw [← hzw]; simp [Str.length]
            rw [this, List.length_take]; omega
          have hck : checkOf z = decide (size = l.w.length) := by
            by_cases he : size = l.w.length
            · rw [decide_eq_true he]
              refine (checkOf_plain hzq.1 hzq.2).mpr ?_
              rw [hzw, he, List.take_length]
              exact ⟨hbal.2, hbal.1⟩
            · rw [decide_eq_false he]
              cases hc : checkOf z with
              | false => rfl
              | true =>
                have h1 := ((checkOf_plain hzq.1 hzq.2).mp hc).2
                rw [hzw] at h1
                have h2 := hpre size (by omega) (by omega)
                omega
          refine check_spec w z _ _ _ _ _ (X.keeps (Fr.keep (by assumption))) (T.keeps (Fr.keep (by assumption))) (by simp only [depth_deeper]; omega) hh (escEnd_plain _ hzq.2) hzlen (by rw [hstrip]; exact escEnd_plain _ hzq.2) (by rw [hstrip]; exact hzlen) ?_
          (with_reducible rename Fr _ _ _ _ => F4)
          (with_reducible rename News _ _ _ _ => N4)
          intro hC tC gC eC gbC
          have F5 := Fr.keeps F4 eC
          have N5 := News.grown N4 eC
          clear F4 N4
          rw [hck]
          dsimp only
          by_cases he : size = l.w.length
          · rw [decide_eq_true he]
            subst he
            k_steps
            (with_reducible rename Fr _ _ _ _ => F6)
            (with_reducible rename News _ _ _ _ => N6)
            refine ih l (by simp only [Tr.size] at hn ⊢; omega) _ _ _ _ _ _ hlOk ?_ (X.keeps F6.keep) (T.keeps F6.keep) (by simp only [Tr.size, depth_deeper] at *; omega) hh ?_ ?_
            · rw [hz _ (Nat.le_refl _), List.take_length]
            · rw [hz _ (Nat.le_refl _), List.take_length]; simp [Str.length]; omega
            intro v1 hD tD gD eD gbD tr1
            (try (refine Mine.hideQ fun _ _ => ?_))
            have F7 := Fr.keeps F6 eD
            have nl1 : ∀ a xs, hD.IsList a xs → a ≠ s.heap.objs.size := fun _ _ q => ne_locals_of_isList F7 q
            ((refine Exists.elim (snap F7) ?_); intro own1; intro hZ1; (refine And.elim ?_ hZ1); clear hZ1; intro N7 hs1')
            clear F6 N6
            dsimp only
            k_steps
            (with_reducible rename Fr _ _ _ _ => F8)
            (with_reducible rename News _ _ _ _ => N8)
            refine ih r (by simp only [Tr.size] at hn ⊢; omega) _ _ _ _ _ _ hr ?_ (X.keeps F8.keep) (T.keeps F8.keep) (by simp only [Tr.size, depth_deeper] at *; omega) hh ?_ ?_
            · rw [hz2]
            · rw [hz2]; simp [Str.length]; omega
            intro v2 hG tG gG eG gbG tr2
            (try (refine Mine.hideQ fun _ _ => ?_))
            have F9 := Fr.keeps F8 eG
            have nl2 : ∀ a xs, hG.IsList a xs → a ≠ s.heap.objs.size := fun _ _ q => ne_locals_of_isList F9 q
            have tr1 := TreeAt.keepL nl1 (snap_keep F9 (News.grown N8 eG) hs1' fun q hq => hq) tr1
            ((refine Exists.elim (snap F9) ?_); intro own2; intro hZ1; (refine And.elim ?_ hZ1); clear hZ1; intro N9 hs2')
            clear F8 N8
            dsimp only
            k_steps
            (with_reducible rename Fr _ _ _ _ => FZ)
            (with_reducible rename News _ _ _ _ => NZ)
            have kk := snap_keep FZ NZ hs2' fun q hq => List.mem_cons_of_mem _ hq
            exact ret _ _ _ _ FZ.keep (hgb.trans (gbC.trans (gbD.trans gbG))) (.node (News.isList NZ (.head _)) (tr1.keepL nl2 kk) (tr2.keepL nl2 kk))
          · rw [decide_eq_false he]
            k_steps
            refine ⟨⟨l.w.length - (size + 1), by omega, ⟨_, _, _, _, size + 1, rfl, hgb.trans gbC, by assumption, ⟨_, by rw [if_neg (by decide)]; exact q1⟩, ⟨_, by rw [if_pos rfl]; rfl⟩, by omega, by omega, rfl⟩⟩⟩
      · cases hl with
        | @leaf k a b c d =>
          have hz3 := hz 1 (by simp [Tr.w])
          rw [show ((1 : Nat) : Int) = 1 from rfl] at hz3
          rw [show (((Tr.leaf ⟨#[k]⟩).w.length : Nat) : Int) = 1 from rfl] at hz2
          (with_reducible rename Fr _ _ _ _ => F6)
          (with_reducible rename News _ _ _ _ => N6)
          refine ih (.leaf ⟨#[k]⟩) (by simp only [Tr.size] at hn ⊢; omega) _ _ _ _ _ _ (.leaf a b c d) ?_ (X.keeps F6.keep) (T.keeps F6.keep) (by simp only [Tr.size, depth_deeper] at *; omega) hh ?_ ?_
          · rw [hz3]; rfl
          · rw [hz3]; simp [Str.length]; omega
          intro v1 hD tD gD eD gbD tr1
          (try (refine Mine.hideQ fun _ _ => ?_))
          have F7 := Fr.keeps F6 eD
          have nl1 : ∀ a xs, hD.IsList a xs → a ≠ s.heap.objs.size := fun _ _ q => ne_locals_of_isList F7 q
          ((refine Exists.elim (snap F7) ?_); intro own1; intro hZ1; (refine And.elim ?_ hZ1); clear hZ1; intro N7 hs1')
          clear F6 N6
          dsimp only
          k_steps
          (with_reducible rename Fr _ _ _ _ => F8)
          (with_reducible rename News _ _ _ _ => N8)
          refine ih r (by simp only [Tr.size] at hn ⊢; omega) _ _ _ _ _ _ hr ?_ (X.keeps F8.keep) (T.keeps F8.keep) (by simp only [Tr.size, depth_deeper] at *; omega) hh ?_ ?_
          · rw [hz2]
          · rw [hz2]; simp [Str.length]; omega
          intro v2 hG tG gG eG gbG tr2
          (try (refine Mine.hideQ fun _ _ => ?_))
          have F9 := Fr.keeps F8 eG
          have nl2 : ∀ a xs, hG.IsList a xs → a ≠ s.heap.objs.size := fun _ _ q => ne_locals_of_isList F9 q
          have tr1 := TreeAt.keepL nl1 (snap_keep F9 (News.grown N8 eG) hs1' fun q hq => hq) tr1
          ((refine Exists.elim (snap F9) ?_); intro own2; intro hZ1; (refine And.elim ?_ hZ1); clear hZ1; intro N9 hs2')
          clear F8 N8
          dsimp only
          k_steps
          (with_reducible rename Fr _ _ _ _ => FZ)
          (with_reducible rename News _ _ _ _ => NZ)
          have kk := snap_keep FZ NZ hs2' fun q hq => List.mem_cons_of_mem _ hq
          exact ret _ _ _ _ FZ.keep (gbD.trans gbG) (.node (News.isList NZ (.head _)) (tr1.keepL nl2 kk) (tr2.keepL nl2 kk))
        | @node ll lr hll hlr =>
          have h1 := hit 0 _ (by omega) rfl
          have h2 : (Txt.item inner 0 == Str.ofString "(") = false := by assumption
          rw [show ((0 : Nat) : Int) = 0 from rfl] at h1
          rw [h1, lpar] at h2
          simp at h2
end Mine
end
section -- T0
open PySem PySem.W PyProof.Rows PyProof.Rows.LCg
set_option maxRecDepth 100000
set_option linter.unusedVariables false
namespace Mine
section
variable {M : Model} {A : Around} {E : Value → Shared → Prop} {s : Shared} {name : Str} {scope : Scope} {L a : Addr} {cd : Value} {h₀ : Heap} {m : Str → Option Value}
/-- a local name: first whether it is one -/
theorem ldq {x : Str} {pos : Pos} {v : Value} {Q : Value → Shared → Prop} (hl : (envOf name scope L a cd).kindOf x = some .local) (F : Fr h₀ L s.heap m) (hv : m x = some v) (h : Q v s)
    (hk : scope.kind = .function := by rfl) (hd : (x == ("__debug__" : Str)) = false := by decide) :
    wpAny M A (eval (.Name x pos) (envOf name scope L a cd)) Q E s := ld F hv h hk hl hd
end
theorem my_item {prog : Program} {w : World} {A : Around} {E : Value → Shared → Prop} {s : Shared} {h₀ : Heap} {L l : Addr} {news : List (Addr × Obj)} {arr : Array Value} {n : Nat} {value slice : PySem.Expr} {k : Int} {u : Tok} {Q : Value → Shared → Prop}
    (N : News h₀ L s.heap news) (hm : (l, listOf arr n) ∈ news) (h0 : 0 ≤ k) (h1 : k < arr.size) (h2 : k < 1000) (h : Q (arr.getD k.toNat .none) s)
    (hs : subscripted slice false (.ref l) (.int k u) = operate [.ref l, .int k u] (getItem (.ref l) (.int k u)) := by with_unfolding_all rfl) :
    wpAny (model prog w) A (subscriptTail value slice (.ref l) (.int k u)) Q E s := by
  have hl : s.heap.IsList l arr := ⟨_, (N _ hm).1, rfl, n, rfl⟩
  refine tail_any hl.typeIs slot_list_getitem.lookup (wpAny_getItem_list hl h0 (by omega) (x := arr.getD k.toNat .none) ?_ h) hs
  have : k.toNat < arr.size := by omega
  simp [Array.getD, this]
structure LnEnd (h₀ : Heap) (L : Addr) (J : (Str → Option Value) → List (Addr × Obj) → Prop) (own : List (Addr × Obj)) (adr : List Addr) (s s' : Shared) : Prop where
  ex : ∃ h tk m nx news', s' = { s with heap := h, toks := tk } ∧ Fr h₀ L h m ∧ News h₀ L h news' ∧ (∀ p ∈ nx, p ∈ news') ∧ (∀ p ∈ own, p ∈ news') ∧ nx.map (·.1) = adr ∧ J m nx
theorem LnEnd.of {h₀ : Heap} {L : Addr} {J : (Str → Option Value) → List (Addr × Obj) → Prop} {own nx : List (Addr × Obj)} {adr : List Addr} {s : Shared} {h : Heap} {tk : Nat} {m : Str → Option Value}
    (F : Fr h₀ L h m) (N : News h₀ L h (nx ++ own)) (ha : nx.map (·.1) = adr) (hJ : J m nx) : LnEnd h₀ L J own adr s { s with heap := h, toks := tk } :=
  ⟨⟨h, tk, m, nx, _, rfl, F, N, fun p hp => List.mem_append_left _ hp, fun p hp => List.mem_append_right _ hp, ha, hJ⟩⟩
theorem LnEnd.one {h₀ : Heap} {L : Addr} {J : (Str → Option Value) → List (Addr × Obj) → Prop} {own : List (Addr × Obj)} {a : Addr} {o : Obj} {s : Shared} {h : Heap} {tk : Nat} {m : Str → Option Value}
    (F : Fr h₀ L h m) (N : News h₀ L h ((a, o) :: own)) (hJ : J m [(a, o)]) : LnEnd h₀ L J own [a] s { s with heap := h, toks := tk } := LnEnd.of (nx := [(a, o)]) F N rfl hJ
theorem LnEnd.two {h₀ : Heap} {L : Addr} {J : (Str → Option Value) → List (Addr × Obj) → Prop} {own : List (Addr × Obj)} {a b : Addr} {o o' : Obj} {s : Shared} {h : Heap} {tk : Nat} {m : Str → Option Value}
    (F : Fr h₀ L h m) (N : News h₀ L h ((a, o) :: (b, o') :: own)) (hJ : J m [(a, o), (b, o')]) : LnEnd h₀ L J own [a, b] s { s with heap := h, toks := tk } := LnEnd.of (nx := [(a, o), (b, o')]) F N rfl hJ
theorem invPostN_of {M : Model} {A : Around} {m : Sem Flow} {h₀ : Heap} {L : Addr} {J : (Str → Option Value) → List (Addr × Obj) → Prop} {own : List (Addr × Obj)} {adr : List Addr} {s₁ s : Shared} {Q : Flow → Shared → Prop} {E : Value → Shared → Prop}
    (h : wpAny M A m (fun f s' => match f with | .ret v => Q (.ret v) s' | .brk => Q .next s' | _ => LnEnd h₀ L J own adr s₁ s') E s) : wpAny M A m (InvPostN h₀ L J own adr s₁ Q) E s := by
  refine wpAny_mono h (fun f s' q => ?_) fun _ _ q => q
  have fin : LnEnd h₀ L J own adr s₁ s' → InvEndN h₀ L J own adr s₁ s' := by
    intro hJ0
    obtain ⟨⟨h, tk, m, nx, news', e, F, N, a, b, c, d⟩⟩ := hJ0
    exact ⟨h, tk, m, news', nx, e, F, N, a, b, c, d⟩
  cases f with
  | ret v => exact q
  | brk => exact q
  | next => exact fin q
  | cont => exact fin q
section
variable {prog : Program} {w : World} {A : Around} {E : Value → Shared → Prop} {s : Shared} {env : Env} {h₀ : Heap} {x : Str} {body : List Stmt} {Q : Flow → Shared → Prop}
/-- a for loop over range(n), by an invariant over the turn's number, the frame and the ledger -/
theorem iter_rangeJ {r : Addr} {t₀ u₀ v₀ : Tok} {n : Nat} {m₀ : Str → Option Value} {news : List (Addr × Obj)}
    (J : Nat → (Str → Option Value) → List (Addr × Obj) → Prop)
    (hh : A.handled = none) (hr : IsRange s.heap r 0 n 1 t₀ u₀ v₀) (hsmall : Builtin.Range.small 0 (n : Int) 1 = true) (hn : Builtin.Range.rangeSize 0 (n : Int) 1 = (n : Int)) (F : Fr h₀ env.locals s.heap m₀) (N : News h₀ env.locals s.heap news) (h0 : J 0 m₀ news)
    (turn : ∀ i t m₁ nx h tk own, i < n → OwnOff own (news.map (·.1)) → nx.map (·.1) = news.map (·.1) → J i m₁ nx → Fr h₀ env.locals h (fun y => if y = x then some (.int i t) else m₁ y) → News h₀ env.locals h (nx ++ own) →
      wpAny (model prog w) A (execs body env) (fun f s' => match f with | .ret v => Q (.ret v) s' | .brk => Q .next s' | _ => LnEnd h₀ env.locals (J (i + 1)) own (news.map (·.1)) { s with heap := h, toks := tk } s') E { s with heap := h, toks := tk })
    (done : ∀ m₁ nx h tk, J n m₁ nx → Fr h₀ env.locals h m₁ → News h₀ env.locals h nx → Q .next { s with heap := h, toks := tk }) :
    wpAny (model prog w) A (pyIter (.ref r)) (fun it s₂ => LoopAtV prog w A h₀ env x body Q E it s₂) E s := by
  refine wpAny_pyIter_range hr hsmall ?_
  have W := range_walks (prog := prog) (w := w) (I := s.heap.objs.size) hh 0 n
  have hI : ∀ p ∈ news, p.1 ≠ s.heap.objs.size := fun p hp => Nat.ne_of_lt (Heap.lt_size (N p hp).1)
  refine loop_invN (m₀ := m₀) (news := news) J W ?_ ?_ (fun p hp hI' => hI p hp (List.mem_singleton.mp hI')) (fun p hp hI' => hI p hp (List.mem_singleton.mp hI')) (by show IsRangeIter _ _ _ _ _; rw [hn]; simpa using Heap.get?_push_size _ rfl) (F.push _) (N.grown fun b o e => Heap.get?_push_of_some _ e) h0 ?_ ?_
  · intro hm
    exact absurd F.ns.lt ((List.mem_singleton.mp hm) ▸ Nat.lt_irrefl _)
  · intro b hb
    rw [List.mem_singleton.mp hb]
    exact next_is_new F
  · intro i v m₁ nx h tk own hi hJ8 hadr hown hJ F₁ N₁
    ((refine Exists.elim hJ8 ?_); (try clear hJ8); intro t; intro hZ1; obtain rfl := hZ1)
    rw [Int.zero_add] at F₁
    exact invPostN_of (turn i t m₁ nx h tk own hi hown hadr hJ F₁ N₁)
  · exact done
end
end Mine
end
section -- T1
open PySem PySem.W PyProof.Rows
set_option maxRecDepth 100000
set_option linter.unusedVariables false
local macro_rules | `(tactic| omega) => `(tactic| omega +splitDisjunctions)
namespace Mine
theorem zoff_T1 : True := by
  w_top off
  k_with_none
  k_with "Hid" => (refine Mine.Hid.go (by with_reducible assumption) ?_)
  k_with "execs cons" => ((fail_if_success (with_reducible refine Mine.isHid ?_)); (refine Mine.hideQ fun _ _ => ?_))
  k_with "exec Assign" => ((fail_if_success (with_reducible refine Mine.isHid ?_)); (refine Mine.hideQ fun _ _ => ?_))
  k_with "exec Expr" => ((fail_if_success (with_reducible refine Mine.isHid ?_)); (refine Mine.hideQ fun _ _ => ?_))
  k_with "exec Return" => ((fail_if_success (with_reducible refine Mine.isHid ?_)); (refine Mine.hideQ fun _ _ => ?_))
  k_with "exec AugAssign" => ((fail_if_success (with_reducible refine Mine.isHid ?_)); (refine Mine.hideQ fun _ _ => ?_))
  k_with "exec If" => ((fail_if_success (with_reducible refine Mine.isHid ?_)); (refine Mine.hideQ fun _ _ => ?_))
  trivial
noncomputable def leafCodes : List Nat := [97, 98, 99, 100, 101, 102, 103, 104, 172, 174, 846, 848, 6149, 6151, 6154, 6158, 8202, 8206, 8287, 8289, 65278, 65280, 65023, 65040]
noncomputable def LeafV (v : Value) : Prop := ∃ k t, v = .str ⟨#[k]⟩ t ∧ k ∈ leafCodes
theorem range_ok {c : Nat} (h : 3 ≤ c ∧ c ≤ 8) : Builtin.Range.small 0 (c : Int) 1 = true ∧ Builtin.Range.rangeSize 0 (c : Int) 1 = (c : Int) := by
  have : ∀ c : Fin 9, 3 ≤ c.val → Builtin.Range.small 0 (c.val : Int) 1 = true ∧ Builtin.Range.rangeSize 0 (c.val : Int) 1 = (c.val : Int) := by decide +kernel
  exact this ⟨c, Nat.lt_succ_of_le h.2⟩ h.1
theorem pow8 (n : Nat) (h : n ≤ 40) : 0 < (8 : Int) ^ n ∧ ((8 : Int) ^ n).natAbs.log2 < 9000 := by
  have : ∀ n : Fin 41, 0 < (8 : Int) ^ n.val ∧ ((8 : Int) ^ n.val).natAbs.log2 < 9000 := by decide +kernel
  exact this ⟨n, Nat.lt_succ_of_le h⟩
noncomputable def besideL : List Int := [172, 174, 846, 848, 6149, 6151, 6154, 6158, 8202, 8206, 8287, 8289, 65278, 65280, 65023, 65040]
theorem zk_T1_1 : True := by
  k_with "execs cons" => ((with_reducible refine wpAny_execs_cons ?_); try dsimp only)
  k_with "execs nil" => (refine wpAny_execs_nil ?_)
  k_with "execs cons Assign cons" => ((with_reducible refine wpAny_execs_cons ?_); try dsimp only)
  k_with "eval Name" => (refine ldq (by rfl) (by assumption) (by assumption) ?_)
  k_with "pyIter ref" => (refine Stop.h ?_)
  trivial
theorem beside_ok (j : Nat) : 0 ≤ besideL.getD j 0 ∧ besideL.getD j 0 ≤ 1114111 ∧ (j < 16 → (besideL.getD j 0).toNat ∈ leafCodes) := by
  by_cases h : j < 16
  · have : ∀ j : Fin 16, 0 ≤ besideL.getD j.val 0 ∧ besideL.getD j.val 0 ≤ 1114111 ∧ ((besideL.getD j.val 0).toNat ∈ leafCodes) := by decide +kernel
    have := this ⟨j, h⟩
    exact ⟨this.1, this.2.1, fun _ => this.2.2⟩
  · have e : besideL.getD j 0 = 0 := by
      rw [List.getD_eq_getElem?_getD, List.getElem?_eq_none (by show 16 ≤ j; omega)]; rfl
    rw [e]
    exact ⟨by decide, by decide, fun q => absurd q h⟩
theorem leaf_letter {i : Nat} {t : Tok} (h : i < 8) : LeafV (.str (Txt.item (Str.ofString "abcdefgh") (i : Int)) t) := by
  have : ∀ j : Fin 8, ∃ k, Txt.item (Str.ofString "abcdefgh") (j.val : Int) = ⟨#[k]⟩ ∧ k ∈ leafCodes := by
    intro j
    refine ⟨97 + j.val, ?_, ?_⟩
    · revert j; decide +kernel
    · revert j; decide +kernel
  ((refine Exists.elim (this ⟨i, h⟩) ?_); intro k; intro hZ1; (refine And.elim ?_ hZ1); clear hZ1; intro e hk)
  exact ⟨k, t, by rw [← e], hk⟩
inductive Forest (h : Heap) : List Value → List Tr → Prop where
  | nil : Forest h [] []
  | cons {v : Value} {t : Tr} {vs : List Value} {ts : List Tr} : TreeAt h v t → Forest h vs ts → Forest h (v :: vs) (t :: ts)
inductive Tr.Good : Tr → Prop where
  | leaf {k : Nat} : k ∈ leafCodes → Tr.Good (.leaf ⟨#[k]⟩)
  | node {l r : Tr} : Tr.Good l → Tr.Good r → Tr.Good (.node l r)
noncomputable def Tr.leaves : Tr → Nat
  | .leaf _ => 1
  | .node l r => l.leaves + r.leaves
theorem Forest.len {h : Heap} {vs : List Value} {ts : List Tr} (H : Forest h vs ts) : vs.length = ts.length := by
  induction H with
  | nil => rfl
  | cons _ _ ih => simp [ih]
theorem Forest.keepL {h h' : Heap} {L : Addr} {vs : List Value} {ts : List Tr} (nl : ∀ a xs, h.IsList a xs → a ≠ L) (k : ∀ b o, b ≠ L → h.get? b = some o → h'.get? b = some o) (H : Forest h vs ts) : Forest h' vs ts := by
  induction H with
  | nil => exact .nil
  | cons t _ ih => exact .cons (TreeAt.keepL nl k t) ih
theorem forest_leaves {h : Heap} : ∀ {vs : List Value}, (∀ v ∈ vs, LeafV v) → ∃ ts, Forest h vs ts ∧ (∀ t ∈ ts, t.Good) ∧ (ts.map Tr.leaves).sum = vs.length
  | [], _ => ⟨[], .nil, fun t ht => by simp at ht, rfl⟩
  | v :: vs, hv => by
    ((refine Mine.ex2 (hv v (List.mem_cons_self ..)) ?_); intro k t; intro hZ1; (refine And.elim ?_ hZ1); clear hZ1; intro hZ2; obtain rfl := hZ2; intro hk)
    ((refine Exists.elim (forest_leaves (h := h) (vs := vs) (fun u hu => hv u (List.mem_cons_of_mem _ hu))) ?_); intro ts; intro hZ1; (refine Mine.and3 hZ1 ?_); clear hZ1; intro hF hG hS)
    refine ⟨.leaf ⟨#[k]⟩ :: ts, .cons .leaf hF, fun u hu => ?_, by simp [Tr.leaves, hS]; omega⟩
    rcases List.mem_cons.mp hu with rfl | hu
    · exact .leaf hk
    · exact hG u hu
theorem forest_join {h : Heap} (p : Nat) : ∀ {vs : List Value} {ts : List Tr}, Forest h vs ts → p + 1 < vs.length → (∀ t ∈ ts, t.Good) →
    ∃ l r ts', TreeAt h (vs.getD p .none) l ∧ TreeAt h (vs.getD (p + 1) .none) r ∧ (∀ v', TreeAt h v' (.node l r) → Forest h (vs.take p ++ v' :: vs.drop (p + 2)) ts') ∧ (∀ t ∈ ts', t.Good) ∧ (ts'.map Tr.leaves).sum = (ts.map Tr.leaves).sum := by
  induction p with
  | zero =>
    intro vs ts H hp hg
    cases H with
    | nil => exact absurd hp (Nat.not_lt_zero _)
    | @cons _ t1 _ _ h1 H1 =>
      cases H1 with
      | nil => exact absurd hp (Nat.lt_irrefl _)
      | @cons _ t2 _ ts h2 hr =>
        refine ⟨t1, t2, .node t1 t2 :: ts, h1, h2, fun v' hv => .cons hv hr, fun t ht => ?_, (Nat.add_assoc t1.leaves t2.leaves (ts.map Tr.leaves).sum)⟩
        cases ht with
        | head => exact .node (hg _ (.head _)) (hg _ (.tail _ (.head _)))
        | tail _ ht => exact hg _ (.tail _ (.tail _ ht))
  | succ p ih =>
    intro vs ts H hp hg
    cases H with
    | nil => exact absurd hp (Nat.not_lt_zero _)
    | @cons _ t1 _ ts h1 hr =>
      ((refine Mine.ex3 (ih hr (Nat.lt_of_succ_lt_succ hp) (fun t ht => hg t (.tail _ ht))) ?_); intro l r ts'; intro hZ1; (refine Mine.and5 hZ1 ?_); clear hZ1; intro a b c d e)
      refine ⟨l, r, t1 :: ts', a, b, fun v' hv => .cons h1 (c v' hv), fun t ht => ?_, congrArg (t1.leaves + ·) e⟩
      cases ht with
      | head => exact hg _ (.head _)
      | tail _ ht => exact d _ ht
theorem cut_sz {a s n : Nat} (h : a + 1 < s) (e : s = n + 1) : min a s + (s - (a + 2) + 1) = n - 1 + 1 := by
  ((refine Exists.elim (Nat.exists_eq_add_of_le (show a + 2 ≤ s from h)) ?_); intro k hk)
  rw [Nat.min_eq_left (Nat.le_of_lt (Nat.lt_of_succ_lt h)), hk, Nat.add_sub_cancel_left]
  have : n = a + 1 + k := by lia
  rw [this]
  lia
theorem cut_le {a s : Nat} (h : a + 1 < s) (e : s ≤ 8) : min a s + 1 + (s - (a + 2)) ≤ 8 := by
  ((refine Exists.elim (Nat.exists_eq_add_of_le (show a + 2 ≤ s from h)) ?_); intro k hk)
  rw [Nat.min_eq_left (Nat.le_of_lt (Nat.lt_of_succ_lt h)), hk, Nat.add_sub_cancel_left]
  lia
theorem cut_le2 {a s n : Nat} (h : a + 1 < s) (e : s = n + 1) (h8 : s ≤ 8) : min a s + (s - (a + 2) + 1) ≤ 8 := by
  rw [cut_sz h e]; lia
theorem pred_lt {s n : Nat} (h1 : 1 < s) (e : s = n + 1) : n - 1 < n := by lia
theorem cut_lo {pl n : Int} (h0 : 0 ≤ pl) (h1 : pl < n - 1) : max 0 (min (if pl < 0 then pl + n else pl) n) = max pl 0 := by
  rw [if_neg (Int.not_lt.mpr h0), Int.min_eq_left (by lia), Int.max_eq_right h0, Int.max_eq_left h0]
theorem cut_hi {pl n : Int} (h0 : 0 ≤ pl) (h1 : pl < n - 1) : max 0 (min (if pl + 2 < 0 then pl + 2 + n else pl + 2) n) = max pl 0 + 2 := by
  rw [if_neg (by lia), Int.max_eq_left h0, Int.max_eq_right (by lia), Int.min_eq_left (by lia)]
theorem pl_lt {s : Nat} {pl : Int} (h : pl < (s : Int) - 1) (h1 : 1 < s) : pl.toNat + 1 < s := by lia
theorem pl_suc {pl : Int} (h : 0 ≤ pl) : (pl + 1).toNat = pl.toNat + 1 := Int.toNat_add h (by decide)
structure TreeJ (s : Shared) (base : Heap) (L : Addr) (c : Nat) (n : Nat) (s' : Shared) : Prop where
  ex : ∃ h tk M lp arr k ts seed t, s' = { s with heap := h, toks := tk } ∧ Fr base L h M ∧ News base L h [(lp, listOf arr k)] ∧ M (Str.ofString "parts") = some (.ref lp) ∧ M (Str.ofString "seed") = some (.int seed t) ∧
    Forest h arr.toList ts ∧ (∀ t ∈ ts, t.Good) ∧ (ts.map Tr.leaves).sum = c ∧ arr.size = n + 1 ∧ arr.size ≤ 8
theorem zk_T1_2 : True := by
  k_with "subscriptTail" => (refine my_item (by k_asm) (by k_mem) (by omega) (by omega) (by omega) ?_)
  k_with "subscriptTail Name Name ref int" => (refine my_item (by k_asm) (by k_mem) (by omega) (by omega) (by omega) ?_)
  k_with "subscriptTail Name Slice ref ref" => (refine slice_list (by assumption) (by assumption) (News.isList (by assumption) (by k_mem)) (by first | exact .none | exact .int _ _) (by first | exact .none | exact .int _ _) ?_; intro _ _ _)
  k_with "call builtin:len" => (refine len_list (News.isList (by assumption) (by k_mem)) (by omega) ?_)
  k_with "exec While" => (refine wpAny_While ?_)
  k_with "exec While Compare cons nil" => (refine wpAny_While ?_)
  k_with "binaryOp Add ref ref" => (refine Stop.h ?_)
  trivial
set_option maxHeartbeats 8000000 in
theorem tree_spec (w : World) {p : Program} {loose : List Str} {mean : ExcName → Option Value} {mg mb : Str → Option Value} : ∀ (c : Nat) (seed signs : Int) (t1 t2 t3 : Tok) (A : Around) (s : Shared) (Q E : Value → Shared → Prop)
    (X : (KX w.params).In s.heap) (T : Top p loose mean mg mb s.heap) (hd : A.depth < recursionLimit) (hh : A.handled = none) (hc : Stop (3 ≤ c ∧ c ≤ 8)) (hs : Stop (0 ≤ seed ∧ seed < 10 ^ 30)) (hg : Stop (0 ≤ signs ∧ signs < 10 ^ 30))
    (ret : ∀ v t h' tk', TreeAt h' v t → t.Good → t.leaves = c → Ext s.heap h' → Q v { s with heap := h', toks := tk' }),
    wpAny (model PySem.Challenge.rw_sh0039_01.row.prog w) A (call (.ref 238) [.int c t1, .int seed t2, .int signs t3]) Q E s := by
  k_fill
  intro c seed signs t1 t2 t3 A s Q E X T hd hh hc hs hg ret
  k_dflt (refine' enterH (hs := []) (news := []) (K := KX w.params) X T (fun _ h => nomatch h) ?k6 ?k7 hd ?k9 ?kB ?_ ?c2 ?c3 ?c4 ?c5)
  (case k6 => k_is)
  (case k7 => k_is)
  (case k9 => exact BindsTo.of_eq rfl)
  (case kB => exact locs rfl)
  (case c2 => exact rfl)
  (case c3 => exact rfl)
  (case c4 => exact rfl)
  (case c5 => decide)
  clear X T
  intro h₁ F N X T
  (try k_fold)
  k_steps
  (with_reducible rename Fr _ _ _ _ => F1)
  (with_reducible rename News _ _ _ _ => N1)
  constructor
  (with_reducible rename IsRange _ _ _ _ _ _ _ _ => hR)
  have key : ∃ (lp lb : Addr) (vb : List Value) (M : Str → Option Value), @LT.lt Nat _ lb lp ∧ IntsAre vb besideL ∧ News (hideAll s.heap []) s.heap.objs.size _ [(lp, listOf #[] 0), (lb, listOf vb.toArray 0)] ∧ Fr (hideAll s.heap []) s.heap.objs.size _ M ∧
      M (Str.ofString "parts") = some (.ref lp) ∧ M (Str.ofString "beside") = some (.ref lb) ∧ M (Str.ofString "count") = some (.int c t1) ∧ M (Str.ofString "seed") = some (.int seed t2) ∧ M (Str.ofString "signs") = some (.int signs t3) :=
    ⟨_, _, _, _, by assumption, by repeat constructor, N1, F1, rfl, rfl, rfl, rfl, rfl⟩
  clear N1 F1
  ((refine Mine.ex4 key ?_); (try clear key); intro lp lb vb M; intro hZ1; (refine Mine.and9 hZ1 ?_); clear hZ1; intro hlt hvb N1 F1 a1 a2 a3 a4 a5)
  refine iter_rangeJ (n := c) (fun i m nx => ∃ arr k, nx = [(lp, listOf arr k), (lb, listOf vb.toArray 0)] ∧ arr.size = i ∧ (∀ v ∈ arr.toList, LeafV v) ∧
      m (Str.ofString "parts") = some (.ref lp) ∧ m (Str.ofString "beside") = some (.ref lb) ∧ m (Str.ofString "count") = some (.int c t1) ∧ m (Str.ofString "seed") = some (.int seed t2) ∧ m (Str.ofString "signs") = some (.int signs t3))
    hh hR (range_ok hc.h).1 (range_ok hc.h).2 F1 N1 ⟨#[], 0, rfl, rfl, fun v hv => (by simp at hv), a1, a2, a3, a4, a5⟩ ?_ ?_
  · intro pl tp m₁ nx h tkh own hpc hown hadr hJ10 F2 N2
    ((refine Mine.ex2 hJ10 ?_); (try clear hJ10); intro arr kk; intro hZ1; (refine Mine.and8 hZ1 ?_); clear hZ1; intro hZ2; obtain rfl := hZ2; intro hsz hlv b1 b2 b3 b4 b5)
    clear F1 N1 a1 a2 a3 a4 a5
    have hc8 := hc.h.2
    have hp8 : pl < 8 := by omega
    have e1 : ∀ x y, x = Str.ofString "parts" ∨ x = Str.ofString "beside" ∨ x = Str.ofString "count" ∨ x = Str.ofString "seed" ∨ x = Str.ofString "signs" → m₁ x = some y → (fun y => if y = Str.ofString "place" then some (Value.int pl tp) else m₁ y) x = some y := by
      intro x y hx e
      dsimp only
      rw [if_neg (by rcases hx with rfl | rfl | rfl | rfl | rfl <;> decide)]
      exact e
    have key : ∃ M, Fr (hideAll s.heap []) s.heap.objs.size h M ∧ M (Str.ofString "place") = some (.int pl tp) ∧ M (Str.ofString "parts") = some (.ref lp) ∧ M (Str.ofString "beside") = some (.ref lb) ∧ M (Str.ofString "count") = some (.int c t1) ∧ M (Str.ofString "seed") = some (.int seed t2) ∧ M (Str.ofString "signs") = some (.int signs t3) :=
      ⟨_, F2, by simp, e1 _ _ (.inl rfl) b1, e1 _ _ (.inr (.inl rfl)) b2, e1 _ _ (.inr (.inr (.inl rfl))) b3, e1 _ _ (.inr (.inr (.inr (.inl rfl)))) b4, e1 _ _ (.inr (.inr (.inr (.inr rfl)))) b5⟩
    clear F2 e1 b1 b2 b3 b4 b5
    ((refine Exists.elim key ?_); (try clear key); intro M; intro hZ1; (refine Mine.and7 hZ1 ?_); clear hZ1; intro F2 b0 b1 b2 b3 b4 b5)
    have n1 : @Ne Nat lb lp := Nat.ne_of_lt hlt
    have hsz8 : arr.size ≤ 8 := by omega
    replace N2 : News (hideAll s.heap []) s.heap.objs.size h ((lp, listOf arr kk) :: (lb, listOf vb.toArray 0) :: own) := N2
    (try k_fold)
    k_steps
    · have hpw := pow8 pl (by omega)
      refine floordiv_int (by simpa using Int.ne_of_gt hpw.1) ?_ (.inl (PyProof.noPylong_of_log2 (by simpa using hpw.2)))
      generalize hq : Int.fdiv signs _ = q
      clear hq hpw
      k_steps
      refine chr_of_range (beside_ok _).1 (beside_ok _).2.1 ?_
      k_steps
      (with_reducible rename Fr _ _ _ _ => F4)
      (with_reducible rename News _ _ _ _ => N4)
      refine LnEnd.two F4 N4 ⟨_, _, rfl, by simp [hsz], ?_, b1, b2, b3, b4, b5⟩
      intro v hv
      simp only [Array.toList_push, List.mem_append, List.mem_singleton] at hv
      rcases hv with hv | rfl
      · exact hlv v hv
      · exact ⟨_, _, rfl, (beside_ok _).2.2 (by have a := Int.fmod_lt_of_pos q (b := 16) (by decide); have b := Int.fmod_nonneg_of_pos q (b := 16) (by decide); omega)⟩
    · (with_reducible rename Fr _ _ _ _ => F4)
      (with_reducible rename News _ _ _ _ => N4)
      refine LnEnd.two F4 N4 ⟨_, _, rfl, by simp [hsz], ?_, b1, b2, b3, b4, b5⟩
      intro v hv
      simp only [Array.toList_push, List.mem_append, List.mem_singleton] at hv
      rcases hv with hv | rfl
      · exact hlv v hv
      · exact leaf_letter hp8
  · intro m₁ nx h tkh hJ4 F2 N2
    ((refine Mine.ex2 hJ4 ?_); (try clear hJ4); intro arr kk; intro hZ1; (refine Mine.and8 hZ1 ?_); clear hZ1; intro hZ2; obtain rfl := hZ2; intro hsz hlv b1 b2 b3 b4 b5)
    clear F1 N1 a1 a2 a3 a4 a5
    have hc8 := hc.h
    ((refine Exists.elim (forest_leaves (h := h) hlv) ?_); intro ts; intro hZ1; (refine Mine.and3 hZ1 ?_); clear hZ1; intro hF hG hS)
    refine wpAny_execs_cons (wpAny_While ?_)
    refine whileR (TreeJ s (hideAll s.heap []) s.heap.objs.size c) ?_ (c - 1) ⟨_, _, m₁, lp, arr, kk, ts, seed, t2, rfl, F2, fun p hp => N2 p (by cases List.mem_singleton.mp hp; exact .head _), b1, b4, hF, hG, by rw [hS]; simpa using hsz, by rw [hsz]; omega, by rw [hsz]; omega⟩
    clear F2 N2 b1 b2 b3 b4 b5 hF hG hS hlv hsz hs hg hvb
    intro n s' hJ2
    ((refine Mine.hideG fun G kG => ?_); (refine Mine.ex9 hJ2.ex ?_); clear hJ2; intro h3 tk3 M3 lp3 arr3 k3 ts3 seed3 t3'; intro hZ1; (refine Mine.and10 hZ1 ?_); clear hZ1; intro hZ2 F3 N3 d1 d2 hF3 hG3 hS3 hz3 hz8; obtain rfl := hZ2; (refine kG ?_); clear kG G)
    ((refine Exists.elim (snap F3) ?_); intro own; intro hZ1; (refine And.elim ?_ hZ1); clear hZ1; intro Nown hsn)
    have nl3 : ∀ a xs, h3.IsList a xs → a ≠ s.heap.objs.size := fun _ _ q => ne_locals_of_isList F3 q
    have N4 : News (hideAll s.heap []) s.heap.objs.size h3 ((lp3, listOf arr3 k3) :: own) := fun p hp => by
      rcases List.mem_cons.mp hp with rfl | hp
      · exact N3 _ (.head _)
      · exact Nown p hp
    clear N3
    have hz3s : Stop (arr3.size = n + 1) := ⟨hz3⟩
    clear hz3
    by_cases h1 : 1 < arr3.size
    · have fm0 : 0 ≤ seed3.fmod ((arr3.size : Int) - 1) := Int.fmod_nonneg_of_pos _ (by omega)
      have fm1 : seed3.fmod ((arr3.size : Int) - 1) < (arr3.size : Int) - 1 := Int.fmod_lt_of_pos _ (by omega)
      (try k_fold)
      k_steps
      constructor
      (with_reducible rename Fr _ _ _ _ => F5)
      (with_reducible rename News _ _ _ _ => N5)
      generalize hpl : seed3.fmod ((arr3.size : Int) - 1) = pl at *
      have e1 : slicePick arr3 none (some pl) none = (arr3.toList.take pl.toNat).toArray := by
        rw [PySem.W.kmk_pick_nat arr3 (a := 0) (b := pl.toNat) (by
          unfold sliceBounds
          simp
          exact cut_lo fm0 fm1)]
        simp
      have e2 : slicePick arr3 (some (pl + 2)) none none = (arr3.toList.drop (pl.toNat + 2)).toArray := by
        rw [PySem.W.kmk_pick_nat arr3 (a := pl.toNat + 2) (b := arr3.size) (by
          unfold sliceBounds
          simp
          exact cut_hi fm0 fm1)]
        rw [List.take_of_length_le (by simp)]
      rw [e1] at N5
      refine add_arrays (hsz := ?z1) F5 N5 ⟨_, (N5 _ (.tail _ (.tail _ (.head _)))).1, rfl, _, rfl⟩ ⟨_, (N5 _ (.head _)).1, rfl, _, rfl⟩ ?_
      case z1 => simp [sizeLine]; exact Nat.le_trans (Nat.min_le_right ..) (Nat.le_trans hz8 (by decide))
      intro h6 F6 N6
      clear F5 N5
      k_steps
      constructor
      (with_reducible rename Fr _ _ _ _ => F7)
      (with_reducible rename News _ _ _ _ => N7)
      rw [e2] at N7
      refine add_arrays (hsz := ?z2) F7 N7 ⟨_, (N7 _ (.tail _ (.head _))).1, rfl, _, rfl⟩ ⟨_, (N7 _ (.head _)).1, rfl, _, rfl⟩ ?_
      case z2 => simp [sizeLine]; exact Nat.le_trans (cut_le (pl_lt fm1 h1) hz8) (by decide)
      intro h8 F8 N8
      clear F7 N7
      k_steps
      (with_reducible rename Fr _ _ _ _ => FZ)
      (with_reducible rename News _ _ _ _ => NZ)
      have kk := snap_keep FZ NZ hsn fun q hq => by iterate 7 (refine .tail _ ?_)
                                                    exact hq
      ((refine Mine.ex3 (forest_join pl.toNat (hF3.keepL nl3 kk) (by rw [Array.length_toList]; exact pl_lt fm1 h1) hG3) ?_); intro l r ts'; intro hZ1; (refine Mine.and5 hZ1 ?_); clear hZ1; intro g1 g2 g3 g4 g5)
      have e3 : ∀ k : Nat, arr3.toList.getD k .none = arr3.getD k .none := fun k => by simp [List.getD_eq_getElem?_getD, Array.getD_eq_getD_getElem?]
      rw [e3] at g1 g2
      have hpl1 : (pl + 1).toNat = pl.toNat + 1 := pl_suc fm0
      rw [← hpl1] at g2
      have hnew := g3 _ (.node (News.isList NZ (.tail _ (.tail _ (.tail _ (.tail _ (.head _)))))) g1 g2)
      have hz3 := hz3s.h
      refine ⟨⟨n - 1, pred_lt h1 hz3, ⟨_, _, _, _, _, _, ts', seed3.fdiv ((arr3.size : Int) - 1), _, rfl, FZ, fun p hp => NZ p (by cases List.mem_singleton.mp hp; exact .head _), if_pos rfl, (if_neg (by decide)).trans (if_pos rfl), by simpa using hnew, g4, g5.trans hS3, ?_, ?_⟩⟩⟩
      · simp
        exact cut_sz (pl_lt fm1 h1) hz3
      · simp
        exact cut_le2 (pl_lt fm1 h1) hz3 hz8
    · have hz3 := hz3s.h
      (try k_fold)
      k_steps
      have hl1 : arr3.toList.length = 1 := by rw [Array.length_toList]; omega
      have e : ∀ v, arr3.toList = [v] → arr3.getD (Int.toNat 0) .none = v := fun v hv => by
        rw [show arr3 = ⟨arr3.toList⟩ from rfl, hv]; rfl
      generalize hvs3 : arr3.toList = vs3 at *
      cases hF3 with
      | nil => simp at hl1
      | cons hT hr =>
        cases hr with
        | cons _ _ => simp at hl1
        | nil =>
          rw [e _ rfl]
          exact ret _ _ _ _ hT (hG3 _ (.head _)) (by simpa using hS3) F3.keep
end Mine
end
section -- E5
open PySem PySem.W PyProof.Rows
set_option maxRecDepth 100000
namespace Mine
open PySem.Builtin PySem.Builtin.Re
theorem plainAttrs_rp : PlainAttrs "re.Pattern" :=
  ⟨⟨"object.__getattribute__", by rw [typeLookup_type, builtinLookup_eq_fast]; kernel_rfl, by decide +kernel⟩, by rw [typeLookup_type, builtinLookup_eq_fast]; kernel_rfl⟩
theorem slot_rp_search : Slot "re.Pattern" "search" "re.Pattern.search" :=
  .of (owner := "re.Pattern") (n := "search") (by rw [typeLookup_type, builtinLookup_eq_fast]; kernel_rfl) (by decide +kernel) (by decide +kernel) (by decide +kernel)
    (by first | exact .inl (by decide +kernel) | exact .inr (by decide +kernel)) (by rw [isSubtype_type]; kernel_rfl)
theorem type_rp_search : typeOf (.builtin "re.Pattern.search") = pure (.type "method_descriptor") := by show builtinType _ = _; rw [builtinType_eq_fast]; kernel_rfl
theorem entry_rp_search : entryFor table "re.Pattern.search" = some Builtin.«re.Pattern.search» := entryFor_of_tree (by kernel_rfl)
theorem args_rp_search (a b : Value) : argsOk "re.Pattern.search" ⟨[a, b], []⟩ := by
  unfold argsOk; kernel_rfl
theorem slot_rp_sub : Slot "re.Pattern" "sub" "re.Pattern.sub" :=
  .of (owner := "re.Pattern") (n := "sub") (by rw [typeLookup_type, builtinLookup_eq_fast]; kernel_rfl) (by decide +kernel) (by decide +kernel) (by decide +kernel)
    (by first | exact .inl (by decide +kernel) | exact .inr (by decide +kernel)) (by rw [isSubtype_type]; kernel_rfl)
theorem type_rp_sub : typeOf (.builtin "re.Pattern.sub") = pure (.type "method_descriptor") := by show builtinType _ = _; rw [builtinType_eq_fast]; kernel_rfl
theorem entry_rp_sub : entryFor table "re.Pattern.sub" = some Builtin.«re.Pattern.sub» := entryFor_of_tree (by kernel_rfl)
theorem args_rp_sub (a b c : Value) : argsOk "re.Pattern.sub" ⟨[a, b, c], []⟩ := by
  unfold argsOk; kernel_rfl
theorem plain_sub_loop : plainId "re.Pattern.sub.loop" = true := by decide +kernel
theorem entry_sub_loop : entryFor table "re.Pattern.sub.loop" = some Builtin.«re.Pattern.sub.loop» := entryFor_of_tree (by kernel_rfl)
end Mine
end
section -- E6
open PySem PySem.W PyProof.Rows
set_option maxRecDepth 100000
namespace Mine
open PySem.Builtin PySem.Builtin.Re
structure IsPat (h : Heap) (a : Addr) (code : Array Nat) : Prop where
  ex : ∃ o v0 v1 c oc items n, h.get? a = some o ∧ o.cls = .type "re.Pattern" ∧ o.dict = none ∧ o.data = .fields #[v0, v1, .int 0 0, .none, .none, .ref c, .int 0 0] ∧
    h.get? c = some oc ∧ oc.data = .seq items n ∧ (items.map reRawOf).map (·.toNat) = code
theorem IsPat.ext {h h' : Heap} {a : Addr} {code : Array Nat} (H : IsPat h a code) (e : Ext h h') : IsPat h' a code := by
  obtain ⟨o, v0, v1, c, oc, items, n, h1, h2, h3, h4, h5, h6, h7⟩ := H
  exact ⟨o, v0, v1, c, oc, items, n, e _ _ h1, h2, h3, h4, e _ _ h5, h6, h7⟩
section
variable {prog : Program} {w : World} {A : Around} {E : Value → Shared → Prop} {s : Shared}
theorem IsPat.typeIs {a : Addr} {code : Array Nat} (H : IsPat s.heap a code) : s.TypeIs (.ref a) "re.Pattern" := by
  obtain ⟨o, v0, v1, c, oc, items, n, h1, h2, h3, h4, h5, h6, h7⟩ := H
  exact ⟨o, h1, h2⟩
theorem getMethod_search {a : Addr} {code : Array Nat} {pl : Sem Bool} {Q : Value × List Value → Shared → Prop} (H : IsPat s.heap a code) (h : Q (.builtin "re.Pattern.search", [.ref a]) s) :
    wpAny (model prog w) A (getMethod (.ref a) (Str.ofString "search") pl) Q E s := by
  refine getMethod_builtin H.typeIs plainAttrs_rp slot_rp_search type_rp_search (fun b e => ?_) h
  obtain ⟨o, v0, v1, c, oc, items, n, h1, h2, h3, h4, h5, h6, h7⟩ := H
  cases e
  exact ⟨o, h1, h3⟩
theorem getMethod_sub {a : Addr} {code : Array Nat} {pl : Sem Bool} {Q : Value × List Value → Shared → Prop} (H : IsPat s.heap a code) (h : Q (.builtin "re.Pattern.sub", [.ref a]) s) :
    wpAny (model prog w) A (getMethod (.ref a) (Str.ofString "sub") pl) Q E s := by
  refine getMethod_builtin H.typeIs plainAttrs_rp slot_rp_sub type_rp_sub (fun b e => ?_) h
  obtain ⟨o, v0, v1, c, oc, items, n, h1, h2, h3, h4, h5, h6, h7⟩ := H
  cases e
  exact ⟨o, h1, h3⟩
theorem call_search {a : Addr} {code : Array Nat} {x : Str} {t : Tok} {Q : Value → Shared → Prop} (H : IsPat s.heap a code)
    (hr : ((Sre.forSearch code x.cps 0 0 x.cps.size false).runFor 4).outcome = some .failed) (hx : x.cps.size < 2 ^ 63) (h : Q .none s) :
    wpAny (model prog w) A (call (.builtin "re.Pattern.search") [.ref a, .str x t]) Q E s := by
  have hT := H.typeIs
  obtain ⟨o, v0, v1, c, oc, items, n, h1, h2, h3, h4, h5, h6, h7⟩ := H
  refine wpAny_call_entry slot_rp_search hT entry_rp_search ?_ (args_rp_search _ _)
  show wpAny _ _ (do
    let t ← reTarget "re.Pattern.search" "search" ⟨[.ref a, .str x t], []⟩
    reAnswer t (Sre.forSearch t.code t.text t.groups t.pos t.lim false)) _ _ s
  refine wpAny_bind ?_
  unfold reTarget
  dsimp only
  refine wpAny_bind (m := reNamed _ _ _ _ _ _) (wpAny_of_eq (a := [some (.str x t), none, none]) (by rfl) ?_)
  dsimp only
  refine wpAny_bind (wpAny_pure ?_)
  refine wpAny_bind (wpAny_pure ?_)
  refine wpAny_bind (wpAny_fieldsOf h1 h4 ?_)
  refine wpAny_bind (m := reTextOf _) (wpAny_of_eq (a := (x.cps, 0)) (by rfl) ?_)
  rw [if_neg (by simp [reRawNat]), if_neg (by simp [reRawNat])]
  refine wpAny_bind (m := reNoCollectionInside _ _) (wpAny_of_eq (a := ()) (by rfl) ?_)
  refine wpAny_bind (m := reRawItems _) ?_
  show wpAny _ _ (reRawItems (.ref c)) _ _ s
  unfold reRawItems
  refine wpAny_bind (wpAny_seqItems h5 h6 (wpAny_pure (wpAny_pure ?_)))
  show wpAny _ _ (reAnswer _ (Sre.forSearch ((items.map reRawOf).map (·.toNat)) x.cps 0 (Min.min (Int.toNat 0) x.cps.size) (Min.min (2 ^ 63 - 1 : Int).toNat x.cps.size) false)) _ _ s
  rw [h7, show (Min.min (Int.toNat 0) x.cps.size) = 0 from by simp, show (Min.min (2 ^ 63 - 1 : Int).toNat x.cps.size) = x.cps.size from by omega]
  unfold reAnswer
  exact wpAny_bind (wpAny_reRun (N := 4) (by decide) (.inr ⟨hr, wpAny_pure ⟨_, rfl, h⟩⟩))
theorem call_search_none {a : Addr} {code : Array Nat} {x : Str} {t : Tok} {Q : Value → Shared → Prop} (H : IsPat s.heap a code) (hc : code = codeName ∨ code = codeValue)
    (hx : ∀ c ∈ x.cps.toList, 32 ≤ c ∧ c ≠ 127) (hxl : x.length ≤ 2000) (h : Q .none s) :
    wpAny (model prog w) A (call (.builtin "re.Pattern.search") [.ref a, .str x t]) Q E s := by
  refine call_search H (search_none hc fun i hi => ?_) (by unfold Str.length at hxl; omega) h
  rw [show x.cps.getD i 0 = x.cps[i] from by simp [Array.getD, hi]]
  exact hx _ (Array.mem_toList_iff.mpr (Array.getElem_mem hi))
/-- what the loop of sub needs of the searches: F s is what is still to be written from place s on -/
structure SubLaw (code text : Array Nat) (repl : List Nat) (F : Nat → List Nat) : Prop where
  turn : ∀ st, st ≤ text.size →
    (∃ p e, st ≤ p ∧ p < e ∧ e ≤ text.size ∧ RunsTo (10 * text.size + 40) (Sre.forSearch code text 0 st text.size false) (Found p e) ∧ F st = (text.extract st p).toList ++ repl ++ F e) ∨
    (RunsTo (10 * text.size + 40) (Sre.forSearch code text 0 st text.size false) Failed ∧ F st = (text.extract st text.size).toList)
theorem wpAny_reRun_runs {m : Sre.M} {k : Nat} {P : Sre.M → Prop} {Q : Option Sre.M → Shared → Prop} (hk : k ≤ 2 ^ 60) (H : RunsTo k m P)
    (hq : ∀ m', P m' → (m'.outcome = some .matched ∧ Q (some m') s) ∨ (m'.outcome = some .failed ∧ Q none s)) : wpAny (model prog w) A (reRunToEnd m) Q E s := by
  ((refine Exists.elim H.ex ?_); intro n; intro hZ1; (refine And.elim ?_ hZ1); clear hZ1; intro hn hp)
  exact wpAny_reRun (N := n) (by omega) (hq _ hp)
noncomputable def catL (ys : List Str) : List Nat := (ys.map (·.cps.toList)).flatten
theorem catL_snoc (ys : List Str) (y : Str) : catL (ys ++ [y]) = catL ys ++ y.cps.toList := by simp [catL]
theorem catL_len (ys : List Str) : (ys.map (·.length)).sum = (catL ys).length := by
  induction ys with
  | nil => rfl
  | cons a r ih => simp [catL, Str.length] at *; omega
theorem join_empty : ∀ ys : List Str, Txt.join ⟨#[]⟩ ys = ⟨(catL ys).toArray⟩ := by
  intro ys
  unfold Txt.join
  rw [StrLaws.glued_eq_join]
  induction ys with
  | nil => rfl
  | cons a r ih =>
    cases r with
    | nil => show a = _; simp [catL]
    | cons b r =>
      show a ++ (⟨#[]⟩ : Str) ++ Str.join ⟨#[]⟩ (b :: r) = _
      rw [ih]
      show (⟨a.cps ++ #[] ++ _⟩ : Str) = _
      simp [catL]
theorem strsAre_snoc' {vs : Array Value} {ys : List Str} {y : Str} {t : Tok} (h : StrsAre vs.toList ys) : StrsAre (vs.push (.str y t)).toList (ys ++ [y]) := by
  rw [Array.toList_push]
  exact StrsAre.append' h (.cons _ _ .nil)
theorem wpAny_whole {a : Addr} {code : Array Nat} {x : Str} {t : Tok} {Q : ReTarget → Shared → Prop} (H : IsPat s.heap a code)
    (h : Q { pattern := .ref a, string := .str x t, code := code, text := x.cps, kind := 0, groups := 0, pos := 0, lim := x.cps.size } s) :
    wpAny (model prog w) A (reWholeTarget (.ref a) (.str x t)) Q E s := by
  obtain ⟨o, v0, v1, c, oc, items, nn, h1, h2, h3, h4, h5, h6, h7⟩ := H
  unfold reWholeTarget
  refine wpAny_bind (wpAny_fieldsOf h1 h4 ?_)
  refine wpAny_bind (m := reTextOf _) (wpAny_of_eq (a := (x.cps, 0)) (by rfl) ?_)
  dsimp only
  rw [if_neg (by simp [reRawNat]), if_neg (by simp [reRawNat])]
  refine wpAny_bind (m := reNoCollectionInside _ _) (wpAny_of_eq (a := ()) (by rfl) ?_)
  refine wpAny_bind (m := reRawItems _) ?_
  show wpAny _ _ (reRawItems (.ref c)) _ _ _
  unfold reRawItems
  refine wpAny_bind (wpAny_seqItems h5 h6 (wpAny_pure (wpAny_pure ?_)))
  dsimp only [Option.getD_some]
  rw [h7]
  exact h
noncomputable def subArgs (a : Addr) (x : Str) (xt : Tok) (y : Str) (yt : Tok) (n start : Nat) (l : Addr) : Args :=
  ⟨[.ref a, .str x xt, .str y yt, rawInt 0, rawInt 0, rawInt n, rawInt start, rawInt start, .bool false, .ref l, .bool false], []⟩
structure LAt (h₀ h : Heap) (l : Addr) (ys : List Str) : Prop where
  lst : ∃ arr n, h.get? l = some (W.listOf arr n) ∧ StrsAre arr.toList ys
  keep : Ext h₀ h
theorem LAt.push {h₀ h : Heap} {l : Addr} {ys : List Str} {y : Str} {t : Tok} (H : LAt h₀ h l ys) (hn : h₀.get? l = none) : LAt h₀ (h.update l (Obj.mapSeq (·.push (.str y t)))) l (ys ++ [y]) := by
  obtain ⟨⟨arr, n, hg, hS⟩, k⟩ := H
  refine ⟨⟨arr.push (.str y t), n + 1, by rw [Heap.get?_update_self _ hg rfl]; simp [Obj.mapSeq], strsAre_snoc' hS⟩, fun b o e => ?_⟩
  rw [Heap.get?_update_ne _ _ _ _ (fun q => by rw [q, hn] at e; cases e)]
  exact k b o e
theorem LAt.isList {h₀ h : Heap} {l : Addr} {ys : List Str} (H : LAt h₀ h l ys) : ∃ arr, h.IsList l arr ∧ StrsAre arr.toList ys := by
  obtain ⟨⟨arr, n, hg, hS⟩, k⟩ := H
  exact ⟨arr, ⟨_, hg, rfl, _, rfl⟩, hS⟩
theorem wpAny_pushL {h₀ : Heap} {l : Addr} {ys : List Str} {y : Str} {t : Tok} {Q : Unit → Shared → Prop} (H : LAt h₀ s.heap l ys) (hn : h₀.get? l = none) (hz : ys.length ≤ 100000)
    (h : ∀ h', LAt h₀ h' l (ys ++ [y]) → Q () { s with heap := h' }) : wpAny (model prog w) A (updateSeq l (·.push (.str y t))) Q E s := by
  have H' := H.push (y := y) (t := t) hn
  obtain ⟨⟨arr, n, hg, hS⟩, k⟩ := H
  have hlen := hS.len_eq
  refine wpAny_updateSeq hg rfl (h _ H') ?_ ?_
  · show arr.size ≤ sizeLine
    rw [show arr.size = arr.toList.length from rfl, hlen]; unfold sizeLine; omega
  · show (arr.push _).size ≤ sizeLine + 1
    rw [Array.size_push, show arr.size = arr.toList.length from rfl, hlen]; unfold sizeLine; omega
theorem sub_loop {code : Array Nat} {a l : Addr} {x y : Str} {xt yt : Tok} {F : Nat → List Nat} {h₀ : Heap} (H : IsPat h₀ a code) (L : SubLaw code x.cps y.cps.toList F) (hx : x.length ≤ 5000) (hF : (F 0).length ≤ 10000) (hl : h₀.get? l = none) {Q : Value → Shared → Prop}
    (hret : ∀ h' tk t, Ext h₀ h' → Q (.str ⟨(F 0).toArray⟩ t) { s with heap := h', toks := tk }) :
    ∀ (k start n : Nat) (ys : List Str) (h : Heap) (tk : Tok), x.cps.size - start < k → start ≤ x.cps.size → LAt h₀ h l ys → catL ys ++ F start = F 0 → ys.length ≤ 2 * start →
      codeAny (model prog w) A (.builtin "re.Pattern.sub.loop" (subArgs a x xt y yt n start l)) (fun r s' => match r with | .ok (.ret v) => Q v s' | .ok _ => False | .error e => E e s') { s with heap := h, toks := tk } := by
  intro k
  induction k with
  | zero => intro start n ys h tk hk; omega
  | succ k ih =>
    intro start n ys h tk hk hst HL hcat hys
    have hxs : x.cps.size ≤ 5000 := hx
    refine codeAny_builtin entry_sub_loop ?_
    generalize A.under _ = A'
    have HP := H.ext HL.keep
    obtain ⟨o, v0, v1, c, oc, items, nn, h1, h2, h3, h4, h5, h6, h7⟩ := HP
    show wpAny _ A' (do
      let t ← reWholeTarget (.ref a) (.str x xt)
      if (0 : Int) == 0 then reLiteralCannotBeTurned (.str y yt)
      match ← (if (0 : Int) != 0 && (n : Int) ≥ 0 then pure none else reNextFound t (Int.toNat start) false) with
      | some m =>
        if (Int.toNat start) < m.start then updateSeq l (·.push (← reSlice t.text t.kind (Int.toNat start) m.start))
        let item ← if (0 : Int) == 0 then pure (.str y yt) else do
            let found ← reNewMatch (.ref a) (.str x xt) t.groups 0 t.lim m
            holding [found] (if (0 : Int) == 1 then call (.str y yt) [found] else do reExpand (.str y yt) (← reFound found))
        if item != .none then updateSeq l (·.push item)
        again (.builtin "re.Pattern.sub.loop" ⟨[.ref a, .str x xt, .str y yt, rawInt 0, rawInt 0, rawInt (n + 1), rawInt m.handed, rawInt m.handed, .bool (m.handed == m.start), .ref l, .bool false], []⟩)
      | none =>
        if (Int.toNat start) < t.lim then updateSeq l (·.push (← reSlice t.text t.kind (Int.toNat start) t.lim))
        let joiner ← reSlice t.text t.kind 0 0
        let text ← if ((← seqItems? (.ref l)).getD #[]).isEmpty then pure joiner
          else call (.builtin (if t.kind == 0 then "str.join" else "bytes.join")) [joiner, .ref l]
        if false then ret (← holding [text] do newTuple [text, ← mkInt n]) else ret text) _ _ _
    refine wpAny_bind (wpAny_whole (H.ext HL.keep) ?_)
    refine wpAny_bind (m := reLiteralCannotBeTurned _) (wpAny_of_eq (a := ()) (by rfl) ?_)
    refine wpAny_bind (m := reNextFound _ _ _) ?_
    show wpAny _ _ (reRunToEnd (Sre.forSearch code x.cps 0 start x.cps.size false)) _ _ _
    rcases L.turn start hst with ⟨p, e, g1, g2, g3, g4, g5⟩ | ⟨g4, g5⟩
    · refine wpAny_reRun_runs (by omega) g4 fun m' hm => .inl ⟨hm.out, ?_⟩
      have k1 := hm.start
      have k2 := hm.handed
      dsimp only
      rw [k1, k2]
      have fin : ∀ (ys' : List Str) (h' : Heap) (tk' : Tok), LAt h₀ h' l ys' → catL ys' = catL ys ++ (x.cps.extract start p).toList → ys'.length ≤ ys.length + 1 →
          wpAny (model prog w) A' (updateSeq l (·.push (.str y yt)) >>= fun _ => again (.builtin "re.Pattern.sub.loop" (subArgs a x xt y yt (n + 1) e l)))
          (fun fin s' => match fin with | .done f => (match (Except.ok f : Result) with | .ok (.ret v) => Q v s' | .ok _ => False | .error e => E e s') | .again c' => c'.quiet = true ∧ codeAny (model prog w) A c' (fun r s' => match r with | .ok (.ret v) => Q v s' | .ok _ => False | .error e => E e s') s')
          (fun e s' => match (Except.error e : Result) with | .ok (.ret v) => Q v s' | .ok _ => False | .error e => E e s') { s with heap := h', toks := tk' } := by
        intro ys' h' tk' HL' hc' hy'
        refine wpAny_bind (wpAny_pushL HL' hl (by omega) fun h'' HL'' => ?_)
        refine wpAny_pure ⟨plainId_quiet plain_sub_loop _, ih e (n + 1) (ys' ++ [y]) h'' tk' (by omega) g3 HL'' ?_ ?_⟩
        · rw [catL_snoc, hc', ← hcat, g5]; simp
        · simp only [List.length_append, List.length_singleton]; omega
      have hpe : (e == p) = false := beq_false_of_ne (by omega)
      rw [hpe]
      by_cases hsp : start < p
      · rw [if_pos (by simpa using hsp)]
        refine wpAny_bind (m := reSlice _ _ _ _) ?_
        show wpAny _ _ (mkStr ⟨x.cps.extract (Int.toNat start) p⟩) _ _ _
        refine wpAny_mkStr ?_ (by unfold Str.length sizeLine; simp; omega)
        refine wpAny_bind (wpAny_pushL HL hl (by omega) fun h' HL' => ?_)
        refine fin _ h' _ HL' ?_ (by simp)
        rw [catL_snoc]; simp
      · rw [if_neg (by simpa using hsp)]
        refine fin ys h tk HL ?_ (by omega)
        have : start = p := by omega
        subst this; simp
    · refine wpAny_reRun_runs (by omega) g4 fun m' hm => .inr ⟨hm.out, ?_⟩
      dsimp only
      have fin : ∀ (ys' : List Str) (h' : Heap) (tk' : Tok), LAt h₀ h' l ys' → catL ys' = F 0 → ys'.length ≤ ys.length + 1 →
          wpAny (model prog w) A' (reSlice x.cps 0 0 0 >>= fun joiner => seqItems? (.ref l) >>= fun its =>
            (if ((its).getD #[]).isEmpty = true then (pure joiner >>= fun text => ret text) else (call (.builtin (if ((0 : Nat) == 0) = true then "str.join" else "bytes.join")) [joiner, .ref l] >>= fun text => ret text)))
          (fun fin s' => match fin with | .done f => (match (Except.ok f : Result) with | .ok (.ret v) => Q v s' | .ok _ => False | .error e => E e s') | .again c' => c'.quiet = true ∧ codeAny (model prog w) A c' (fun r s' => match r with | .ok (.ret v) => Q v s' | .ok _ => False | .error e => E e s') s')
          (fun e s' => match (Except.error e : Result) with | .ok (.ret v) => Q v s' | .ok _ => False | .error e => E e s') { s with heap := h', toks := tk' } := by
        intro ys' h' tk' HL' hc' hy'
        refine wpAny_bind (m := reSlice _ _ _ _) ?_
        show wpAny _ _ (mkStr ⟨x.cps.extract 0 0⟩) _ _ _
        refine wpAny_mkStr ?_ (by unfold Str.length sizeLine; simp)
        have hem : x.cps.extract 0 0 = #[] := by simp
        rw [hem]
        have hkeep := HL'.keep
        have HL2 := HL'.isList
        obtain ⟨⟨arr, nn, hg, hS⟩, _⟩ := HL'
        refine wpAny_bind (wpAny_seqItems hg rfl ?_)
        dsimp only [Option.getD_some]
        by_cases hz : arr.isEmpty = true
        · rw [if_pos hz]
          refine wpAny_bind (wpAny_pure (wpAny_pure ?_))
          have : arr = #[] := by simpa using hz
          subst this
          cases hS
          have e0 : F 0 = [] := by rw [← hc']; rfl
          have := hret h' (tk' + 1) tk' hkeep
          rw [e0] at this
          exact this
        · rw [if_neg hz, show (if ((0:Nat) == 0) = true then "str.join" else "bytes.join") = "str.join" from rfl]
          ((refine Exists.elim HL2 ?_); (try clear HL2); intro arr'; intro hZ1; (refine And.elim ?_ hZ1); clear hZ1; intro hL' hS')
          refine wpAny_bind (join_listC hL' hS' (by decide) ?_ ?_)
          · rw [catL_len, hc']; omega
          · intro t' k'
            rw [join_empty, hc']
            exact wpAny_pure (hret _ _ _ hkeep)
      by_cases hsp : start < x.cps.size
      · rw [if_pos (by simpa using hsp)]
        refine wpAny_bind (m := reSlice _ _ _ _) ?_
        show wpAny _ _ (mkStr ⟨x.cps.extract (Int.toNat start) x.cps.size⟩) _ _ _
        refine wpAny_mkStr ?_ (by unfold Str.length sizeLine; simp; omega)
        refine wpAny_bind (wpAny_pushL HL hl (by omega) fun h' HL' => ?_)
        refine fin _ h' _ HL' ?_ (by simp)
        rw [catL_snoc, ← hcat, g5]; simp
      · rw [if_neg (by simpa using hsp)]
        refine fin ys h tk HL ?_ (by omega)
        rw [← hcat, g5]
        have : start = x.cps.size := by omega
        subst this; simp
theorem no_call_str : typeLookup (.type "str") "__call__" = pure none := by rw [typeLookup_type, builtinLookup_eq_fast]; kernel_rfl
theorem call_sub {code : Array Nat} {a : Addr} {x y : Str} {xt yt : Tok} {F : Nat → List Nat} (H : IsPat s.heap a code) (L : SubLaw code x.cps y.cps.toList F) (hx : x.length ≤ 5000)
    (hF : (F 0).length ≤ 10000) (hy : y.cps.contains 92 = false) {Q : Value → Shared → Prop}
    (hret : ∀ h' tk t, Ext s.heap h' → Q (.str ⟨(F 0).toArray⟩ t) { s with heap := h', toks := tk }) :
    wpAny (model prog w) A (call (.builtin "re.Pattern.sub") [.ref a, .str y yt, .str x xt]) Q E s := by
  refine wpAny_call (codeAny_call_builtin slot_rp_sub.plain entry_rp_sub (slot_rp_sub.check _ _ _ _ _ _ _ _ H.typeIs (args_rp_sub _ _ _) ?_))
  show wpAny _ _ (reSubstitute "re.Pattern.sub" "sub" false ⟨[.ref a, .str y yt, .str x xt], []⟩) _ _ s
  unfold reSubstitute
  dsimp only
  refine wpAny_bind (m := reNamed _ _ _ _ _ _) (wpAny_of_eq (a := [some (.str y yt), some (.str x xt), none]) (by rfl) ?_)
  dsimp only
  refine wpAny_bind (wpAny_pure ?_)
  refine wpAny_bind (wpAny_specialOf (typeIs_str _ _ _) no_call_str ?_)
  rw [if_neg (by decide)]
  refine wpAny_bind (m := asStr? _) (wpAny_of_eq (a := some y) (by rfl) ?_)
  dsimp only
  refine wpAny_bind (wpAny_pure ?_)
  rw [if_neg (by decide), hy, if_pos (by rfl)]
  refine wpAny_bind (wpAny_pure ?_)
  refine wpAny_bind (m := holding _ _) ?_
  show wpAny _ _ (reWholeTarget _ _) _ _ _
  refine wpAny_whole H ?_
  dsimp only
  rw [if_neg (by decide)]
  refine wpAny_bind (m := newList _) (wpAny_newObj_type ?_ (by size_fits))
  refine wpAny_pure ⟨plainId_quiet plain_sub_loop _, ?_⟩
  have hn : s.heap.get? s.heap.objs.size = none := by
    cases hq : s.heap.get? s.heap.objs.size with
    | none => rfl
    | some o => exact absurd (Heap.lt_size hq) (Nat.lt_irrefl _)
  exact sub_loop H L hx hF hn hret (x.cps.size + 1) 0 0 [] _ s.toks (by omega) (Nat.zero_le _)
    ⟨⟨#[], 0, Heap.get?_push_size _ rfl, .nil⟩, fun b o e => Heap.get?_push_of_some _ e⟩ rfl (Nat.le_refl _)
end
end Mine
end
section -- E7
open PySem PySem.W PyProof.Rows
set_option maxRecDepth 100000
namespace Mine
noncomputable def nlGo : Bool → List Nat → List Nat
  | _, [] => []
  | b, c :: r => if c = 10 then (if b then [] else [13, 10]) ++ nlGo false r else if c = 13 then [13, 10] ++ nlGo true r else c :: nlGo false r
noncomputable def stGo : Bool → List Nat → List Nat
  | _, [] => []
  | b, c :: r => (if b = true ∧ c = 46 then [46, 46] else [c]) ++ stGo (c == 10) r
theorem nlGo_len : ∀ (l : List Nat) (b : Bool), (nlGo b l).length ≤ 2 * l.length
  | [], _ => Nat.le_refl _
  | c :: r, b => by
    have h1 := nlGo_len r false
    have h2 := nlGo_len r true
    rw [nlGo]
    split
    · split <;> simp <;> omega
    · split <;> simp <;> omega
theorem stGo_len : ∀ (l : List Nat) (b : Bool), (stGo b l).length ≤ 2 * l.length
  | [], _ => Nat.le_refl _
  | c :: r, b => by
    have h1 := stGo_len r (c == 10)
    rw [stGo]
    split <;> simp <;> omega
theorem nlGo_skip : ∀ (l r : List Nat), (∀ c ∈ l, isNl c = false) → nlGo false (l ++ r) = l ++ nlGo false r
  | [], _, _ => rfl
  | c :: l, r, h => by
    have h1 := h c (List.mem_cons_self ..)
    unfold isNl at h1
    have h2 : ¬ c = 10 := by rintro rfl; simp at h1
    have h3 : ¬ c = 13 := by rintro rfl; simp at h1
    rw [List.cons_append, nlGo, if_neg h2, if_neg h3, nlGo_skip l r (fun d q => h d (List.mem_cons_of_mem _ q))]
    rfl
theorem nlGo_true {r : List Nat} (h : r.head? ≠ some 10) : nlGo true r = nlGo false r := by
  cases r with
  | nil => rfl
  | cons c r =>
    have : ¬ c = 10 := by rintro rfl; simp at h
    rw [nlGo, nlGo, if_neg this, if_neg this]
theorem drop_getD {text : Array Nat} {p : Nat} (h : p < text.size) : text.toList.drop p = text.getD p 0 :: text.toList.drop (p + 1) := by
  rw [List.drop_eq_getElem_cons (by simpa using h)]
  congr 1
  simp [Array.getD, h]
theorem drop_cut {text : Array Nat} {s p : Nat} (h : s ≤ p) (_hp : p ≤ text.size) : text.toList.drop s = (text.extract s p).toList ++ text.toList.drop p := by
  rw [Array.toList_extract, List.extract_eq_take_drop]
  conv => lhs; rw [← List.take_append_drop (p - s) (text.toList.drop s)]
  rw [List.drop_drop]
  congr 2
  omega
theorem mem_extract {text : Array Nat} {s p : Nat} {P : Nat → Prop} (hp : p ≤ text.size) (h : ∀ q, s ≤ q → q < p → P (text.getD q 0)) : ∀ c ∈ (text.extract s p).toList, P c := by
  intro c hc
  rw [Array.mem_toList_iff, Array.mem_iff_getElem] at hc
  obtain ⟨i, hi, rfl⟩ := hc
  have hi' : i < p - s := by simp at hi; omega
  rw [Array.getElem_extract]
  have := h (s + i) (by omega) (by omega)
  rwa [show text.getD (s + i) 0 = text[s + i]'(by omega) from by simp [Array.getD, show s + i < text.size from by omega]] at this
theorem endB_two (text : Array Nat) (p : Nat) : endB text p = p + 1 ∨ (endB text p = p + 2 ∧ p + 1 < text.size) := by
  by_cases hc : text.getD p 0 = 13 ∧ p + 1 < text.size ∧ text.getD (p + 1) 0 = 10
  · exact .inr ⟨by rw [endB, if_pos hc], hc.2.1⟩
  · exact .inl (by rw [endB, if_neg hc])
theorem subLawB (text : Array Nat) : SubLaw codeB text [13, 10] (fun st => nlGo false (text.toList.drop st)) := by
  refine ⟨fun st hst => ?_⟩
  rcases searchB text st with ⟨p, h1, h2, h3, h4, h5⟩ | ⟨h1, h2⟩
  · refine .inl ⟨p, endB text p, h1, ?_, ?_, h5.mono (by omega), ?_⟩
    · rcases endB_two text p with e | ⟨e, _⟩ <;> omega
    · rcases endB_two text p with e | ⟨e, _⟩ <;> omega
    · rw [drop_cut h1 (Nat.le_of_lt h2), nlGo_skip _ _ (mem_extract (P := fun c => isNl c = false) (Nat.le_of_lt h2) h4), List.append_assoc]
      congr 1
      rw [drop_getD h2, nlGo]
      by_cases e10 : text.getD p 0 = 10
      · rw [if_pos e10, show endB text p = p + 1 from by rw [endB, if_neg]; rintro ⟨q, _⟩; omega]
        rfl
      · have e13 : text.getD p 0 = 13 := by
          unfold isNl at h3
          rcases Bool.or_eq_true _ _ ▸ h3 with h | h
          · exact absurd (eq_of_beq h) e10
          · exact eq_of_beq h
        rw [if_neg e10, if_pos e13]
        congr 1
        unfold endB
        by_cases hc : text.getD p 0 = 13 ∧ p + 1 < text.size ∧ text.getD (p + 1) 0 = 10
        · rw [if_pos hc, drop_getD hc.2.1, hc.2.2, nlGo, if_pos rfl]
          rfl
        · rw [if_neg hc]
          refine nlGo_true fun hh => hc ⟨e13, ?_⟩
          by_cases hp1 : p + 1 < text.size
          · rw [drop_getD hp1] at hh
            exact ⟨hp1, by simpa using hh⟩
          · rw [List.drop_of_length_le (by simp; omega)] at hh
            cases hh
  · refine .inr ⟨h2.mono (by omega), ?_⟩
    rw [drop_cut hst (Nat.le_refl _), nlGo_skip _ _ (mem_extract (P := fun c => isNl c = false) (Nat.le_refl _) h1)]
    rw [List.drop_of_length_le (l := text.toList) (i := text.size) (by simp)]; simp [nlGo]
theorem stGo_skip : ∀ (n : Nat) (text : Array Nat) (s : Nat), s + n ≤ text.size → (∀ q, s ≤ q → q < s + n → atDot text q = false) →
    stGo (s == 0 || text.getD (s - 1) 0 == 10) (text.toList.drop s) = (text.extract s (s + n)).toList ++ stGo (s + n == 0 || text.getD (s + n - 1) 0 == 10) (text.toList.drop (s + n))
  | 0, text, s, _, _ => by simp
  | n + 1, text, s, hs, h => by
    have hlt : s < text.size := by omega
    have h0 := h s (Nat.le_refl _) (by omega)
    unfold atDot at h0
    have ih := stGo_skip n text (s + 1) (by omega) (fun q h1 h2 => h q (by omega) (by omega))
    rw [drop_getD hlt, stGo, if_neg]
    · have e1 : (s + 1 == 0 || text.getD (s + 1 - 1) 0 == 10) = (text.getD s 0 == 10) := by simp
      rw [e1] at ih
      rw [ih, show s + 1 + n = s + (n + 1) from by omega]
      have e2 : (text.extract s (s + (n + 1))).toList = text.getD s 0 :: (text.extract (s + 1) (s + (n + 1))).toList := by
        rw [Array.toList_extract, List.extract_eq_take_drop, drop_getD hlt, show s + (n + 1) - s = n + 1 from by omega, List.take_succ_cons, Array.toList_extract, List.extract_eq_take_drop, show s + (n + 1) - (s + 1) = n from by omega]
      rw [e2]
      rfl
    · intro hJ0
      ((refine And.elim ?_ hJ0); (try clear hJ0); intro g1 g2)
      rw [g1, g2] at h0
      simp [hlt] at h0
theorem subLawA (text : Array Nat) : SubLaw codeA text [46, 46] (fun st => stGo (st == 0 || text.getD (st - 1) 0 == 10) (text.toList.drop st)) := by
  refine ⟨fun st hst => ?_⟩
  rcases searchA text st with ⟨p, h1, h2, h3, h4⟩ | ⟨h1, h2⟩
  · have hd := h2
    unfold atDot at hd
    simp only [Bool.and_eq_true, decide_eq_true_eq] at hd
    ((refine And.elim ?_ hd); (try clear hd); intro hZ1; (refine And.elim ?_ hZ1); clear hZ1; intro d1 d2 d3)
    have d3 := eq_of_beq d3
    refine .inl ⟨p, p + 1, h1, by omega, by omega, h4.mono (by omega), ?_⟩
    have := stGo_skip (p - st) text st (by omega) (fun q g1 g2 => h3 q g1 (by omega))
    rw [show st + (p - st) = p from by omega] at this
    rw [this, List.append_assoc]
    congr 1
    rw [drop_getD d2, stGo, if_pos ⟨d1, d3⟩, d3]
    have e1 : (p + 1 == 0 || text.getD (p + 1 - 1) 0 == 10) = false := by rw [show p + 1 - 1 = p from by omega, d3]; simp
    rw [e1]
    rfl
  · refine .inr ⟨h2.mono (by omega), ?_⟩
    have := stGo_skip (text.size - st) text st (by omega) (fun q g1 g2 => h1 q g1)
    rw [show st + (text.size - st) = text.size from by omega] at this
    rw [this]
    rw [List.drop_of_length_le (l := text.toList) (i := text.size) (by simp)]; simp [stGo]
/-- what quotedata sends -/
noncomputable def quoteW (l : List Nat) : List Nat := stGo true (nlGo false l)
end Mine
end
section -- X0
open PySem PySem.W PyProof.Rows PySem.StrLaws PySem.Builtin PySem.Builtin.Str
set_option maxRecDepth 100000
set_option linter.unusedVariables false
namespace Mine
noncomputable def headCons (c : Nat) : List (List Nat) → List (List Nat)
  | [] => [[c]]
  | p :: q => (c :: p) :: q
/-- the parts of a text between two signs side by side -/
noncomputable def cut2 (a b : Nat) : List Nat → List (List Nat)
  | [] => [[]]
  | [c] => [[c]]
  | c :: d :: r => if c = a ∧ d = b then [] :: cut2 a b r else headCons c (cut2 a b (d :: r))
theorem cut2_nil (a b : Nat) : cut2 a b [] = [[]] := rfl
theorem cut2_one (a b c : Nat) : cut2 a b [c] = [[c]] := rfl
theorem cut2_cons (a b c d : Nat) (r : List Nat) : cut2 a b (c :: d :: r) = if c = a ∧ d = b then [] :: cut2 a b r else headCons c (cut2 a b (d :: r)) := rfl
theorem parts_nil (x : Str) (w a : Nat) : partsFrom x w a [] = [strSub x a x.length] := rfl
theorem parts_cons (x : Str) (w a c : Nat) (r : List Nat) : partsFrom x w a (c :: r) = strSub x a c :: partsFrom x w (c + w) r := rfl
theorem at_two (x : Str) (a b k : Nat) : At x ⟨#[a, b]⟩ x.length k ↔ x.cps.toList[k]? = some a ∧ x.cps.toList[k + 1]? = some b := by
  have hn : x.cps.toList.length = x.length := by simp [Str.length]
  unfold At
  rw [subAt_eq]
  show (k + 2 ≤ x.length ∧ ((x.cps.toList.drop k).take 2 == [a, b]) = true) ↔ _
  rw [beq_iff_eq, ← hn]
  generalize x.cps.toList = L
  constructor
  · intro hJ0
    ((refine And.elim ?_ hJ0); (try clear hJ0); intro h1 h2)
    have e1 := congrArg (fun l : List Nat => l[0]?) h2
    have e2 := congrArg (fun l : List Nat => l[1]?) h2
    simp only [List.getElem?_take_of_lt (show 0 < 2 by omega), List.getElem?_take_of_lt (show 1 < 2 by omega), List.getElem?_drop] at e1 e2
    exact ⟨by simpa using e1, by simpa using e2⟩
  · intro hJ0
    ((refine And.elim ?_ hJ0); (try clear hJ0); intro h1 h2)
    have h3 := (List.getElem?_eq_some_iff.mp h2).1
    refine ⟨by omega, ?_⟩
    apply List.ext_getElem?
    intro i
    match i with
    | 0 => rw [List.getElem?_take_of_lt (by omega), List.getElem?_drop]; simpa using h1
    | 1 => rw [List.getElem?_take_of_lt (by omega), List.getElem?_drop]; simpa using h2
    | i + 2 => rw [List.getElem?_take_eq_none (by omega)]; simp
theorem sub_next (x : Str) {p c : Nat} {k : Nat} (hk : x.cps.toList[p]? = some k) (h : p < c) : (strSub x p c).cps.toList = k :: (strSub x (p + 1) c).cps.toList := by
  rw [strSub_toList, strSub_toList]
  ((refine Exists.elim (List.getElem?_eq_some_iff.mp hk) ?_); intro hl e)
  rw [List.drop_eq_getElem_cons hl, e, sub_suc h, List.take_succ_cons]
theorem parts_cut2 (x : Str) (a b : Nat) : ∀ (n p : Nat) (cuts : List Nat) (f : Nat), x.length - p ≤ n → p ≤ x.length → ChainG x ⟨#[a, b]⟩ x.length p cuts f → (∀ k, f ≤ k → ¬ At x ⟨#[a, b]⟩ x.length k) →
    (partsFrom x 2 p cuts).map (fun q => q.cps.toList) = cut2 a b (x.cps.toList.drop p) := by
  have hn : x.cps.toList.length = x.length := by simp [Str.length]
  intro n
  induction n with
  | zero =>
    intro p cuts f h1 h2 hG hN
    have hp : p = x.length := by omega
    subst hp
    cases cuts with
    | nil =>
      rw [List.drop_of_length_le (by omega)]
      simp [parts_nil, parts_cons, strSub_toList, cut2_nil, cut2_one, cut2_cons]
    | cons c r =>
      have := (at_two x a b c).mp hG.2.1
      have := (List.getElem?_eq_some_iff.mp this.1).1
      have := hG.1
      omega
  | succ n ih =>
    intro p cuts f h1 h2 hG hN
    by_cases hp : p = x.length
    · exact ih p cuts f (by omega) h2 hG hN
    have hlt : p < x.cps.toList.length := by omega
    obtain ⟨k, hk⟩ : ∃ k, x.cps.toList[p]? = some k := ⟨_, List.getElem?_eq_getElem hlt⟩
    have hd : x.cps.toList.drop p = k :: x.cps.toList.drop (p + 1) := by
      ((refine Exists.elim (List.getElem?_eq_some_iff.mp hk) ?_); intro hl e)
      rw [List.drop_eq_getElem_cons hl, e]
    by_cases hA : At x ⟨#[a, b]⟩ x.length p
    · ((refine And.elim ?_ ((at_two x a b p).mp hA)); intro e1 e2)
      have hlt2 := (List.getElem?_eq_some_iff.mp e2).1
      have hd2 : x.cps.toList.drop (p + 1) = b :: x.cps.toList.drop (p + 2) := by
        ((refine Exists.elim (List.getElem?_eq_some_iff.mp e2) ?_); intro hl e)
        rw [List.drop_eq_getElem_cons hl, e]
      have hka : k = a := by rw [hk] at e1; exact Option.some.inj e1
      cases cuts with
      | nil =>
        have e : f = p := hG
        exact absurd hA (hN p (by omega))
      | cons c r =>
        have hc : c = p := by
          have h3 := hG.1
          have h4 := hG.2.2.1
          by_cases e : c = p
          · exact e
          · exact absurd hA (h4 p (Nat.le_refl _) (by omega))
        subst hc
        have := ih (c + 2) r f (sub_two_le h1) (by omega) hG.2.2.2 hN
        rw [hd, hd2, hka, cut2_cons, if_pos ⟨rfl, rfl⟩, ← this]
        simp [parts_nil, parts_cons, strSub_toList]
    · have main : ∀ cuts f, ChainG x ⟨#[a, b]⟩ x.length (p + 1) cuts f → (∀ k, f ≤ k → ¬ At x ⟨#[a, b]⟩ x.length k) →
          cut2 a b (x.cps.toList.drop p) = headCons k ((partsFrom x 2 (p + 1) cuts).map (fun q => q.cps.toList)) := by
        intro cuts f hG hN
        rw [ih (p + 1) cuts f (sub_one_le h1) (by omega) hG hN, hd]
        cases hr : x.cps.toList.drop (p + 1) with
        | nil => simp [cut2_nil, cut2_one, cut2_cons, headCons]
        | cons d r =>
          rw [cut2_cons, if_neg]
          intro hJ0
          ((refine And.elim ?_ hJ0); (try clear hJ0); intro hZ1; replace hZ1 := Eq.symm hZ1; obtain rfl := hZ1; intro hZ2; replace hZ2 := Eq.symm hZ2; obtain rfl := hZ2)
          refine hA ((at_two x _ _ p).mpr ⟨hk, ?_⟩)
          have := congrArg (fun l : List Nat => l[0]?) hr
          simpa [List.getElem?_drop] using this
      cases cuts with
      | nil =>
        rw [main [] (p + 1) rfl (fun q hq => hN q (by have e : f = p := hG; omega))]
        simp only [parts_nil, parts_cons, List.map_cons, List.map_nil, headCons]
        rw [sub_next x hk (by omega)]
      | cons c r =>
        have hpc : p < c := by
          have h3 := hG.1
          have h4 := hG.2.1
          by_cases e : c = p
          · (replace e := Eq.symm e; obtain rfl := e); exact absurd h4 hA
          · omega
        rw [main (c :: r) f ⟨by omega, hG.2.1, fun q h5 h6 => hG.2.2.1 q (by omega) h6, hG.2.2.2⟩ hN]
        simp only [parts_nil, parts_cons, List.map_cons, headCons]
        rw [sub_next x hk hpc]
theorem kind_one {y : Str} (h : y.cps.all (· < 256) = true) (x : Str) : ¬ PySem.Builtin.Str.strKind x < PySem.Builtin.Str.strKind y := by
  have : PySem.Builtin.Str.strKind y = 1 := by unfold PySem.Builtin.Str.strKind; rw [if_pos h]
  rw [this]
  unfold PySem.Builtin.Str.strKind
  split
  · omega
  · split <;> omega
theorem split_cut2 (x : Str) (a b : Nat) (ha : a < 256) (hb : b < 256) : (Txt.split x ⟨#[a, b]⟩).map (fun q => q.cps.toList) = cut2 a b x.cps.toList := by
  have hn : x.cps.toList.length = x.length := by simp [Str.length]
  ((refine Exists.elim (occ_tight x ⟨#[a, b]⟩ (by show 1 ≤ 2; decide)) ?_); intro f; intro hZ1; (refine And.elim ?_ hZ1); clear hZ1; intro hG hN)
  have key := parts_cut2 x a b x.length 0 _ f (by omega) (Nat.zero_le _) hG hN
  rw [List.drop_zero] at key
  have hk := kind_one (y := ⟨#[a, b]⟩) (by simp [ha, hb]) x
  rw [← key]
  unfold Txt.split
  split
  · rename_i hc
    rw [Bool.or_eq_true, decide_eq_true_eq, decide_eq_true_eq] at hc
    have hlt : x.length < 2 := hc.resolve_right hk
    cases ho : occurrences x ⟨#[a, b]⟩ 0 x.length (x.length + 1) with
    | nil => simp [parts_nil, parts_cons, sub_whole]
    | cons i r =>
      rw [ho] at hG
      have := hG.2.1.1
      have e : (⟨#[a, b]⟩ : Str).length = 2 := rfl
      omega
  · split
    · rename_i he
      rw [List.isEmpty_iff.mp he]
      simp [parts_nil, parts_cons, sub_whole]
    · rw [partsBetween_eq]; rfl
theorem replace_cut2 (x : Str) (a b : Nat) : (Txt.replace x ⟨#[a, b]⟩ ⟨#[]⟩).cps.toList = (cut2 a b x.cps.toList).flatten := by
  ((refine Exists.elim (occ_tight x ⟨#[a, b]⟩ (by show 1 ≤ 2; decide)) ?_); intro f; intro hZ1; (refine And.elim ?_ hZ1); clear hZ1; intro hG hN)
  have key := parts_cut2 x a b x.length 0 _ f (by omega) (Nat.zero_le _) hG hN
  rw [List.drop_zero] at key
  have hj : ∀ ps : List Str, (Str.join ⟨#[]⟩ ps).cps.toList = (ps.map (fun q => q.cps.toList)).flatten := by
    intro ps
    induction ps with
    | nil => rfl
    | cons p q ih =>
      cases q with
      | nil => simp [Str.join]
      | cons q r =>
        show (p ++ ⟨#[]⟩ ++ Str.join ⟨#[]⟩ (q :: r)).cps.toList = _
        simp only [Str.cps_append, Array.toList_append, ih]
        simp
  rw [← key]
  unfold Txt.replace
  split
  · rename_i hc
    have h10 : ((⟨#[a, b]⟩ : Str).length == 0) = false := rfl
    rw [h10, Bool.false_and, Bool.or_false] at hc
    rw [List.isEmpty_iff.mp hc]
    simp [parts_nil, parts_cons, sub_whole]
  · rw [glued_eq_join, partsBetween_eq, hj]; rfl
end Mine
end
section -- Z1
open PySem PySem.W PyProof.Rows PySem.StrLaws PySem.Builtin PySem.Builtin.Str
set_option maxRecDepth 100000
set_option linter.unusedVariables false
namespace Mine
/-- what is typed ahead of a sign -/
noncomputable def mkT (k u : Nat) : List Nat := match k with
  | 1 => [92, u, 41] | 2 => [92, 34] | 3 => [u] | 4 => [34, 40, 34] | 5 => [34, 92, u, 34, 41, 34] | 6 => [u, 34, 41, 92, 92, 34] | 7 => [34, 34] | _ => []
noncomputable def mkS (k : Nat) : List Nat := match k with
  | 1 => [92, 41] | 2 => [92, 34] | 4 => [34, 40, 34] | 5 => [34, 92, 34, 41, 34] | 6 => [34, 41, 92, 92, 34] | 7 => [34, 34] | _ => []
noncomputable def mkL (k : Nat) : List Nat := match k with
  | 1 => [92, 41] | 2 => [92, 34] | _ => []
theorem mkT_eq (u : Nat) : mkT 0 u = [] ∧ mkT 1 u = [92, u, 41] ∧ mkT 2 u = [92, 34] ∧ mkT 3 u = [u] ∧ mkT 4 u = [34, 40, 34] ∧ mkT 5 u = [34, 92, u, 34, 41, 34] ∧ mkT 6 u = [u, 34, 41, 92, 92, 34] ∧ mkT 7 u = [34, 34] := ⟨rfl, rfl, rfl, rfl, rfl, rfl, rfl, rfl⟩
theorem mkS_eq : mkS 0 = [] ∧ mkS 1 = [92, 41] ∧ mkS 2 = [92, 34] ∧ mkS 3 = [] ∧ mkS 4 = [34, 40, 34] ∧ mkS 5 = [34, 92, 34, 41, 34] ∧ mkS 6 = [34, 41, 92, 92, 34] ∧ mkS 7 = [34, 34] := ⟨rfl, rfl, rfl, rfl, rfl, rfl, rfl, rfl⟩
theorem mkL_eq : mkL 0 = [] ∧ mkL 1 = [92, 41] ∧ mkL 2 = [92, 34] ∧ mkL 3 = [] ∧ mkL 4 = [] ∧ mkL 5 = [] ∧ mkL 6 = [] ∧ mkL 7 = [] := ⟨rfl, rfl, rfl, rfl, rfl, rfl, rfl, rfl⟩
structure Blk where
  k : Nat
  u : Nat
  c : Nat
noncomputable def typedL (bs : List Blk) : List Nat := bs.flatMap fun b => mkT b.k b.u ++ [b.c]
noncomputable def seenL (bs : List Blk) : List Nat := bs.flatMap fun b => mkS b.k ++ [b.c]
noncomputable def leftL (bs : List Blk) : List Nat := bs.flatMap fun b => mkL b.k ++ [b.c]
noncomputable def plainL (bs : List Blk) : List Nat := bs.map Blk.c
noncomputable def signOk (c : Nat) : Prop := c ≠ 34 ∧ c ≠ 92 ∧ c ∉ b1L
noncomputable def BlkOk (b : Blk) : Prop := b.k < 8 ∧ b.u ∈ b1L ∧ signOk b.c
noncomputable def inB1 (c : Nat) : Bool := b1S (c : Int)
theorem inB1_iff (c : Nat) : inB1 c = decide (c ∈ b1L) := by
  unfold inB1 b1S
  refine decide_eq_decide.mpr ?_
  rw [List.mem_map]
  constructor
  · intro hJ0
    ((refine Exists.elim hJ0 ?_); (try clear hJ0); intro a; intro hZ1; (refine And.elim ?_ hZ1); clear hZ1; intro ha e)
    have : a = c := by have : (a : Int) = (c : Int) := e; omega
    exact this ▸ ha
  · intro h; exact ⟨c, h, rfl⟩
theorem lt8 {P : Nat → Prop} (h0 : P 0) (h1 : P 1) (h2 : P 2) (h3 : P 3) (h4 : P 4) (h5 : P 5) (h6 : P 6) (h7 : P 7) {k : Nat} (hk : k < 8) : P k := by
  have := lt_of_eight hk
  rcases this with rfl | rfl | rfl | rfl | rfl | rfl | rfl | rfl <;> assumption
theorem mkT_len (k u : Nat) : (mkT k u).length ≤ 6 := by
  by_cases hk : k < 8
  · exact lt8 (P := fun k => (mkT k u).length ≤ 6) (Nat.le_of_ble_eq_true rfl) (Nat.le_of_ble_eq_true rfl) (Nat.le_of_ble_eq_true rfl) (Nat.le_of_ble_eq_true rfl) (Nat.le_of_ble_eq_true rfl) (Nat.le_of_ble_eq_true rfl) (Nat.le_of_ble_eq_true rfl) (Nat.le_of_ble_eq_true rfl) hk
  · obtain ⟨n, rfl⟩ := Nat.exists_eq_add_of_le (Nat.le_of_not_lt hk)
    rw [Nat.add_comm]; exact Nat.zero_le 6
theorem mkL_len (k : Nat) : (mkL k).length ≤ 2 := by
  by_cases hk : k < 8
  · exact lt8 (P := fun k => (mkL k).length ≤ 2) (Nat.le_of_ble_eq_true rfl) (Nat.le_of_ble_eq_true rfl) (Nat.le_of_ble_eq_true rfl) (Nat.le_of_ble_eq_true rfl) (Nat.le_of_ble_eq_true rfl) (Nat.le_of_ble_eq_true rfl) (Nat.le_of_ble_eq_true rfl) (Nat.le_of_ble_eq_true rfl) hk
  · obtain ⟨n, rfl⟩ := Nat.exists_eq_add_of_le (Nat.le_of_not_lt hk)
    rw [Nat.add_comm]; exact Nat.zero_le 2
theorem seen_filter : ∀ bs : List Blk, (∀ b ∈ bs, BlkOk b) → (typedL bs).filter (fun c => ! inB1 c) = seenL bs
  | [], _ => rfl
  | b :: r, h => by
    have ih := seen_filter r fun q hq => h q (.tail _ hq)
    ((refine Mine.and5 (h b (.head _)) ?_); intro hk hu; intro hZ1; obtain - := hZ1; intro hZ2; obtain - := hZ2; intro hc)
    have e1 : inB1 b.u = true := by rw [inB1_iff]; exact decide_eq_true hu
    have e2 : inB1 b.c = false := by rw [inB1_iff]; exact decide_eq_false hc
    have e34 : inB1 34 = false := by decide
    have e40 : inB1 40 = false := by decide
    have e41 : inB1 41 = false := by decide
    have e92 : inB1 92 = false := by decide
    rw [typedL, seenL, List.flatMap_cons, List.flatMap_cons, List.filter_append, List.filter_append]
    rw [show (r.flatMap fun b => mkT b.k b.u ++ [b.c]) = typedL r from rfl, ih, show (r.flatMap fun b => mkS b.k ++ [b.c]) = seenL r from rfl]
    congr 1
    congr 1
    · obtain ⟨k, u, c⟩ := b
      dsimp only at hk e1 ⊢
      revert e1
      refine lt8 (P := fun k => inB1 u = true → (mkT k u).filter (fun c => ! inB1 c) = mkS k) ?_ ?_ ?_ ?_ ?_ ?_ ?_ ?_ hk <;> intro e1 <;> simp [mkT_eq, mkS_eq, e1, e34, e40, e41, e92]
    · simp [e2]
/-- tokens, without their places -/
noncomputable def tkl : List Nat → Bool → List (List Nat)
  | [], _ => []
  | c :: r, true => [92, c] :: tkl r false
  | c :: r, false => if c = 92 then tkl r true else [c] :: tkl r false
theorem toks_tkl : ∀ (l : List Nat) (p : Nat) (e : Bool), (toks l p e).map (·.2) = tkl l e
  | [], _, _ => by simp [toks, tkl]
  | c :: r, p, true => by simp [toks, tkl, toks_tkl r]
  | c :: r, p, false => by
    rw [toks, tkl]
    split
    · exact toks_tkl r _ _
    · simp [toks_tkl r]
theorem tkl_append : ∀ (a b : List Nat) (e : Bool), tkl (a ++ b) e = tkl a e ++ tkl b (escEnd a e)
  | [], _, _ => rfl
  | c :: r, b, true => by rw [List.cons_append, tkl, tkl, escEnd, tkl_append r b false]; rfl
  | c :: r, b, false => by
    rw [List.cons_append, tkl, tkl, escEnd]
    by_cases h : c = 92
    · rw [if_pos h, if_pos h, tkl_append r b true, show (c == 92) = true from by simp [h]]
    · rw [if_neg h, if_neg h, tkl_append r b false, show (c == 92) = false from beq_false_of_ne h]; rfl
theorem escEnd_append : ∀ (a b : List Nat) (e : Bool), escEnd (a ++ b) e = escEnd b (escEnd a e)
  | [], _, _ => rfl
  | c :: r, b, true => by rw [List.cons_append, escEnd, escEnd, escEnd_append r b false]
  | c :: r, b, false => by rw [List.cons_append, escEnd, escEnd, escEnd_append r b _]
theorem tkl_flat : ∀ (l : List Nat) (e : Bool), escEnd l e = false → (tkl l e).flatten = (if e = true then [92] else []) ++ l
  | [], true, h => by cases h
  | [], false, h => by rfl
  | c :: r, true, h => by rw [tkl, List.flatten_cons, tkl_flat r false h]; rfl
  | c :: r, false, h => by
    rw [escEnd] at h
    rw [tkl]
    by_cases hc : c = 92
    · rw [if_pos hc]
      rw [show (c == 92) = true from by simp [hc]] at h
      rw [tkl_flat r true h, hc]; rfl
    · rw [if_neg hc]
      rw [show (c == 92) = false from beq_false_of_ne hc] at h
      rw [List.flatten_cons, tkl_flat r false h]; rfl
/-- what is left when quotations go -/
noncomputable def unqS (st : Bool × List Nat) (t : List Nat) : Bool × List Nat := if t = [34] then (! st.1, st.2) else if st.1 then st else (st.1, st.2 ++ t)
noncomputable def unqF (l : List (List Nat)) : Bool × List Nat := l.foldl unqS (false, [])
theorem unq_from (l : List (List Nat)) : ∀ (q : Bool) (a b : List Nat), l.foldl unqS (q, a ++ b) = ((l.foldl unqS (q, b)).1, a ++ (l.foldl unqS (q, b)).2) := by
  induction l with
  | nil => intro q a b; rfl
  | cons t r ih =>
    intro q a b
    simp only [List.foldl_cons, unqS]
    by_cases h : t = [34]
    · simp only [h, if_true]; exact ih _ _ _
    · simp only [if_neg h]
      cases q with
      | true => exact ih _ _ _
      | false => simp only [Bool.false_eq_true, if_false, List.append_assoc]; exact ih _ _ _
theorem esc_blk {k c : Nat} (hk : k < 8) (hc : c ≠ 92) : escEnd (mkS k ++ [c]) false = false ∧ escEnd (mkL k ++ [c]) false = false := by
  refine lt8 (P := fun k => escEnd (mkS k ++ [c]) false = false ∧ escEnd (mkL k ++ [c]) false = false) ?_ ?_ ?_ ?_ ?_ ?_ ?_ ?_ hk <;> simp [mkS_eq, mkL_eq, escEnd, hc]
theorem unq_blk {k c : Nat} (hk : k < 8) (h1 : c ≠ 34) (h2 : c ≠ 92) : unqF (tkl (mkS k ++ [c]) false) = (false, mkL k ++ [c]) := by
  refine lt8 (P := fun k => unqF (tkl (mkS k ++ [c]) false) = (false, mkL k ++ [c])) ?_ ?_ ?_ ?_ ?_ ?_ ?_ ?_ hk <;> simp [mkS_eq, mkL_eq, tkl, unqF, unqS, h1, h2]
theorem esc_seen : ∀ bs : List Blk, (∀ b ∈ bs, BlkOk b) → escEnd (seenL bs) false = false
  | [], _ => rfl
  | b :: r, h => by
    ((refine Mine.hideG fun G kG => ?_); (refine Mine.and5 (h b (.head _)) ?_); intro hk; intro hZ1; obtain - := hZ1; intro hZ2; obtain - := hZ2; intro h92; intro hZ3; obtain - := hZ3; (refine kG ?_); clear kG G)
    rw [seenL, List.flatMap_cons, escEnd_append, (esc_blk hk h92).1]
    exact esc_seen r fun q hq => h q (.tail _ hq)
theorem esc_left : ∀ bs : List Blk, (∀ b ∈ bs, BlkOk b) → escEnd (leftL bs) false = false
  | [], _ => rfl
  | b :: r, h => by
    ((refine Mine.hideG fun G kG => ?_); (refine Mine.and5 (h b (.head _)) ?_); intro hk; intro hZ1; obtain - := hZ1; intro hZ2; obtain - := hZ2; intro h92; intro hZ3; obtain - := hZ3; (refine kG ?_); clear kG G)
    rw [leftL, List.flatMap_cons, escEnd_append, (esc_blk hk h92).2]
    exact esc_left r fun q hq => h q (.tail _ hq)
theorem unq_seen : ∀ bs : List Blk, (∀ b ∈ bs, BlkOk b) → unqF (tkl (seenL bs) false) = (false, leftL bs)
  | [], _ => rfl
  | b :: r, h => by
    ((refine Mine.and5 (h b (.head _)) ?_); intro hk; intro hZ1; obtain - := hZ1; intro h34 h92; intro hZ2; obtain - := hZ2)
    have ih := unq_seen r fun q hq => h q (.tail _ hq)
    have hb := unq_blk hk h34 h92
    rw [seenL, List.flatMap_cons, tkl_append, (esc_blk hk h92).1, unqF, List.foldl_append, show List.foldl unqS (false, []) (tkl (mkS b.k ++ [b.c]) false) = _ from hb]
    have e := unq_from (tkl (seenL r) false) false (mkL b.k ++ [b.c]) []
    rw [List.append_nil, show List.foldl unqS (false, []) (tkl (seenL r) false) = _ from ih] at e
    exact e
end Mine
end
section -- Z2
open PySem PySem.W PyProof.Rows PySem.StrLaws PySem.Builtin PySem.Builtin.Str
set_option maxRecDepth 100000
set_option linter.unusedVariables false
namespace Mine
noncomputable def KS1 (L : List Nat) (st : SS) (p : Nat) : List Nat := (st.res.map fun q => q.cps.toList).flatten ++ (L.drop st.start).take (st.opn.getD p - st.start)
noncomputable def InvS (st : SS) (p : Nat) : Prop := st.start ≤ st.opn.getD p ∧ st.opn.getD p ≤ p
theorem take_more {L : List Nat} {a p c : Nat} (h : a ≤ p) (hc : L[p]? = some c) : (L.drop a).take (p + 1 - a) = (L.drop a).take (p - a) ++ [c] := by
  rw [show p + 1 - a = p - a + 1 from by omega, List.take_add_one, List.getElem?_drop, show a + (p - a) = p from by omega, hc]; rfl
theorem strip_main (x : Str) : ∀ (l : List Nat) (p : Nat) (e : Bool) (st : SS), x.cps.toList.drop p = l → p ≤ x.length → (e = true → 1 ≤ p ∧ x.cps.toList[p - 1]? = some 92) → InvS st (if e = true then p - 1 else p) → escEnd l e = false →
    InvS ((toks l p e).foldl (stripStep x) st) x.length ∧ (tkl l e).foldl unqS (st.opn.isSome, KS1 x.cps.toList st (if e = true then p - 1 else p)) = (((toks l p e).foldl (stripStep x) st).opn.isSome, KS1 x.cps.toList ((toks l p e).foldl (stripStep x) st) x.length) := by
  have hn : x.cps.toList.length = x.length := by simp [Str.length]
  intro l
  induction l with
  | nil =>
    intro p e st hd hp he hI hE
    cases e with
    | true => cases hE
    | false =>
      have : p = x.length := by
        have := congrArg List.length hd
        simp only [List.length_drop, List.length_nil] at this
        omega
      subst this
      exact ⟨hI, rfl⟩
  | cons c r ih =>
    intro p e st hd hp he hI hE
    have hlt : p < x.cps.toList.length := by
      have := congrArg List.length hd
      simp only [List.length_drop, List.length_cons] at this
      omega
    have hc : x.cps.toList[p]? = some c := by
      have := congrArg (fun l : List Nat => l[0]?) hd
      simpa [List.getElem?_drop] using this
    have hr : x.cps.toList.drop (p + 1) = r := by
      have h1 := List.drop_eq_getElem_cons hlt
      rw [hd] at h1
      exact (List.cons.inj h1).2.symm
    cases e with
    | true =>
      ((refine And.elim ?_ (he rfl)); intro h1 h92)
      rw [if_pos rfl] at hI ⊢
      have hs : stripStep x st (p, [92, c]) = st := if_neg (by simp)
      rw [toks, tkl, List.foldl_cons, List.foldl_cons, hs]
      have hI' : InvS st (if false = true then p + 1 - 1 else p + 1) := by
        rw [if_neg Bool.false_ne_true]
        ((refine And.elim ?_ hI); (try clear hI); intro q1 q2)
        unfold InvS
        cases ho : st.opn with
        | none => rw [ho] at q1 q2; simp at q1 q2 ⊢; omega
        | some o => rw [ho] at q1 q2; simp at q1 q2 ⊢; omega
      have key := ih (p + 1) false st hr (by omega) (fun q => nomatch q) hI' hE
      rw [if_neg Bool.false_ne_true] at key
      refine ⟨key.1, ?_⟩
      rw [← key.2]
      congr 1
      ((refine And.elim ?_ hI); (try clear hI); intro q1 q2)
      unfold unqS KS1
      cases ho : st.opn with
      | none =>
        rw [ho] at q1 q2
        simp only [Option.getD_none] at q1 q2 ⊢
        have e1 := take_more q1 h92
        rw [show p - 1 + 1 = p from by omega] at e1
        have e2 := take_more (L := x.cps.toList) (a := st.start) (p := p) (c := c) (by omega) hc
        rw [if_neg (by simp), e2, e1]
        simp
      | some o => simp
    | false =>
      rw [if_neg Bool.false_ne_true] at hI ⊢
      rw [toks, tkl]
      rw [escEnd] at hE
      by_cases h92 : c = 92
      · rw [if_pos h92, if_pos h92]
        rw [show (c == 92) = true from by simp [h92]] at hE
        have key := ih (p + 1) true st hr (by omega) (fun _ => ⟨by omega, by rw [show p + 1 - 1 = p from rfl, hc, h92]⟩) (by rw [if_pos rfl]; exact hI) hE
        rw [if_pos rfl] at key
        exact key
      · rw [if_neg h92, if_neg h92]
        rw [show (c == 92) = false from beq_false_of_ne h92] at hE
        rw [List.foldl_cons, List.foldl_cons]
        ((refine And.elim ?_ hI); (try clear hI); intro q1 q2)
        have hI2 : InvS (stripStep x st (p, [c])) (if false = true then p + 1 - 1 else p + 1) := by
          rw [if_neg Bool.false_ne_true]
          unfold stripStep InvS
          split
          · cases ho : st.opn with
            | none => rw [ho] at q1 q2; simp at q1 q2 ⊢; omega
            | some o => simp
          · cases ho : st.opn with
            | none => rw [ho] at q1 q2; simp at q1 q2 ⊢; omega
            | some o => rw [ho] at q1 q2; simp at q1 q2 ⊢; omega
        have key := ih (p + 1) false _ hr (by omega) (fun q => nomatch q) hI2 hE
        rw [if_neg Bool.false_ne_true] at key
        refine ⟨key.1, ?_⟩
        rw [← key.2]
        congr 1
        unfold unqS stripStep KS1
        by_cases h34 : c = 34
        · subst h34
          rw [if_pos rfl, if_pos rfl]
          cases ho : st.opn with
          | none => simp [ho]
          | some o =>
            rw [ho] at q1 q2
            simp only [Option.getD_some] at q1 q2
            have hsl : (sliceN x st.start o).cps.toList = (x.cps.toList.drop st.start).take (o - st.start) := by
              unfold sliceN
              rw [sl_ss (by omega) (by omega) (by omega)]
              simp only [List.toList_toArray, Int.toNat_natCast]
              congr 1
              omega
            by_cases hso : st.start = o
            · simp [hso]
            · simp [hso, hsl]
        · have e0 : ¬ ([c] = [34]) := by simpa using h34
          simp only [if_neg e0]
          cases ho : st.opn with
          | none =>
            rw [ho] at q1 q2
            simp only [Option.getD_none] at q1 q2 ⊢
            have e2 := take_more (L := x.cps.toList) (a := st.start) (p := p) (c := c) (by omega) hc
            rw [e2]
            simp
          | some o => simp
theorem join_nil_cps (ys : List Str) : (Txt.join (Str.ofString "") ys).cps.toList = (ys.map fun q => q.cps.toList).flatten := by
  have e2 : Str.ofString "" = ⟨#[]⟩ := by decide +kernel
  have hj : ∀ ps : List Str, (Str.join ⟨#[]⟩ ps).cps.toList = (ps.map (fun q => q.cps.toList)).flatten := by
    intro ps
    induction ps with
    | nil => rfl
    | cons p q ih =>
      cases q with
      | nil => simp [Str.join]
      | cons q r =>
        show (p ++ ⟨#[]⟩ ++ Str.join ⟨#[]⟩ (q :: r)).cps.toList = _
        simp only [Str.cps_append, Array.toList_append, ih]
        simp
  unfold Txt.join
  rw [glued_eq_join, e2, hj]
theorem strip_unq {x : Str} {l : List Nat} (hE : escEnd x.cps.toList false = false) (h : unqF (tkl x.cps.toList false) = (false, l)) : (stripOf x).cps.toList = l := by
  have hn : x.cps.toList.length = x.length := by simp [Str.length]
  have key := strip_main x x.cps.toList 0 false ⟨0, none, []⟩ rfl (Nat.zero_le _) (fun q => nomatch q) ⟨Nat.zero_le _, Nat.zero_le _⟩ hE
  by_cases h34 : 34 ∈ x.cps.toList
  · rw [show stripOf x = _ from if_pos h34, join_nil_cps]
    have e1 : stripFold x (toks x.cps.toList 0 false).length = (toks x.cps.toList 0 false).foldl (stripStep x) ⟨0, none, []⟩ := by
      unfold stripFold; rw [List.take_length]
    unfold stripRes
    rw [e1]
    generalize (toks x.cps.toList 0 false).foldl (stripStep x) ⟨0, none, []⟩ = st at key
    ((refine And.elim ?_ key); (try clear key); intro hZ1; (refine And.elim ?_ hZ1); clear hZ1; intro k1 k2 k3)
    have e2 : (tkl x.cps.toList false).foldl unqS (false, []) = (st.opn.isSome, KS1 x.cps.toList st x.length) := by
      rw [← k3]; rfl
    rw [show (tkl x.cps.toList false).foldl unqS (false, []) = _ from h, Prod.mk.injEq] at e2
    ((refine And.elim ?_ e2); (try clear e2); intro a1 a2)
    cases ho : st.opn with
    | some o => rw [ho] at a1; cases a1
    | none =>
      rw [a2]
      unfold KS1
      rw [ho] at k1 k2 ⊢
      simp only [Option.getD_none] at k1 k2 ⊢
      rw [List.take_of_length_le (by rw [List.length_drop]; omega)]
      by_cases hs : st.start < x.length
      · simp only [hs, if_true, List.map_append, List.flatten_append, List.map_cons, List.map_nil, List.flatten_cons, List.flatten_nil, List.append_nil]
        rw [sl_sn (by omega) (by omega)]
        simp
      · simp only [hs, if_false]
        rw [List.drop_of_length_le (by omega)]
        simp
  · rw [show stripOf x = x from if_neg h34]
    have : ∀ (l : List Nat) (e : Bool) (a : List Nat), 34 ∉ l → (tkl l e).foldl unqS (false, a) = (false, a ++ (tkl l e).flatten) := by
      intro l
      induction l with
      | nil => intro e a _; cases e <;> simp [tkl]
      | cons c r ih =>
        intro e a hm
        have h1 : ¬ c = 34 := fun q => hm (q ▸ List.mem_cons_self ..)
        have h2 : 34 ∉ r := fun q => hm (.tail _ q)
        cases e with
        | true =>
          rw [tkl, List.foldl_cons, List.flatten_cons]
          have : unqS (false, a) [92, c] = (false, a ++ [92, c]) := by simp [unqS]
          rw [this, ih _ _ h2, List.append_assoc]
        | false =>
          rw [tkl]
          split
          · exact ih _ _ h2
          · rw [List.foldl_cons, List.flatten_cons]
            have : unqS (false, a) [c] = (false, a ++ [c]) := by simp [unqS, h1]
            rw [this, ih _ _ h2, List.append_assoc]
    have e3 := this x.cps.toList false [] h34
    rw [show (tkl x.cps.toList false).foldl unqS (false, []) = _ from h, tkl_flat _ _ hE] at e3
    simpa using (Prod.mk.inj e3).2.symm
/-- stripping what is seen -/
theorem strip_seen {bs : List Blk} (h : ∀ b ∈ bs, BlkOk b) {x : Str} (hx : x.cps.toList = seenL bs) : (stripOf x).cps.toList = leftL bs :=
  strip_unq (by rw [hx]; exact esc_seen bs h) (by rw [hx]; exact unq_seen bs h)
/-- a balance over tokens -/
noncomputable def balT (l : List (List Nat)) : Int := l.foldl (fun o t => if t = [40] then o + 1 else if t = [41] then o - 1 else o) 0
theorem balT_from (l : List (List Nat)) : ∀ z : Int, l.foldl (fun o t => if t = [40] then o + 1 else if t = [41] then o - 1 else o) z = z + balT l := by
  unfold balT
  induction l with
  | nil => intro z; simp
  | cons c r ih =>
    intro z
    simp only [List.foldl_cons]
    rw [ih, ih (if c = [40] then 0 + 1 else if c = [41] then 0 - 1 else 0)]
    split
    · omega
    · split <;> omega
theorem balT_append (a b : List (List Nat)) : balT (a ++ b) = balT a + balT b := by
  rw [balT, List.foldl_append, balT_from]; rfl
theorem opensAt_balT (y : Str) (j : Nat) : opensAt y j = balT ((tkl y.cps.toList false).take j) := by
  unfold opensAt
  rw [← toks_tkl _ 0, ← List.map_take, balT, List.foldl_map]
theorem tkl_blk {k c : Nat} (hk : k < 8) (h2 : c ≠ 92) : tkl (mkL k ++ [c]) false = [[c]] ∨ tkl (mkL k ++ [c]) false = [[92, 41], [c]] ∨ tkl (mkL k ++ [c]) false = [[92, 34], [c]] := by
  refine lt8 (P := fun k => tkl (mkL k ++ [c]) false = [[c]] ∨ tkl (mkL k ++ [c]) false = [[92, 41], [c]] ∨ tkl (mkL k ++ [c]) false = [[92, 34], [c]]) ?_ ?_ ?_ ?_ ?_ ?_ ?_ ?_ hk <;> simp [mkL_eq, tkl, h2]
theorem balT_one (c : Nat) : balT [[c]] = bal [c] := by simp [balT, bal]
theorem bal_cons (c : Nat) (l : List Nat) : bal (c :: l) = bal [c] + bal l := bal_append [c] l
theorem left_bal : ∀ bs : List Blk, (∀ b ∈ bs, BlkOk b) → balT (tkl (leftL bs) false) = bal (plainL bs) ∧ ∀ j, ∃ i, balT ((tkl (leftL bs) false).take j) = bal ((plainL bs).take i)
  | [], _ => ⟨rfl, fun j => ⟨0, by simp [leftL, tkl, plainL]; rfl⟩⟩
  | b :: r, h => by
    ((refine Mine.and5 (h b (.head _)) ?_); intro hk; intro hZ1; obtain - := hZ1; intro h34 h92; intro hZ2; obtain - := hZ2)
    have ih := left_bal r fun q hq => h q (.tail _ hq)
    have e : tkl (leftL (b :: r)) false = tkl (mkL b.k ++ [b.c]) false ++ tkl (leftL r) false := by
      rw [leftL, List.flatMap_cons, tkl_append, (esc_blk hk h92).2]; rfl
    have hp : plainL (b :: r) = b.c :: plainL r := rfl
    have hz1 : balT [[92, 41]] = 0 := by decide
    have hz2 : balT [[92, 34]] = 0 := by decide
    have b0 : balT [] = 0 := rfl
    have b1 : bal [] = 0 := rfl
    rw [e, hp]
    have two : ∀ t, balT [t] = 0 → (∀ j, ∃ i, balT ((t :: [b.c] :: tkl (leftL r) false).take j) = bal ((b.c :: plainL r).take i)) := by
      intro t ht j
      match j with
      | 0 => exact ⟨0, rfl⟩
      | 1 => exact ⟨0, ht⟩
      | j + 2 =>
        ((refine Exists.elim (ih.2 j) ?_); intro i hi)
        refine ⟨i + 1, ?_⟩
        rw [List.take_succ_cons, List.take_succ_cons, List.take_succ_cons, bal_cons, ← hi, show t :: [b.c] :: List.take j (tkl (leftL r) false) = [t] ++ ([[b.c]] ++ List.take j (tkl (leftL r) false)) from rfl, balT_append, balT_append, ht, balT_one]
        omega
    rcases tkl_blk hk h92 with e1 | e1 | e1
    · rw [e1]
      refine ⟨by rw [balT_append, balT_one, ih.1]; exact (bal_cons _ _).symm, fun j => ?_⟩
      cases j with
      | zero => exact ⟨0, rfl⟩
      | succ j =>
        ((refine Exists.elim (ih.2 j) ?_); intro i hi)
        refine ⟨i + 1, ?_⟩
        rw [List.take_succ_cons, bal_cons, ← hi, List.singleton_append, List.take_succ_cons, show [b.c] :: List.take j (tkl (leftL r) false) = [[b.c]] ++ List.take j (tkl (leftL r) false) from rfl, balT_append, balT_one]
    · rw [e1]
      refine ⟨?_, two _ hz1⟩
      rw [show ([[92, 41], [b.c]] : List (List Nat)) = [[92, 41]] ++ [[b.c]] from rfl, balT_append, balT_append, hz1, balT_one, ih.1]; have := bal_cons b.c (plainL r); omega
    · rw [e1]
      refine ⟨?_, two _ hz2⟩
      rw [show ([[92, 34], [b.c]] : List (List Nat)) = [[92, 34]] ++ [[b.c]] from rfl, balT_append, balT_append, hz2, balT_one, ih.1]; have := bal_cons b.c (plainL r); omega
theorem check_seen {bs : List Blk} (h : ∀ b ∈ bs, BlkOk b) {x : Str} (hx : x.cps.toList = seenL bs) (h0 : bal (plainL bs) = 0) (h1 : ∀ j, 0 ≤ bal ((plainL bs).take j)) : checkOf x = true := by
  unfold checkOf
  have hs := strip_seen h hx
  rw [decide_eq_true_eq]
  have hl : (toks (stripOf x).cps.toList 0 false).length = (tkl (stripOf x).cps.toList false).length := by rw [← toks_tkl _ 0, List.length_map]
  ((refine And.elim ?_ (left_bal bs h)); intro g1 g2)
  refine ⟨fun j _ => ?_, ?_⟩
  · rw [opensAt_balT, hs]
    ((refine Exists.elim (g2 j) ?_); intro i hi)
    rw [hi]; exact h1 i
  · rw [opensAt_balT, hl, List.take_length, hs, g1, h0]
end Mine
end
section -- H0
open PySem PySem.W PyProof.Rows
set_option maxRecDepth 100000
namespace Mine
theorem zoff_H0 : True := by
  w_top off
  k_with_none
  k_with "Hid" => (refine Mine.Hid.go (by with_reducible assumption) ?_)
  k_with "execs cons" => ((fail_if_success (with_reducible refine Mine.isHid ?_)); (refine Mine.hideQ fun _ _ => ?_))
  k_with "exec Assign" => ((fail_if_success (with_reducible refine Mine.isHid ?_)); (refine Mine.hideQ fun _ _ => ?_))
  k_with "exec Expr" => ((fail_if_success (with_reducible refine Mine.isHid ?_)); (refine Mine.hideQ fun _ _ => ?_))
  k_with "exec Return" => ((fail_if_success (with_reducible refine Mine.isHid ?_)); (refine Mine.hideQ fun _ _ => ?_))
  k_with "exec AugAssign" => ((fail_if_success (with_reducible refine Mine.isHid ?_)); (refine Mine.hideQ fun _ _ => ?_))
  k_with "exec If" => ((fail_if_success (with_reducible refine Mine.isHid ?_)); (refine Mine.hideQ fun _ _ => ?_))
  trivial
theorem isPat_of {K : Frag} {h : Heap} (X : K.In h) {a c : Addr} {v0 v1 : Value} {sl sl' : Array (Option Value)} {items : Array Value} {n : Nat} {code : Array Nat}
    (h1 : K.lookup a = some ⟨.type "re.Pattern", none, .fields #[v0, v1, .int 0 0, .none, .none, .ref c, .int 0 0], sl⟩)
    (h2 : K.lookup c = some ⟨.type "tuple", none, .seq items n, sl'⟩) (hc : (items.map PySem.Builtin.Re.reRawOf).map (·.toNat) = code) : IsPat h a code :=
  ⟨_, v0, v1, c, _, items, n, X _ _ h1, rfl, rfl, rfl, X _ _ h2, rfl, hc⟩
theorem pats (w : World) {h : Heap} (X : (KX w.params).In h) : IsPat h 43 codeA ∧ IsPat h 48 codeB ∧ IsPat h 99 codeName ∧ IsPat h 104 codeValue :=
  ⟨isPat_of X (a := 43) (c := 42) rfl rfl (by decide +kernel), isPat_of X (a := 48) (c := 47) rfl rfl (by decide +kernel),
   isPat_of X (a := 99) (c := 98) rfl rfl (by decide +kernel), isPat_of X (a := 104) (c := 103) rfl rfl (by decide +kernel)⟩
set_option maxHeartbeats 8000000 in
theorem conv_spec (w : World) {p : Program} {loose : List Str} {mean : ExcName → Option Value} {mg mb : Str → Option Value} : ∀ (b : Bool) (r : Addr) (x : Str) (tk : Tok) (A : Around) (s : Shared) (Q E : Value → Shared → Prop)
    (X : (KX w.params).In s.heap) (T : Top p loose mean mg mb s.heap) (hd : A.depth < recursionLimit) (hx : ∀ c ∈ x.cps.toList, 32 ≤ c ∧ c ≠ 127) (hxl : x.length ≤ 2000)
    (ret : ∀ h' tk', Ext s.heap h' → Q (.str x tk) { s with heap := h', toks := tk' }), wpAny (model PySem.Challenge.rw_sh0039_01.row.prog w) A (call (.ref 126) [.ref r, .str x tk] [(Str.ofString "name", .bool b)]) Q E s := by
  intro b r x tk A s Q E X
  have P := pats w X
  revert X
  k_fill
  intro X T hd hx hxl ret
  k_dflt (refine' enterH (hs := []) (news := []) (K := KX w.params) X T (fun _ h => nomatch h) ?k6 ?k7 hd ?k9 ?kB ?_ ?c2 ?c3 ?c4 ?c5)
  (case k6 => k_is)
  (case k7 => k_is)
  (case k9 => exact BindsTo.of_eq rfl)
  (case kB => exact locs rfl)
  (case c2 => exact rfl)
  (case c3 => exact rfl)
  (case c4 => exact rfl)
  (case c5 => decide)
  clear X T
  intro h₁ F N X T
  (try k_fold)
  k_steps
  · refine getMethod_search (P.2.2.1.ext (Fr.keep (by assumption))) ?_
    k_steps
    refine call_search_none (P.2.2.1.ext (Fr.keep (by assumption))) (.inl rfl) hx hxl ?_
    k_steps
    exact ret _ _ (Fr.keep (by assumption))
  · refine getMethod_search (P.2.2.2.ext (Fr.keep (by assumption))) ?_
    k_steps
    refine call_search_none (P.2.2.2.ext (Fr.keep (by assumption))) (.inr rfl) hx hxl ?_
    k_steps
    exact ret _ _ (Fr.keep (by assumption))
end Mine
end
section -- H2
open PySem PySem.W PyProof.Rows
set_option maxRecDepth 100000
namespace Mine
theorem zoff_H2 : True := by
  w_top off
  k_with_none
  k_with "Hid" => (refine Mine.Hid.go (by with_reducible assumption) ?_)
  k_with "execs cons" => ((fail_if_success (with_reducible refine Mine.isHid ?_)); (refine Mine.hideQ fun _ _ => ?_))
  k_with "exec Assign" => ((fail_if_success (with_reducible refine Mine.isHid ?_)); (refine Mine.hideQ fun _ _ => ?_))
  k_with "exec Expr" => ((fail_if_success (with_reducible refine Mine.isHid ?_)); (refine Mine.hideQ fun _ _ => ?_))
  k_with "exec Return" => ((fail_if_success (with_reducible refine Mine.isHid ?_)); (refine Mine.hideQ fun _ _ => ?_))
  k_with "exec AugAssign" => ((fail_if_success (with_reducible refine Mine.isHid ?_)); (refine Mine.hideQ fun _ _ => ?_))
  k_with "exec If" => ((fail_if_success (with_reducible refine Mine.isHid ?_)); (refine Mine.hideQ fun _ _ => ?_))
  trivial
structure Rack (w : World) (h : Heap) (r d l : Addr) (vs : List Value) (xs : List (Str × Str)) : Prop where
  inst : h.get? r = some (instObj 227 d)
  dict : ∃ tk, h.get? d = some (dictOf [⟨PyData.keyHash w.params (Str.ofString "_headers"), .str (Str.ofString "_headers") tk, .ref l⟩] 1)
  lst : ∃ n, h.get? l = some (listOf vs.toArray n)
  len : vs.length = xs.length
  rows : ∃ p1 p2 : Nat → Tok, ∀ i v, vs[i]? = some v → ∃ T, v = .ref T ∧ h.IsTuple T #[.str (xs.getD i default).1 (p1 i), .str (xs.getD i default).2 (p2 i)]
theorem Rack.ext {w : World} {h h' : Heap} {r d l : Addr} {vs : List Value} {xs : List (Str × Str)} (H : Rack w h r d l vs xs) (e : Ext h h') : Rack w h' r d l vs xs := by
  obtain ⟨h1, ⟨tk, h2⟩, ⟨n, h3⟩, h4, ⟨p1, p2, h5⟩⟩ := H
  refine ⟨e _ _ h1, ⟨tk, e _ _ h2⟩, ⟨n, e _ _ h3⟩, h4, ⟨p1, p2, fun i v hv => ?_⟩⟩
  ((refine Mine.hideG fun G kG => ?_); (refine Exists.elim (h5 i v hv) ?_); intro T; intro hZ1; (refine And.elim ?_ hZ1); clear hZ1; intro hT; intro hZ2; (refine Exists.elim hZ2 ?_); clear hZ2; intro o; intro hZ3; (refine And.elim ?_ hZ3); clear hZ3; intro ho q; (refine kG ?_); clear kG G)
  exact ⟨T, hT, o, e _ _ ho, q⟩
theorem hide_tup {h : Heap} {r d l T : Addr} {its : Array Value} {d' : Addr} {es : List DictEntry} {n n' : Nat} {arr : Array Value} (h1 : h.get? r = some (instObj 227 d')) (h2 : h.get? d = some (dictOf es n)) (h3 : h.get? l = some (listOf arr n'))
    (hT : h.IsTuple T its) : (hideAll h [r, d, l]).IsTuple T its := by
  ((refine Exists.elim hT ?_); (try clear hT); intro o; intro hZ1; (refine Mine.and3 hZ1 ?_); clear hZ1; intro ho hc q)
  refine ⟨o, hideAll_get _ ho (fun m => ?_), hc, q⟩
  replace m := mem3 m
  (rcases m with hZ | hZ | hZ <;> ((replace hZ := Eq.symm hZ); obtain rfl := hZ))
  · cases h1.symm.trans ho; cases hc
  · cases h2.symm.trans ho; exact absurd hc (by simp)
  · cases h3.symm.trans ho; exact absurd hc (by simp)
/-- three objects are not keys of the written part, nor of anything below -/
structure Off (b₀ : Heap) (hs : List Addr) : Prop where
  off : ∀ a ∈ hs, b₀.get? a = none
noncomputable def getOf (nm : Str) (xs : List (Str × Str)) : Option Str := (xs.find? fun x => Txt.lower x.1 == Txt.lower nm).map (·.2)
noncomputable def GetsAs (o : Option Str) (v : Value) : Prop := match o with
  | some y => ∃ t, v = .str y t
  | none => v = .none
noncomputable def OkText (x : Str) : Prop := (∀ c ∈ x.cps.toList, 32 ≤ c ∧ c ≠ 127) ∧ x.length ≤ 600
noncomputable def OkName (x : Str) : Prop := OkText (Txt.lower x) ∧ x.length ≤ 600
noncomputable def RowsOk (xs : List (Str × Str)) : Prop := ∀ q ∈ xs, OkText q.1 ∧ OkText q.2
theorem getOf_at {nm : Str} {xs : List (Str × Str)} {i : Nat} {k v : Str} (h : xs[i]? = some (k, v)) (e : Txt.lower k = Txt.lower nm) (hne : ∀ j, j < i → Txt.lower (xs.getD j default).1 ≠ Txt.lower nm) : getOf nm xs = some v := by
  induction xs generalizing i with
  | nil => cases h
  | cons a r ih =>
    cases i with
    | zero => simp at h; subst h; simp [getOf, e]
    | succ i =>
      have h0 := hne 0 (Nat.succ_pos _)
      have := ih (i := i) (by simpa using h) (fun j hj => by simpa using hne (j + 1) (by omega))
      unfold getOf at *
      rw [List.find?_cons_of_neg (by simpa using h0)]
      exact this
theorem getOf_none {nm : Str} {xs : List (Str × Str)} (hne : ∀ j, j < xs.length → Txt.lower (xs.getD j default).1 ≠ Txt.lower nm) : getOf nm xs = none := by
  unfold getOf
  rw [List.find?_eq_none.mpr]
  · rfl
  · intro q hq
    ((refine Exists.elim (List.mem_iff_getElem.mp hq) ?_); intro j; intro hZ1; (refine Exists.elim hZ1 ?_); clear hZ1; intro hj; intro hZ2; obtain rfl := hZ2)
    have := hne j hj
    rw [List.getD_eq_getElem?_getD, List.getElem?_eq_getElem hj] at this
    simpa using this
theorem kept3' {b h h' : Heap} {L r d l : Addr} {o1 o2 o3 : Obj} (N : News b L h' [(r, o1), (d, o2), (l, o3)]) (h1 : h.get? r = some o1) (h2 : h.get? d = some o2) (h3 : h.get? l = some o3) : ∀ a ∈ [r, d, l], ∀ o, h.get? a = some o → h'.get? a = some o := by
  intro a ha o e
  replace ha := mem3 ha
  (rcases ha with hZ | hZ | hZ <;> ((replace hZ := Eq.symm hZ); obtain rfl := hZ))
  · cases h1.symm.trans e; exact (N _ (.head _)).1
  · cases h2.symm.trans e; exact (N _ (.tail _ (.head _))).1
  · cases h3.symm.trans e; exact (N _ (.tail _ (.tail _ (.head _)))).1
theorem kept3 {b h h' : Heap} {L r d l I : Addr} {o1 o2 o3 oI : Obj} (N : News b L h' ((I, oI) :: [(r, o1), (d, o2), (l, o3)])) (h1 : h.get? r = some o1) (h2 : h.get? d = some o2) (h3 : h.get? l = some o3) : ∀ a ∈ [r, d, l], ∀ o, h.get? a = some o → h'.get? a = some o :=
  kept3' (fun p hp => N p (.tail _ hp)) h1 h2 h3
theorem zk_H2_1 : True := by
  k_with "eval Name" => (refine ld (by assumption) (by assumption) ?_)
  k_with "loadName" => (refine ldn (by assumption) (by assumption) ?_)
  trivial
set_option maxHeartbeats 8000000 in
theorem get_spec (w : World) {p : Program} {loose : List Str} {mean : ExcName → Option Value} {mg mb : Str → Option Value} : ∀ (b₀ : Heap) (r d l : Addr) (vs : List Value) (xs : List (Str × Str)) (x : Str) (tk : Tok) (A : Around) (s : Shared) (Q E : Value → Shared → Prop)
    (X : (KX w.params).In b₀) (T : Top p loose mean mg mb b₀) (hb : Ext b₀ s.heap) (off : ∀ a ∈ [r, d, l], b₀.get? a = none) (H : Rack w s.heap r d l vs xs) (hd : A.depth + 5 < recursionLimit) (hh : A.handled = none) (hx : OkName x) (hr : RowsOk xs)
    (ret : ∀ v h' tk', GetsAs (getOf x xs) v → Ext s.heap h' → Q v { s with heap := h', toks := tk' }), wpAny (model PySem.Challenge.rw_sh0039_01.row.prog w) A (call (.ref 174) [.ref r, .str x tk]) Q E s := by
  k_fill
  intro b₀ r d l vs xs x tk A s Q E X T hb off H hd0 hh hx hr ret
  have hxl : x.length ≤ 600 := hx.2
  have hd : A.depth < recursionLimit := by omega
  obtain ⟨h1, ⟨tkd, h2⟩, ⟨n, h3⟩, h4, ⟨p1, p2, h5⟩⟩ := H
  have hu := hide_ext hb off
  have hrows : ∀ i v, vs[i]? = some v → ∃ T, v = .ref T ∧ (hideAll s.heap [r, d, l]).IsTuple T #[.str (xs.getD i default).1 (p1 i), .str (xs.getD i default).2 (p2 i)] := fun i v hv => by
    ((refine Exists.elim (h5 i v hv) ?_); intro T; intro hZ1; (refine And.elim ?_ hZ1); clear hZ1; intro hT hU)
    exact ⟨T, hT, hide_tup h1 h2 h3 hU⟩
  k_dflt (refine' enterH (hs := [r, d, l]) (news := [(r, instObj 227 d), (d, dictOf [⟨PyData.keyHash w.params (Str.ofString "_headers"), .str (Str.ofString "_headers") tkd, .ref l⟩] 1), (l, listOf vs.toArray n)]) (K := KX w.params) (X.keeps hu) (T.keeps hu) ?kn ?k6 ?k7 hd ?k9 ?kB ?_ ?c2 ?c3 ?c4 ?c5)
  (case kn => exact all3 ⟨h1, .head _⟩ ⟨h2, .tail _ (.head _)⟩ ⟨h3, .tail _ (.tail _ (.head _))⟩)
  (case k6 => k_is)
  (case k7 => k_is)
  (case k9 => exact binds_K (X.keeps hb) rfl (by k_is) rfl rfl rfl)
  (case kB => exact locs rfl)
  (case c2 => exact rfl)
  (case c3 => exact rfl)
  (case c4 => exact rfl)
  (case c5 => decide)
  clear X T
  intro h₁ F N X T
  (try (refine Mine.hideQ fun _ _ => ?_))
  (try k_fold)
  k_steps
  (with_reducible rename Fr _ _ _ _ => F1)
  (with_reducible rename News _ _ _ _ => N1)
  refine conv_spec w true r (Txt.lower x) _ _ _ _ _ (X.keeps F1.keep) (T.keeps F1.keep) (by simp only [depth_deeper]; omega) hx.1.1 (Nat.le_trans hx.1.2 (by decide)) ?_
  intro h2' tk2 e2
  (try (refine Mine.hideQ fun _ _ => ?_))
  have F2 := Fr.keeps F1 e2
  have N2 := News.grown N1 e2
  clear F1 N1
  generalize hnm : Txt.lower x = nm at *
  dsimp only
  k_steps
  (with_reducible rename Fr _ _ _ _ => F3)
  (with_reducible rename News _ _ _ _ => N3)
  have key : ∃ M, Fr (hideAll s.heap [r, d, l]) s.heap.objs.size _ M ∧ (∃ t, M (Str.ofString "name") = some (.str nm t)) ∧ M (Str.ofString "default") = some .none ∧ M (Str.ofString "self") = some (.ref r) := ⟨_, F3, ⟨_, rfl⟩, rfl, rfl⟩
  clear F3
  ((refine Exists.elim key ?_); (try clear key); intro M1; intro hZ1; (refine Mine.and4 hZ1 ?_); clear hZ1; intro F3; intro hZ2; (refine Exists.elim hZ2 ?_); clear hZ2; intro tn j1 j2 j3)
  refine wpAny_For ?_
  (try k_fold)
  k_steps
  have hL : Heap.IsList _ l vs.toArray := ⟨_, (N3 _ (.tail _ (.tail _ (.head _)))).1, rfl, _, rfl⟩
  refine wpAny_pyIter_list hL ?_

  refine forTup (h₀ := hideAll s.heap [r, d, l]) (l := l) (vs := vs) (nl := n) (m := M1) (news := [(r, instObj 227 d), (d, dictOf [⟨PyData.keyHash w.params (Str.ofString "_headers"), .str (Str.ofString "_headers") tkd, .ref l⟩] 1), (l, listOf vs.toArray n)])
    (p1 := fun i => .str (xs.getD i default).1 (p1 i)) (p2 := fun i => .str (xs.getD i default).2 (p2 i)) hh hrows rfl rfl rfl ⟨0, rfl, ⟨_, Heap.get?_push_size _ rfl, rfl, rfl⟩⟩ (Ne.symm (Nat.ne_of_lt F3.ns.lt)) (next_is_new F3)
    (fun p hp => Nat.ne_of_lt (Heap.lt_size (N3 p hp).1)) (.tail _ (.tail _ (.head _))) (F3.push _) (N3.grown fun b o e => Heap.get?_push_of_some _ e)
    (fun i m => (∃ t, m (Str.ofString "name") = some (.str nm t)) ∧ m (Str.ofString "default") = some .none ∧ ∀ j, j < i → Txt.lower (xs.getD j default).1 ≠ nm) ⟨⟨tn, j1⟩, j2, fun j hj => absurd hj (Nat.not_lt_zero _)⟩ ?_ ?_
  · intro i oI m₁ hq tkq hi hJ6 F4 N4
    (try (refine Mine.hideQ fun _ _ => ?_))
    ((refine Mine.and3 hJ6 ?_); (try clear hJ6); intro hZ1; (refine Exists.elim hZ1 ?_); clear hZ1; intro tn' q1 q2 q3)
    have hi2 : i < xs.length := by omega
    have hmem : xs.getD i default ∈ xs := by rw [List.getD_eq_getElem?_getD, List.getElem?_eq_getElem hi2]; exact List.getElem_mem hi2
    have hok := hr _ hmem
    have hget : xs[i]? = some (xs.getD i default) := by rw [List.getD_eq_getElem?_getD, List.getElem?_eq_getElem hi2]; rfl
    generalize xs.getD i default = row at *
    obtain ⟨ky, vl⟩ := row
    have hkl : ky.length ≤ 600 := hok.1.2
    have key : ∃ M, Fr (hideAll s.heap [r, d, l]) s.heap.objs.size hq M ∧ (∃ t, M (Str.ofString "name") = some (.str nm t)) ∧ M (Str.ofString "default") = some .none ∧ M (Str.ofString "k") = some (.str ky (p1 i)) ∧ M (Str.ofString "v") = some (.str vl (p2 i)) :=
      ⟨_, F4, ⟨tn', by simpa [show ¬ (Str.ofString "name" = Str.ofString "v") from by decide, show ¬ (Str.ofString "name" = Str.ofString "k") from by decide] using q1⟩,
        by simpa [show ¬ (Str.ofString "default" = Str.ofString "v") from by decide, show ¬ (Str.ofString "default" = Str.ofString "k") from by decide] using q2,
        by simp [show ¬ (Str.ofString "k" = Str.ofString "v") from by decide], by simp⟩
    clear F3 N3 F4
    ((refine Exists.elim key ?_); (try clear key); intro M4; intro hZ1; (refine Mine.and5 hZ1 ?_); clear hZ1; intro F4; intro hZ2; (refine Exists.elim hZ2 ?_); clear hZ2; intro t4 a1 a2 a3 a4)
    (try k_fold)
    k_steps
    · refine ret _ _ _ ?_ (ext_unhide F4.keep fun a ha o e => ?_)
      · rw [getOf_at hget (by simpa [hnm] using eq_of_beq (by assumption)) (fun j hj => by rw [hnm]; exact q3 j hj)]
        exact ⟨_, rfl⟩
      · exact kept3 N4 h1 h2 h3 a ha o e
    · refine ⟨⟨_, _, _, rfl, F4, N4, ⟨⟨_, a1⟩, a2, fun j hj => ?_⟩⟩⟩
      by_cases hji : j = i
      · (replace hji := Eq.symm hji; obtain rfl := hji)
        rw [List.getD_eq_getElem?_getD, hget]
        exact ne_of_beq_false (by assumption)
      · exact q3 j (by omega)
  · intro hq tkq m' F4 N4 hJ5
    (try (refine Mine.hideQ fun _ _ => ?_))
    ((refine Mine.and3 hJ5 ?_); (try clear hJ5); intro hZ1; (refine Exists.elim hZ1 ?_); clear hZ1; intro tn' q1 q2 q3)
    clear F3 N3
    (try k_fold)
    k_steps
    refine ret _ _ _ ?_ (ext_unhide F4.keep fun a ha o e => ?_)
    · rw [getOf_none (fun j hj => by rw [hnm]; exact q3 j (by omega))]
      exact rfl
    · exact kept3' N4 h1 h2 h3 a ha o e
end Mine
end
section -- H3
open PySem PySem.W PyProof.Rows
set_option maxRecDepth 100000
set_option linter.unusedVariables false
namespace Mine
theorem zoff_H3 : True := by
  w_top off
  k_with_none
  k_with "Hid" => (refine Mine.Hid.go (by with_reducible assumption) ?_)
  k_with "execs cons" => ((fail_if_success (with_reducible refine Mine.isHid ?_)); (refine Mine.hideQ fun _ _ => ?_))
  k_with "exec Assign" => ((fail_if_success (with_reducible refine Mine.isHid ?_)); (refine Mine.hideQ fun _ _ => ?_))
  k_with "exec Expr" => ((fail_if_success (with_reducible refine Mine.isHid ?_)); (refine Mine.hideQ fun _ _ => ?_))
  k_with "exec Return" => ((fail_if_success (with_reducible refine Mine.isHid ?_)); (refine Mine.hideQ fun _ _ => ?_))
  k_with "exec AugAssign" => ((fail_if_success (with_reducible refine Mine.isHid ?_)); (refine Mine.hideQ fun _ _ => ?_))
  k_with "exec If" => ((fail_if_success (with_reducible refine Mine.isHid ?_)); (refine Mine.hideQ fun _ _ => ?_))
  trivial
theorem rack_of {w : World} {b h : Heap} {L r d l : Addr} {n : Nat} {tkd : Tok} {vs : List Value} {xs : List (Str × Str)} {p1 p2 : Nat → Tok} {news : List (Addr × Obj)} (N : News b L h news) (keep : Ext b h)
    (m1 : (r, instObj 227 d) ∈ news) (m2 : (d, dictOf [⟨PyData.keyHash w.params (Str.ofString "_headers"), .str (Str.ofString "_headers") tkd, .ref l⟩] 1) ∈ news) (m3 : (l, listOf vs.toArray n) ∈ news) (hl : vs.length = xs.length)
    (hrows : ∀ i v, vs[i]? = some v → ∃ T, v = .ref T ∧ b.IsTuple T #[.str (xs.getD i default).1 (p1 i), .str (xs.getD i default).2 (p2 i)]) : Rack w h r d l vs xs :=
  ⟨(N _ m1).1, ⟨tkd, (N _ m2).1⟩, ⟨n, (N _ m3).1⟩, hl, p1, p2, fun i v hv => by
    ((refine Mine.hideG fun G kG => ?_); (refine Exists.elim (hrows i v hv) ?_); intro T; intro hZ1; (refine And.elim ?_ hZ1); clear hZ1; intro hT; intro hZ2; (refine Exists.elim hZ2 ?_); clear hZ2; intro o; intro hZ3; (refine And.elim ?_ hZ3); clear hZ3; intro ho q; (refine kG ?_); clear kG G)
    exact ⟨T, hT, o, keep _ _ ho, q⟩⟩
theorem rack_snoc {w : World} {b h : Heap} {L r d l T : Addr} {n : Nat} {tkd : Tok} {vs : List Value} {xs : List (Str × Str)} {p1 p2 : Nat → Tok} {news : List (Addr × Obj)} {x y : Str} {t1 t2 : Tok} {nT : Nat} (N : News b L h news) (keep : Ext b h)
    (m1 : (r, instObj 227 d) ∈ news) (m2 : (d, dictOf [⟨PyData.keyHash w.params (Str.ofString "_headers"), .str (Str.ofString "_headers") tkd, .ref l⟩] 1) ∈ news) (m3 : (l, listOf (vs.toArray.push (.ref T)) (n + 1)) ∈ news) (hl : vs.length = xs.length)
    (mT : (T, ({ cls := .type "tuple", data := .seq #[.str x t1, .str y t2] nT } : Obj)) ∈ news)
    (hrows : ∀ i v, vs[i]? = some v → ∃ T, v = .ref T ∧ b.IsTuple T #[.str (xs.getD i default).1 (p1 i), .str (xs.getD i default).2 (p2 i)]) : Rack w h r d l (vs ++ [.ref T]) (xs ++ [(x, y)]) := by
  refine ⟨(N _ m1).1, ⟨tkd, (N _ m2).1⟩, ⟨n + 1, ?_⟩, by simp [hl], fun i => if i = xs.length then t1 else p1 i, fun i => if i = xs.length then t2 else p2 i, fun i v hv => ?_⟩
  · have := (N _ m3).1
    simpa using this
  · by_cases hi : i = xs.length
    · subst hi
      rw [← hl, List.getElem?_append_right (Nat.le_refl _)] at hv
      simp at hv
      refine ⟨T, hv.symm, _, (N _ mT).1, rfl, nT, ?_⟩
      simp
    · have hlt : i < xs.length := by
        have := (List.getElem?_eq_some_iff.mp hv).1
        simp at this; omega
      rw [List.getElem?_append_left (by omega)] at hv
      ((refine Mine.hideG fun G kG => ?_); (refine Exists.elim (hrows i v hv) ?_); intro T'; intro hZ1; (refine And.elim ?_ hZ1); clear hZ1; intro hT; intro hZ2; (refine Exists.elim hZ2 ?_); clear hZ2; intro o; intro hZ3; (refine And.elim ?_ hZ3); clear hZ3; intro ho q; (refine kG ?_); clear kG G)
      refine ⟨T', hT, o, keep _ _ ho, ?_⟩
      dsimp only
      rw [if_neg hi, if_neg hi]
      have e : (xs ++ [(x, y)]).getD i default = xs.getD i default := by
        rw [List.getD_eq_getElem?_getD, List.getD_eq_getElem?_getD, List.getElem?_append_left hlt]
      rw [e]
      exact q
theorem ext_but {h h' : Heap} {r d l : Addr} (k : Ext (hideAll h [r, d, l]) h') (hr : ∀ o, h.get? r = some o → h'.get? r = some o) (hd : ∀ o, h.get? d = some o → h'.get? d = some o) : Ext (hideAll h [l]) h' := fun b o e => by
  have hbl : b ≠ l := by (intro hZ; replace hZ := Eq.symm hZ; obtain rfl := hZ); rw [hideAll_none _ (.head _)] at e; cases e
  have e' := of_hideAll _ e
  by_cases h1 : b = r
  · (replace h1 := Eq.symm h1; obtain rfl := h1); exact hr _ e'
  · by_cases h2 : b = d
    · (replace h2 := Eq.symm h2; obtain rfl := h2); exact hd _ e'
    · exact k b o (hideAll_get _ e' (by simp [h1, h2, hbl]))
theorem none_base {b h : Heap} {a : Addr} (e : Ext b h) (hn : h.get? a = none) : b.get? a = none := by
  cases hq : b.get? a with
  | none => rfl
  | some o => rw [e _ _ hq] at hn; cases hn
theorem ne3 {h : Heap} {r d l : Addr} {d' : Addr} {es : List DictEntry} {n n' : Nat} {arr : Array Value} (h1 : h.get? r = some (instObj 227 d')) (h2 : h.get? d = some (dictOf es n)) (h3 : h.get? l = some (listOf arr n')) : @Ne Nat r l ∧ @Ne Nat d l ∧ @Ne Nat r d := by
  refine ⟨?_, ?_, ?_⟩
  · rintro rfl; rw [h1] at h3; simp at h3
  · rintro rfl; rw [h2] at h3; simp at h3
  · rintro rfl; rw [h1] at h2; simp at h2
set_option maxHeartbeats 8000000 in
theorem setd_spec (w : World) {p : Program} {loose : List Str} {mean : ExcName → Option Value} {mg mb : Str → Option Value} : ∀ (b₀ : Heap) (r d l : Addr) (vs : List Value) (xs : List (Str × Str)) (x y : Str) (tk ty : Tok) (A : Around) (s : Shared) (Q E : Value → Shared → Prop)
    (X : (KX w.params).In b₀) (T : Top p loose mean mg mb b₀) (hb : Ext b₀ s.heap) (off : ∀ a ∈ [r, d, l], b₀.get? a = none) (H : Rack w s.heap r d l vs xs) (hd : A.depth + 10 < recursionLimit) (hh : A.handled = none) (hx : OkName x) (hx' : OkText x) (hy : OkText y) (hr : RowsOk xs) (hsz : xs.length ≤ 100)
    (ret₁ : ∀ z v h' tk' t, getOf x xs = some z → v = .str z t → Ext s.heap h' → Q v { s with heap := h', toks := tk' })
    (ret₂ : ∀ v h' tk', getOf x xs = none → (∀ a : Addr, v = .ref a → b₀.get? a = none) → Ext (hideAll s.heap [l]) h' → Rack w h' r d l (vs ++ [v]) (xs ++ [(x, y)]) → Q (.str y ty) { s with heap := h', toks := tk' }), wpAny (model PySem.Challenge.rw_sh0039_01.row.prog w) A (call (.ref 217) [.ref r, .str x tk, .str y ty]) Q E s := by
  k_fill
  intro b₀ r d l vs xs x y tk ty A s Q E X T hb off H hd0 hh hx hx' hy hr hsz ret₁ ret₂
  have hxl : x.length ≤ 600 := hx.2
  have hd : A.depth < recursionLimit := by omega
  obtain ⟨h1, ⟨tkd, h2⟩, ⟨n, h3⟩, h4, ⟨p1, p2, h5⟩⟩ := H
  ((refine Mine.and3 (ne3 h1 h2 h3) ?_); intro n1 n2 n3)
  have hu := hide_ext hb off
  have hrows : ∀ i v, vs[i]? = some v → ∃ T, v = .ref T ∧ (hideAll s.heap [r, d, l]).IsTuple T #[.str (xs.getD i default).1 (p1 i), .str (xs.getD i default).2 (p2 i)] := fun i v hv => by
    ((refine Exists.elim (h5 i v hv) ?_); intro T; intro hZ1; (refine And.elim ?_ hZ1); clear hZ1; intro hT hU)
    exact ⟨T, hT, hide_tup h1 h2 h3 hU⟩
  k_dflt (refine' enterH (hs := [r, d, l]) (news := [(r, instObj 227 d), (d, dictOf [⟨PyData.keyHash w.params (Str.ofString "_headers"), .str (Str.ofString "_headers") tkd, .ref l⟩] 1), (l, listOf vs.toArray n)]) (K := KX w.params) (X.keeps hu) (T.keeps hu) ?kn ?k6 ?k7 hd ?k9 ?kB ?_ ?c2 ?c3 ?c4 ?c5)
  (case kn => exact all3 ⟨h1, .head _⟩ ⟨h2, .tail _ (.head _)⟩ ⟨h3, .tail _ (.tail _ (.head _))⟩)
  (case k6 => k_is)
  (case k7 => k_is)
  (case k9 => exact BindsTo.of_eq rfl)
  (case kB => exact locs rfl)
  (case c2 => exact rfl)
  (case c3 => exact rfl)
  (case c4 => exact rfl)
  (case c5 => decide)
  have X0 := X
  have T0 := T
  clear X T
  intro h₁ F N X T
  (try k_fold)
  k_steps
  (with_reducible rename Fr _ _ _ _ => F1)
  (with_reducible rename News _ _ _ _ => N1)
  refine get_spec w b₀ r d l vs xs x _ _ _ _ _ X0 T0 (hu.trans F1.keep) off (rack_of N1 F1.keep (.head _) (.tail _ (.head _)) (.tail _ (.tail _ (.head _))) h4 hrows) (by simp only [depth_deeper]; omega) hh hx hr ?_
  intro v h2' tk2 hv e2
  have F2 := Fr.keeps F1 e2
  have N2 := News.grown N1 e2
  clear F1 N1
  cases hg : getOf x xs with
  | some z =>
    rw [hg] at hv
    ((refine Exists.elim hv ?_); (try clear hv); intro t; intro hZ1; obtain rfl := hZ1)
    dsimp only
    k_steps
    (with_reducible rename Fr _ _ _ _ => F3)
    (with_reducible rename News _ _ _ _ => N3)
    exact ret₁ z _ _ _ t hg rfl (ext_unhide F3.keep (kept3' N3 h1 h2 h3))
  | none =>
    rw [hg] at hv
    obtain rfl := hv
    dsimp only
    k_steps
    (with_reducible rename Fr _ _ _ _ => F3)
    (with_reducible rename News _ _ _ _ => N3)
    refine conv_spec w true r x _ _ _ _ _ (X.keeps F3.keep) (T.keeps F3.keep) (by simp only [depth_deeper]; omega) hx'.1 (Nat.le_trans hx'.2 (by decide)) ?_
    intro h4' tk4 e4
    have F4 := Fr.keeps F3 e4
    have N4 := News.grown N3 e4
    clear F3 N3
    dsimp only
    k_steps
    (with_reducible rename Fr _ _ _ _ => F5)
    (with_reducible rename News _ _ _ _ => N5)
    refine conv_spec w false r y _ _ _ _ _ (X.keeps F5.keep) (T.keeps F5.keep) (by simp only [depth_deeper]; omega) hy.1 (Nat.le_trans hy.2 (by decide)) ?_
    intro h6' tk6 e6
    have F6 := Fr.keeps F5 e6
    have N6 := News.grown N5 e6
    clear F5 N5
    have hvs : vs.toArray.size ≤ 100 := by simp; omega
    dsimp only
    k_steps
    (with_reducible rename Fr _ _ _ _ => F7)
    (with_reducible rename News _ _ _ _ => N7)
    refine ret₂ _ _ _ hg (fun T' eT => none_base hu (by cases eT; exact (N7 _ (.head _)).2.2)) (ext_but F7.keep (fun o e => ?_) (fun o e => ?_)) (rack_snoc N7 F7.keep (.tail _ (.head _)) (.tail _ (.tail _ (.head _))) (.tail _ (.tail _ (.tail _ (.head _)))) h4 (.head _) hrows)
    · rw [h1] at e; cases e; exact (N7 _ (.tail _ (.head _))).1
    · rw [h2] at e; cases e; exact (N7 _ (.tail _ (.tail _ (.head _)))).1
end Mine
end
section -- H4
open PySem PySem.W PyProof.Rows PyProof.Rows.LCg PyProof.Rows.LCp
set_option maxRecDepth 100000
set_option linter.unusedVariables false
namespace Mine
theorem zoff_H4 : True := by
  w_top off
  k_with_none
  k_with "Hid" => (refine Mine.Hid.go (by with_reducible assumption) ?_)
  k_with "execs cons" => ((fail_if_success (with_reducible refine Mine.isHid ?_)); (refine Mine.hideQ fun _ _ => ?_))
  k_with "exec Assign" => ((fail_if_success (with_reducible refine Mine.isHid ?_)); (refine Mine.hideQ fun _ _ => ?_))
  k_with "exec Expr" => ((fail_if_success (with_reducible refine Mine.isHid ?_)); (refine Mine.hideQ fun _ _ => ?_))
  k_with "exec Return" => ((fail_if_success (with_reducible refine Mine.isHid ?_)); (refine Mine.hideQ fun _ _ => ?_))
  k_with "exec AugAssign" => ((fail_if_success (with_reducible refine Mine.isHid ?_)); (refine Mine.hideQ fun _ _ => ?_))
  k_with "exec If" => ((fail_if_success (with_reducible refine Mine.isHid ?_)); (refine Mine.hideQ fun _ _ => ?_))
  trivial
theorem rows_list {P : Nat → Value → Addr × Obj → Prop} {vs : List Value} (h : ∀ i v, vs[i]? = some v → ∃ q, P i v q) :
    ∃ qs : List (Addr × Obj), qs.length = vs.length ∧ ∀ i v q, vs[i]? = some v → qs[i]? = some q → P i v q := by
  classical
  refine ⟨vs.zipIdx.map fun p => if e : ∃ q, P p.2 p.1 q then e.choose else default, by simp, fun i v q hv hq => ?_⟩
  simp only [List.getElem?_map, List.getElem?_zipIdx, hv, Option.map_some, Nat.zero_add, Option.some.injEq] at hq
  rw [dif_pos (h i v hv)] at hq
  exact hq ▸ (h i v hv).choose_spec
theorem off1_mem {D : Addr} : ∀ {l : List (Addr × Obj)}, Off1 D l → ∀ p ∈ l, p.1 ≠ D
  | [], _, p, hp => by cases hp
  | q :: r, h, p, hp => by
    (rcases List.mem_cons.mp hp with hZ | hp <;> (try ((replace hZ := Eq.symm hZ); obtain rfl := hZ)))
    · exact h.1
    · exact off1_mem h.2 p hp
theorem zk_H4_1 : True := by
  k_with "eval ListComp" => (refine Stop.h ?_)
  k_with "SrcLP" => (refine Stop.h ?_)
  trivial
set_option maxHeartbeats 8000000 in
theorem keys_spec (w : World) {p : Program} {loose : List Str} {mean : ExcName → Option Value} {mg mb : Str → Option Value} : ∀ (b₀ : Heap) (r d l : Addr) (vs : List Value) (xs : List (Str × Str)) (A : Around) (s : Shared) (Q E : Value → Shared → Prop)
    (X : (KX w.params).In b₀) (T : Top p loose mean mg mb b₀) (hb : Ext b₀ s.heap) (off : ∀ a ∈ [r, d, l], b₀.get? a = none) (H : Rack w s.heap r d l vs xs) (hoff : ∀ a : Addr, Value.ref a ∈ vs → b₀.get? a = none) (hd : A.depth < recursionLimit) (hh : A.handled = none) (hsz : xs.length ≤ 100)
    (ret : ∀ D ys n h' tk', StrsAre ys (xs.map (·.1)) → h'.get? D = some (listOf ys.toArray n) → s.heap.get? D = none → Ext s.heap h' → Q (.ref D) { s with heap := h', toks := tk' }), wpAny (model PySem.Challenge.rw_sh0039_01.row.prog w) A (call (.ref 179) [.ref r]) Q E s := by
  k_fill
  intro b₀ r d l vs xs A s Q E X T hb off H hoff hd hh hsz ret
  obtain ⟨h1, ⟨tkd, h2⟩, ⟨n, h3⟩, h4, ⟨p1, p2, h5⟩⟩ := H
  ((refine Mine.and3 (ne3 h1 h2 h3) ?_); intro n1 n2 n3)
  have hvs : vs.toArray.size ≤ 100 := by simp; omega
  obtain ⟨qs, hqs, hq⟩ := rows_list (P := fun i v q => v = .ref q.1 ∧ s.heap.get? q.1 = some q.2 ∧ q.2.cls = .type "tuple" ∧ ∃ nt, q.2.data = .seq #[.str (xs.getD i default).1 (p1 i), .str (xs.getD i default).2 (p2 i)] nt) (vs := vs)
    (fun i v hv => by ((refine Mine.hideG fun G kG => ?_); (refine Exists.elim (h5 i v hv) ?_); intro T; intro hZ1; (refine And.elim ?_ hZ1); clear hZ1; intro hT; intro hZ2; (refine Exists.elim hZ2 ?_); clear hZ2; intro o; intro hZ3; (refine Mine.and3 hZ3 ?_); clear hZ3; intro ho hc hn; (refine kG ?_); clear kG G); exact ⟨(T, o), hT, ho, hc, hn⟩)
  have hgq : ∀ q ∈ qs, s.heap.get? q.1 = some q.2 := by
    intro q hm
    ((refine Exists.elim (List.mem_iff_getElem.mp hm) ?_); intro i; intro hZ1; (refine Exists.elim hZ1 ?_); clear hZ1; intro hi; intro hZ2; obtain rfl := hZ2)
    exact (hq i vs[i] qs[i] (by simp) (by simp)).2.1
  have hcq : ∀ q ∈ qs, q.2.cls = .type "tuple" := by
    intro q hm
    ((refine Exists.elim (List.mem_iff_getElem.mp hm) ?_); intro i; intro hZ1; (refine Exists.elim hZ1 ?_); clear hZ1; intro hi; intro hZ2; obtain rfl := hZ2)
    exact (hq i vs[i] qs[i] (by simp) (by simp)).2.2.1
  have hoq : ∀ q ∈ qs, b₀.get? q.1 = none := by
    intro q hm
    ((refine Exists.elim (List.mem_iff_getElem.mp hm) ?_); intro i; intro hZ1; (refine Exists.elim hZ1 ?_); clear hZ1; intro hi; intro hZ2; obtain rfl := hZ2)
    have := hq i vs[i] qs[i] (by simp) (by simp)
    exact hoff _ (by rw [← this.1]; simp)
  have hnq : ∀ q ∈ qs, @Ne Nat q.1 r ∧ @Ne Nat q.1 d ∧ @Ne Nat q.1 l := by
    intro q hm
    have e1 := hgq q hm
    have e2 := hcq q hm
    refine ⟨fun e => ?_, fun e => ?_, fun e => ?_⟩
    · rw [e, h1] at e1; rw [← Option.some.inj e1] at e2; simp at e2
    · rw [e, h2] at e1; rw [← Option.some.inj e1] at e2; simp at e2
    · rw [e, h3] at e1; rw [← Option.some.inj e1] at e2; simp at e2
  have hu : Ext b₀ (hideAll s.heap ([r, d, l] ++ qs.map (·.1))) := hide_ext hb (by
    intro a ha
    rcases List.mem_append.mp ha with ha | ha
    · exact off a ha
    · ((refine Exists.elim (List.mem_map.mp ha) ?_); intro q; intro hZ1; (refine And.elim ?_ hZ1); clear hZ1; intro hm; intro hZ2; obtain rfl := hZ2)
      exact hoq q hm)
  k_dflt (refine' enterH (hs := [r, d, l] ++ qs.map (·.1)) (news := [(r, instObj 227 d), (d, dictOf [⟨PyData.keyHash w.params (Str.ofString "_headers"), .str (Str.ofString "_headers") tkd, .ref l⟩] 1), (l, listOf vs.toArray n)] ++ qs) (K := KX w.params) (X.keeps hu) (T.keeps hu) ?kn ?k6 ?k7 hd ?k9 ?kB ?_ ?c2 ?c3 ?c4 ?c5)
  (case kn =>
    intro q hm
    rcases List.mem_append.mp hm with hm | hm
    · replace hm := mem3 hm
      rcases hm with rfl | rfl | rfl <;> simp [h1, h2, h3]
    · exact ⟨hgq q hm, List.mem_append_right _ (List.mem_map.mpr ⟨q, hm, rfl⟩)⟩)
  (case k6 => k_is)
  (case k7 => k_is)
  (case k9 => exact BindsTo.of_eq rfl)
  (case kB => exact locs rfl)
  (case c2 => exact rfl)
  (case c3 => exact rfl)
  (case c4 => exact rfl)
  (case c5 => decide)
  clear X T
  intro h₁ F N X T
  simp only [List.cons_append, List.nil_append] at N
  (try k_fold)
  k_steps
  (with_reducible rename Fr _ _ _ _ => F1)
  (with_reducible rename News _ _ _ _ => N1)
  constructor
  refine ListComp_P (F₀ := F1) (by with_unfolding_all rfl) (by decide) (by rfl) (by decide) (by rfl) (by rfl) (by decide) ?_
  (try k_fold)
  k_steps
  constructor
  refine SrcLP.ledger hh F1 N1 (.tail _ (.tail _ (.head _))) (by unfold sizeLine; omega) ?_
  intro g
  refine restP_ind (fun i ys news => news = (r, instObj 227 d) :: (d, dictOf [⟨PyData.keyHash w.params (Str.ofString "_headers"), .str (Str.ofString "_headers") tkd, .ref l⟩] 1) :: (l, listOf vs.toArray n) :: qs ∧ StrsAre ys ((xs.take i).map (·.1))) _ ?_ ?_ ⟨rfl, .nil⟩
  · intro i ys news v hi hJ5 hv
    ((refine And.elim ?_ hJ5); (try clear hJ5); intro hZ1; obtain rfl := hZ1; intro hS)
    have hi2 : i < vs.length := by simpa using hi
    ((refine Mine.and4 (hq i v qs[i] (by simpa using hv) (by simp)) ?_); intro e1 e2 e3; intro hZ1; (refine Exists.elim hZ1 ?_); clear hZ1; intro nt e4)
    refine ⟨_, _, _, _, nt, e1, .tail _ (.tail _ (.tail _ (List.getElem_mem (by omega)))), e3, e4, ?_⟩
    intro I oI C oC D m₂ h tk E' hC hx1 hx2 F2 N2 off2 ne2
    refine LCgL.ld_own N2 (.tail _ (.head _)) hC hx1 ?_
    refine CompEnd.intro F2 N2 _ (fun p hp => hp) off2 (.inr ⟨_, .tail _ (.tail _ (.head _)), rfl, n, rfl⟩) ⟨rfl, ?_⟩
    have hi3 : i < xs.length := by omega
    rw [List.take_add_one, List.getElem?_eq_getElem hi3, List.map_append]
    rw [List.getD_eq_getElem?_getD, List.getElem?_eq_getElem hi3]
    exact StrsAre.append' hS (.cons _ _ .nil)
  · intro ys news hJ2 D h tk F2 N2 o2
    ((refine And.elim ?_ hJ2); (try clear hJ2); intro hZ1; obtain rfl := hZ1; intro hS)
    rw [List.take_of_length_le (by simp [h4])] at hS
    repeat (refine Mine.Hid.go (by with_reducible assumption) ?_)
    refine ret D ys _ h tk hS (N2 _ (.head _)).1 ?_ (ext_unhide F2.keep fun a ha o e => ?_)
    · cases eD : s.heap.get? D with
      | none => rfl
      | some o =>
        exfalso
        have hn := (N2 _ (.head _)).2.2
        have ho := off1_mem o2
        by_cases hm : D ∈ [r, d, l] ++ qs.map (·.1)
        · rcases List.mem_append.mp hm with hm | hm
          · replace hm := mem3 hm
            (rcases hm with hZ | hZ | hZ <;> ((replace hZ := Eq.symm hZ); obtain rfl := hZ))
            · exact ho _ (.head _) rfl
            · exact ho _ (.tail _ (.head _)) rfl
            · exact ho _ (.tail _ (.tail _ (.head _))) rfl
          · ((refine Exists.elim (List.mem_map.mp hm) ?_); intro q; intro hZ1; (refine And.elim ?_ hZ1); clear hZ1; intro hq'; intro hZ2; obtain rfl := hZ2)
            exact ho _ (.tail _ (.tail _ (.tail _ hq'))) rfl
        · rw [hideAll_get _ eD hm] at hn; cases hn
    · rcases List.mem_append.mp ha with ha | ha
      · exact kept3' (fun p hp => by
          replace hp := mem3 hp
          rcases hp with rfl | rfl | rfl
          · exact N2 _ (.tail _ (.head _))
          · exact N2 _ (.tail _ (.tail _ (.head _)))
          · exact N2 _ (.tail _ (.tail _ (.tail _ (.head _))))) h1 h2 h3 a ha o e
      · ((refine Exists.elim (List.mem_map.mp ha) ?_); intro q; intro hZ1; (refine And.elim ?_ hZ1); clear hZ1; intro hm; intro hZ2; obtain rfl := hZ2)
        rw [hgq q hm] at e
        cases e
        exact (N2 q (.tail _ (.tail _ (.tail _ (.tail _ hm))))).1
end Mine
end
section -- HD
open PySem PySem.W PyProof.Rows
set_option maxRecDepth 100000
set_option linter.unusedVariables false
namespace Mine
/-- enters a def some of whose names stand in cells -/
theorem enterHC {prog : Program} {w : World} {A : Around} {s : Shared} {K : Frag} {p : Program} {loose : List Str} {mean : ExcName → Option Value} {mg mb : Str → Option Value}
    {name qual : Str} {params : Arguments} {body : List Stmt} {scope : Scope} {dV kV doc pm cdv ct oc : Value} {an od : Option Addr} {osl : Array (Option Value)} {f : Addr} {args : List Value} {kw : List (Str × Value)} {binds : List (Str × Value)} {Q E : Value → Shared → Prop}
    {hs : List Addr} {news : List (Addr × Obj)}
    (X : K.In (hideAll s.heap hs)) (T : Top p loose mean mg mb (hideAll s.heap hs)) (N : ∀ q ∈ news, s.heap.get? q.1 = some q.2 ∧ q.1 ∈ hs)
    (ho : K.lookup f = some ⟨oc, od, .func (fnOf name qual params body scope dV kV doc pm an cdv ct), osl⟩) (hcd : codeIn K cdv qual = true) (hroom : A.depth < recursionLimit)
    (hbind : BindsTo s (fnOf name qual params body scope dV kV doc pm an cdv ct) ⟨args, kw⟩ binds) (hkind : (binds.all fun y => scope.names.lookup y.1 == some .local || scope.names.lookup y.1 == some .cell) = true)
    (hnd : ((cellsFrom 0 scope.names []).map (·.1)).Nodup)
    (h : ∀ h₁ tk cells, Fr (hideAll s.heap hs) s.heap.objs.size h₁ (bindL (envOfC qual scope s.heap.objs.size f cdv).kindOf binds fun _ => none) → News (hideAll s.heap hs) s.heap.objs.size h₁ (cells ++ news) →
      CellsAre (bindC (envOfC qual scope s.heap.objs.size f cdv).kindOf binds fun _ => none) (cellsFrom (s.heap.objs.size + 1) scope.names []) cells → K.In (hideAll s.heap hs) → Top p loose mean mg mb (hideAll s.heap hs) → (∀ p ∈ news, p.1 < s.heap.objs.size) →
      wpAny (model prog w) (A.deeper (envOfC qual scope s.heap.objs.size f cdv)) (execs body (envOfC qual scope s.heap.objs.size f cdv))
        (fun fl s' => Q (match fl with | .ret v => v | _ => .none) s') (fun _ _ => False)
        { s with heap := h₁, toks := tk })
    (hco : scope.isCoroutine = false) (hgen : scope.isGenerator = false) (hk : scope.kind = .function) : wpAny (model prog w) A (call (.ref f) args kw) Q E s := by
  have up : Ext (hideAll s.heap hs) s.heap := fun b o e => of_hideAll _ e
  refine wpAny_call ?_
  refine codeAny_call_function (fd := fnOf name qual params body scope dV kV doc pm an cdv ct) (body := body) hroom (X.keeps up _ _ ho) rfl hco hgen rfl (codeRec_of (X.keeps up) hcd) (hbind _ _ _ _ ?_)
  refine wpAny_newFunctionEnv_cells hk (kindsX hkind _) fun env' he s' x => ?_
  subst he
  refine ⟨(T.nolimit.keeps up).keeps x.toInCall.keep, codeAny_func ?_⟩
  ((refine Mine.ex2 x.done ?_); intro h₁ tk; intro hZ1; (refine And.elim ?_ hZ1); clear hZ1; intro hZ2; obtain rfl := hZ2; intro _)
  have hk₁ := x.toInCall.keep
  ((refine Exists.elim (Cl.news (h₀ := s.heap) (Nat.le_refl _) fun n c hm => ⟨x.cell n c (lookup_of_mem_nodup (cellsFrom_names scope.names 0 (s.heap.objs.size + 1) [] [] rfl ▸ hnd) hm), x.above n c hm⟩) ?_); intro cells; intro hZ1; (refine And.elim ?_ hZ1); clear hZ1; intro NC Y)
  refine wpAny_mono (h h₁ tk cells ⟨x.toInCall.ns, fun b o e => hk₁ b o (of_hideAll _ e), Nat.le_of_eq (hideAll_size _ _)⟩ (fun q hq => ?_) Y X T (fun q hq => Heap.lt_size (N q hq).1)) (fun fl s' q => q) (fun _ _ q => q.elim)
  rcases List.mem_append.mp hq with hq | hq
  · refine ⟨(NC q hq).1, (NC q hq).2.1, ?_⟩
    cases e : (hideAll s.heap hs).get? q.1 with
    | none => rfl
    | some o => have := of_hideAll _ e; rw [(NC q hq).2.2] at this; cases this
  · exact ⟨hk₁ _ _ (N q hq).1, Nat.ne_of_lt (Heap.lt_size (N q hq).1), hideAll_none _ (N q hq).2⟩
end Mine
end
section -- HS
open PySem PySem.W PyProof.Rows
set_option maxRecDepth 100000
set_option linter.unusedVariables false
namespace Mine
section
variable {prog : Program} {w : World} {A : Around} {E : Value → Shared → Prop} {s : Shared}
theorem wpAny_listItems {M : Model} {a : Addr} {o : Obj} {items : Array Value} {n : Nat} {Q : Array Value → Shared → Prop} (ho : s.heap.get? a = some o) (hd : o.data = .seq items n) (h : Q items s) : wpAny M A (Builtin.List.listItems (.ref a)) Q E s := by
  unfold Builtin.List.listItems
  exact wpAny_bind (wpAny_seqItems ho hd (wpAny_pure h))
open Builtin Builtin.List in
/-- xs[:] = ys -/
theorem setItem_all {l S D : Addr} {its ys : Array Value} {n : Nat} {oS : Obj} {Q : Unit → Shared → Prop} (hl : s.heap.get? l = some (listOf its n)) (hS : s.heap.get? S = some oS) (hSc : oS.cls = .type "slice") (hSd : oS.data = .fields #[.none, .none, .none])
    (hD : s.heap.IsList D ys) (hne : l ≠ D) (hz : its.size + ys.size ≤ 1000)
    (h : ∀ h' n', h'.get? l = some (listOf ys n') → Heap.SameBut l s.heap h' → Q () { s with heap := h' }) : wpAny (model prog w) A (setItem (.ref l) (.ref S) (.ref D)) Q E s := by
  have hL : s.heap.IsList l its := ⟨_, hl, rfl, n, rfl⟩
  have hTS : s.TypeIs (.ref S) "slice" := ⟨oS, hS, hSc⟩
  have hTD : s.TypeIs (.ref D) "list" := hD.typeIs
  ((refine Exists.elim hD ?_); (try clear hD); intro oD; intro hZ1; (refine Mine.and3 hZ1 ?_); clear hZ1; intro hDg hDc; intro hZ2; (refine Exists.elim hZ2 ?_); clear hZ2; intro nD hDd)
  unfold setItem
  refine wpAny_holding ?_
  refine wpAny_bind (wpAny_sequenceKey hL.typeIs (by decide) ?_)
  refine wpAny_bind (wpAny_callSpecial?_slot (name := Str.ofString "__setitem__") hL.typeIs slot_list_setitem
    (wpAny_call_entry slot_list_setitem hL.typeIs entry_list_setitem ?_ (args_list_setitem _ _ _)))
  show wpAny _ _ (Builtin.List.listSubscript? (.ref S) >>= _) _ _ s
  unfold listSubscript?
  refine wpAny_bind (wpAny_bind (wpAny_specialOf hTS slice_no_index ?_))
  rw [if_pos (by rfl)]
  refine wpAny_pure ?_
  dsimp only
  refine wpAny_bind (wpAny_typeOf hTS ?_)
  rw [if_neg (by decide)]
  refine wpAny_bind ?_
  unfold listSliceParts
  refine wpAny_bind (wpAny_field hS hSd (i := 2) rfl ?_)
  refine wpAny_bind (wpAny_pure ?_)
  rw [if_neg (by decide)]
  refine wpAny_bind (wpAny_field hS hSd (i := 0) rfl ?_)
  refine wpAny_bind (wpAny_pure ?_)
  refine wpAny_bind (wpAny_field hS hSd (i := 1) rfl ?_)
  refine wpAny_bind (wpAny_pure ?_)
  refine wpAny_pure ?_
  have e1 : listSameRef (.ref l) (.ref D) = false := beq_false_of_ne hne
  dsimp only
  rw [e1, if_neg Bool.false_ne_true]
  refine wpAny_bind (m := listAllItems _ _) ?_
  unfold listAllItems
  refine wpAny_bind (wpAny_typeOf hTD ?_)
  rw [if_pos (by rfl)]
  first
    | refine wpAny_bind (wpAny_listItems hDg hDd (wpAny_pure ?_))
    | refine wpAny_listItems hDg hDd ?_
  refine wpAny_bind (wpAny_listItems hl rfl ?_)
  refine wpAny_bind (m := sliceIndices _ _ _ _) (wpAny_of_eq (a := ((0 : Int), (its.size : Int), (1 : Int))) (by rfl) ?_)
  dsimp only
  rw [if_pos (by rfl)]
  refine wpAny_bind (wpAny_rule ?_)
  have e2 : listTooLong (its.size + ys.size) = false := by
    unfold listTooLong sizeLine
    simp; omega
  rw [e2, if_neg Bool.false_ne_true]
  refine wpAny_bind (m := listUpdate _ _) ?_
  show wpAny _ _ (updateSeq l _) _ _ s
  have e3 : its.extract 0 (Int.toNat 0) ++ ys ++ its.extract (Max.max (0 : Int) (its.size : Int)).toNat its.size = ys := by
    have : (Max.max (0 : Int) (its.size : Int)).toNat = its.size := toNat_max0 _
    rw [this]
    simp
  refine wpAny_updateSeq hl rfl ?_ (by unfold sizeLine; omega) (by rw [e3]; unfold sizeLine; omega)
  refine wpAny_bind (wpAny_letGo ?_)
  refine wpAny_pure ⟨_, rfl, wpAny_pure ?_⟩
  refine h _ (if ys.size == its.size then n else n + 1) ?_ (Heap.SameBut.update ..)
  rw [Heap.get?_update_self _ hl rfl]
  show some (Obj.mapSeq _ _) = _
  unfold Obj.mapSeq
  dsimp only
  rw [e3]
end
end Mine
end
section -- H5
open PySem PySem.W PyProof.Rows PyProof.Rows.LCg PyProof.Rows.LCt
set_option maxRecDepth 100000
set_option linter.unusedVariables false
namespace Mine
theorem zoff_H5 : True := by
  w_top off
  k_with_none
  k_with "Hid" => (refine Mine.Hid.go (by with_reducible assumption) ?_)
  k_with "execs cons" => ((fail_if_success (with_reducible refine Mine.isHid ?_)); (refine Mine.hideQ fun _ _ => ?_))
  k_with "exec Assign" => ((fail_if_success (with_reducible refine Mine.isHid ?_)); (refine Mine.hideQ fun _ _ => ?_))
  k_with "exec Expr" => ((fail_if_success (with_reducible refine Mine.isHid ?_)); (refine Mine.hideQ fun _ _ => ?_))
  k_with "exec Return" => ((fail_if_success (with_reducible refine Mine.isHid ?_)); (refine Mine.hideQ fun _ _ => ?_))
  k_with "exec AugAssign" => ((fail_if_success (with_reducible refine Mine.isHid ?_)); (refine Mine.hideQ fun _ _ => ?_))
  k_with "exec If" => ((fail_if_success (with_reducible refine Mine.isHid ?_)); (refine Mine.hideQ fun _ _ => ?_))
  trivial
theorem rack_zip {w : World} {h : Heap} {r d l : Addr} {n : Nat} {tkd : Tok} {zs : List (Value × (Str × Str))} (m1 : h.get? r = some (instObj 227 d)) (m2 : h.get? d = some (dictOf [⟨PyData.keyHash w.params (Str.ofString "_headers"), .str (Str.ofString "_headers") tkd, .ref l⟩] 1))
    (m3 : h.get? l = some (listOf (zs.map (·.1)).toArray n)) (hz : ∀ q ∈ zs, ∃ T t1 t2, q.1 = .ref T ∧ h.IsTuple T #[.str q.2.1 t1, .str q.2.2 t2]) : Rack w h r d l (zs.map (·.1)) (zs.map (·.2)) := by
  classical
  refine ⟨m1, ⟨tkd, m2⟩, ⟨n, m3⟩, by simp, ?_⟩
  have key : ∀ i : Nat, ∃ t : Tok × Tok, ∀ q, zs[i]? = some q → ∃ T, q.1 = .ref T ∧ h.IsTuple T #[.str q.2.1 t.1, .str q.2.2 t.2] := by
    intro i
    cases hq : zs[i]? with
    | none => exact ⟨default, fun q e => by cases e⟩
    | some q =>
      ((refine Exists.elim (hz q (List.mem_of_getElem? hq)) ?_); intro T; intro hZ1; (refine Exists.elim hZ1 ?_); clear hZ1; intro t1; intro hZ2; (refine Exists.elim hZ2 ?_); clear hZ2; intro t2; intro hZ3; (refine And.elim ?_ hZ3); clear hZ3; intro e1 e2)
      exact ⟨(t1, t2), fun q' e => by cases e; exact ⟨T, e1, e2⟩⟩
  refine ⟨fun i => (key i).choose.1, fun i => (key i).choose.2, fun i v hv => ?_⟩
  rw [List.getElem?_map] at hv
  cases hq : zs[i]? with
  | none => rw [hq] at hv; cases hv
  | some q =>
    rw [hq] at hv
    cases hv
    ((refine Exists.elim ((key i).choose_spec q hq) ?_); intro T; intro hZ1; (refine And.elim ?_ hZ1); clear hZ1; intro e1 e2)
    refine ⟨T, e1, ?_⟩
    rw [List.getD_eq_getElem?_getD, List.getElem?_map, hq]
    exact e2
theorem zk_H5_1 : True := by
  k_with "eval ListComp" => (refine Stop.h ?_)
  k_with "CompSrcT" => (refine Stop.h ?_)
  trivial
set_option maxHeartbeats 8000000 in
theorem del_spec (w : World) {p : Program} {loose : List Str} {mean : ExcName → Option Value} {mg mb : Str → Option Value} : ∀ (b₀ : Heap) (r d l : Addr) (vs : List Value) (xs : List (Str × Str)) (x : Str) (tk : Tok) (A : Around) (s : Shared) (Q E : Value → Shared → Prop)
    (X : (KX w.params).In b₀) (T : Top p loose mean mg mb b₀) (hb : Ext b₀ s.heap) (off : ∀ a ∈ [r, d, l], b₀.get? a = none) (H : Rack w s.heap r d l vs xs) (hd : A.depth + 10 < recursionLimit) (hh : A.handled = none) (hx : OkName x) (hr : RowsOk xs) (hsz : xs.length ≤ 100)
    (ret : ∀ vs' h' tk', (∀ v ∈ vs', v ∈ vs) → Ext (hideAll s.heap [l]) h' → Rack w h' r d l vs' (xs.filter fun q => Txt.lower q.1 != Txt.lower x) → Q .none { s with heap := h', toks := tk' }), wpAny (model PySem.Challenge.rw_sh0039_01.row.prog w) A (call (.ref 145) [.ref r, .str x tk]) Q E s := by
  k_fill
  intro b₀ r d l vs xs x tk A s Q E X T hb off H hd0 hh hx hr hsz ret
  have hxl : x.length ≤ 600 := hx.2
  have hd : A.depth < recursionLimit := by omega
  obtain ⟨h1, ⟨tkd, h2⟩, ⟨n, h3⟩, h4, ⟨p1, p2, h5⟩⟩ := H
  ((refine Mine.and3 (ne3 h1 h2 h3) ?_); intro n1 n2 n3)
  have hvs : vs.toArray.size ≤ 100 := by simp; omega
  have hu := hide_ext hb off
  have hrows : ∀ i v, vs[i]? = some v → ∃ T, v = .ref T ∧ (hideAll s.heap [r, d, l]).IsTuple T #[.str (xs.getD i default).1 (p1 i), .str (xs.getD i default).2 (p2 i)] := fun i v hv => by
    ((refine Exists.elim (h5 i v hv) ?_); intro T; intro hZ1; (refine And.elim ?_ hZ1); clear hZ1; intro hT hU)
    exact ⟨T, hT, hide_tup h1 h2 h3 hU⟩
  k_dflt (refine' enterHC (hs := [r, d, l]) (news := [(r, instObj 227 d), (d, dictOf [⟨PyData.keyHash w.params (Str.ofString "_headers"), .str (Str.ofString "_headers") tkd, .ref l⟩] 1), (l, listOf vs.toArray n)]) (K := KX w.params) (X.keeps hu) (T.keeps hu) ?kn ?k6 ?k7 hd ?k9 ?kB ?kD ?_ ?c2 ?c3 ?c4)
  (case kn => exact all3 ⟨h1, .head _⟩ ⟨h2, .tail _ (.head _)⟩ ⟨h3, .tail _ (.tail _ (.head _))⟩)
  (case k6 => k_is)
  (case k7 => k_is)
  (case k9 => exact BindsTo.of_eq rfl)
  (case kB => exact rfl)
  (case kD => decide +kernel)
  (case c2 => exact rfl)
  (case c3 => exact rfl)
  (case c4 => exact rfl)
  have X0 := X
  have T0 := T
  clear X T
  intro h₁ tk1 cells F N Y X T l1
  (try (refine Mine.hideQ fun _ _ => ?_))
  (try k_lt l1)
  k_cells Y
  (try simp only [List.cons_append, List.nil_append] at N)
  (try dsimp only)
  (try k_fold)
  k_steps
  (with_reducible rename Fr _ _ _ _ => F1)
  (with_reducible rename News _ _ _ _ => N1)
  refine conv_spec w true r (Txt.lower x) _ _ _ _ _ (X.keeps F1.keep) (T.keeps F1.keep) (by simp only [depth_deeper]; omega) hx.1.1 (Nat.le_trans hx.1.2 (by decide)) ?_
  intro h2' tk2 e2
  (try (refine Mine.hideQ fun _ _ => ?_))
  have F2 := Fr.keeps F1 e2
  have N2 := News.grown N1 e2
  clear F1 N1
  generalize hnm : Txt.lower x = nm at *
  dsimp only
  k_steps
  (with_reducible rename Fr _ _ _ _ => F3)
  (with_reducible rename News _ _ _ _ => N3)
  (rename _ = Data.cell (some (Value.str nm _)) => dc)
  constructor
  refine ListComp_T (F₀ := F3) (by with_unfolding_all rfl) (by decide) (by rfl) (by decide) (by rfl) ?_
  (try k_fold)
  k_steps
  constructor
  refine CompSrcT.ledger hh F3 N3 (.tail _ (.tail _ (.tail _ (.head _)))) (by unfold sizeLine; omega) ?_
  intro g
  (try (refine Mine.hideQ fun _ _ => ?_))
  refine restT_ind (fun i ys news => news = _ ∧ ys = (((vs.zip xs).take i).filter (fun q => Txt.lower q.2.1 != nm)).map (·.1)) _ ?_ ?_ ⟨rfl, rfl⟩
  · intro i ys news v I oI C oC D m₂ h tkt E' hi hJ14 hv hC hx1 F4 N4 off4 ne4
    (try (refine Mine.hideQ fun _ _ => ?_))
    ((refine And.elim ?_ hJ14); (try clear hJ14); intro hZ1; obtain rfl := hZ1; intro hS)
    have hi2 : i < vs.length := by simpa using hi
    have hi3 : i < xs.length := by omega
    ((refine Exists.elim (hrows i v (by simpa using hv)) ?_); intro T'; intro hZ1; (refine And.elim ?_ hZ1); clear hZ1; intro hZ2; obtain rfl := hZ2; intro hTup)
    have hmem : xs.getD i default ∈ xs := by rw [List.getD_eq_getElem?_getD, List.getElem?_eq_getElem hi3]; exact List.getElem_mem hi3
    have hok := hr _ hmem
    have hget : xs[i]? = some (xs.getD i default) := by rw [List.getD_eq_getElem?_getD, List.getElem?_eq_getElem hi3]; rfl
    generalize xs.getD i default = row at *
    obtain ⟨ky, vl⟩ := row
    have hkl : ky.length ≤ 600 := hok.1.2
    have hz : (vs.zip xs).take (i + 1) = (vs.zip xs).take i ++ [(.ref T', (ky, vl))] := by
      rw [List.take_add_one, List.getElem?_zip_eq_some (z := (.ref T', (ky, vl))) |>.mpr ⟨by simpa using hv, hget⟩]; rfl
    k_steps
    · refine CompEnd.intro F4 N4 _ (fun p hp => hp) off4 (.inr ⟨_, .tail _ (.tail _ (.tail _ (.head _))), rfl, n, rfl⟩) ⟨rfl, ?_⟩
      have hne : (Txt.lower ky != nm) = true := by assumption
      rw [hz, List.filter_append, List.map_append, hS]
      simp [hne]
    · refine CompEnd.intro F4 N4 _ (fun p hp => hp) off4 (.inr ⟨_, .tail _ (.tail _ (.tail _ (.head _))), rfl, n, rfl⟩) ⟨rfl, ?_⟩
      have hne : (Txt.lower ky != nm) = false := by assumption
      rw [hz, List.filter_append, List.map_append, hS]
      simp [hne]
  · intro ys news hJ2 D h tk4 F4 N4 o4
    (try (refine Mine.hideQ fun _ _ => ?_))
    ((refine And.elim ?_ hJ2); (try clear hJ2); intro hZ1; obtain rfl := hZ1; intro hS)
    (try k_fold)
    k_steps
    have hzl : (vs.zip xs).take vs.toArray.size = vs.zip xs := List.take_of_length_le (by simp [h4])
    rw [hzl] at hS
    subst hS
    have F5 := F4.push { cls := .type "slice", data := .fields #[.none, .none, .none] }
    have N5 := N4.grown fun b o e => Heap.get?_push_of_some ({ cls := .type "slice", data := .fields #[.none, .none, .none] } : Obj) e
    have hlD : @Ne Nat l D := o4.2.2.2.1
    refine setItem_all (its := vs.toArray) (ys := (((vs.zip xs).filter (fun q => Txt.lower q.2.1 != nm)).map (·.1)).toArray) (n := n) (N5 _ (.tail _ (.tail _ (.tail _ (.tail _ (.head _)))))).1 (Heap.get?_push_size _ rfl) rfl rfl ⟨_, (N5 _ (.head _)).1, rfl, _, rfl⟩ hlD ?_ ?_
    · have := List.length_filter_le (fun q : Value × Str × Str => Txt.lower q.2.1 != nm) (vs.zip xs)
      have h7 : (vs.zip xs).length ≤ vs.length := by simp [List.length_zip]; omega
      simp only [List.size_toArray, List.length_map] at *
      omega
    intro h6 n6 hl6 hs6
    (try (refine Mine.hideQ fun _ _ => ?_))
    k_steps
    have kp : ∀ b o, b ≠ l → (Heap.push h { cls := .type "slice", data := .fields #[.none, .none, .none] }).get? b = some o → h6.get? b = some o := fun b o hb e => (hs6.2 b hb).trans e
    have k0 : Ext (hideAll s.heap [r, d, l]) h6 := fun b o e => kp b o (fun q => by rw [q, hideAll_none _ (.tail _ (.tail _ (.head _)))] at e; cases e) (F5.keep b o e)
    have g1 := kp _ _ n1 (N5 _ (.tail _ (.tail _ (.head _)))).1
    have g2 := kp _ _ n2 (N5 _ (.tail _ (.tail _ (.tail _ (.head _))))).1
    have hfil : (xs.filter fun q => Txt.lower q.1 != nm) = ((vs.zip xs).filter (fun q => Txt.lower q.2.1 != nm)).map (·.2) := by
      conv => lhs; rw [← List.map_snd_zip (l₁ := vs) (l₂ := xs) (by omega)]
      rw [List.filter_map]
      rfl
    refine ret (((vs.zip xs).filter (fun q => Txt.lower q.2.1 != nm)).map (·.1)) h6 _ ?_ (ext_but k0 (fun o e => ?_) (fun o e => ?_)) ?_
    · intro v hv
      (try (refine Mine.hideQ fun _ _ => ?_))
      ((refine Exists.elim (List.mem_map.mp hv) ?_); intro q; intro hZ1; (refine And.elim ?_ hZ1); clear hZ1; intro hq; intro hZ2; obtain rfl := hZ2)
      exact (List.of_mem_zip (List.mem_filter.mp hq).1).1
    · rw [h1] at e; cases e; exact g1
    · rw [h2] at e; cases e; exact g2
    · rw [hfil]
      refine rack_zip g1 g2 hl6 (fun q hq => ?_)
      ((refine Exists.elim (List.mem_iff_getElem.mp (List.mem_filter.mp hq).1) ?_); intro i; intro hZ1; (refine Exists.elim hZ1 ?_); clear hZ1; intro hi e)
      have hz := List.getElem?_zip_eq_some (l₁ := vs) (l₂ := xs) (i := i) (z := q) |>.mp (by rw [List.getElem?_eq_getElem hi, e])
      ((refine Mine.hideG fun G kG => ?_); (refine Exists.elim (hrows i q.1 hz.1) ?_); intro T'; intro hZ1; (refine And.elim ?_ hZ1); clear hZ1; intro hT; intro hZ2; (refine Exists.elim hZ2 ?_); clear hZ2; intro o; intro hZ3; (refine And.elim ?_ hZ3); clear hZ3; intro ho hq'; (refine kG ?_); clear kG G)
      rw [List.getD_eq_getElem?_getD, hz.2] at hq'
      exact ⟨T', _, _, hT, o, k0 _ _ ho, hq'⟩
end Mine
end
section -- H7
open PySem PySem.W PyProof.Rows
set_option maxRecDepth 100000
set_option linter.unusedVariables false
namespace Mine
theorem zoff_H7 : True := by
  w_top off
  k_with_none
  k_with "Hid" => (refine Mine.Hid.go (by with_reducible assumption) ?_)
  k_with "execs cons" => ((fail_if_success (with_reducible refine Mine.isHid ?_)); (refine Mine.hideQ fun _ _ => ?_))
  k_with "exec Assign" => ((fail_if_success (with_reducible refine Mine.isHid ?_)); (refine Mine.hideQ fun _ _ => ?_))
  k_with "exec Expr" => ((fail_if_success (with_reducible refine Mine.isHid ?_)); (refine Mine.hideQ fun _ _ => ?_))
  k_with "exec Return" => ((fail_if_success (with_reducible refine Mine.isHid ?_)); (refine Mine.hideQ fun _ _ => ?_))
  k_with "exec AugAssign" => ((fail_if_success (with_reducible refine Mine.isHid ?_)); (refine Mine.hideQ fun _ _ => ?_))
  k_with "exec If" => ((fail_if_success (with_reducible refine Mine.isHid ?_)); (refine Mine.hideQ fun _ _ => ?_))
  trivial
theorem zk_H7_1 : True := by
  k_with "exec For Tuple Name cons nil" => (refine Stop.h ?_)
  trivial
set_option maxHeartbeats 8000000 in
theorem new0_spec (w : World) {p : Program} {loose : List Str} {mean : ExcName → Option Value} {mg mb : Str → Option Value} : ∀ (b₀ : Heap) (A : Around) (s : Shared) (Q E : Value → Shared → Prop)
    (X : (KX w.params).In b₀) (T : Top p loose mean mg mb b₀) (hb : Ext b₀ s.heap) (hd : A.depth + 5 < recursionLimit) (hh : A.handled = none)
    (ret : ∀ (r d l : Addr) (h' : Heap) tk', s.heap.get? r = none → s.heap.get? d = none → s.heap.get? l = none → Ext s.heap h' → Rack w h' r d l [] [] → Q (.ref r) { s with heap := h', toks := tk' }), wpAny (model PySem.Challenge.rw_sh0039_01.row.prog w) A (call (.ref 227) []) Q E s := by
  k_fill
  intro b₀ A s Q E X T hb hd0 hh ret
  have hd : A.depth < recursionLimit := by omega
  obtain ⟨h0, g0, d0, t0, os0⟩ := s
  refine wpAny_call ?_
  k_dflt (refine' make_core (C := 227) (makes_of (X.keeps hb) ?m1) (looks_findIn (X.keeps hb) ?m2) (fun self => bind_fn (X.keeps hb) self ?m3) (.inl rfl) ?_)
  (case m1 => k_is)
  (case m2 => k_is)
  (case m3 => k_is)
  have up : Ext h0 ((h0.push emptyDict).push (instObj 227 h0.objs.size)) := fun b o e => Heap.get?_push_of_some _ (Heap.get?_push_of_some _ e)
  have g1 : ((h0.push emptyDict).push (instObj 227 h0.objs.size)).get? (h0.objs.size + 1) = some (instObj 227 h0.objs.size) := by
    have := Heap.get?_push_size (h0.push emptyDict) (o := instObj 227 h0.objs.size) rfl
    rwa [Heap.size_push] at this
  have g2 : ((h0.push emptyDict).push (instObj 227 h0.objs.size)).get? h0.objs.size = some emptyDict := Heap.get?_push_of_some _ (Heap.get?_push_size _ rfl)
  have f1 : h0.get? (h0.objs.size + 1) = none := Heap.get?_none_of_le (by omega)
  have f2 : h0.get? h0.objs.size = none := Heap.get?_none_of_le (Nat.le_refl _)
  have hz : ((h0.push emptyDict).push (instObj 227 h0.objs.size)).objs.size = h0.objs.size + 2 := by rw [Heap.size_push, Heap.size_push]
  generalize hH : (h0.push emptyDict).push (instObj 227 h0.objs.size) = H at *
  generalize hS : h0.objs.size = S at *
  have hu : Ext b₀ (hideAll H [S + 1, S]) := hide_ext (fun b o e => up b o (hb b o e)) (by
    intro a ha
    replace ha := mem2 ha
    (rcases ha with rfl | hZ <;> (try ((replace hZ := Eq.symm hZ); obtain rfl := hZ)))
    · exact none_base hb f1
    · exact none_base hb f2)
  k_dflt (refine' enterH0 (s := ⟨H, g0, d0, t0, os0⟩) (hs := [S + 1, S]) (news := [(S + 1, instObj 227 S), (S, dictOf [] 0)]) (K := KX w.params) (X.keeps hu) (T.keeps hu) ?kn ?k6 ?k7 ?hd ?k9 ?kB ?_ ?c2 ?c3 ?c4 ?c5)
  (case kn => exact all2 ⟨g1, .head _⟩ ⟨g2, .tail _ (.head _)⟩)
  (case hd => simp only [depth_under_make, depth_under_kw]; omega)
  (case k6 => k_is)
  (case k7 => k_is)
  (case k9 => exact binds_K (X.keeps (fun b o e => up b o (hb b o e))) rfl (by k_is) rfl rfl rfl)
  (case kB => exact locs rfl)
  (case c2 => exact rfl)
  (case c3 => exact rfl)
  (case c4 => exact rfl)
  (case c5 => decide)
  have X0 := X
  have T0 := T
  clear X T
  intro h₁ F N X T
  dsimp only at F N ⊢
  (try k_fold)
  k_steps
  constructor
  (with_reducible rename Fr _ _ _ _ => F1)
  (with_reducible rename News _ _ _ _ => N1)
  refine wpAny_For ?_
  (try k_fold)
  k_steps
  rename_i lq _ lh _ _ _ _ _ _ _ _ _

  refine wpAny_pyIter_list (l := lq) (items := #[]) ⟨_, (N1 _ (.head _)).1, rfl, _, rfl⟩ ?_
  refine forTup (h₀ := hideAll H [S + 1, S]) (l := lq) (vs := []) (nl := 0) (p1 := fun _ => .none) (p2 := fun _ => .none) hh (fun i v hv => by simp at hv) rfl rfl rfl ⟨0, rfl, ⟨_, Heap.get?_push_size _ rfl, rfl, rfl⟩⟩ (Ne.symm (Nat.ne_of_lt F1.ns.lt)) (next_is_new F1)
    (fun p hp => Nat.ne_of_lt (Heap.lt_size (N1 p hp).1)) (.head _) (F1.push _) (N1.grown fun b o e => Heap.get?_push_of_some _ e) (fun i m => True) trivial (fun i oI m₁ h tk hi => absurd hi (Nat.not_lt_zero _)) ?_
  rintro hq tkq m' F4 N4 -
  (try k_fold)
  k_steps
  refine ⟨rfl, ?_⟩
  have kp : Ext h0 hq := fun b o e => F4.keep b o (hideAll_get _ (up b o e) (fun m => by
    have this : b < S := hS ▸ Heap.lt_size e
    replace m := mem2 m
    (rcases m with rfl | hZ <;> (try ((replace hZ := Eq.symm hZ); obtain rfl := hZ)))
    · exact Nat.lt_irrefl _ (Nat.lt_trans this (Nat.lt_succ_self S))
    · exact Nat.lt_irrefl _ this))
  refine ret (S + 1) S lq _ _ f1 f2 (Heap.get?_none_of_le (show h0.objs.size ≤ lq from hS ▸ Nat.le_of_lt lh.2)) kp ⟨(N4 _ (.tail _ (.head _))).1, ⟨_, (N4 _ (.tail _ (.tail _ (.head _)))).1⟩, ⟨_, (N4 _ (.head _)).1⟩, rfl, fun _ => 0, fun _ => 0, fun i v hv => by simp at hv⟩
end Mine
end
section -- H8
open PySem PySem.W PyProof.Rows
set_option maxRecDepth 100000
set_option linter.unusedVariables false
namespace Mine
theorem zoff_H8 : True := by
  w_top off
  k_with_none
  k_with "Hid" => (refine Mine.Hid.go (by with_reducible assumption) ?_)
  k_with "execs cons" => ((fail_if_success (with_reducible refine Mine.isHid ?_)); (refine Mine.hideQ fun _ _ => ?_))
  k_with "exec Assign" => ((fail_if_success (with_reducible refine Mine.isHid ?_)); (refine Mine.hideQ fun _ _ => ?_))
  k_with "exec Expr" => ((fail_if_success (with_reducible refine Mine.isHid ?_)); (refine Mine.hideQ fun _ _ => ?_))
  k_with "exec Return" => ((fail_if_success (with_reducible refine Mine.isHid ?_)); (refine Mine.hideQ fun _ _ => ?_))
  k_with "exec AugAssign" => ((fail_if_success (with_reducible refine Mine.isHid ?_)); (refine Mine.hideQ fun _ _ => ?_))
  k_with "exec If" => ((fail_if_success (with_reducible refine Mine.isHid ?_)); (refine Mine.hideQ fun _ _ => ?_))
  trivial
theorem zk_H8_1 : True := by
  k_with "eval Name" => (refine ld (by assumption) (by assumption) ?_)
  k_with "exec For Tuple Name cons nil" => (refine Stop.h ?_)
  trivial
set_option maxHeartbeats 8000000 in
theorem new1_spec (w : World) {p : Program} {loose : List Str} {mean : ExcName → Option Value} {mg mb : Str → Option Value} : ∀ (b₀ : Heap) (L T₁ : Addr) (a b : Str) (ta tb : Tok) (nL : Nat) (A : Around) (s : Shared) (Q E : Value → Shared → Prop)
    (X : (KX w.params).In b₀) (T : Top p loose mean mg mb b₀) (hb : Ext b₀ s.heap) (hL : s.heap.get? L = some (listOf #[.ref T₁] nL)) (hT : s.heap.IsTuple T₁ #[.str a ta, .str b tb]) (hLb : b₀.get? L = none) (ha : OkText a) (hbt : OkText b) (hd : A.depth + 5 < recursionLimit) (hh : A.handled = none)
    (ret : ∀ (r d : Addr) (h' : Heap) tk', s.heap.get? r = none → s.heap.get? d = none → Ext s.heap h' → Rack w h' r d L [.ref T₁] [(a, b)] → Q (.ref r) { s with heap := h', toks := tk' }), wpAny (model PySem.Challenge.rw_sh0039_01.row.prog w) A (call (.ref 227) [.ref L]) Q E s := by
  k_fill
  intro b₀ L T₁ a b ta tb nL A s Q E X T hb hL hT hLb ha hbt hd0 hh ret
  have hd : A.depth < recursionLimit := by omega
  obtain ⟨h0, g0, d0, t0, os0⟩ := s
  refine wpAny_call ?_
  k_dflt (refine' make_core (C := 227) (makes_of (X.keeps hb) ?m1) (looks_findIn (X.keeps hb) ?m2) (fun self => bind_fn (X.keeps hb) self ?m3) (.inl rfl) ?_)
  (case m1 => k_is)
  (case m2 => k_is)
  (case m3 => k_is)
  have up : Ext h0 ((h0.push emptyDict).push (instObj 227 h0.objs.size)) := fun b o e => Heap.get?_push_of_some _ (Heap.get?_push_of_some _ e)
  have g1 : ((h0.push emptyDict).push (instObj 227 h0.objs.size)).get? (h0.objs.size + 1) = some (instObj 227 h0.objs.size) := by
    have := Heap.get?_push_size (h0.push emptyDict) (o := instObj 227 h0.objs.size) rfl
    rwa [Heap.size_push] at this
  have g2 : ((h0.push emptyDict).push (instObj 227 h0.objs.size)).get? h0.objs.size = some emptyDict := Heap.get?_push_of_some _ (Heap.get?_push_size _ rfl)
  have f1 : h0.get? (h0.objs.size + 1) = none := Heap.get?_none_of_le (by omega)
  have f2 : h0.get? h0.objs.size = none := Heap.get?_none_of_le (Nat.le_refl _)
  have hz : ((h0.push emptyDict).push (instObj 227 h0.objs.size)).objs.size = h0.objs.size + 2 := by rw [Heap.size_push, Heap.size_push]
  generalize hH : (h0.push emptyDict).push (instObj 227 h0.objs.size) = H at *
  generalize hS : h0.objs.size = S at *
  have hLS : @LT.lt Nat _ L S := hS ▸ Heap.lt_size hL
  have hTS : @LT.lt Nat _ T₁ S := by ((refine Exists.elim hT ?_); (try clear hT); intro o; intro hZ1; (refine And.elim ?_ hZ1); clear hZ1; intro ho _); exact hS ▸ Heap.lt_size ho
  have hHT : (hideAll H [S + 1, S, L]).IsTuple T₁ #[.str a ta, .str b tb] := by
    ((refine Exists.elim hT ?_); (try clear hT); intro o; intro hZ1; (refine Mine.and3 hZ1 ?_); clear hZ1; intro ho hc q)
    refine ⟨o, hideAll_get _ (up _ _ ho) (fun m => ?_), hc, q⟩
    replace m := mem3 m
    (rcases m with rfl | rfl | hZ <;> (try ((replace hZ := Eq.symm hZ); obtain rfl := hZ)))
    · exact Nat.lt_irrefl _ (Nat.lt_trans hTS (Nat.lt_succ_self S))
    · exact Nat.lt_irrefl _ hTS
    · rw [hL] at ho; rw [← Option.some.inj ho] at hc; simp at hc
  have hu : Ext b₀ (hideAll H [S + 1, S, L]) := hide_ext (fun b o e => up b o (hb b o e)) (by
    intro a ha
    replace ha := mem3 ha
    (rcases ha with rfl | hZ | hZ <;> (try ((replace hZ := Eq.symm hZ); obtain rfl := hZ)))
    · exact none_base hb f1
    · exact none_base hb f2
    · exact hLb)
  k_dflt (refine' enterH0 (s := ⟨H, g0, d0, t0, os0⟩) (hs := [S + 1, S, L]) (news := [(S + 1, instObj 227 S), (S, dictOf [] 0), (L, listOf #[.ref T₁] nL)]) (K := KX w.params) (X.keeps hu) (T.keeps hu) ?kn ?k6 ?k7 ?hd ?k9 ?kB ?_ ?c2 ?c3 ?c4 ?c5)
  (case kn => exact all3 ⟨g1, .head _⟩ ⟨g2, .tail _ (.head _)⟩ ⟨(up _ _ hL), .tail _ (.tail _ (.head _))⟩)
  (case hd => simp only [depth_under_make, depth_under_kw]; omega)
  (case k6 => k_is)
  (case k7 => k_is)
  (case k9 => exact binds_K (X.keeps (fun b o e => up b o (hb b o e))) rfl (by k_is) rfl rfl rfl)
  (case kB => exact locs rfl)
  (case c2 => exact rfl)
  (case c3 => exact rfl)
  (case c4 => exact rfl)
  (case c5 => decide)
  have X0 := X
  have T0 := T
  clear X T
  intro h₁ F N X T
  dsimp only at F N ⊢
  (try k_fold)
  k_steps
  constructor
  (with_reducible rename Fr _ _ _ _ => F1)
  (with_reducible rename News _ _ _ _ => N1)
  refine wpAny_For ?_
  (try k_fold)
  k_steps
  refine wpAny_pyIter_list (l := L) (items := #[.ref T₁]) ⟨_, (N1 _ (.tail _ (.tail _ (.head _)))).1, rfl, _, rfl⟩ ?_
  refine forTup (h₀ := hideAll H [S + 1, S, L]) (l := L) (vs := [.ref T₁]) (nl := nL) (p1 := fun _ => .str a ta) (p2 := fun _ => .str b tb) hh (fun i v hv => ⟨T₁, by cases i <;> simp at hv; exact hv.symm, hHT⟩) rfl rfl rfl ⟨0, rfl, ⟨_, Heap.get?_push_size _ rfl, rfl, rfl⟩⟩ (Ne.symm (Nat.ne_of_lt F1.ns.lt)) (next_is_new F1)
    (fun p hp => Nat.ne_of_lt (Heap.lt_size (N1 p hp).1)) (.tail _ (.tail _ (.head _))) (F1.push _) (N1.grown fun b o e => Heap.get?_push_of_some _ e) (fun i m => m (Str.ofString "self") = some (.ref (S + 1))) rfl ?_ ?_
  · rintro i oI m₁ h tk hi q1 F4 N4
    have key : ∃ M, Fr (hideAll H [S + 1, S, L]) H.objs.size h M ∧ M (Str.ofString "self") = some (.ref (S + 1)) ∧ M (Str.ofString "k") = some (.str a ta) ∧ M (Str.ofString "v") = some (.str b tb) :=
      ⟨_, F4, by simpa [show ¬ (Str.ofString "self" = Str.ofString "v") from by decide, show ¬ (Str.ofString "self" = Str.ofString "k") from by decide] using q1, by simp [show ¬ (Str.ofString "k" = Str.ofString "v") from by decide], by simp⟩
    clear F1 N1 F4
    ((refine Exists.elim key ?_); (try clear key); intro M4; intro hZ1; (refine Mine.and4 hZ1 ?_); clear hZ1; intro F4 a1 a2 a3)
    (try k_fold)
    k_steps
    (with_reducible rename Fr _ _ _ _ => F5)
    (with_reducible rename News _ _ _ _ => N5)
    refine conv_spec w true (S + 1) a _ _ _ _ _ (X.keeps F5.keep) (T.keeps F5.keep) (by simp only [depth_deeper, depth_under_kw]; omega) ha.1 (Nat.le_trans ha.2 (by decide)) ?_
    intro h6' tk6 e6
    have F6 := Fr.keeps F5 e6
    have N6 := News.grown N5 e6
    clear F5 N5
    dsimp only
    k_steps
    (with_reducible rename Fr _ _ _ _ => F7)
    (with_reducible rename News _ _ _ _ => N7)
    refine conv_spec w false (S + 1) b _ _ _ _ _ (X.keeps F7.keep) (T.keeps F7.keep) (by simp only [depth_deeper, depth_under_kw]; omega) hbt.1 (Nat.le_trans hbt.2 (by decide)) ?_
    intro h8' tk8 e8
    have F8 := Fr.keeps F7 e8
    have N8 := News.grown N7 e8
    clear F7 N7
    dsimp only
    k_steps
    exact ⟨⟨_, _, _, rfl, F8, N8, a1⟩⟩
  · rintro hq tkq m' F4 N4 -
    clear F1 N1
    (try k_fold)
    k_steps
    refine ⟨rfl, ?_⟩
    have kp : Ext h0 hq := fun b' o e => by
      by_cases hb' : b' = L
      · rw [hb', hL] at e; cases e; rw [hb']; exact (N4 _ (.tail _ (.tail _ (.head _)))).1
      · refine F4.keep b' o (hideAll_get _ (up b' o e) (fun m => ?_))
        have this : b' < S := hS ▸ Heap.lt_size e
        replace m := mem3 m
        (rcases m with rfl | hZ | hZ <;> (try ((replace hZ := Eq.symm hZ); obtain rfl := hZ)))
        · exact Nat.lt_irrefl _ (Nat.lt_trans this (Nat.lt_succ_self S))
        · exact Nat.lt_irrefl _ this
        · exact hb' rfl
    refine ret (S + 1) S _ _ f1 f2 kp ⟨(N4 _ (.head _)).1, ⟨_, (N4 _ (.tail _ (.head _))).1⟩, ⟨_, (N4 _ (.tail _ (.tail _ (.head _)))).1⟩, rfl, fun _ => ta, fun _ => tb, fun i v hv => ?_⟩
    ((refine Exists.elim hT ?_); (try clear hT); intro o; intro hZ1; (refine And.elim ?_ hZ1); clear hZ1; intro ho q)
    cases i <;> simp at hv
    subst hv
    exact ⟨T₁, rfl, o, kp _ _ ho, q⟩
end Mine
end
section -- Q0
open PySem PySem.W PyProof.Rows
set_option maxRecDepth 100000
namespace Mine
theorem zoff_Q0 : True := by
  w_top off
  k_with_none
  k_with "Hid" => (refine Mine.Hid.go (by with_reducible assumption) ?_)
  k_with "execs cons" => ((fail_if_success (with_reducible refine Mine.isHid ?_)); (refine Mine.hideQ fun _ _ => ?_))
  k_with "exec Assign" => ((fail_if_success (with_reducible refine Mine.isHid ?_)); (refine Mine.hideQ fun _ _ => ?_))
  k_with "exec Expr" => ((fail_if_success (with_reducible refine Mine.isHid ?_)); (refine Mine.hideQ fun _ _ => ?_))
  k_with "exec Return" => ((fail_if_success (with_reducible refine Mine.isHid ?_)); (refine Mine.hideQ fun _ _ => ?_))
  k_with "exec AugAssign" => ((fail_if_success (with_reducible refine Mine.isHid ?_)); (refine Mine.hideQ fun _ _ => ?_))
  k_with "exec If" => ((fail_if_success (with_reducible refine Mine.isHid ?_)); (refine Mine.hideQ fun _ _ => ?_))
  trivial
section
variable {prog : Program} {w : World} {A : Around} {E : Value → Shared → Prop} {s : Shared}
theorem call_subB {a : Addr} {x y : Str} {xt yt : Tok} (H : IsPat s.heap a codeB) (hy : y = ⟨#[13, 10]⟩) (hx : x.length ≤ 5000) {Q : Value → Shared → Prop}
    (hret : ∀ h' tk t, Ext s.heap h' → Q (.str ⟨(nlGo false x.cps.toList).toArray⟩ t) { s with heap := h', toks := tk }) :
    wpAny (model prog w) A (call (.builtin "re.Pattern.sub") [.ref a, .str y yt, .str x xt]) Q E s := by
  subst hy
  refine call_sub H (subLawB x.cps) hx ?_ (by decide +kernel) ?_
  · have := nlGo_len x.cps.toList false
    simp only [List.drop_zero]
    unfold Str.length at hx
    simp at this
    omega
  · simpa only [List.drop_zero] using hret
theorem call_subA {a : Addr} {x y : Str} {xt yt : Tok} (H : IsPat s.heap a codeA) (hy : y = ⟨#[46, 46]⟩) (hx : x.length ≤ 5000) {Q : Value → Shared → Prop}
    (hret : ∀ h' tk t, Ext s.heap h' → Q (.str ⟨(stGo true x.cps.toList).toArray⟩ t) { s with heap := h', toks := tk }) :
    wpAny (model prog w) A (call (.builtin "re.Pattern.sub") [.ref a, .str y yt, .str x xt]) Q E s := by
  subst hy
  refine call_sub H (subLawA x.cps) hx ?_ (by decide +kernel) ?_
  · have := stGo_len x.cps.toList true
    simp only [List.drop_zero]
    unfold Str.length at hx
    simp at this ⊢
    omega
  · have e : ((0 : Nat) == 0 || x.cps.getD (0 - 1) 0 == 10) = true := rfl
    simpa only [List.drop_zero, e] using hret
end
set_option maxHeartbeats 8000000 in
theorem quote_spec (w : World) {p : Program} {loose : List Str} {mean : ExcName → Option Value} {mg mb : Str → Option Value} : ∀ (x : Str) (tk : Tok) (A : Around) (s : Shared) (Q E : Value → Shared → Prop)
    (X : (KX w.params).In s.heap) (T : Top p loose mean mg mb s.heap) (hd : A.depth < recursionLimit) (hxl : x.length ≤ 2000) (P : IsPat s.heap 43 codeA ∧ IsPat s.heap 48 codeB ∧ IsPat s.heap 99 codeName ∧ IsPat s.heap 104 codeValue)
    (ret : ∀ h' tk' t, Ext s.heap h' → Q (.str ⟨(quoteW x.cps.toList).toArray⟩ t) { s with heap := h', toks := tk' }), wpAny (model PySem.Challenge.rw_sh0039_01.row.prog w) A (call (.ref 55) [.str x tk]) Q E s := by
  k_fill
  intro x tk A s Q E X T hd hxl P ret
  k_dflt (refine' enter (K := KX w.params) X T ?k6 ?k7 hd ?k9 ?kB ?_ ?c2 ?c3 ?c4 ?c5)
  (case k6 => k_is)
  (case k7 => k_is)
  (case k9 => exact BindsTo.of_eq rfl)
  (case kB => exact locs rfl)
  (case c2 => exact rfl)
  (case c3 => exact rfl)
  (case c4 => exact rfl)
  (case c5 => decide)
  clear X T
  intro h₁ F N X T
  (try k_fold)
  k_steps
  (with_reducible rename Fr _ _ _ _ => F1)
  refine getMethod_sub (P.1.ext F1.keep) ?_
  k_steps
  (with_reducible rename Fr _ _ _ _ => F1)
  refine getMethod_sub (P.2.1.ext F1.keep) ?_
  k_steps
  (with_reducible rename Fr _ _ _ _ => F1)
  (with_reducible rename News _ _ _ _ => N1)
  have P2 := P.2.1.ext F1.keep
  refine call_subB (x := x) P2 (by decide +kernel) (by omega) ?_
  intro h2 tk2 t2 e2
  have F2 := Fr.keeps F1 e2
  have N2 := News.grown N1 e2
  clear F1 N1
  have hy : (nlGo false x.cps.toList).length ≤ 4000 := by
    have := nlGo_len x.cps.toList false
    unfold Str.length at hxl
    simp at this
    omega
  unfold quoteW at ret
  generalize nlGo false x.cps.toList = y at *
  k_steps
  (with_reducible rename Fr _ _ _ _ => F3)
  have P3 := P.1.ext F3.keep
  refine call_subA (x := ⟨y.toArray⟩) P3 (by decide +kernel) (by show (y.toArray).size ≤ 5000; simp; omega) ?_
  intro h4 tk4 t4 e4
  have F4 := Fr.keeps F3 e4
  clear F3
  k_steps
  exact ret _ _ _ F4.keep
end Mine
end
section -- M1
open PySem PySem.W PyProof.Rows
set_option maxRecDepth 100000
set_option linter.unusedVariables false
namespace Mine
section
variable {prog : Program} {w : World} {A : Around} {E : Value → Shared → Prop} {s : Shared}
noncomputable def strAt (xs : List Str) (i : Nat) : Str := xs.getD i default
theorem cmp_strs_gt {xs : List (Str × Tok)} : CmpOf prog w A .Gt (fun i v => (xs.map fun p => Value.str p.1 p.2).toArray[i]? = some v) (fun i j => decide ((strAt (xs.map (·.1)) j).cps.toList < (strAt (xs.map (·.1)) i).cps.toList)) := by
  intro i j vi vj s Q E hi hj h
  simp only [List.getElem?_toArray, List.getElem?_map, Option.map_eq_some_iff] at hi hj
  ((refine Exists.elim hi ?_); (try clear hi); intro p; intro hZ1; (refine And.elim ?_ hZ1); clear hZ1; intro hp; intro hZ2; obtain rfl := hZ2)
  ((refine Exists.elim hj ?_); (try clear hj); intro q; intro hZ1; (refine And.elim ?_ hZ1); clear hZ1; intro hq; intro hZ2; obtain rfl := hZ2)
  have e1 : strAt (xs.map (·.1)) i = p.1 := by simp [strAt, hp]
  have e2 : strAt (xs.map (·.1)) j = q.1 := by simp [strAt, hq]
  dsimp only at h
  rw [e1, e2] at h
  exact richCompare_gives (op := .Gt) (typeIs_str s _ p.2) (typeIs_str s _ q.2) F.slot_str_gt F.entry_str_gt (F.args_str_gt_2 _ _) (gives_str_gt _ _ p.2 q.2) (fun x => nomatch x) h
theorem max_two_strs {x y : Str} {t u : Tok} {Q : Value → Shared → Prop} (hh : A.handled = none)
    (h1 : ∀ h' tk, Ext s.heap h' → x.cps.toList < y.cps.toList → Q (.str y u) { s with heap := h', toks := tk }) (h2 : ∀ h' tk, Ext s.heap h' → ¬ x.cps.toList < y.cps.toList → Q (.str x t) { s with heap := h', toks := tk }) :
    wpAny (model prog w) A (call (.builtin "max") [.str x t, .str y u]) Q E s := by
  have hT : (s.heap.push { cls := .type "tuple", data := .seq #[.str x t, .str y u] }).IsTuple s.heap.objs.size #[.str x t, .str y u] := ⟨_, Heap.get?_push_size _ rfl, rfl, 0, rfl⟩
  refine call_max_two (wpAny_pyIter_tuple hT ?_)
  have hsz : (s.heap.push { cls := .type "tuple", data := .seq #[.str x t, .str y u] }).objs.size = s.heap.objs.size + 1 := Heap.size_push ..
  refine ⟨_, [_, s.heap.objs.size], [_], _, _, _, _, rfl, Walks.tuple (A := A.in1) hh _ s.heap.objs.size (by rw [hsz]; exact Nat.ne_of_lt (Nat.lt_succ_self _)) #[.str x t, .str y u],
    ⟨⟨_, Heap.get?_push_size _ rfl, rfl, rfl⟩, hT.push _⟩, fun c hc => ?_, by simp, cmp_strs_gt (xs := [(x, t), (y, u)]), fun v h' tk hP hk => ?_⟩
  · show c < ((s.heap.push _).push _).objs.size
    rw [Heap.size_push, hsz]
    rcases List.mem_cons.mp hc with rfl | hc
    · rw [hsz]; exact Nat.lt_succ_self _
    · rw [List.mem_singleton.mp hc]
      exact Nat.lt_succ_of_lt (Nat.lt_succ_self _)
  · have hold : Ext s.heap h' := fun c o e => by
      refine hk c o (fun hm => ?_) (Heap.get?_push_of_some _ (Heap.get?_push_of_some _ e))
      have e1 := List.mem_singleton.mp hm
      have := Heap.lt_size e; rw [e1, hsz] at this; exact Nat.lt_irrefl _ (Nat.lt_of_succ_lt this)
    by_cases c : x.cps.toList < y.cps.toList
    · have e : argBest (fun i j => decide ((strAt ([(x, t), (y, u)].map (·.1)) j).cps.toList < (strAt ([(x, t), (y, u)].map (·.1)) i).cps.toList)) 1 = 1 := by simp [argBest, strAt, c]
      have hP' : (#[Value.str x t, Value.str y u] : Array Value)[argBest (fun i j => decide ((strAt ([(x, t), (y, u)].map (·.1)) j).cps.toList < (strAt ([(x, t), (y, u)].map (·.1)) i).cps.toList)) 1]? = some v := hP
      rw [e] at hP'
      cases hP'
      exact h1 h' tk hold c
    · have e : argBest (fun i j => decide ((strAt ([(x, t), (y, u)].map (·.1)) j).cps.toList < (strAt ([(x, t), (y, u)].map (·.1)) i).cps.toList)) 1 = 0 := by simp [argBest, strAt, c]
      have hP' : (#[Value.str x t, Value.str y u] : Array Value)[argBest (fun i j => decide ((strAt ([(x, t), (y, u)].map (·.1)) j).cps.toList < (strAt ([(x, t), (y, u)].map (·.1)) i).cps.toList)) 1]? = some v := hP
      rw [e] at hP'
      cases hP'
      exact h2 h' tk hold c
end
theorem rep_lt {m n : Nat} : (List.replicate m 46 < List.replicate n 46) ↔ m < n := by
  induction m generalizing n with
  | zero =>
    cases n with
    | zero => simp
    | succ n => simp [List.replicate_succ]
  | succ m ih =>
    cases n with
    | zero => simp [List.replicate_succ]
    | succ n =>
      rw [List.replicate_succ, List.replicate_succ, List.cons_lt_cons_iff, ih]
      simp
end Mine
end
section -- P1
open PySem PySem.W PyProof.Rows
set_option maxRecDepth 100000
set_option linter.unusedVariables false
namespace Mine
theorem zoff_P1 : True := by
  w_top off
  k_with_none
  k_with "Hid" => (refine Mine.Hid.go (by with_reducible assumption) ?_)
  k_with "execs cons" => ((fail_if_success (with_reducible refine Mine.isHid ?_)); (refine Mine.hideQ fun _ _ => ?_))
  k_with "exec Assign" => ((fail_if_success (with_reducible refine Mine.isHid ?_)); (refine Mine.hideQ fun _ _ => ?_))
  k_with "exec Expr" => ((fail_if_success (with_reducible refine Mine.isHid ?_)); (refine Mine.hideQ fun _ _ => ?_))
  k_with "exec Return" => ((fail_if_success (with_reducible refine Mine.isHid ?_)); (refine Mine.hideQ fun _ _ => ?_))
  k_with "exec AugAssign" => ((fail_if_success (with_reducible refine Mine.isHid ?_)); (refine Mine.hideQ fun _ _ => ?_))
  k_with "exec If" => ((fail_if_success (with_reducible refine Mine.isHid ?_)); (refine Mine.hideQ fun _ _ => ?_))
  trivial
noncomputable def dotsS (n : Nat) : Str := ⟨(List.replicate n 46).toArray⟩
noncomputable def Tr.ersh : Tr → Nat
  | .leaf _ => 1
  | .node l r => if l.ersh = r.ersh then l.ersh + 1 else max l.ersh r.ersh
inductive PlanAt (h : Heap) : Value → Tr → Prop where
  | leaf {a : Addr} {c : Str} {t1 t2 : Tok} : h.IsList a #[.str (dotsS 1) t1, .str c t2] → PlanAt h (.ref a) (.leaf c)
  | node {a : Addr} {v₁ v₂ : Value} {l r : Tr} {t1 : Tok} : h.IsList a #[.str (dotsS (Tr.node l r).ersh) t1, v₁, v₂] → PlanAt h v₁ l → PlanAt h v₂ r → PlanAt h (.ref a) (.node l r)
theorem PlanAt.keepL {h h' : Heap} {L : Addr} {v : Value} {t : Tr} (nl : ∀ a xs, h.IsList a xs → a ≠ L) (k : ∀ b o, b ≠ L → h.get? b = some o → h'.get? b = some o) (H : PlanAt h v t) : PlanAt h' v t := by
  induction H with
  | leaf hl => have hne := nl _ _ hl; ((refine Exists.elim hl ?_); (try clear hl); intro o; intro hZ1; (refine And.elim ?_ hZ1); clear hZ1; intro ho r); exact .leaf ⟨o, k _ _ hne ho, r⟩
  | node hl _ _ i1 i2 => have hne := nl _ _ hl; ((refine Exists.elim hl ?_); (try clear hl); intro o; intro hZ1; (refine And.elim ?_ hZ1); clear hZ1; intro ho r); exact .node ⟨o, k _ _ hne ho, r⟩ i1 i2
theorem PlanAt.head {h : Heap} {v : Value} {t : Tr} (H : PlanAt h v t) : ∃ a arr t1, v = .ref a ∧ h.IsList a arr ∧ arr[0]? = some (.str (dotsS t.ersh) t1) := by
  cases H with
  | leaf hl => exact ⟨_, _, _, rfl, hl, rfl⟩
  | node hl _ _ => exact ⟨_, _, _, rfl, hl, rfl⟩
theorem item0 {prog : Program} {w : World} {A : Around} {E : Value → Shared → Prop} {s : Shared} {h₀ : Heap} {L l : Addr} {news : List (Addr × Obj)} {arr : Array Value} {n : Nat} {o : Obj} {x : Value} {value slice : PySem.Expr} {u : Tok} {Q : Value → Shared → Prop}
    (N : News h₀ L s.heap news) (hm : (l, o) ∈ news) (hc : o.cls = .type "list") (hd : o.data = .seq arr n) (hx : arr[0]? = some x) (h : Q x s)
    (hs : subscripted slice false (.ref l) (.int 0 u) = operate [.ref l, .int 0 u] (getItem (.ref l) (.int 0 u)) := by with_unfolding_all rfl) :
    wpAny (model prog w) A (subscriptTail value slice (.ref l) (.int 0 u)) Q E s := by
  have hl : s.heap.IsList l arr := ⟨_, (N _ hm).1, hc, n, hd⟩
  exact tail_any hl.typeIs slot_list_getitem.lookup (wpAny_getItem_list hl (by decide) (by decide) (by simpa using hx) h) hs
theorem dotsS_len (n : Nat) : (dotsS n).length = n := by simp [dotsS, Str.length]
theorem ersh_le : ∀ t : Tr, t.ersh ≤ t.size
  | .leaf _ => Nat.le_refl _
  | .node l r => by
    have h1 := ersh_le l
    have h2 := ersh_le r
    simp only [Tr.ersh, Tr.size]
    split <;> omega
theorem app_cps (a b : Str) : (a ++ b).cps = a.cps ++ b.cps := rfl
theorem kS : Str.ofString "k" = ⟨#[107]⟩ := by decide +kernel
theorem KS : Str.ofString "K" = ⟨#[75]⟩ := by decide +kernel
theorem mem_dots {c n : Nat} (h : c ∈ (dotsS n).cps.toList) : c = 46 := by
  simp only [dotsS, List.toList_toArray] at h
  exact List.eq_of_mem_replicate h
theorem low_dots (n c : Nat) (hc : c < 128) : Txt.lower (dotsS n ++ ⟨#[c]⟩) = dotsS n ++ ⟨#[lo1 c]⟩ := by
  have hA : ∀ d ∈ (dotsS n ++ (⟨#[c]⟩ : Str)).cps.toList, d < 128 := by
    intro d hd
    rw [app_cps, Array.toList_append] at hd
    rcases List.mem_append.mp hd with hd | hd
    · rw [mem_dots hd]; decide
    · simp at hd; omega
  rw [lower_ascii hA]
  show (⟨(((dotsS n).cps ++ #[c]).map lo1)⟩ : Str) = ⟨(dotsS n).cps ++ #[lo1 c]⟩
  congr 1
  rw [Array.map_append]
  have e : Array.map lo1 #[c] = #[lo1 c] := by simp
  rw [e]
  congr 1
  simp [dotsS, show lo1 46 = 46 from by decide]
theorem okText_dots (n c : Nat) (hn : n ≤ 500) (hc : 32 ≤ c ∧ c ≠ 127) : OkText (dotsS n ++ ⟨#[c]⟩) := by
  refine ⟨fun d hd => ?_, ?_⟩
  · rw [app_cps, Array.toList_append] at hd
    rcases List.mem_append.mp hd with hd | hd
    · rw [mem_dots hd]; decide
    · simp at hd; (replace hd := Eq.symm hd; obtain rfl := hd); exact hc
  · show (_ ++ _ : Array Nat).size ≤ 600
    simp [dotsS]; omega
theorem okName_dots (n c : Nat) (hn : n ≤ 500) (hc : c < 128) (hl : 32 ≤ lo1 c ∧ lo1 c ≠ 127) : OkName (dotsS n ++ ⟨#[c]⟩) := by
  refine ⟨?_, ?_⟩
  · rw [low_dots n c hc]; exact okText_dots n _ hn hl
  · show (_ ++ _ : Array Nat).size ≤ 600
    simp [dotsS]; omega
theorem dots_inj {m n c : Nat} (h : dotsS m ++ (⟨#[c]⟩ : Str) = dotsS n ++ ⟨#[c]⟩) : m = n := by
  have := congrArg (fun x : Str => x.cps.size) h
  simp only [app_cps, dotsS] at this
  simp at this
  exact this
theorem told_is (m n : Nat) (y : Str) : getOf (dotsS n ++ Str.ofString "K") [(dotsS m ++ Str.ofString "k", y)] = if m = n then some y else none := by
  unfold getOf
  rw [kS, KS, low_dots n 75 (by decide)]
  by_cases h : m = n
  · subst h
    simp only [List.find?_cons, low_dots m 107 (by decide)]
    rw [show lo1 107 = lo1 75 from by decide]
    simp
  · rw [if_neg h, List.find?_cons_of_neg]
    · rfl
    · rw [low_dots m 107 (by decide)]
      intro e
      exact h (dots_inj (c := 107) (eq_of_beq e))
theorem allLt_mem {d : Nat} : ∀ {l : List (Addr × Obj)}, AllLt d l → ∀ p ∈ l, @LT.lt Nat _ p.1 d
  | [], _, p, hp => by cases hp
  | q :: r, h, p, hp => by
    (rcases List.mem_cons.mp hp with hZ | hp <;> (try ((replace hZ := Eq.symm hZ); obtain rfl := hZ)))
    · exact h.1
    · exact allLt_mem h.2 p hp
theorem okLeft : OkText (Str.ofString "left") := by unfold OkText; decide +kernel
theorem okRight : OkText (Str.ofString "right") := by unfold OkText; decide +kernel
theorem fr_hide1 {b h h' : Heap} {L l : Addr} {m : Str → Option Value} (F : Fr b L h m) (hl : b.get? l = none) (hL : l ≠ L) (e : Ext (hideAll h [l]) h') : Fr b L h' m :=
  ⟨F.ns.at' fun o q => e _ o (hideAll_get _ q (by simpa using Ne.symm hL)), fun x o q => e x o (hideAll_get _ (F.keep x o q) (fun m => by rw [List.mem_singleton.mp m, hl] at q; cases q)), F.above⟩
theorem news_hide1 {b h h' : Heap} {L l : Addr} {news : List (Addr × Obj)} (N : News b L h news) (hn : ∀ p ∈ news, p.1 ≠ l) (e : Ext (hideAll h [l]) h') : News b L h' news :=
  fun p hp => ⟨e _ _ (hideAll_get _ (N p hp).1 (fun m => hn p hp (List.mem_singleton.mp m))), (N p hp).2⟩
theorem nlGo_rep (n : Nat) : nlGo false (List.replicate n 46) = List.replicate n 46 := by
  have := nlGo_skip (List.replicate n 46) [] (fun c hc => by rw [List.eq_of_mem_replicate hc]; decide)
  simpa [nlGo] using this
theorem stGo_rep (n : Nat) : stGo false (List.replicate n 46) = List.replicate n 46 := by
  induction n with
  | zero => rfl
  | succ n ih =>
    rw [List.replicate_succ, stGo, if_neg (by simp), show ((46 : Nat) == 10) = false from by decide, ih]
    rfl
theorem quote_dots (n : Nat) (h : 1 ≤ n) : (⟨(quoteW (dotsS n).cps.toList).toArray⟩ : Str) = dotsS (n + 1) := by
  obtain ⟨m, rfl⟩ : ∃ m, n = m + 1 := ⟨n - 1, by omega⟩
  unfold dotsS quoteW
  rw [List.toList_toArray, nlGo_rep, List.replicate_succ, stGo, if_pos ⟨rfl, rfl⟩, show ((46 : Nat) == 10) = false from by decide, stGo_rep]
  rfl
theorem ersh_pos : ∀ t : Tr, 1 ≤ t.ersh
  | .leaf _ => Nat.le_refl _
  | .node l r => by
    have h1 := ersh_pos l
    simp only [Tr.ersh]
    split <;> omega
theorem dots1 : Str.ofString "." = dotsS 1 := by decide +kernel
theorem zk_P1_1 : True := by
  k_with "execs nil" => (refine wpAny_execs_nil ?_)
  trivial
local macro_rules | `(tactic| k_mem) => `(tactic| (refine List.mem_append.mpr (Or.inr ?_); k_mem))
theorem zk_P1_2 : True := by
  k_with "subscriptTail" => (refine item0 (by k_asm) (by k_mem) (by assumption) (by assumption) (by assumption) ?_)
  trivial
set_option maxHeartbeats 8000000 in
theorem plan_spec (w : World) {p : Program} {loose : List Str} {mean : ExcName → Option Value} {mg mb : Str → Option Value} : ∀ (n : Nat) (t : Tr), t.size ≤ n → ∀ (A : Around) (s : Shared) (v : Value) (Q E : Value → Shared → Prop),
    TreeAt s.heap v t → (KX w.params).In s.heap → Top p loose mean mg mb s.heap → A.depth + t.size + 30 < recursionLimit → A.handled = none → t.size ≤ 40 →
    (∀ v' h' tk', PlanAt h' v' t → (∀ a : Addr, v' = .ref a → s.heap.get? a = none) → Ext s.heap h' → Q v' { s with heap := h', toks := tk' }) → wpAny (model PySem.Challenge.rw_sh0039_01.row.prog w) A (call (.ref 266) [v]) Q E s := by
  k_fill
  intro n
  induction n with
  | zero => intro t h; cases t <;> simp [Tr.size] at h
  | succ n ih =>
    intro t hn A s v Q E hR X T hd hh hl ret
    have hd0 : A.depth < recursionLimit := by omega
    k_dflt (refine' enter (K := KX w.params) X T ?k6 ?k7 hd0 ?k9 ?kB ?_ ?c2 ?c3 ?c4 ?c5)
    (case k6 => k_is)
    (case k7 => k_is)
    (case k9 => exact BindsTo.of_eq rfl)
    (case kB => exact locs rfl)
    (case c2 => exact rfl)
    (case c3 => exact rfl)
    (case c4 => exact rfl)
    (case c5 => decide)
    have P := pats w X
    have X0 := X
    have T0 := T
    clear X T
    intro h₁ F N X T
    cases hR
    · (try k_fold)
      k_steps
      (with_reducible rename Fr _ _ _ _ => F1)
      (with_reducible rename News _ _ _ _ => N1)
      refine ret _ _ _ (.leaf (News.isList N1 (.head _))) (fun b e => by cases e; exact (N1 _ (.head _)).2.2) F1.keep
    · rename_i a v₁ v₂ l r hL h1 h2
      simp only [Tr.size] at *
      (try k_fold)
      k_steps
      (with_reducible rename Fr _ _ _ _ => F1)
      (with_reducible rename News _ _ _ _ => N1)
      refine ih l (by omega) _ _ _ _ _ (h1.ext F1.keep) (X.keeps F1.keep) (T.keeps F1.keep) (by simp only [depth_deeper]; omega) hh (by omega) ?_
      intro w1 hD tD pl1 fr1 eD
      have F2 := Fr.keeps F1 eD
      have N2 := News.grown N1 eD
      ((refine Mine.hideG fun G kG => ?_); (refine Mine.ex3 pl1.head ?_); intro a1 arr1 ta1; intro hZ1; (refine Mine.and3 hZ1 ?_); clear hZ1; intro hZ2; obtain rfl := hZ2; intro hZ3; (refine Exists.elim hZ3 ?_); clear hZ3; intro o1; intro hZ4; (refine Mine.and3 hZ4 ?_); clear hZ4; intro ho1 hc1; intro hZ5; (refine Exists.elim hZ5 ?_); clear hZ5; intro k1 hd1 hx1; (refine kG ?_); clear kG G)
      have nl1 : ∀ a xs, hD.IsList a xs → a ≠ s.heap.objs.size := fun _ _ q => ne_locals_of_isList F2 q
      ((refine Exists.elim (snap F2) ?_); intro own1; intro hZ1; (refine And.elim ?_ hZ1); clear hZ1; intro Nown1 hs1)
      have N3 : News s.heap s.heap.objs.size hD ((a1, o1) :: own1) := fun p hp => by
        rcases List.mem_cons.mp hp with rfl | hp
        · exact ⟨ho1, nl1 _ _ ⟨o1, ho1, hc1, k1, hd1⟩, none_base F1.keep (fr1 _ rfl)⟩
        · exact Nown1 p hp
      clear F1 N1 N2
      dsimp only
      k_steps
      (with_reducible rename Fr _ _ _ _ => F4)
      (with_reducible rename News _ _ _ _ => N4)
      refine ih r (by omega) _ _ _ _ _ (h2.ext F4.keep) (X.keeps F4.keep) (T.keeps F4.keep) (by simp only [depth_deeper]; omega) hh (by omega) ?_
      intro w2 hG tG pl2 fr2 eG
      have F5 := Fr.keeps F4 eG
      have N5 := News.grown N4 eG
      have pl1 := PlanAt.keepL nl1 (snap_keep F5 N5 hs1 fun q hq => .tail _ hq) pl1
      ((refine Mine.hideG fun G kG => ?_); (refine Mine.ex3 pl2.head ?_); intro a2 arr2 ta2; intro hZ1; (refine Mine.and3 hZ1 ?_); clear hZ1; intro hZ2; obtain rfl := hZ2; intro hZ3; (refine Exists.elim hZ3 ?_); clear hZ3; intro o2; intro hZ4; (refine Mine.and3 hZ4 ?_); clear hZ4; intro ho2 hc2; intro hZ5; (refine Exists.elim hZ5 ?_); clear hZ5; intro k2 hd2 hx2; (refine kG ?_); clear kG G)
      have nl2 : ∀ a xs, hG.IsList a xs → a ≠ s.heap.objs.size := fun _ _ q => ne_locals_of_isList F5 q
      ((refine Exists.elim (snap F5) ?_); intro own2; intro hZ1; (refine And.elim ?_ hZ1); clear hZ1; intro Nown2 hs2)
      have hg1 : hG.get? a1 = some o1 := (N5 _ (.head _)).1
      have N6 : News s.heap s.heap.objs.size hG ((a2, o2) :: (a1, o1) :: own2) := fun p hp => by
        rcases List.mem_cons.mp hp with rfl | hp
        · exact ⟨ho2, nl2 _ _ ⟨o2, ho2, hc2, k2, hd2⟩, none_base F4.keep (fr2 _ rfl)⟩
        · rcases List.mem_cons.mp hp with rfl | hp
          · exact N5 _ (.head _)
          · exact Nown2 p hp
      clear F4 N4 N5
      have hdl : (dotsS l.ersh).length ≤ 40 := by rw [dotsS_len]; have := ersh_le l; omega
      have hdr : (dotsS r.ersh).length ≤ 40 := by rw [dotsS_len]; have := ersh_le r; omega
      dsimp only
      k_steps
      (with_reducible rename Fr _ _ _ _ => F7)
      (with_reducible rename News _ _ _ _ => N7)
      (with_reducible rename _ < _ ∧ _ => l7)
      have hel := ersh_le l
      have her := ersh_le r
      refine new1_spec w s.heap _ _ (dotsS l.ersh ++ Str.ofString "k") (Str.ofString "left") _ _ _ _ _ _ _ X T F7.keep (N7 _ (.head _)).1 ⟨_, (N7 _ (.tail _ (.head _))).1, rfl, _, rfl⟩ (N7 _ (.head _)).2.2 (by rw [kS]; exact okText_dots _ _ (by omega) (by decide)) okLeft (by simp only [depth_deeper]; omega) hh ?_
      intro r1 d1 h8 tk8 fr fd e8 R8
      have F8 := Fr.keeps F7 e8
      have N8 := News.grown N7 e8
      have R8' := R8
      obtain ⟨ri, ⟨tkd, rd⟩, -, -, -⟩ := R8'
      have hoff : ∀ a ∈ [r1, d1], s.heap.get? a = none := by
        intro a ha
        replace ha := mem2 ha
        (rcases ha with hZ | hZ <;> ((replace hZ := Eq.symm hZ); obtain rfl := hZ))
        · exact none_base F7.keep fr
        · exact none_base F7.keep fd
      have hLn : ∀ a, Heap.get? _ a = none → a ≠ s.heap.objs.size := fun a e q => by
        ((refine Mine.ex3 F7.ns ?_); intro o _ _; intro hZ1; (refine And.elim ?_ hZ1); clear hZ1; intro ho _)
        rw [← q, e] at ho; cases ho
      have N9 : News s.heap s.heap.objs.size h8 ((r1, instObj 227 d1) :: (d1, dictOf [⟨PyData.keyHash w.params (Str.ofString "_headers"), .str (Str.ofString "_headers") tkd, .ref _⟩] 1) :: _) := fun p hp => by
        rcases List.mem_cons.mp hp with rfl | hp
        · exact ⟨ri, hLn _ fr, hoff _ (.head _)⟩
        · rcases List.mem_cons.mp hp with rfl | hp
          · exact ⟨rd, hLn _ fd, hoff _ (.tail _ (.head _))⟩
          · exact N8 p hp
      have hLl := (N7 _ (.head _)).2.2
      clear N7 N8 F7
      dsimp only
      k_steps
      (with_reducible rename Fr _ _ _ _ => F10)
      (with_reducible rename News _ _ _ _ => N10)
      have hgo := told_is l.ersh r.ersh (Str.ofString "left")
      have hrk : RowsOk [(dotsS l.ersh ++ Str.ofString "k", Str.ofString "left")] := by
        intro q hq
        cases List.mem_singleton.mp hq
        exact ⟨by rw [kS]; exact okText_dots _ _ (by omega) (by decide), okLeft⟩
      refine setd_spec w s.heap r1 d1 _ _ _ (dotsS r.ersh ++ Str.ofString "K") (Str.ofString "right") _ _ _ _ _ _ X T F10.keep (by
        intro a ha
        replace ha := mem3 ha
        (rcases ha with hZ | hZ | hZ <;> ((replace hZ := Eq.symm hZ); obtain rfl := hZ))
        · exact hoff _ (.head _)
        · exact hoff _ (.tail _ (.head _))
        · exact hLl) R8 (by simp only [depth_deeper]; omega) hh (by rw [KS]; exact okName_dots _ _ (by omega) (by decide) (by decide)) (by rw [KS]; exact okText_dots _ _ (by omega) (by decide)) okRight hrk (by simp) ?_ ?_
      · intro z v11 h11 tk11 t11 hz hv e11
        rw [hgo] at hz
        have F11 := Fr.keeps F10 e11
        have N11 : News s.heap s.heap.objs.size h11 ((a2, o2) :: (a1, o1) :: own2) := fun p hp => News.grown N10 e11 p (.tail _ (.tail _ (.tail _ (.tail _ hp))))
        clear F10 N10 R8
        by_cases hlr : l.ersh = r.ersh
        · rw [if_pos hlr] at hz
          cases hz
          subst hv
          dsimp only
          k_steps
          (with_reducible rename Fr _ _ _ _ => F12)
          (with_reducible rename News _ _ _ _ => N12)
          refine quote_spec w (dotsS l.ersh) _ _ _ _ _ (X.keeps F12.keep) (T.keeps F12.keep) (by simp only [depth_deeper]; omega) (by omega) ⟨P.1.ext F12.keep, P.2.1.ext F12.keep, P.2.2.1.ext F12.keep, P.2.2.2.ext F12.keep⟩ ?_
          intro h13 tk13 t13 e13
          have F13 := Fr.keeps F12 e13
          have N13 := News.grown N12 e13
          clear F12 N12
          rw [quote_dots l.ersh (ersh_pos l)]
          dsimp only
          k_steps
          (with_reducible rename Fr _ _ _ _ => FZ)
          (with_reducible rename News _ _ _ _ => NZ)
          have kk := snap_keep FZ NZ hs2 fun q hq => .tail _ (.tail _ (.tail _ hq))
          have e : (Tr.node l r).ersh = l.ersh + 1 := by simp only [Tr.ersh]; rw [if_pos hlr]
          exact ret _ _ _ (.node (by rw [e]; exact News.isList NZ (.head _)) (pl1.keepL nl2 kk) (pl2.keepL nl2 kk)) (fun b e => by cases e; exact (NZ _ (.head _)).2.2) FZ.keep
        · rw [if_neg hlr] at hz; cases hz
      · intro v11 h11 tk11 hz hv11 e11 R11
        rw [hgo] at hz
        by_cases hlr : l.ersh = r.ersh
        · rw [if_pos hlr] at hz; cases hz
        · have F11 := fr_hide1 F10 hLl (N10 _ (.tail _ (.tail _ (.head _)))).2.1 e11
          have N11 : News s.heap s.heap.objs.size h11 ((a2, o2) :: (a1, o1) :: own2) := news_hide1 (fun p hp => N10 p (.tail _ (.tail _ (.tail _ (.tail _ hp))))) (fun p hp => by
            rcases List.mem_cons.mp hp with rfl | hp
            · exact Nat.ne_of_lt l7.2.1
            · rcases List.mem_cons.mp hp with rfl | hp
              · exact Nat.ne_of_lt l7.2.2.1
              · exact Nat.ne_of_lt (allLt_mem l7.2.2.2 p hp)) e11
          clear F10 N10 R8 R11
          dsimp only
          k_steps
          (with_reducible rename Fr _ _ _ _ => F12)
          (with_reducible rename News _ _ _ _ => N12)
          refine max_two_strs hh ?_ ?_
          · intro h13 tk13 e13 hlt
            have hlt' : l.ersh < r.ersh := rep_lt.mp (by simpa [dotsS] using hlt)
            have F13 := Fr.keeps F12 e13
            have N13 := News.grown N12 e13
            clear F12 N12
            dsimp only
            k_steps
            (with_reducible rename Fr _ _ _ _ => FZ)
            (with_reducible rename News _ _ _ _ => NZ)
            have kk := snap_keep FZ NZ hs2 fun q hq => .tail _ (.tail _ (.tail _ hq))
            have e : (Tr.node l r).ersh = r.ersh := by simp only [Tr.ersh]; rw [if_neg hlr]; omega
            exact ret _ _ _ (.node (by rw [e]; exact News.isList NZ (.head _)) (pl1.keepL nl2 kk) (pl2.keepL nl2 kk)) (fun b e => by cases e; exact (NZ _ (.head _)).2.2) FZ.keep
          · intro h13 tk13 e13 hlt
            have hlt' : ¬ l.ersh < r.ersh := fun q => hlt (by simpa [dotsS] using rep_lt.mpr q)
            have F13 := Fr.keeps F12 e13
            have N13 := News.grown N12 e13
            clear F12 N12
            dsimp only
            k_steps
            (with_reducible rename Fr _ _ _ _ => FZ)
            (with_reducible rename News _ _ _ _ => NZ)
            have kk := snap_keep FZ NZ hs2 fun q hq => .tail _ (.tail _ (.tail _ hq))
            have e : (Tr.node l r).ersh = l.ersh := by simp only [Tr.ersh]; rw [if_neg hlr]; omega
            exact ret _ _ _ (.node (by rw [e]; exact News.isList NZ (.head _)) (pl1.keepL nl2 kk) (pl2.keepL nl2 kk)) (fun b e => by cases e; exact (NZ _ (.head _)).2.2) FZ.keep
end Mine
end
section -- Z3
open PySem PySem.W PyProof.Rows PySem.StrLaws PySem.Builtin PySem.Builtin.Str
set_option maxRecDepth 100000
set_option linter.unusedVariables false
namespace Mine
theorem headCons_flat (c : Nat) : ∀ ps : List (List Nat), (headCons c ps).flatten = c :: ps.flatten
  | [] => rfl
  | p :: q => rfl
noncomputable def del2 (b : Nat) (l : List Nat) : List Nat := (cut2 92 b l).flatten
theorem del2_ne {b c : Nat} (h : c ≠ 92) (r : List Nat) : del2 b (c :: r) = c :: del2 b r := by
  unfold del2
  cases r with
  | nil => rfl
  | cons d r => rw [cut2, if_neg (fun e => h e.1), headCons_flat]
theorem del2_hit (b : Nat) (r : List Nat) : del2 b (92 :: b :: r) = del2 b r := by
  unfold del2
  rw [cut2, if_pos ⟨rfl, rfl⟩]; rfl
theorem del2_miss {b d : Nat} (h : d ≠ b) (r : List Nat) : del2 b (92 :: d :: r) = 92 :: del2 b (d :: r) := by
  unfold del2
  rw [cut2, if_neg (fun e => h e.2), headCons_flat]
noncomputable def mkM (k : Nat) : List Nat := match k with
  | 2 => [92, 34] | _ => []
theorem mkM_eq : mkM 0 = [] ∧ mkM 1 = [] ∧ mkM 2 = [92, 34] ∧ mkM 3 = [] ∧ mkM 4 = [] ∧ mkM 5 = [] ∧ mkM 6 = [] ∧ mkM 7 = [] := ⟨rfl, rfl, rfl, rfl, rfl, rfl, rfl, rfl⟩
noncomputable def midL (bs : List Blk) : List Nat := bs.flatMap fun b => mkM b.k ++ [b.c]
theorem del_one : ∀ bs : List Blk, (∀ b ∈ bs, BlkOk b) → del2 41 (leftL bs) = midL bs
  | [], _ => rfl
  | b :: r, h => by
    ((refine Mine.and5 (h b (.head _)) ?_); intro hk; intro hZ1; obtain - := hZ1; intro h34 h92; intro hZ2; obtain - := hZ2)
    have ih := del_one r fun q hq => h q (.tail _ hq)
    rw [leftL, midL, List.flatMap_cons, List.flatMap_cons, show (r.flatMap fun b => mkL b.k ++ [b.c]) = leftL r from rfl, show (r.flatMap fun b => mkM b.k ++ [b.c]) = midL r from rfl, ← ih]
    refine lt8 (P := fun k => del2 41 (mkL k ++ [b.c] ++ leftL r) = mkM k ++ [b.c] ++ del2 41 (leftL r)) ?_ ?_ ?_ ?_ ?_ ?_ ?_ ?_ hk <;>
      simp only [mkL_eq, mkM_eq, List.nil_append, List.cons_append, del2_ne h92, del2_hit, del2_miss (show (34 : Nat) ≠ 41 by decide), del2_ne (show (34 : Nat) ≠ 92 by decide)]
theorem del_two : ∀ bs : List Blk, (∀ b ∈ bs, BlkOk b) → del2 34 (midL bs) = plainL bs
  | [], _ => rfl
  | b :: r, h => by
    ((refine Mine.and5 (h b (.head _)) ?_); intro hk; intro hZ1; obtain - := hZ1; intro h34 h92; intro hZ2; obtain - := hZ2)
    have ih := del_two r fun q hq => h q (.tail _ hq)
    rw [midL, plainL, List.flatMap_cons, List.map_cons, show (r.flatMap fun b => mkM b.k ++ [b.c]) = midL r from rfl, show r.map Blk.c = plainL r from rfl, ← ih]
    refine lt8 (P := fun k => del2 34 (mkM k ++ [b.c] ++ midL r) = b.c :: del2 34 (midL r)) ?_ ?_ ?_ ?_ ?_ ?_ ?_ ?_ hk <;>
      simp only [mkM_eq, List.nil_append, List.cons_append, del2_ne h92, del2_hit]
theorem e_bs1 : Str.ofString "\\)" = ⟨#[92, 41]⟩ := by decide +kernel
theorem e_bs2 : Str.ofString "\\\"" = ⟨#[92, 34]⟩ := by decide +kernel
theorem e_nil : Str.ofString "" = ⟨#[]⟩ := by decide +kernel
theorem read_seen {bs : List Blk} (h : ∀ b ∈ bs, BlkOk b) {x : Str} (hx : x.cps.toList = leftL bs) :
    (Txt.replace (Txt.replace x (Str.ofString "\\)") (Str.ofString "")) (Str.ofString "\\\"") (Str.ofString "")).cps.toList = plainL bs := by
  rw [e_bs1, e_bs2, e_nil, replace_cut2, replace_cut2, hx]
  show del2 34 (del2 41 _) = _
  rw [del_one bs h, del_two bs h]
theorem leaf_sign : ∀ k ∈ leafCodes, signOk k ∧ k ≠ 40 ∧ k ≠ 41 := by unfold signOk; decide
theorem good_sign {t : Tr} (h : t.Good) : ∀ c ∈ t.w, signOk c := by
  induction h with
  | leaf hk => intro c hc; simp only [Tr.w, List.toList_toArray, List.mem_singleton] at hc; (replace hc := Eq.symm hc; obtain rfl := hc); exact (leaf_sign _ hk).1
  | node _ _ i1 i2 =>
    intro c hc
    simp only [Tr.w, List.mem_cons, List.mem_append, List.not_mem_nil, or_false] at hc
    rcases hc with rfl | (hc | hc) | rfl
    · unfold signOk; decide
    · exact i1 c hc
    · exact i2 c hc
    · unfold signOk; decide
theorem good_ok {t : Tr} (h : t.Good) : t.Ok := by
  induction h with
  | leaf hk => have := leaf_sign _ hk; exact .leaf this.2.1 this.2.2 this.1.1 this.1.2.1
  | node _ _ i1 i2 => exact .node i1 i2
theorem turn_false {l r : Tr} (hl : l.Good) (hr : r.Good) {x : Str} (hx : x.cps.toList = l.w ++ r.w ++ [41] ++ [40]) : checkOf x = false := by
  have o1 := good_ok hl
  have o2 := good_ok hr
  have q1 := o1.noq
  have q2 := o2.noq
  have h34 : 34 ∉ x.cps.toList := by rw [hx]; simp [q1.1, q2.1]
  have h92 : 92 ∉ x.cps.toList := by rw [hx]; simp [q1.2, q2.2]
  rw [← Bool.not_eq_true, checkOf_plain h34 h92]
  intro hJ0
  ((refine And.elim ?_ hJ0); (try clear hJ0); intro h; intro hZ1; obtain - := hZ1)
  have := h (l.w ++ r.w ++ [41]).length
  rw [hx, List.take_left' rfl, bal_append, bal_append, o1.bal.1, o2.bal.1] at this
  revert this; decide
/-- how many lie there at once, over all orders -/
inductive Tr.AllOf : Tr → Nat → Prop where
  | leaf (c : Str) : Tr.AllOf (.leaf c) 1
  | one {l r : Tr} {x y : Nat} : Tr.AllOf l x → Tr.AllOf r y → Tr.AllOf (.node l r) (max x (y + 1))
  | two {l r : Tr} {x y : Nat} : Tr.AllOf l x → Tr.AllOf r y → Tr.AllOf (.node l r) (max y (x + 1))
theorem all_ersh : ∀ t : Tr, t.AllOf t.ersh
  | .leaf c => .leaf c
  | .node l r => by
    have h1 := all_ersh l
    have h2 := all_ersh r
    simp only [Tr.ersh]
    split
    · rename_i e
      have := Tr.AllOf.one h1 h2
      rwa [ersh_a e] at this
    · by_cases h : l.ersh < r.ersh
      · have := Tr.AllOf.two h1 h2
        rwa [ersh_b h] at this
      · have := Tr.AllOf.one h1 h2
        rwa [ersh_c (by assumption) h] at this
theorem all_ge {t : Tr} {z : Nat} (h : t.AllOf z) : t.ersh ≤ z := by
  induction h with
  | leaf => exact Nat.le_refl _
  | one _ _ i1 i2 => exact ge_one i1 i2
  | two _ _ i1 i2 => exact ge_two i1 i2
theorem all_le {t : Tr} {z : Nat} (h : t.AllOf z) : 1 ≤ z ∧ z ≤ t.leaves := by
  induction h with
  | leaf => exact ⟨Nat.le_refl _, Nat.le_refl _⟩
  | one _ _ i1 i2 => exact le_one i1 i2
  | two _ _ i1 i2 => exact le_two i1 i2
end Mine
end
section -- T2
open PySem PySem.W PyProof.Rows
set_option maxRecDepth 100000
set_option linter.unusedVariables false
namespace Mine
noncomputable def combo (A B : List Int) : List Int := (pairsOfL A B).map (fun p => max p.1 (p.2 + 1)) ++ (pairsOfL A B).map (fun p => max p.2 (p.1 + 1))
noncomputable def insS (z : Int) : List Int → List Int
  | [] => [z]
  | a :: r => if z < a then z :: a :: r else if z = a then a :: r else a :: insS z r
noncomputable def norm (L : List Int) : List Int := L.foldr insS []
theorem mem_ins {z y : Int} : ∀ {l : List Int}, y ∈ insS z l ↔ y = z ∨ y ∈ l
  | [] => by simp [insS]
  | a :: r => by
    unfold insS
    split
    · simp
    · split
      · rename_i h; subst h; simp
      · rw [List.mem_cons, mem_ins (l := r), List.mem_cons]; constructor <;> rintro (h | h | h) <;> simp [h]
theorem mem_norm {y : Int} : ∀ {L : List Int}, y ∈ norm L ↔ y ∈ L
  | [] => by simp [norm]
  | a :: r => by
    show y ∈ insS a (norm r) ↔ _
    rw [mem_ins, mem_norm (L := r), List.mem_cons]
noncomputable def Tr.allR : Tr → List Int
  | .leaf _ => [1]
  | .node l r => norm (combo l.allR r.allR)
theorem mem_pairs {A B : List Int} {p : Int × Int} : p ∈ pairsOfL A B ↔ p.1 ∈ A ∧ p.2 ∈ B := by
  unfold pairsOfL
  rw [List.mem_flatMap]
  constructor
  · intro hJ0
    ((refine Exists.elim hJ0 ?_); (try clear hJ0); intro a; intro hZ1; (refine And.elim ?_ hZ1); clear hZ1; intro ha h)
    ((refine Exists.elim (List.mem_map.mp h) ?_); intro b; intro hZ1; (refine And.elim ?_ hZ1); clear hZ1; intro hb; intro hZ2; obtain rfl := hZ2)
    exact ⟨ha, hb⟩
  · intro hJ0
    ((refine And.elim ?_ hJ0); (try clear hJ0); intro h1 h2)
    exact ⟨p.1, h1, List.mem_map.mpr ⟨p.2, h2, rfl⟩⟩
theorem allR_iff : ∀ (t : Tr) (z : Int), z ∈ t.allR ↔ ∃ m : Nat, t.AllOf m ∧ z = (m : Int)
  | .leaf c, z => by
    constructor
    · intro h; exact ⟨1, .leaf c, by simpa [Tr.allR] using h⟩
    · rintro ⟨m, h, rfl⟩; cases h; simp [Tr.allR]
  | .node l r, z => by
    have h1 := allR_iff l
    have h2 := allR_iff r
    unfold Tr.allR
    rw [mem_norm]
    unfold combo
    rw [List.mem_append, List.mem_map, List.mem_map]
    constructor
    · rintro (⟨p, hp, rfl⟩ | ⟨p, hp, rfl⟩)
      · ((refine And.elim ?_ (mem_pairs.mp hp)); intro q1 q2)
        ((refine Exists.elim ((h1 _).mp q1) ?_); intro m; intro hZ1; (refine And.elim ?_ hZ1); clear hZ1; intro hm e1)
        ((refine Exists.elim ((h2 _).mp q2) ?_); intro k; intro hZ1; (refine And.elim ?_ hZ1); clear hZ1; intro hk e2)
        exact ⟨_, .one hm hk, by rw [e1, e2]; exact max_cast _ _⟩
      · ((refine And.elim ?_ (mem_pairs.mp hp)); intro q1 q2)
        ((refine Exists.elim ((h1 _).mp q1) ?_); intro m; intro hZ1; (refine And.elim ?_ hZ1); clear hZ1; intro hm e1)
        ((refine Exists.elim ((h2 _).mp q2) ?_); intro k; intro hZ1; (refine And.elim ?_ hZ1); clear hZ1; intro hk e2)
        exact ⟨_, .two hm hk, by rw [e1, e2]; exact max_cast _ _⟩
    · intro hJ0
      ((refine Exists.elim hJ0 ?_); (try clear hJ0); intro m; intro hZ1; (refine And.elim ?_ hZ1); clear hZ1; intro h; intro hZ2; obtain rfl := hZ2)
      cases h with
      | @one _ _ x y a b => exact .inl ⟨((x : Int), (y : Int)), mem_pairs.mpr ⟨(h1 _).mpr ⟨x, a, rfl⟩, (h2 _).mpr ⟨y, b, rfl⟩⟩, max_cast _ _⟩
      | @two _ _ x y a b => exact .inr ⟨((x : Int), (y : Int)), mem_pairs.mpr ⟨(h1 _).mpr ⟨x, a, rfl⟩, (h2 _).mpr ⟨y, b, rfl⟩⟩, max_cast _ _⟩
noncomputable def tabR : Nat → List (List Int)
  | 1 => [[1]]
  | 2 => [[2]]
  | 3 => [[2, 3]]
  | 4 => [[2, 3, 4], [3]]
  | 5 => [[2, 3, 4, 5], [3, 4]]
  | 6 => [[2, 3, 4, 5, 6], [3, 4], [3, 4, 5]]
  | 7 => [[2, 3, 4, 5, 6, 7], [3, 4], [3, 4, 5], [3, 4, 5, 6]]
  | 8 => [[2, 3, 4, 5, 6, 7, 8], [3, 4, 5], [3, 4, 5, 6], [3, 4, 5, 6, 7], [4]]
  | _ => []
noncomputable def slotK (t : SetTable) (i : Nat) : Nat := if i = 0 then 0 else t.place.getD (i - 1) 0 + 1
noncomputable def chkOne (led : Bool) (L : List Int) : Bool :=
  (foldK led L).2.fits (foldK led L).1.size && ((foldK led L).2.led == led) && (foldK led L).2.plain && ((foldK led L).1.toList.map (·.2)).isPerm (norm L) && (List.range L.length).all (fun i => decide ((foldK led (L.take i)).1.size + 1 < scanBound))
noncomputable def chkGo (L : List Int) : Bool := (List.range ((foldK true L).1.size + 1)).all fun i => SetTable.below (foldK true L).2.place (slotK (foldK true L).2 i) == i
noncomputable def chk (L : List Int) : Bool := chkOne true L && chkOne false L && chkGo L && decide (L.length < 40)
noncomputable def closeAll : Bool := (List.range 9).all fun i => (List.range 9).all fun j => if i + j ≤ 8 then (tabR i).all fun A => (tabR j).all fun B => (tabR (i + j)).contains (norm (combo A B)) && chk (combo A B) && decide (A.length * B.length + B.length ≤ 1000) else true
theorem close_all : closeAll = true := by decide +kernel
end Mine
end
section -- T3
open PySem PySem.W PyProof.Rows
set_option maxRecDepth 100000
set_option linter.unusedVariables false
namespace Mine
theorem ins_sorted {z : Int} : ∀ {l : List Int}, l.Pairwise (· < ·) → (insS z l).Pairwise (· < ·)
  | [], _ => by simp [insS]
  | a :: r, h => by
    ((refine And.elim ?_ (List.pairwise_cons.mp h)); intro h1 h2)
    unfold insS
    split
    · rename_i hz
      exact List.pairwise_cons.mpr ⟨fun y hy => by (rcases List.mem_cons.mp hy with hZ | hy <;> (try ((replace hZ := Eq.symm hZ); obtain rfl := hZ))); exact hz; exact Int.lt_trans hz (h1 y hy), h⟩
    · split
      · exact h
      · refine List.pairwise_cons.mpr ⟨fun y hy => ?_, ins_sorted h2⟩
        (rcases mem_ins.mp hy with hZ | hy <;> (try ((replace hZ := Eq.symm hZ); obtain rfl := hZ)))
        · omega
        · exact h1 y hy
theorem norm_sorted : ∀ L : List Int, (norm L).Pairwise (· < ·)
  | [] => List.Pairwise.nil
  | a :: r => ins_sorted (norm_sorted r)
theorem sorted_eq : ∀ {a b : List Int}, a.Perm b → a.Pairwise (· ≤ ·) → b.Pairwise (· ≤ ·) → a = b
  | [], b, h, _, _ => by rw [List.nil_perm.mp h]
  | x :: r, [], h, _, _ => by cases h.length_eq
  | x :: r, y :: q, h, ha, hb => by
    ((refine And.elim ?_ (List.pairwise_cons.mp ha)); intro a1 a2)
    ((refine And.elim ?_ (List.pairwise_cons.mp hb)); intro b1 b2)
    have hxy : x = y := by
      have h1 : x ∈ y :: q := h.mem_iff.mp (.head _)
      have h2 : y ∈ x :: r := h.mem_iff.mpr (.head _)
      rcases List.mem_cons.mp h1 with e | h1
      · exact e
      · rcases List.mem_cons.mp h2 with e | h2
        · exact e.symm
        · have := b1 x h1
          have := a1 y h2
          omega
    subst hxy
    rw [sorted_eq (List.Perm.cons_inv h) a2 b2]
theorem chk_one {led : Bool} {L : List Int} (h : chk L = true) : chkOne led L = true := by
  unfold chk at h
  simp only [Bool.and_eq_true] at h
  cases led
  · exact h.1.1.2
  · exact h.1.1.1
structure ChkFacts (led : Bool) (L : List Int) : Prop where
  fits : (foldK led L).2.fits (foldK led L).1.size = true
  ledE : (foldK led L).2.led = led
  plain : (foldK led L).2.plain = true
  perm : ((foldK led L).1.toList.map (·.2)).Perm (norm L)
  room : ∀ i, i < L.length → (foldK led (L.take i)).1.size + 1 < scanBound
theorem chk_facts {led : Bool} {L : List Int} (h : chk L = true) : ChkFacts led L := by
  have h1 := chk_one (led := led) h
  unfold chkOne at h1
  simp only [Bool.and_eq_true, beq_iff_eq, List.isPerm_iff, List.all_eq_true, List.mem_range, decide_eq_true_eq] at h1
  ((refine Mine.hideG fun G kG => ?_); (refine And.elim ?_ h1); (try clear h1); intro hZ1; (refine And.elim ?_ hZ1); clear hZ1; intro hZ2; (refine And.elim ?_ hZ2); clear hZ2; intro hZ3; (refine And.elim ?_ hZ3); clear hZ3; intro a b c d e; (refine kG ?_); clear kG G)
  exact ⟨a, b, c, d, e⟩
theorem chk_go {L : List Int} (h : chk L = true) : ∀ i, i ≤ (foldK true L).1.size → SetTable.below (foldK true L).2.place (slotK (foldK true L).2 i) = i := by
  unfold chk at h
  simp only [Bool.and_eq_true] at h
  have := h.1.2
  unfold chkGo at this
  rw [List.all_eq_true] at this
  intro i hi
  exact eq_of_beq (this i (List.mem_range.mpr (by omega)))
theorem chk_len {L : List Int} (h : chk L = true) : L.length < 40 := by
  unfold chk at h
  simp only [Bool.and_eq_true] at h
  exact of_decide_eq_true h.2
section
variable {prog : Program} {w : World} {A : Around} {E : Value → Shared → Prop} {s : Shared} {h₀ : Heap} {L₀ l a : Addr} {m : Str → Option Value} {news : List (Addr × Obj)} {Q : Value → Shared → Prop} {L : List Int}
theorem new_set (F : Fr h₀ L₀ s.heap m) (N : News h₀ L₀ s.heap news) (hh : A.handled = none) {items : Array Value} (hl : s.heap.IsList l items) (hi : IntsAre items.toList L) (hc : chk L = true)
    (h : ∀ h' tk, Fr h₀ L₀ h' m → News h₀ L₀ h' news → SetX h' s.heap.objs.size (foldK (ledOf w) L) → Q (.ref s.heap.objs.size) { s with heap := h', toks := tk }) : wpAny (model prog w) A (call (.type "set") [.ref l]) Q E s := by
  refine set_list hh hl hi (chk_facts hc).room fun h' tk hS hk => ?_
  have kk : Ext s.heap h' := fun b o e => hk b o (Heap.lt_size e) e
  exact h h' tk (Fr.keeps F kk) (News.grown N kk) hS
theorem sorted_set (F : Fr h₀ L₀ s.heap m) (N : News h₀ L₀ s.heap news) (hh : A.handled = none) (hS : SetX s.heap a (foldK (ledOf w) L)) (hc : chk L = true)
    (h : ∀ D h' tk vs' c, Fr h₀ L₀ h' m → News h₀ L₀ h' ((D, listOf (List.toArray vs') c) :: news) → IntsAre vs' (norm L) → Q (.ref D) { s with heap := h', toks := tk }) : wpAny (model prog w) A (call (.builtin "sorted") [.ref a]) Q E s := by
  ((refine Mine.ex3 hS ?_); (try clear hS); intro o es ep; intro hZ1; (refine Mine.and6 hZ1 ?_); clear hZ1; intro ho hex hd hks hes hf)
  have C := chk_facts (led := ledOf w) hc
  have hsz : es.size = (foldK (ledOf w) L).1.size := by rw [← hks, Array.size_map]
  have T : TabOk w (foldK (ledOf w) L).2 es.size := ⟨hf, C.ledE, C.plain, fun hb i hi => by
    have hl : ledOf w = true := by
      have hb' : w.params.followText "set-order" = false := hb
      unfold ledOf; rw [hb']; rfl
    rw [hl] at hsz ⊢
    have := chk_go hc i (by omega)
    have e : slotAt w (foldK true L).2 i = slotK (foldK true L).2 i := by unfold slotAt slotK; rw [hb]; rfl
    rw [e]; exact this⟩
  have hkp : (es.toList.map fun e => numOf e.2).Perm (norm L) := by
    have e1 : (foldK (ledOf w) L).1.toList.map (·.2) = es.toList.map fun e => numOf e.2 := by
      rw [← hks, Array.toList_map, List.map_map]; rfl
    rw [← e1]; exact C.perm
  have hnl : es.size < 40 := by
    have h1 := hkp.length_eq
    rw [List.length_map, Array.length_toList] at h1
    have h2 : ∀ M : List Int, (norm M).length ≤ M.length := fun M => by
      induction M with
      | nil => simp [norm]
      | cons a r ih =>
        have h3 : ∀ z (q : List Int), (insS z q).length ≤ q.length + 1 := fun z q => by
          induction q with
          | nil => simp [insS]
          | cons b q ih => unfold insS; split; simp; split; simp; simp; omega
        have := h3 a (norm r)
        show (insS a (norm r)).length ≤ _
        simp only [List.length_cons]; omega
    have := h2 L
    have := chk_len hc
    omega
  refine kdu_sorted (src_set T) hh F N ⟨o, ho, hex, hd⟩ (by rw [sizeLine_eq]; omega) fun D h' tk vs F' N' lD hvl hv => ?_
  have hop := ord_perm w a es ep
  have hvs : vs = (ordOf w a es ep).toList.map (·.2) := by
    apply List.ext_getElem?
    intro j
    rw [List.getElem?_map]
    have hto : ∀ j, (ordOf w a es ep).toList[j]? = (ordOf w a es ep)[j]? := fun j => by rw [Array.getElem?_toList]
    rw [hto]
    have hl2 := hop.length_eq
    rw [Array.length_toList, Array.length_toList] at hl2
    by_cases hj : j < vs.length
    · ((refine Exists.elim (hv j vs[j] (List.getElem?_eq_getElem hj)) ?_); intro h0 e)
      rw [e, List.getElem?_eq_getElem hj]; rfl
    · rw [List.getElem?_eq_none (by omega), Array.getElem?_eq_none (by omega)]; rfl
  have hI : IntsAre vs (vs.map numOf) := intsAre_map _ fun v hv' => by
    rw [hvs] at hv'
    ((refine Exists.elim (List.mem_map.mp hv') ?_); intro e; intro hZ1; (refine And.elim ?_ hZ1); clear hZ1; intro he; intro hZ2; obtain rfl := hZ2)
    ((refine Mine.ex2 (hes e (hop.mem_iff.mp he)) ?_); intro k t; intro hZ1; obtain rfl := hZ1)
    exact ⟨k, t, rfl⟩
  have hP : (vs.map numOf).Perm (norm L) := by
    rw [hvs, List.map_map]
    exact (hop.map _).trans hkp
  refine ksk_lsort (D := D) (its := vs.toArray) (n := 0) (vs := vs) (ns := vs.map numOf) (news' := fun o => (D, o) :: news) F' N' (fun o => Upd.head fun p hp => Nat.ne_of_lt (lD p hp)) (by simp) hI (by rw [List.length_map, hvl]; omega) ?_
  intro vs' ns' c h'' F'' N'' hI' _ hp' hs' _
  have e := sorted_eq (hp'.trans hP) hs' ((norm_sorted L).imp fun h => Int.le_of_lt h)
  rw [e] at hI'
  exact h D h'' tk vs' c F'' N'' hI'
end
end Mine
end
section -- X1
open PySem PySem.W PyProof.Rows PySem.StrLaws PySem.Builtin PySem.Builtin.Str
set_option maxRecDepth 100000
set_option linter.unusedVariables false
namespace Mine
noncomputable def endsL : List Str := [⟨#[10, 13]⟩, ⟨#[13, 13]⟩, ⟨#[13, 10, 10]⟩]
noncomputable def Plain1 (k : List Nat) : Prop := ∃ r, k = 46 :: r ∧ ∀ c ∈ r, c ≠ 10 ∧ c ≠ 13
theorem join_cps (en : Str) : ∀ (a : Str) (ks : List Str), (Str.join en (a :: ks)).cps.toList = a.cps.toList ++ ks.flatMap (fun k => en.cps.toList ++ k.cps.toList)
  | a, [] => by simp [Str.join]
  | a, k :: r => by
    show (a ++ en ++ Str.join en (k :: r)).cps.toList = _
    simp only [Str.cps_append, Array.toList_append, join_cps en k r, List.flatMap_cons]
    simp
theorem nlGo_page {en : List Nat} (he : en = [10, 13] ∨ en = [13, 13] ∨ en = [13, 10, 10]) : ∀ ks : List (List Nat), (∀ k ∈ ks, Plain1 k) →
    nlGo false (ks.flatMap fun k => en ++ k) = ks.flatMap fun k => [13, 10, 13, 10] ++ k
  | [], _ => rfl
  | k :: ks, h => by
    ((refine Exists.elim (h k (.head _)) ?_); intro r; intro hZ1; (refine And.elim ?_ hZ1); clear hZ1; intro hZ2; obtain rfl := hZ2; intro hr)
    have ih := nlGo_page he ks fun q hq => h q (.tail _ hq)
    have hk : ∀ (r : List Nat) (b : Bool), nlGo b (46 :: r) = 46 :: nlGo false r := fun r b => by rw [nlGo, if_neg (by decide), if_neg (by decide)]
    have hs := nlGo_skip r (ks.flatMap fun k => en ++ k) (fun c hc => by
      have := hr c hc
      unfold isNl
      simp [this.1, this.2])
    rw [List.flatMap_cons, List.flatMap_cons, ← ih]
    rcases he with rfl | rfl | rfl
    · show nlGo false (10 :: 13 :: 46 :: (r ++ _)) = _
      rw [nlGo, if_pos rfl, if_neg (by decide), nlGo, if_neg (by decide), if_pos rfl, hk, hs]
      simp
    · show nlGo false (13 :: 13 :: 46 :: (r ++ _)) = _
      rw [nlGo, if_neg (by decide), if_pos rfl, nlGo, if_neg (by decide), if_pos rfl, hk, hs]
      simp
    · show nlGo false (13 :: 10 :: 10 :: 46 :: (r ++ _)) = _
      rw [nlGo, if_neg (by decide), if_pos rfl, nlGo, if_pos rfl, if_pos rfl, nlGo, if_pos rfl, if_neg (by decide), hk, hs]
      simp
theorem stGo_cons (b : Bool) (c : Nat) (r : List Nat) : stGo b (c :: r) = (if b = true ∧ c = 46 then [46, 46] else [c]) ++ stGo (c == 10) r := by rw [stGo]
theorem stGo_flat : ∀ (r l : List Nat), (∀ c ∈ r, c ≠ 10) → stGo false (r ++ l) = r ++ stGo false l
  | [], _, _ => rfl
  | c :: r, l, h => by
    rw [List.cons_append, stGo_cons, if_neg (by simp), show (c == 10) = false from beq_false_of_ne (h c (.head _)), stGo_flat r l fun d hd => h d (.tail _ hd)]
    rfl
theorem stGo_page : ∀ (ks : List (List Nat)) (b : Bool), (∀ k ∈ ks, Plain1 k) → stGo b (ks.flatMap fun k => [13, 10, 13, 10] ++ k) = ks.flatMap fun k => [13, 10, 13, 10, 46] ++ k
  | [], b, _ => rfl
  | k :: ks, b, h => by
    ((refine Exists.elim (h k (.head _)) ?_); intro r; intro hZ1; (refine And.elim ?_ hZ1); clear hZ1; intro hZ2; obtain rfl := hZ2; intro hr)
    have ih := stGo_page ks false fun q hq => h q (.tail _ hq)
    rw [List.flatMap_cons, List.flatMap_cons, ← ih]
    show stGo b (13 :: 10 :: 13 :: 10 :: 46 :: (r ++ _)) = _
    rw [stGo_cons, if_neg (by simp), stGo_cons, if_neg (by simp), stGo_cons, if_neg (by simp), stGo_cons, if_neg (by simp), stGo_cons, if_pos (by simp), show ((46 : Nat) == 10) = false from by decide, stGo_flat r _ fun c hc => (hr c hc).1]
    simp
theorem cut2_flat : ∀ (r l : List Nat), (∀ c ∈ r, c ≠ 13) → ∀ p q, cut2 13 10 l = p :: q → cut2 13 10 (r ++ l) = (r ++ p) :: q
  | [], _, _, p, q, e => e
  | c :: r, l, h, p, q, e => by
    have ih := cut2_flat r l (fun d hd => h d (.tail _ hd)) p q e
    have hc := h c (.head _)
    rw [List.cons_append]
    cases hrl : r ++ l with
    | nil =>
      rw [hrl] at ih
      simp only [cut2_nil, cut2_one, cut2_cons] at ih ⊢
      rw [List.cons.injEq] at ih
      simp [← ih.1, ← ih.2]
    | cons d s =>
      rw [hrl] at ih
      rw [cut2_cons, if_neg (fun e => hc e.1), ih]
      rfl
theorem cut2_page : ∀ (ks : List (List Nat)), (∀ k ∈ ks, Plain1 k) → cut2 13 10 (ks.flatMap fun k => [13, 10, 13, 10, 46] ++ k) = [] :: ks.flatMap fun k => [[], 46 :: k]
  | [], _ => rfl
  | k :: ks, h => by
    ((refine Exists.elim (h k (.head _)) ?_); intro r; intro hZ1; (refine And.elim ?_ hZ1); clear hZ1; intro hZ2; obtain rfl := hZ2; intro hr)
    have ih := cut2_page ks fun q hq => h q (.tail _ hq)
    rw [List.flatMap_cons, List.flatMap_cons]
    show cut2 13 10 (13 :: 10 :: 13 :: 10 :: ((46 :: 46 :: r) ++ _)) = _
    rw [cut2_cons, if_pos ⟨rfl, rfl⟩, cut2_cons, if_pos ⟨rfl, rfl⟩, cut2_flat (46 :: 46 :: r) _ (fun c hc => by
      simp only [List.mem_cons] at hc
      rcases hc with rfl | rfl | hc
      · decide
      · decide
      · exact (hr c hc).2) _ _ ih]
    simp
/-- what the page of all names gives when it is sent and cut -/
theorem page_cut {en : Str} (he : en ∈ endsL) {ks : List Str} (h : ∀ k ∈ ks, Plain1 k.cps.toList) :
    (Txt.split ⟨(quoteW (Txt.join en (Str.ofString "" :: ks)).cps.toList).toArray⟩ (Str.ofString "\r\n")).map (fun q => q.cps.toList) = [] :: ks.flatMap fun k => [[], 46 :: k.cps.toList] := by
  have e1 : Str.ofString "\r\n" = ⟨#[13, 10]⟩ := by decide +kernel
  have e2 : Str.ofString "" = ⟨#[]⟩ := by decide +kernel
  rw [e1, split_cut2 _ _ _ (by decide) (by decide), List.toList_toArray]
  have e3 : (Txt.join en (Str.ofString "" :: ks)).cps.toList = (ks.map fun k => k.cps.toList).flatMap (fun k => en.cps.toList ++ k) := by
    show (glued en _).cps.toList = _
    rw [glued_eq_join, e2, join_cps, List.flatMap_map]; rfl
  have hen : en.cps.toList = [10, 13] ∨ en.cps.toList = [13, 13] ∨ en.cps.toList = [13, 10, 10] := by
    simp only [endsL, List.mem_cons, List.not_mem_nil, or_false] at he
    rcases he with rfl | rfl | rfl <;> simp
  have hk : ∀ k ∈ ks.map (fun k : Str => k.cps.toList), Plain1 k := fun k hk => by
    ((refine Exists.elim (List.mem_map.mp hk) ?_); intro q; intro hZ1; (refine And.elim ?_ hZ1); clear hZ1; intro hq; intro hZ2; obtain rfl := hZ2)
    exact h q hq
  rw [quoteW, e3, nlGo_page hen _ hk, stGo_page _ _ hk, cut2_page _ hk, List.flatMap_map]
/-- every second part from the third on -/
theorem pick_odd (items : Array Value) (n : Nat) (h : items.size = 2 * n + 1) : slicePick items (some 2) none (some 2) = ((List.range n).map fun i => items.getD (2 * i + 2) .none).toArray := by
  unfold slicePick
  congr 1
  have hb : sliceBounds (some 2) none (some 2) items.size = ((if n = 0 then 1 else 2 : Int), (2 * n + 1 : Int), 2) := by
    unfold sliceBounds
    simp
    rw [h]
    split <;> omega
  rw [hb]
  have hr : sliceRange (if n = 0 then 1 else 2 : Int) (2 * n + 1) 2 = (List.range n).map fun i => (2 * i + 2 : Nat) := by
    unfold sliceRange
    by_cases h0 : n = 0
    · subst h0; simp
    · simp [h0]
      rw [if_pos (by omega), Int.toNat_natCast]
      apply List.map_congr_left
      intro i hi
      omega
  rw [hr, List.filterMap_map]
  have : ∀ l : List Nat, (∀ i ∈ l, i < n) → l.filterMap ((fun i => items[i]?) ∘ fun i => 2 * i + 2) = l.map fun i => items.getD (2 * i + 2) .none := by
    intro l
    induction l with
    | nil => intro _; rfl
    | cons a r ih =>
      intro h1
      have h2 := h1 a (.head _)
      have e : ((fun i => items[i]?) ∘ fun i => 2 * i + 2) a = some (items.getD (2 * a + 2) .none) := by
        simp [Array.getD, h, show 2 * a + 2 < 2 * n + 1 by omega]
      rw [List.filterMap_cons_some e, ih fun i hi => h1 i (.tail _ hi)]
      rfl
  exact this _ fun i hi => List.mem_range.mp hi
end Mine
end
section -- X2
open PySem PySem.W PyProof.Rows PySem.StrLaws PySem.Builtin PySem.Builtin.Str
set_option maxRecDepth 100000
set_option linter.unusedVariables false
namespace Mine
/-- a name: n dots and a letter -/
noncomputable def nmS (n c : Nat) : Str := dotsS n ++ ⟨#[c]⟩
noncomputable def AorA (c : Nat) : Prop := c = 97 ∨ c = 65
theorem nm_lt {n c : Nat} (hc : c < 128) : ∀ d ∈ (nmS n c).cps.toList, d < 128 := by
  intro d hd
  rw [nmS, app_cps, Array.toList_append] at hd
  rcases List.mem_append.mp hd with hd | hd
  · rw [mem_dots hd]; decide
  · simp at hd; omega
theorem nm_map (g : Nat → Nat) (hg : g 46 = 46) (n c : Nat) : (⟨(nmS n c).cps.map g⟩ : Str) = nmS n (g c) := by
  show (⟨(((dotsS n).cps ++ #[c]).map g)⟩ : Str) = ⟨(dotsS n).cps ++ #[g c]⟩
  congr 1
  rw [Array.map_append]
  have e : Array.map g #[c] = #[g c] := by simp
  rw [e]
  congr 1
  simp [dotsS, hg]
theorem nm_lower (n : Nat) {c : Nat} (hc : AorA c) : Txt.lower (nmS n c) = nmS n 97 := by
  have hc' : c < 128 := by rcases hc with rfl | rfl <;> decide
  rw [lower_ascii (nm_lt hc'), nm_map lo1 (by decide)]
  rcases hc with rfl | rfl <;> rfl
theorem nm_upper (n : Nat) {c : Nat} (hc : AorA c) : Txt.upper (nmS n c) = nmS n 65 := by
  have hc' : c < 128 := by rcases hc with rfl | rfl <;> decide
  rw [upper_ascii (nm_lt hc'), nm_map up1 (by decide)]
  rcases hc with rfl | rfl <;> rfl
noncomputable def sw1 (c : Nat) : Nat := if 97 ≤ c ∧ c ≤ 122 then c - 32 else if 65 ≤ c ∧ c ≤ 90 then c + 32 else c
theorem isUpper_ascii : ∀ c, c < 128 → Unicode.isUpper c = decide (65 ≤ c ∧ c ≤ 90) := by decide +kernel
theorem isLower_ascii : ∀ c, c < 128 → Unicode.isLower c = decide (97 ≤ c ∧ c ≤ 122) := by decide +kernel
theorem swap_ascii {x : Str} (hA : ∀ c ∈ x.cps.toList, c < 128) : Txt.swapcase x = ⟨x.cps.map sw1⟩ := by
  unfold Txt.swapcase
  rw [placed_single x _ sw1 fun i c hc => by
    have hc' : x.cps[i]? = some c := by simpa using hc
    have hlt := hA c (List.mem_of_getElem? hc)
    unfold Unicode.lowerAt
    rw [hc']
    have hne : (c == 0x3A3) = false := by rw [beq_eq_false_iff_ne]; omega
    simp only [hne, Bool.false_and, Bool.false_eq_true, if_false, isUpper_ascii c hlt, isLower_ascii c hlt]
    rw [lowerOf_ascii c hlt, upperOf_ascii c hlt]
    unfold lo1 up1 sw1
    by_cases h1 : 65 ≤ c ∧ c ≤ 90
    · rw [if_pos (by simpa using h1), if_pos h1, if_neg (by omega)]
    · rw [if_neg (by simpa using h1)]
      by_cases h2 : 97 ≤ c ∧ c ≤ 122
      · rw [if_pos (by simpa using h2), if_pos h2, if_pos h2]
      · rw [if_neg (by simpa using h2), if_neg h2, if_neg h1]]
noncomputable def swC (c : Nat) : Nat := if c = 97 then 65 else 97
theorem swC_ok (c : Nat) : AorA (swC c) := by unfold swC AorA; split <;> simp
theorem nm_swap (n : Nat) {c : Nat} (hc : AorA c) : Txt.swapcase (nmS n c) = nmS n (swC c) := by
  have hc' : c < 128 := by rcases hc with rfl | rfl <;> decide
  rw [swap_ascii (nm_lt hc'), nm_map sw1 (by decide)]
  rcases hc with rfl | rfl <;> rfl
theorem nm_okText {n c : Nat} (hn : n ≤ 500) (hc : AorA c) : OkText (nmS n c) := okText_dots n c hn (by rcases hc with rfl | rfl <;> decide)
theorem nm_okName {n c : Nat} (hn : n ≤ 500) (hc : AorA c) : OkName (nmS n c) := okName_dots n c hn (by rcases hc with rfl | rfl <;> decide) (by rcases hc with rfl | rfl <;> decide)
theorem nm_len (n c : Nat) : (nmS n c).length = n + 1 := by
  show (_ ++ _ : Array Nat).size = _
  simp [dotsS]
theorem nm_inj {m n c : Nat} (h : nmS m c = nmS n c) : m = n := dots_inj h
theorem nm_cps (n c : Nat) : (nmS n c).cps.toList = List.replicate n 46 ++ [c] := by
  rw [nmS, app_cps, Array.toList_append]; simp [dotsS]
theorem nm_plain {n c : Nat} (hn : 1 ≤ n) (hc : AorA c) : Plain1 (nmS n c).cps.toList := by
  obtain ⟨m, rfl⟩ : ∃ m, n = m + 1 := ⟨n - 1, by omega⟩
  refine ⟨List.replicate m 46 ++ [c], by rw [nm_cps, List.replicate_succ]; rfl, fun d hd => ?_⟩
  rcases List.mem_append.mp hd with hd | hd
  · rw [List.eq_of_mem_replicate hd]; decide
  · simp at hd; (replace hd := Eq.symm hd; obtain rfl := hd); rcases hc with rfl | rfl <;> decide
theorem nm_dot (n c : Nat) : (⟨(46 :: (nmS n c).cps.toList).toArray⟩ : Str) = nmS (n + 1) c := by
  show (⟨_⟩ : Str) = ⟨(dotsS (n + 1)).cps ++ #[c]⟩
  rw [nm_cps]
  congr 1
  apply Array.toList_inj.mp
  simp [dotsS, List.replicate_succ]
/-- the rack's names: one dot, two dots, .. -/
noncomputable def Named (xs : List (Str × Str)) (cs : List Nat) : Prop := cs.length = xs.length ∧ (∀ c ∈ cs, AorA c) ∧ ∀ i q, xs[i]? = some q → q.1 = nmS (i + 1) (cs.getD i 0)
theorem Named.lt {xs : List (Str × Str)} {cs : List Nat} (h : Named xs cs) {i : Nat} (hi : i < xs.length) : AorA (cs.getD i 0) := by
  have : i < cs.length := by rw [h.1]; exact hi
  rw [List.getD_eq_getElem?_getD, List.getElem?_eq_getElem this]
  exact h.2.1 _ (List.getElem_mem this)
theorem Named.snoc {xs : List (Str × Str)} {cs : List Nat} (h : Named xs cs) {c : Nat} (hc : AorA c) (y : Str) : Named (xs ++ [(nmS (xs.length + 1) c, y)]) (cs ++ [c]) := by
  ((refine Mine.and3 h ?_); (try clear h); intro h1 h2 h3)
  refine ⟨by simp [h1], fun d hd => ?_, fun i q hq => ?_⟩
  · rcases List.mem_append.mp hd with hd | hd
    · exact h2 d hd
    · rw [List.mem_singleton.mp hd]; exact hc
  · by_cases hi : i < xs.length
    · rw [List.getElem?_append_left hi] at hq
      rw [h3 i q hq, List.getD_eq_getElem?_getD, List.getD_eq_getElem?_getD, List.getElem?_append_left (by omega)]
    · rw [List.getElem?_append_right (by omega)] at hq
      have hi' : i = xs.length := by
        have := (List.getElem?_eq_some_iff.mp hq).1
        simp at this; omega
      subst hi'
      simp at hq
      subst hq
      rw [List.getD_eq_getElem?_getD, List.getElem?_append_right (by omega), h1]
      simp
theorem Named.get_some {xs : List (Str × Str)} {cs : List Nat} (h : Named xs cs) {i c : Nat} {q : Str × Str} (hc : AorA c) (hq : xs[i]? = some q) : getOf (nmS (i + 1) c) xs = some q.2 := by
  obtain ⟨k, v⟩ := q
  have hi := (List.getElem?_eq_some_iff.mp hq).1
  refine getOf_at hq ?_ fun j hj => ?_
  · have := h.2.2 i _ hq
    dsimp only at this
    rw [this, nm_lower _ (h.lt hi), nm_lower _ hc]
  · have hj' : j < xs.length := by omega
    have := h.2.2 j _ (List.getElem?_eq_getElem hj')
    rw [List.getD_eq_getElem?_getD, List.getElem?_eq_getElem hj', Option.getD_some, this, nm_lower _ (h.lt hj'), nm_lower _ hc]
    intro e
    have := nm_inj e
    omega
theorem Named.get_none {xs : List (Str × Str)} {cs : List Nat} (h : Named xs cs) {n c : Nat} (hc : AorA c) (hn : xs.length < n) : getOf (nmS n c) xs = none := by
  refine getOf_none fun j hj => ?_
  have := h.2.2 j _ (List.getElem?_eq_getElem hj)
  rw [List.getD_eq_getElem?_getD, List.getElem?_eq_getElem hj, Option.getD_some, this, nm_lower _ (h.lt hj), nm_lower _ hc]
  intro e
  have := nm_inj e
  omega
theorem Named.rowsOk {xs : List (Str × Str)} {cs : List Nat} (h : Named xs cs) (hx : xs.length ≤ 100) (ht : ∀ q ∈ xs, OkText q.2) : RowsOk xs := by
  intro q hq
  refine ⟨?_, ht q hq⟩
  ((refine Exists.elim (List.mem_iff_getElem.mp hq) ?_); intro i; intro hZ1; (refine Exists.elim hZ1 ?_); clear hZ1; intro hi e)
  have := h.2.2 i q (by rw [List.getElem?_eq_getElem hi, e])
  rw [this]
  exact nm_okText (by omega) (h.lt hi)
/-- the names that are looked at: a dot and a, and all names sent -/
noncomputable def sent (xs : List (Str × Str)) : List Str := Str.ofString ".a" :: xs.map fun q => ⟨(46 :: q.1.cps.toList).toArray⟩
theorem Named.sent_at {xs : List (Str × Str)} {cs : List Nat} (h : Named xs cs) {i : Nat} (hi : i ≤ xs.length) : (sent xs)[i]? = some (nmS (i + 1) ((97 :: cs).getD i 0)) ∧ AorA ((97 :: cs).getD i 0) := by
  cases i with
  | zero => exact ⟨by show some (Str.ofString ".a") = some (nmS 1 97); decide +kernel, .inl rfl⟩
  | succ i =>
    have hi' : i < xs.length := by omega
    have := h.2.2 i _ (List.getElem?_eq_getElem hi')
    refine ⟨?_, by simpa using h.lt hi'⟩
    show (xs.map fun q => (⟨(46 :: q.1.cps.toList).toArray⟩ : Str))[i]? = _
    rw [List.getElem?_map, List.getElem?_eq_getElem hi', Option.map_some, this, nm_dot]
    rfl
theorem sent_len (xs : List (Str × Str)) : (sent xs).length = xs.length + 1 := by simp [sent]
noncomputable def free (xs : List (Str × Str)) (y : Str) : Bool := (getOf (Txt.swapcase y) xs).isNone
theorem Named.free_at {xs : List (Str × Str)} {cs : List Nat} (h : Named xs cs) {i : Nat} {y : Str} (hy : (sent xs)[i]? = some y) : free xs y = decide (i = xs.length) := by
  have hi : i < (sent xs).length := (List.getElem?_eq_some_iff.mp hy).1
  rw [sent_len] at hi
  ((refine And.elim ?_ (h.sent_at (i := i) (by omega))); intro h1 h2)
  rw [hy] at h1
  cases h1
  unfold free
  rw [nm_swap _ h2]
  by_cases e : i = xs.length
  · rw [h.get_none (swC_ok _) (by omega)]; simp [e]
  · rw [h.get_some (swC_ok _) (List.getElem?_eq_getElem (show i < xs.length by omega))]; simp [e]
theorem Named.free_all {xs : List (Str × Str)} {cs : List Nat} (h : Named xs cs) : (sent xs).filter (free xs) = [nmS (xs.length + 1) ((97 :: cs).getD xs.length 0)] := by
  have h1 : (sent xs).take xs.length ++ [nmS (xs.length + 1) ((97 :: cs).getD xs.length 0)] = sent xs := by
    have e := (h.sent_at (i := xs.length) (Nat.le_refl _)).1
    conv => rhs; rw [← List.take_append_drop xs.length (sent xs)]
    congr 1
    have hl : xs.length < (sent xs).length := by rw [sent_len]; omega
    rw [List.drop_eq_getElem_cons hl, List.drop_of_length_le (by rw [sent_len]; omega)]
    rw [List.getElem?_eq_getElem hl] at e
    rw [Option.some.inj e]
  rw [← h1, List.filter_append]
  have h2 : ((sent xs).take xs.length).filter (free xs) = [] := by
    rw [List.filter_eq_nil_iff]
    intro y hy
    ((refine Exists.elim (List.mem_iff_getElem.mp hy) ?_); intro i; intro hZ1; (refine Exists.elim hZ1 ?_); clear hZ1; intro hi e)
    have hi2 : i < xs.length := by simp at hi; omega
    have := h.free_at (i := i) (y := y) (by
      rw [← e, List.getElem_take]
      exact List.getElem?_eq_getElem _)
    rw [this]
    simp; omega
  have h3 := h.free_at (h.sent_at (i := xs.length) (Nat.le_refl _)).1
  rw [h2, List.filter_cons_of_pos (by rw [h3]; simp)]
  rfl
theorem strsAre_of_get : ∀ {vs : List Value} {ys : List Str}, vs.length = ys.length → (∀ (i : Nat) (y : Str), ys[i]? = some y → ∃ t, vs[i]? = some (Value.str y t)) → StrsAre vs ys
  | [], [], _, _ => .nil
  | [], _ :: _, h, _ => by simp at h
  | _ :: _, [], h, _ => by simp at h
  | v :: vs, y :: ys, h, g => by
    ((refine Exists.elim (g 0 y rfl) ?_); intro t e)
    simp at e
    subst e
    exact .cons _ _ (strsAre_of_get (by simpa using h) fun i z hz => by simpa using g (i + 1) z (by simpa using hz))
theorem flat_odd (ks : List Str) : ∀ i : Nat, (ks.flatMap fun k => [[], 46 :: k.cps.toList])[2 * i + 1]? = (ks[i]?).map fun k => 46 :: k.cps.toList := by
  induction ks with
  | nil => intro i; simp
  | cons k r ih =>
    intro i
    rw [List.flatMap_cons]
    cases i with
    | zero => rfl
    | succ i =>
      show ([] :: (46 :: k.cps.toList) :: (r.flatMap fun k => [[], 46 :: k.cps.toList]))[2 * (i + 1) + 1]? = _
      rw [show 2 * (i + 1) + 1 = 2 * i + 1 + 1 + 1 from by omega, List.getElem?_cons_succ, List.getElem?_cons_succ, ih i]
      rfl
theorem flat_len (ks : List Str) : (ks.flatMap fun k => [([] : List Nat), 46 :: k.cps.toList]).length = 2 * ks.length := by
  induction ks with
  | nil => rfl
  | cons k r ih => rw [List.flatMap_cons, List.length_append, ih]; simp; omega
/-- the names that lie_lay looks at -/
theorem names_are {ls : List (Str × Tok)} {en : Str} {xs : List (Str × Str)} {cs : List Nat} (h : Named xs cs) (he : en ∈ endsL)
    (hls : ls.map (·.1) = Txt.split ⟨(quoteW (Txt.join en (Str.ofString "" :: xs.map (·.1))).cps.toList).toArray⟩ (Str.ofString "\r\n")) :
    StrsAre (slicePick (strValues ls).toArray (some 2) none (some 2)).toList (xs.map fun q => ⟨(46 :: q.1.cps.toList).toArray⟩) := by
  have key := page_cut he (ks := xs.map (·.1)) (fun k hk => by
    ((refine Exists.elim (List.mem_map.mp hk) ?_); intro q; intro hZ1; (refine And.elim ?_ hZ1); clear hZ1; intro hq; intro hZ2; obtain rfl := hZ2)
    ((refine Exists.elim (List.mem_iff_getElem.mp hq) ?_); intro i; intro hZ1; (refine Exists.elim hZ1 ?_); clear hZ1; intro hi e)
    have := h.2.2 i q (by rw [List.getElem?_eq_getElem hi, e])
    rw [this]
    exact nm_plain (by omega) (h.lt hi))
  rw [← hls, List.map_map] at key
  have hl : ls.length = 2 * xs.length + 1 := by
    have := congrArg List.length key
    rw [List.length_map, List.length_cons, flat_len] at this
    simpa using this
  have hS := strsAre_of_values ls
  have hsz : (strValues ls).toArray.size = 2 * xs.length + 1 := by
    rw [List.size_toArray, hS.len_eq, List.length_map, hl]
  rw [pick_odd _ _ hsz, List.toList_toArray]
  refine strsAre_of_get (by simp) fun i y hy => ?_
  have hi : i < xs.length := by
    have := (List.getElem?_eq_some_iff.mp hy).1
    simpa using this
  have e1 : (ls.map fun q => q.1.cps.toList)[2 * i + 2]? = some y.cps.toList := by
    have e0 : (ls.map fun q => q.1.cps.toList) = [] :: (xs.map (·.1)).flatMap fun k => [[], 46 :: k.cps.toList] := key
    rw [e0, show 2 * i + 2 = 2 * i + 1 + 1 from rfl, List.getElem?_cons_succ, flat_odd, List.getElem?_map]
    rw [List.getElem?_map] at hy
    cases hx : xs[i]? with
    | none => rw [hx] at hy; cases hy
    | some q =>
      rw [hx] at hy
      simp only [Option.map_some, Option.some.injEq] at hy ⊢
      rw [← hy]
  have e2 : (ls.map (·.1))[2 * i + 2]? = some y := by
    rw [List.getElem?_map] at e1 ⊢
    cases hq : ls[2 * i + 2]? with
    | none => rw [hq] at e1; cases e1
    | some q =>
      rw [hq] at e1
      simp only [Option.map_some, Option.some.injEq] at e1 ⊢
      exact Str.ext' (Array.toList_inj.mp e1)
  ((refine Exists.elim (hS.at e2) ?_); intro t ht)
  refine ⟨t, ?_⟩
  rw [List.getElem?_map, List.getElem?_range hi, Option.map_some]
  congr 1
  have e3 : (strValues ls).toArray[2 * i + 2]? = some (.str y t) := by simpa using ht
  rw [Array.getD_eq_getD_getElem?, e3]
  rfl
end Mine
end
section -- L1
open PySem PySem.W PyProof.Rows PyProof.Rows.LCg PyProof.Rows.LCt
set_option maxRecDepth 100000
set_option linter.unusedVariables false
namespace Mine
theorem zoff_L1 : True := by
  w_top off
  k_with_none
  k_with "Hid" => (refine Mine.Hid.go (by with_reducible assumption) ?_)
  k_with "execs cons" => ((fail_if_success (with_reducible refine Mine.isHid ?_)); (refine Mine.hideQ fun _ _ => ?_))
  k_with "exec Assign" => ((fail_if_success (with_reducible refine Mine.isHid ?_)); (refine Mine.hideQ fun _ _ => ?_))
  k_with "exec Expr" => ((fail_if_success (with_reducible refine Mine.isHid ?_)); (refine Mine.hideQ fun _ _ => ?_))
  k_with "exec Return" => ((fail_if_success (with_reducible refine Mine.isHid ?_)); (refine Mine.hideQ fun _ _ => ?_))
  k_with "exec AugAssign" => ((fail_if_success (with_reducible refine Mine.isHid ?_)); (refine Mine.hideQ fun _ _ => ?_))
  k_with "exec If" => ((fail_if_success (with_reducible refine Mine.isHid ?_)); (refine Mine.hideQ fun _ _ => ?_))
  trivial
theorem hide_tupN {h : Heap} {hs : List Addr} {T : Addr} {its : Array Value} (hn : ∀ a ∈ hs, ∀ o, h.get? a = some o → o.cls ≠ .type "tuple") (hT : h.IsTuple T its) : (hideAll h hs).IsTuple T its := by
  ((refine Exists.elim hT ?_); (try clear hT); intro o; intro hZ1; (refine Mine.and3 hZ1 ?_); clear hZ1; intro ho hc q)
  exact ⟨o, hideAll_get _ ho (fun m => hn T m o ho hc), hc, q⟩
theorem zk_L1_1 : True := by
  k_with "execs nil" => (refine wpAny_execs_nil ?_)
  k_with "call builtin:len" => (refine len_list (News.isList (by assumption) (by k_mem)) (by omega) ?_)
  k_with "eval ListComp" => (refine Stop.h ?_)
  k_with "binaryOp Add ref ref" => (refine Stop.h ?_)
  k_with "call builtin:str.join" => (refine Stop.h ?_)
  k_with "subscriptTail" => (refine Stop.h ?_)
  trivial
theorem ends_get {t0 t1 t2 : Tok} {k : Int} (h0 : 0 ≤ k) (h1 : k < 3) : ∃ y t, y ∈ endsL ∧ (#[Value.str (Str.ofString "\n\r") t0, Value.str (Str.ofString "\r\r") t1, Value.str (Str.ofString "\r\n\n") t2] : Array Value).getD k.toNat .none = .str y t := by
  have : k = 0 ∨ k = 1 ∨ k = 2 := by omega
  rcases this with rfl | rfl | rfl
  · exact ⟨⟨#[10, 13]⟩, t0, by simp [endsL], by show Value.str _ t0 = _; congr 1⟩
  · exact ⟨⟨#[13, 13]⟩, t1, by simp [endsL], by show Value.str _ t1 = _; congr 1⟩
  · exact ⟨⟨#[13, 10, 10]⟩, t2, by simp [endsL], by show Value.str _ t2 = _; congr 1⟩
theorem ends_len {y : Str} (h : y ∈ endsL) : y.length ≤ 3 := by
  simp only [endsL, List.mem_cons, List.not_mem_nil, or_false] at h
  rcases h with rfl | rfl | rfl <;> simp [Str.length]
theorem sum_le_map {α : Type} {f : α → Nat} {b : Nat} : ∀ {l : List α}, (∀ q ∈ l, f q ≤ b) → (l.map f).sum ≤ l.length * b
  | [], _ => by simp
  | a :: r, h => by
    have h1 := h a (.head _)
    have h2 := sum_le_map (l := r) (b := b) fun q hq => h q (.tail _ hq)
    simp only [List.map_cons, List.sum_cons, List.length_cons, Nat.succ_mul]; omega
theorem my_item_str {prog : Program} {w : World} {A : Around} {E : Value → Shared → Prop} {s : Shared} {h₀ : Heap} {L l : Addr} {news : List (Addr × Obj)} {arr : Array Value} {n : Nat} {value slice : PySem.Expr} {k : Int} {u : Tok} {Q : Value → Shared → Prop}
    (N : News h₀ L s.heap news) (hm : (l, listOf arr n) ∈ news) (h0 : 0 ≤ k) (h1 : k < arr.size) (h2 : k < 1000) {P : Str → Prop} (hP : ∃ y t, P y ∧ arr.getD k.toNat .none = .str y t) (h : ∀ y t, P y → Q (.str y t) s)
    (hs : subscripted slice false (.ref l) (.int k u) = operate [.ref l, .int k u] (getItem (.ref l) (.int k u)) := by with_unfolding_all rfl) :
    wpAny (model prog w) A (subscriptTail value slice (.ref l) (.int k u)) Q E s := by
  ((refine Mine.ex2 hP ?_); (try clear hP); intro y t; intro hZ1; (refine And.elim ?_ hZ1); clear hZ1; intro hy e)
  exact my_item N hm h0 h1 h2 (e ▸ h y t hy) hs
theorem head_arr {b h : Heap} {L D : Addr} {x : Str} {t : Tok} {A2 : Array Value} {k : Nat} {rest : List (Addr × Obj)} (N : News b L h ((D, listOf ((#[Value.str x t] : Array Value).toList ++ A2.toList).toArray k) :: rest)) : ∃ arr, arr = ((#[Value.str x t] : Array Value).toList ++ A2.toList).toArray ∧ News b L h ((D, listOf arr k) :: rest) := ⟨_, rfl, N⟩
theorem zk_L1_2 : True := by
  k_with "isTrue Compare" => (refine wpAny_isTrue_Compare1 ?_)
  k_with "CompSrcT" => (refine Stop.h ?_)
  k_with "call builtin:min" => (refine Stop.h ?_)
  k_with "call builtin:str.upper" => (refine Stop.h ?_)
  k_with "call builtin:str.lower" => (refine Stop.h ?_)
  k_with "compareOp Eq int int" => (refine Stop.h ?_)
  k_with "eval IfExp" => (refine Stop.h ?_)
  trivial

theorem pure_mid {M : Model} {A : Around} {t : Sem Value} {Q E : Value → Shared → Prop} {s : Shared} (P : Value → Prop) (h1 : wpAny M A t (fun v s' => P v ∧ ∃ tk', s' = { s with toks := tk' }) E s) (h2 : ∀ v tk', P v → Q v { s with toks := tk' }) : wpAny M A t Q E s :=
  wpAny_mono h1 (fun v s' q => by ((refine And.elim ?_ q); (try clear q); intro q1; intro hZ1; (refine Exists.elim hZ1 ?_); clear hZ1; intro tk'; intro hZ2; obtain rfl := hZ2); exact h2 v tk' q1) fun _ _ q => q
theorem ne_locals_of_isTuple {h₀ h : Heap} {L D : Addr} {m : Str → Option Value} {items : Array Value} (F : Fr h₀ L h m) (hl : h.IsTuple D items) : D ≠ L := by
  intro e; (replace e := Eq.symm e; obtain rfl := e)
  ((refine Exists.elim hl ?_); (try clear hl); intro o; intro hZ1; (refine Mine.and3 hZ1 ?_); clear hZ1; intro ho _; intro hZ2; (refine Exists.elim hZ2 ?_); clear hZ2; intro n hd)
  ((refine Mine.ex3 F.ns ?_); intro o' es ep; intro hZ1; (refine Mine.and3 hZ1 ?_); clear hZ1; intro ho' hd' _)
  rw [ho] at ho'; cases ho'; rw [hd] at hd'; cases hd'
theorem snap1 {h₀ h : Heap} {L u : Addr} {m : Str → Option Value} (F : Fr h₀ L h m) : ∃ own, News h₀ L h own ∧ (∀ q ∈ own, q.1 ≠ u) ∧ ∀ b o, b ≠ L → b ≠ u → h.get? b = some o → h₀.get? b = some o ∨ (b, o) ∈ own := by
  ((refine Exists.elim (snap F) ?_); intro own; intro hZ1; (refine And.elim ?_ hZ1); clear hZ1; intro N hs)
  refine ⟨own.filter fun q => decide (q.1 ≠ u), fun p hp => N p (List.mem_filter.mp hp).1, fun q hq => by simpa using (List.mem_filter.mp hq).2, fun b o hb hu e => ?_⟩
  rcases hs b o hb e with h1 | h1
  · exact .inl h1
  · exact .inr (List.mem_filter.mpr ⟨h1, by simpa using hu⟩)
theorem Rack.keepB {w : World} {h h' : Heap} {r d l : Addr} {vs : List Value} {xs : List (Str × Str)} {Bad : Addr → Prop} (H : Rack w h r d l vs xs) (k : ∀ b o, ¬ Bad b → h.get? b = some o → h'.get? b = some o) (hr : ¬ Bad r) (hd : ¬ Bad d) (hl : ¬ Bad l) (ht : ∀ T its, h.IsTuple T its → ¬ Bad T) : Rack w h' r d l vs xs := by
  obtain ⟨h1, ⟨tk, h2⟩, ⟨n, h3⟩, h4, ⟨p1, p2, h5⟩⟩ := H
  refine ⟨k _ _ hr h1, ⟨tk, k _ _ hd h2⟩, ⟨n, k _ _ hl h3⟩, h4, ⟨p1, p2, fun i v hv => ?_⟩⟩
  ((refine Exists.elim (h5 i v hv) ?_); intro T; intro hZ1; (refine And.elim ?_ hZ1); clear hZ1; intro hT hU)
  have hb := ht _ _ hU
  ((refine Exists.elim hU ?_); (try clear hU); intro o; intro hZ1; (refine And.elim ?_ hZ1); clear hZ1; intro ho q)
  exact ⟨T, hT, o, k _ _ hb ho, q⟩
local macro_rules | `(tactic| k_upd) => `(tactic| (refine' Upd.head ?a; (case a => assumption)))
set_option maxHeartbeats 8000000 in
theorem lay_spec (w : World) {p : Program} {loose : List Str} {mean : ExcName → Option Value} {mg mb : Str → Option Value} : ∀ (b₀ : Heap) (r d l u : Addr) (vs us : List Value) (ns : List Int) (nu : Nat) (xs : List (Str × Str)) (cs : List Nat) (c : Str) (tc : Tok) (A : Around) (s : Shared) (Q E : Value → Shared → Prop)
    (X : (KX w.params).In b₀) (T : Top p loose mean mg mb b₀) (hb : Ext b₀ s.heap) (off : ∀ a ∈ [r, d, l, u], b₀.get? a = none) (H : Rack w s.heap r d l vs xs) (hu : s.heap.get? u = some (listOf us.toArray nu)) (hus : IntsAre us ns) (hul : u ≠ l)
    (hoff : ∀ a : Addr, Value.ref a ∈ vs → b₀.get? a = none) (hd : A.depth + 20 < recursionLimit) (hh : A.handled = none) (hnm : Named xs cs) (hct : OkText c) (hxt : ∀ q ∈ xs, OkText q.2) (hsz : xs.length ≤ 20) (hns : ns.length ≤ 20)
    (ret : ∀ v' tn us' nu' h' tk', (∀ a : Addr, v' = .ref a → (hideAll s.heap [r, d, l, u]).get? a = none) → Ext (hideAll s.heap [l, u]) h' → Rack w h' r d l (vs ++ [v']) (xs ++ [(nmS (xs.length + 1) (if ns.length % 2 = 1 then 65 else 97), c)]) → h'.get? u = some (listOf (List.toArray us') nu') → IntsAre us' (ns ++ [((xs.length + 1 : Nat) : Int)]) → Q (.str (nmS (xs.length + 1) (if ns.length % 2 = 1 then 65 else 97)) tn) { s with heap := h', toks := tk' }),
    wpAny (model PySem.Challenge.rw_sh0039_01.row.prog w) A (call (.ref 271) [.ref r, .str c tc, .ref u]) Q E s := by
  k_fill
  intro b₀ r d l u vs us ns nu xs cs c tc A s Q E X T hb off H hu hus hul hoff hd0 hh hnm hct hxt hsz hns ret
  have hr : RowsOk xs := hnm.rowsOk (by omega) hxt
  have hkeys : ∀ q ∈ xs, q.1.length ≤ 45 := fun q hq => by
    ((refine Exists.elim (List.mem_iff_getElem.mp hq) ?_); intro i; intro hZ1; (refine Exists.elim hZ1 ?_); clear hZ1; intro hi e)
    rw [hnm.2.2 i q (by rw [List.getElem?_eq_getElem hi, e]), nm_len]; omega
  have hd : A.depth < recursionLimit := by omega
  have husz : us.toArray.size ≤ 40 := by have := hus.length; simp; omega
  have hm0 : 0 ≤ (ns.length : Int).fmod 3 := Int.fmod_nonneg_of_pos _ (by decide)
  have hm1 : (ns.length : Int).fmod 3 < 3 := Int.fmod_lt_of_pos _ (by decide)
  obtain ⟨h1, ⟨tkd, h2⟩, ⟨n, h3⟩, h4, ⟨p1, p2, h5⟩⟩ := H
  ((refine Mine.and3 (ne3 h1 h2 h3) ?_); intro n1 n2 n3)
  have hbu : Ext b₀ (hideAll s.heap [r, d, l, u]) := hide_ext hb off
  have hrows : ∀ i v, vs[i]? = some v → ∃ T, v = .ref T ∧ (hideAll s.heap [r, d, l, u]).IsTuple T #[.str (xs.getD i default).1 (p1 i), .str (xs.getD i default).2 (p2 i)] := fun i v hv => by
    ((refine Exists.elim (h5 i v hv) ?_); intro T; intro hZ1; (refine And.elim ?_ hZ1); clear hZ1; intro hT hU)
    refine ⟨T, hT, hide_tupN (fun a ha o ho => ?_) hU⟩
    replace ha := mem4 ha
    (rcases ha with hZ | hZ | hZ | hZ <;> ((replace hZ := Eq.symm hZ); obtain rfl := hZ))
    · cases h1.symm.trans ho; simp
    · cases h2.symm.trans ho; simp
    · cases h3.symm.trans ho; simp
    · cases hu.symm.trans ho; simp
  k_dflt (refine' enterHC (hs := [r, d, l, u]) (news := [(r, instObj 227 d), (d, dictOf [⟨PyData.keyHash w.params (Str.ofString "_headers"), .str (Str.ofString "_headers") tkd, .ref l⟩] 1), (l, listOf vs.toArray n), (u, listOf us.toArray nu)]) (K := KX w.params) (X.keeps hbu) (T.keeps hbu) ?kn ?k6 ?k7 hd ?k9 ?kB ?kD ?_ ?c2 ?c3 ?c4)
  (case kn => exact all4 ⟨h1, .head _⟩ ⟨h2, .tail _ (.head _)⟩ ⟨h3, .tail _ (.tail _ (.head _))⟩ ⟨hu, .tail _ (.tail _ (.tail _ (.head _)))⟩)
  (case k6 => k_is)
  (case k7 => k_is)
  (case k9 => exact BindsTo.of_eq rfl)
  (case kB => exact rfl)
  (case kD => decide +kernel)
  (case c2 => exact rfl)
  (case c3 => exact rfl)
  (case c4 => exact rfl)
  have P := pats w X
  have X0 := X
  have T0 := T
  clear X T
  intro h₁ tk1 cells F N Y X T l1
  (try (refine Mine.hideQ fun _ _ => ?_))
  (try k_lt l1)
  k_cells Y
  (try simp only [List.cons_append, List.nil_append] at N)
  (try dsimp only)
  (try k_fold)
  k_steps
  constructor
  (with_reducible rename Fr _ _ _ _ => F1)
  (with_reducible rename News _ _ _ _ => N1)
  refine my_item_str N1 (.head _) hm0 (by simpa using hm1) (by omega) (P := fun y => y ∈ endsL) (ends_get hm0 hm1) ?_
  intro en te hen
  (try (refine Mine.hideQ fun _ _ => ?_))
  clear hm0 hm1
  k_steps
  (with_reducible rename Fr _ _ _ _ => F2)
  (with_reducible rename News _ _ _ _ => N2)
  have hoff3 : ∀ a ∈ [r, d, l], b₀.get? a = none := fun a ha => off a (List.mem_append_left [u] ha)
  refine keys_spec w b₀ r d l vs xs _ _ _ _ X0 T0 (hbu.trans F2.keep) hoff3 (rack_of N2 F2.keep (by k_mem) (by k_mem) (by k_mem) h4 hrows) hoff (by simp only [depth_deeper]; omega) hh (by omega) ?_
  intro D ys nD h3' tk3 hys hD fD e3
  (try (refine Mine.hideQ fun _ _ => ?_))
  have F3 := Fr.keeps F2 e3
  have N3 : News (hideAll s.heap [r, d, l, u]) s.heap.objs.size h3' ((D, listOf ys.toArray nD) :: _) := fun p hp => by
    rcases List.mem_cons.mp hp with rfl | hp
    · refine ⟨hD, fun q => ?_, none_base F2.keep fD⟩
      ((refine Mine.ex3 F2.ns ?_); intro o _ _; intro hZ1; (refine And.elim ?_ hZ1); clear hZ1; intro ho _)
      rw [← q, fD] at ho; cases ho
    · exact News.grown N2 e3 p hp
  clear F2 N2
  k_steps
  constructor
  have hyl := hys.len_eq
  refine add_arrays (hsz := ?z1) F3 N3 ⟨_, (N3 _ (.tail _ (.head _))).1, rfl, _, rfl⟩ ⟨_, (N3 _ (.head _)).1, rfl, _, rfl⟩ ?_
  case z1 => simp [sizeLine] at *; omega
  intro h5' F5 N5
  (try (refine Mine.hideQ fun _ _ => ?_))
  clear F3 N3
  k_steps
  constructor
  have hsum : (xs.map fun q => q.1.length).sum ≤ xs.length * 45 := sum_le_map hkeys
  refine join_listC (ys := Str.ofString "" :: xs.map (·.1)) ⟨_, (N5 _ (.head _)).1, rfl, _, rfl⟩ (.cons _ _ (by simpa using hys)) (Nat.le_trans (ends_len hen) (by decide)) ?_ ?_
  · simp only [List.map_cons, List.sum_cons, List.length_cons, List.length_map, List.map_map, Function.comp_def]
    have : (Str.ofString "").length = 0 := by decide
    omega
  · intro tj kj
    (try (refine Mine.hideQ fun _ _ => ?_))
    k_steps
    (with_reducible rename Fr _ _ _ _ => F6)
    (with_reducible rename News _ _ _ _ => N6)
    have hu6 := hbu.trans F6.keep
    have hjl : (Txt.join en (Str.ofString "" :: xs.map (·.1))).length ≤ 2000 := by
      unfold Txt.join
      rw [StrLaws.glued_eq_join]
      refine Nat.le_trans (StrLaws.join_length_le _ _) ?_
      simp only [List.map_cons, List.sum_cons, List.length_cons, List.length_map, List.map_map, Function.comp_def]
      have h0 : (Str.ofString "").length = 0 := by decide
      have h1 := Nat.mul_le_mul_left (xs.length + 1) (ends_len hen)
      omega
    refine quote_spec w _ _ _ _ _ _ (X.keeps F6.keep) (T.keeps F6.keep) (by simp only [depth_deeper]; omega) hjl ⟨P.1.ext hu6, P.2.1.ext hu6, P.2.2.1.ext hu6, P.2.2.2.ext hu6⟩ ?_
    intro h7 tk7 t7 e7
    (try (refine Mine.hideQ fun _ _ => ?_))
    have F7 := Fr.keeps F6 e7
    have N7 := News.grown N6 e7
    clear F6 N6
    generalize hpg : Txt.join en (Str.ofString "" :: xs.map (·.1)) = pg at *
    k_steps
    (with_reducible rename Fr _ _ _ _ => F8)
    (with_reducible rename News _ _ _ _ => N8)
    have hql : (quoteW pg.cps.toList).length ≤ 8000 := by
      have h1 := nlGo_len pg.cps.toList false
      have h2 := stGo_len (nlGo false pg.cps.toList) true
      have h3 : pg.cps.toList.length = pg.length := by simp [Str.length]
      unfold quoteW
      omega
    refine splitN1 (hsz := ?hs) F8 N8 (by rfl) ?_
    case hs => show (Array.size _) + 2 ≤ _; simp [sizeLine]; omega
    intro ls h9 k9 hls F9 N9
    (try (refine Mine.hideQ fun _ _ => ?_))
    clear F8 N8
    k_steps
    constructor
    have hlsz : (strValues ls).length ≤ 9000 := by
      have h1 := congrArg List.length hls
      have h2 := split_weight ⟨(quoteW pg.cps.toList).toArray⟩ (Str.ofString "\r\n") (by decide)
      have h3 : (⟨(quoteW pg.cps.toList).toArray⟩ : Str).length = (quoteW pg.cps.toList).length := by simp [Str.length]
      rw [List.length_map] at h1
      have h4 : (strValues ls).length = ls.length := by simp [strValues]
      omega
    refine kba_turn (value' := .Name (Str.ofString "x") default) (fun _ => rfl) ?_
    refine slice_list3 (hsz := ?hs3) F9 N9 (News.isList N9 (.head _)) (.int _ _) .none (.int _ _) (by decide) ?_
    case hs3 => simp [sizeLine]; omega
    intro h10 F10 N10
    (try (refine Mine.hideQ fun _ _ => ?_))
    clear F9 N9
    k_steps
    constructor
    have hpk : (slicePick (strValues ls).toArray (some 2) none (some 2)).size ≤ 9000 := by
      refine Nat.le_trans (slicePick_size_le _ _ _ _) ?_
      simpa using hlsz
    refine add_arrays (hsz := ?hs4) F10 N10 (News.isList N10 (by k_mem)) (News.isList N10 (.head _)) ?_
    case hs4 => simp [sizeLine] at *; omega
    intro h11 F11 N11
    (try (refine Mine.hideQ fun _ _ => ?_))
    clear F10 N10
    ((refine Exists.elim (head_arr N11) ?_); intro arrN; intro hZ1; (refine And.elim ?_ hZ1); clear hZ1; intro hA N11)
    have hSN : StrsAre arrN.toList (sent xs) := by
      rw [hA, List.toList_toArray]
      exact .cons _ _ (names_are hnm hen (by rw [hpg]; exact hls))
    have hAz : arrN.size = xs.length + 1 := by
      have := hSN.len_eq
      rw [sent_len] at this
      simpa using this
    clear hA hpk hls hlsz hql hpg hjl hsum e7 e3 hyl hys hD
    k_steps
    (with_reducible rename Fr _ _ _ _ => F12)
    (with_reducible rename News _ _ _ _ => N12)
    constructor
    refine ListComp_T (F₀ := F12) (by with_unfolding_all rfl) (by decide) (by rfl) (by decide) (by rfl) ?_
    (try k_fold)
    k_steps
    constructor
    refine CompSrcT.ledger hh F12 N12 (by k_mem) (by unfold sizeLine; omega) ?_
    intro g
    (try (refine Mine.hideQ fun _ _ => ?_))
    refine restT_ind (fun i ys news => news = _ ∧ StrsAre ys (((sent xs).take i).filter (free xs))) _ ?_ ?_ ⟨rfl, .nil⟩
    · intro i ys news v I oI C oC DD m₂ h tkt E' hi hJ14 hv hC hx1 F14 N14 off14 ne14
      (try (refine Mine.hideQ fun _ _ => ?_))
      ((refine And.elim ?_ hJ14); (try clear hJ14); intro hZ1; obtain rfl := hZ1; intro hS)
      ((refine Mine.ex2 (hSN.item i v (by simpa using hv)) ?_); intro y ty; intro hZ1; (refine And.elim ?_ hZ1); clear hZ1; intro hZ2; obtain rfl := hZ2; intro hy)
      have hyi : i ≤ xs.length := by omega
      have hyn := hnm.sent_at hyi
      rw [hy] at hyn
      ((refine And.elim ?_ hyn); (try clear hyn); intro e0 hAc)
      replace e0 := Option.some.inj e0
      have hyl : y.length ≤ 30 := by rw [e0, nm_len]; omega
      k_steps
      have hget : free xs y = (getOf (Txt.swapcase y) xs).isNone := rfl
      have htk : (sent xs).take (i + 1) = (sent xs).take i ++ [y] := by rw [List.take_add_one, hy]; rfl
      refine get_spec w b₀ r d l vs xs (Txt.swapcase y) _ _ _ _ _ X0 T0 (hbu.trans F14.keep) hoff3 (rack_of N14 F14.keep (by k_mem) (by k_mem) (by k_mem) h4 hrows) (by simp only [depth_deeper]; omega) hh (by rw [e0, nm_swap _ hAc]; exact nm_okName (by omega) (swC_ok _)) hr ?_
      intro v15 h15 tk15 hv15 e15
      (try (refine Mine.hideQ fun _ _ => ?_))
      have F15 := Fr.keeps F14 e15
      have N15 := News.grown N14 e15
      clear F14 N14
      cases hg : getOf (Txt.swapcase y) xs with
      | none =>
        rw [hg] at hv15 hget
        obtain rfl := hv15
        dsimp only
        k_steps
        refine CompEnd.intro F15 N15 _ (fun p hp => hp) off14 (.inr ⟨_, by k_mem, rfl, _, rfl⟩) ⟨rfl, ?_⟩
        rw [htk, List.filter_append, List.filter_cons_of_pos (by rw [hget]; rfl)]
        exact StrsAre.append' hS (.cons _ _ .nil)
      | some z =>
        rw [hg] at hv15 hget
        ((refine Exists.elim hv15 ?_); (try clear hv15); intro tz; intro hZ1; obtain rfl := hZ1)
        dsimp only
        k_steps
        refine CompEnd.intro F15 N15 _ (fun p hp => hp) off14 (.inr ⟨_, by k_mem, rfl, _, rfl⟩) ⟨rfl, ?_⟩
        rw [htk, List.filter_append, List.filter_cons_of_neg (by rw [hget]; simp)]
        simpa using hS
    · intro ys news hJ2 DD h tk14 F14 N14 o14
      (try (refine Mine.hideQ fun _ _ => ?_))
      ((refine And.elim ?_ hJ2); (try clear hJ2); intro hZ1; obtain rfl := hZ1; intro hS)
      have hS2 : StrsAre ys [nmS (xs.length + 1) ((97 :: cs).getD xs.length 0)] := by
        rw [List.take_of_length_le (by rw [sent_len, hAz]; omega), hnm.free_all] at hS
        exact hS
      have hAc := (hnm.sent_at (i := xs.length) (Nat.le_refl _)).2
      generalize ((97 :: cs).getD xs.length 0) = cl at *
      ((refine Mine.ex2 hS2.cons_inv ?_); intro tnm ys'; intro hZ1; (refine And.elim ?_ hZ1); clear hZ1; intro hZ2; obtain rfl := hZ2; intro hS3)
      obtain rfl := hS3.nil_inv
      clear hS hS2 hS3
      (try k_fold)
      k_steps
      (with_reducible rename Fr _ _ _ _ => F16)
      (with_reducible rename News _ _ _ _ => N16)
      constructor
      refine add_arrays (hsz := by simp [sizeLine]) F16 N16 (News.isList N16 (by k_mem)) (News.isList N16 (.head _)) ?_
      intro h17 F17 N17
      (try (refine Mine.hideQ fun _ _ => ?_))
      clear F16 N16
      have e40 : Txt.mul (Str.ofString ".") 40 ++ Str.ofString "a" = nmS 40 97 := by decide +kernel
      simp only [e40] at *
      k_steps
      constructor
      (with_reducible rename Fr _ _ _ _ => F18)
      (with_reducible rename News _ _ _ _ => N18)
      show wpAny _ _ (call (.builtin "min") [Value.ref _] [(Str.ofString "key", .builtin "len")]) _ _ _
      refine kmb_min_two (v₁ := .str (nmS (xs.length + 1) cl) tnm) (v₂ := .str (nmS 40 97) _) ((nmS (xs.length + 1) cl).length : Int) ((nmS 40 97).length : Int) hh F18 N18 (fun h _ N => News.isList N (.head _)) (fun h tk own F N => ?_) (fun h tk own F N => ?_) (fun _ h19 tk19 F19 N19 => ?_) (fun hlt => ?_)
      · exact len_str (by rw [nm_len]; omega) (KskEnd.intro F N (fun p hp => hp))
      · exact len_str (by rw [nm_len]; omega) (KskEnd.intro F N (fun p hp => hp))
      · clear F18 N18
        k_steps
        constructor
        refine pure_mid (fun v => ∃ t, v = .str (nmS (xs.length + 1) (if ns.length % 2 = 1 then 65 else 97)) t) ?_ ?_
        · have hnl : (nmS (xs.length + 1) cl).length ≤ 30 := by rw [nm_len]; omega
          have hul2 : us.length = ns.length := hus.length
          generalize hnmx : nmS (xs.length + 1) cl = nx at *
          refine wpAny_IfExp ?_
          k_steps
          constructor
          refine PyProof.Rows.eq_int ?_
          refine wpAny_truthy_bool ?_
          have hfm : (ns.length : Int).fmod 2 = ((ns.length % 2 : Nat) : Int) := by rw [Int.fmod_eq_emod_of_nonneg _ (by decide)]; omega
          by_cases hpar : ns.length % 2 = 1
          · rw [if_pos (show ((ns.length : Int).fmod 2 == 1) = true from by rw [beq_iff_eq, hfm]; omega)]
            k_steps
            constructor
            refine SCL.upper (x := nx) (by omega) ?_
            intro _
            (try (refine Mine.hideQ fun _ _ => ?_))
            exact ⟨⟨_, by rw [if_pos hpar, ← hnmx, nm_upper _ hAc]⟩, _, rfl⟩
          · rw [if_neg (show ¬ ((ns.length : Int).fmod 2 == 1) = true from by rw [beq_iff_eq, hfm]; omega)]
            k_steps
            constructor
            refine SCL.lower (x := nx) (by omega) ?_
            intro _
            (try (refine Mine.hideQ fun _ _ => ?_))
            exact ⟨⟨_, by rw [if_neg hpar, ← hnmx, nm_lower _ hAc]⟩, _, rfl⟩
        · intro v tk20 hJ2
          (try (refine Mine.hideQ fun _ _ => ?_))
          ((refine Exists.elim hJ2 ?_); (try clear hJ2); intro t20; intro hZ1; obtain rfl := hZ1)
          dsimp only
          (with_reducible rename Fr _ _ _ _ => F20)
          (with_reducible rename News _ _ _ _ => N20)
          k_steps
          (with_reducible rename Fr _ _ _ _ => F21)
          (with_reducible rename News _ _ _ _ => N21)
          have hAn : AorA (if ns.length % 2 = 1 then 65 else 97) := by split; exact .inr rfl; exact .inl rfl
          generalize (if ns.length % 2 = 1 then 65 else 97) = cn at *
          refine setd_spec w (hideAll s.heap [r, d, l, u]) r d l vs xs (nmS (xs.length + 1) cn) c _ _ _ _ _ _ X T F21.keep (fun a ha => hideAll_none _ (by simp only [List.mem_cons, List.not_mem_nil, or_false] at ha ⊢; (rcases ha with hZ | hZ | hZ <;> ((replace hZ := Eq.symm hZ); obtain rfl := hZ)) <;> simp)) (rack_of N21 F21.keep (by k_mem) (by k_mem) (by k_mem) h4 hrows) (by simp only [depth_deeper]; omega) hh (nm_okName (by omega) hAn) (nm_okText (by omega) hAn) hct hr (by omega) ?_ ?_
          · intro z v h' tk' t hz
            (try (refine Mine.hideQ fun _ _ => ?_))
            rw [hnm.get_none hAn (by omega)] at hz
            cases hz
          intro v22 h22 tk22 _ hv22 e22 R22
          (try (refine Mine.hideQ fun _ _ => ?_))
          have F22 := fr_hide1 F21 (hideAll_none _ (by simp)) (N21 (l, listOf vs.toArray n) (by k_mem)).2.1 e22
          ((refine Exists.elim (snap1 (u := u) F22) ?_); intro own; intro hZ1; (refine Mine.and3 hZ1 ?_); clear hZ1; intro Nown hou hs22)
          have N22 : News (hideAll s.heap [r, d, l, u]) s.heap.objs.size h22 ((u, listOf us.toArray nu) :: own) := fun p hp => by
            rcases List.mem_cons.mp hp with rfl | hp
            rotate_left
            · exact Nown p hp
            · skip
              have q := N21 (u, listOf us.toArray nu) (by k_mem)
              exact ⟨e22 _ _ (hideAll_get _ q.1 (by simpa using hul)), q.2⟩
          have hkt : ∀ T its, h22.IsTuple T its → T ≠ s.heap.objs.size ∧ T ≠ u := fun T its hT => ⟨ne_locals_of_isTuple F22 hT, fun e => by
            ((refine Exists.elim hT ?_); (try clear hT); intro o; intro hZ1; (refine Mine.and3 hZ1 ?_); clear hZ1; intro ho hc _)
            have q := (N22 (u, listOf us.toArray nu) (by k_mem)).1
            rw [e, q] at ho; cases ho; simp at hc⟩
          have hr22 : h22.get? r = some (instObj 227 d) := e22 _ _ (hideAll_get _ (N21 (r, instObj 227 d) (by k_mem)).1 (by simpa using n1))
          have hd22 := e22 _ _ (hideAll_get [l] (N21 (d, dictOf [⟨PyData.keyHash w.params (Str.ofString "_headers"), .str (Str.ofString "_headers") tkd, .ref l⟩] 1) (by k_mem)).1 (by simpa using n2))
          clear F21 N21
          have hnl2 : (nmS (xs.length + 1) cn).length ≤ 30 := by rw [nm_len]; omega
          k_steps
          (with_reducible rename Fr _ _ _ _ => F23)
          (with_reducible rename News _ _ _ _ => N23)
          have kk : ∀ b o, ¬ (b = s.heap.objs.size ∨ b = u) → h22.get? b = some o → Heap.get? _ b = some o := fun b o hb e => by
            rcases hs22 b o (fun q => hb (.inl q)) (fun q => hb (.inr q)) e with h1 | h1
            · exact F23.keep b o h1
            · exact (N23 _ (.tail _ h1)).1
          have hru : @Ne Nat r u := fun e => by rw [e, hu] at h1; simp at h1
          have hdu : @Ne Nat d u := fun e => by rw [e, hu] at h2; simp at h2
          obtain ⟨lr, ld, ll, lu⟩ : r < s.heap.objs.size ∧ d < s.heap.objs.size ∧ l < s.heap.objs.size ∧ u < s.heap.objs.size := ⟨Heap.lt_size h1, Heap.lt_size h2, Heap.lt_size h3, Heap.lt_size hu⟩
          show Q (.str (nmS (xs.length + 1) cn) t20) _
          obtain ⟨tz, hu23⟩ : ∃ tz, Heap.get? _ u = some (listOf (us.toArray.push (.int (((nmS (xs.length + 1) cn).length : Int) - 1) tz)) (nu + 1)) := ⟨_, (N23 _ (.head _)).1⟩
          refine ret v22 t20 (us ++ [.int (((nmS (xs.length + 1) cn).length : Int) - 1) tz]) (nu + 1) _ _ hv22 (fun b o e => ?_) (R22.keepB (Bad := fun b => b = s.heap.objs.size ∨ b = u) kk ?_ ?_ ?_ ?_) ?_ ?_
          · have hm : b ≠ l ∧ b ≠ u := by
              constructor
              · (intro hZ; replace hZ := Eq.symm hZ; obtain rfl := hZ); rw [hideAll_none _ (.head _)] at e; cases e
              · (intro hZ; replace hZ := Eq.symm hZ; obtain rfl := hZ); rw [hideAll_none _ (.tail _ (.head _))] at e; cases e
            have e' := of_hideAll _ e
            by_cases hbr : b = r
            · (replace hbr := Eq.symm hbr; obtain rfl := hbr)
              rw [h1] at e'
              cases e'
              exact kk _ _ (fun q => q.elim (Nat.ne_of_lt lr) hru) hr22
            · by_cases hbd : b = d
              · (replace hbd := Eq.symm hbd; obtain rfl := hbd)
                rw [h2] at e'
                cases e'
                exact kk _ _ (fun q => q.elim (Nat.ne_of_lt ld) hdu) hd22
              · exact F23.keep b o (hideAll_get _ e' (by simp [hbr, hbd, hm.1, hm.2]))
          · exact fun q => q.elim (Nat.ne_of_lt lr) hru
          · exact fun q => q.elim (Nat.ne_of_lt ld) hdu
          · exact fun q => q.elim (Nat.ne_of_lt ll) (Ne.symm hul)
          · exact fun T its hT q => q.elim (hkt T its hT).1 (hkt T its hT).2
          · rw [hu23]
            simp
          · refine IntsAre.append hus ?_
            rw [nm_len]
            have e : (((xs.length + 1 + 1 : Nat) : Int) - 1) = ((xs.length + 1 : Nat) : Int) := by omega
            rw [e]
            exact .cons _ _ .nil
      · rw [nm_len, nm_len] at hlt; omega
end Mine
end
section -- Y3
open PySem PySem.W PyProof.Rows PyProof.Rows.LCg PyProof.Rows.LCp PyProof.Rows.LCt
set_option maxRecDepth 100000
set_option linter.unusedVariables false
namespace Mine
theorem zoff_Y3 : True := by
  w_top off
  k_with_none
  k_with "Hid" => (refine Mine.Hid.go (by with_reducible assumption) ?_)
  k_with "execs cons" => ((fail_if_success (with_reducible refine Mine.isHid ?_)); (refine Mine.hideQ fun _ _ => ?_))
  k_with "exec Assign" => ((fail_if_success (with_reducible refine Mine.isHid ?_)); (refine Mine.hideQ fun _ _ => ?_))
  k_with "exec Expr" => ((fail_if_success (with_reducible refine Mine.isHid ?_)); (refine Mine.hideQ fun _ _ => ?_))
  k_with "exec Return" => ((fail_if_success (with_reducible refine Mine.isHid ?_)); (refine Mine.hideQ fun _ _ => ?_))
  k_with "exec AugAssign" => ((fail_if_success (with_reducible refine Mine.isHid ?_)); (refine Mine.hideQ fun _ _ => ?_))
  k_with "exec If" => ((fail_if_success (with_reducible refine Mine.isHid ?_)); (refine Mine.hideQ fun _ _ => ?_))
  trivial
theorem close_at {i j : Nat} {A B : List Int} (h : i + j ≤ 8) (hA : A ∈ tabR i) (hB : B ∈ tabR j) : norm (combo A B) ∈ tabR (i + j) ∧ chk (combo A B) = true ∧ A.length * B.length + B.length ≤ 1000 := by
  have := close_all
  unfold closeAll at this
  rw [List.all_eq_true] at this
  have h1 := this i (List.mem_range.mpr (by omega))
  rw [List.all_eq_true] at h1
  have h2 := h1 j (List.mem_range.mpr (by omega))
  rw [if_pos h, List.all_eq_true] at h2
  have h3 := h2 A hA
  rw [List.all_eq_true] at h3
  have h4 := h3 B hB
  simp only [Bool.and_eq_true, decide_eq_true_eq, List.contains_iff_mem] at h4
  exact ⟨h4.1.1, h4.1.2, h4.2⟩
theorem allR_tab : ∀ t : Tr, t.leaves ≤ 8 → t.allR ∈ tabR t.leaves
  | .leaf _, _ => .head _
  | .node l r, h => by
    simp only [Tr.leaves] at h
    exact (close_at h (allR_tab l (by omega)) (allR_tab r (by omega))).1
theorem paired_at {α β : Type} {F : α → β → Prop} {a : List α} {b : List β} (H : Paired F a b) : ∀ {i : Nat} {v : α}, a[i]? = some v → ∃ p, b[i]? = some p ∧ F v p := by
  induction H with
  | nil => intro i v h; simp at h
  | cons h t ih =>
    intro i v e
    cases i with
    | zero => exact ⟨_, rfl, Option.some.inj e ▸ h⟩
    | succ i => exact ih (i := i) e
theorem max_pick {a b : Int} : (if b > a then b else a) = max a b := by
  rw [Int.max_def]; split <;> split <;> omega
theorem elt_pair {prog : Program} {w : World} {A : Around} {env : Env} {scope : Scope} {cl : List (Str × Addr)} {C : Addr} {x y : Str} {p1 p2 p3 : Pos} {k : Nat} {s : Shared} {m : Str → Option Value} {v u : Value} {Q E : Value → Shared → Prop}
    (hk : scope.kind = .function) (hx : scope.names.lookup x = some .local) (hy : scope.names.lookup y = some .local) (dx : (x == ("__debug__" : Str)) = false) (dy : (y == ("__debug__" : Str)) = false)
    (hn : s.heap.Ns C m) (h1 : m x = some v) (h2 : m y = some u) (h : Q (.ref s.heap.objs.size) { s with heap := s.heap.push { cls := .type "tuple", data := .seq #[v, u] 0 } }) :
    wpAny (model prog w) A (eval (.Tuple [.Name x p1, .Name y p2] k p3) (compEnvC scope cl C env)) Q E s := by
  refine wpAny_Tuple ?_
  have l1 : Env.kindOf (compEnvC scope cl C env) x = some .local := lookup_relabel_local hx
  have l2 : Env.kindOf (compEnvC scope cl C env) y = some .local := lookup_relabel_local hy
  have hk' : (compEnvC scope cl C env).scope.kind = .function := hk
  refine wpAny_items_cons (wpAny_Name (wpAny_loadName_local hk' l1 hn h1 ?_) dx)
  refine wpAny_items_cons (wpAny_Name (wpAny_loadName_local hk' l2 hn h2 ?_) dy)
  exact wpAny_items_nil ⟨by rw [sizeLine_eq]; simp, h⟩
theorem zk_Y3_1 : True := by
  k_with "execs nil" => (refine wpAny_execs_nil ?_)
  k_with "call builtin:sorted" => (refine Stop.h ?_)
  k_with "call type:set" => (refine Stop.h ?_)
  k_with "binaryOp Add ref ref" => (refine Stop.h ?_)
  k_with "eval ListComp" => (refine Stop.h ?_)
  k_with "exec Assign cons ListComp" => (refine Stop.h ?_)
  k_with "exec Assign" => (refine Stop.h ?_)
  k_with "SrcLP" => (refine Stop.h ?_)
  k_with "call builtin:max" => (refine Stop.h ?_)
  trivial
set_option maxHeartbeats 8000000 in
theorem all_spec (w : World) {p : Program} {loose : List Str} {mean : ExcName → Option Value} {mg mb : Str → Option Value} : ∀ (n : Nat) (t : Tr), t.size ≤ n → ∀ (A : Around) (s : Shared) (v : Value) (Q E : Value → Shared → Prop),
    TreeAt s.heap v t → (KX w.params).In s.heap → Top p loose mean mg mb s.heap → A.depth + t.size + 30 < recursionLimit → A.handled = none → t.leaves ≤ 8 →
    (∀ D h' tk' vs k, s.heap.get? D = none → h'.get? D = some (listOf (List.toArray vs) k) → IntsAre vs t.allR → Ext s.heap h' → Q (.ref D) { s with heap := h', toks := tk' }) → wpAny (model PySem.Challenge.rw_sh0039_01.row.prog w) A (call (.ref 288) [v]) Q E s := by
  k_fill
  intro n
  induction n with
  | zero => intro t h; cases t <;> simp [Tr.size] at h
  | succ n ih =>
    intro t hn A s v Q E hR X T hd hh hl ret
    have hd0 : A.depth < recursionLimit := by omega
    have hb : Ext s.heap (hideAll s.heap []) := Ext.refl _
    k_dflt (refine' enterHC (hs := []) (news := []) (K := KX w.params) (X.keeps hb) (T.keeps hb) ?kn ?k6 ?k7 hd0 ?k9 ?kB ?kD ?_ ?c2 ?c3 ?c4)
    (case kn => intro q hq; cases hq)
    (case k6 => k_is)
    (case k7 => k_is)
    (case k9 => exact BindsTo.of_eq rfl)
    (case kB => exact rfl)
    (case kD => decide +kernel)
    (case c2 => exact rfl)
    (case c3 => exact rfl)
    (case c4 => exact rfl)
    have X0 := X
    have T0 := T
    clear X T
    intro h₁ tk1 cells F N Y X T l1
    (try k_lt l1)
    k_cells Y
    (try simp only [List.cons_append, List.nil_append] at N)
    (try dsimp only)
    rename_i oT dT
    replace dT : oT.data = Data.cell (some v) := dT.trans (by kernel_rfl)
    replace hR := hR.ext hb
    generalize hideAll s.heap [] = B at *
    cases hR with
    | @leaf c tk =>
      (try k_fold)
      k_steps
      (with_reducible rename Fr _ _ _ _ => F1)
      (with_reducible rename News _ _ _ _ => N1)
      exact ret _ _ _ _ _ (none_base hb (N1 _ (.head _)).2.2) (N1 _ (.head _)).1 (by repeat constructor) (hb.trans F1.keep)
    | @node a v₁ v₂ l r hL h1 h2 =>
      simp only [Tr.size, Tr.leaves] at *
      (try k_fold)
      k_steps
      constructor
      (with_reducible rename Fr _ _ _ _ => F1)
      (with_reducible rename News _ _ _ _ => N1)
      obtain ⟨M, F1⟩ : ∃ M, Fr B s.heap.objs.size h₁ M := ⟨_, F1⟩
      have hcl := close_at hl (allR_tab l (by omega)) (allR_tab r (by omega))
      refine assign_comp2 (M := M) (B := B) (as := l.allR) (bs := r.allR) (by rfl) (fun _ => rfl) (fun _ _ => rfl) (by with_unfolding_all rfl) (by decide) (by rfl) (by decide) (by rfl) (by rfl) (by decide) (by rfl) (by rfl) hh hcl.2.2 ?_ ?_
      · intro C x tx s₃ m₃ y ty Q₃ E₃ hn3 hx3 hy3 hq
        exact elt_pair (by rfl) (by rfl) (by rfl) (by decide) (by decide) hn3 hx3 hy3 (hq _)
      · (try k_fold)
        k_steps
        (with_reducible rename Fr _ _ _ _ => F2)
        (with_reducible rename News _ _ _ _ => N2)
        refine ih l (by omega) _ _ _ _ _ (h1.ext F2.keep) (X.keeps F2.keep) (T.keeps F2.keep) (by simp only [depth_deeper]; omega) hh (by omega) ?_
        intro D1 h3 tk3 vs3 k3 fr3 g3 i3 e3
        have F3 := Fr.keeps F2 e3
        have N3 := News.grown N2 e3
        have F3k : ∀ b o, B.get? b = some o → h3.get? b = some o := F3.keep
        clear F2 N2
        refine ⟨D1, vs3, rfl, F3, ⟨_, g3, rfl, k3, rfl⟩, i3, ?_, ?_⟩
        · intro C s₄ m₄ Q₄ E₄ hJ5 e4 hn4 hq4
          ((refine Mine.ex2 hJ5 ?_); (try clear hJ5); intro h4 tk4; intro hZ1; obtain rfl := hZ1)
          have F4 := Fr.keeps F3 e4
          have N4 := News.grown N3 e4
          clear F3 N3
          (try k_fold)
          k_steps
          (with_reducible rename Fr _ _ _ _ => F5)
          (with_reducible rename News _ _ _ _ => N5)
          refine ih r (by omega) _ _ _ _ _ (h2.ext F5.keep) (X.keeps F5.keep) (T.keeps F5.keep) (by simp only [depth_deeper]; omega) hh (by omega) ?_
          intro D2 h6 tk6 vs6 k6 fr6 g6 i6 e6
          exact hq4 D2 h6 tk6 vs6 k6 fr6 g6 i6 e6
        · intro D h7 tk7 zs F7 g7 hP7 k7 fr7
          clear F3 N3
          ((refine Exists.elim (snap F7) ?_); intro own7; intro hZ1; (refine And.elim ?_ hZ1); clear hZ1; intro Nown7 hs7)
          have hzl : zs.length = (pairsOfL l.allR r.allR).length := Paired.length hP7
          have hpl : (pairsOfL l.allR r.allR).length ≤ 1000 := by
            have h1 := chk_len hcl.2.1
            unfold combo at h1
            simp only [List.length_append, List.length_map] at h1
            omega
          have hrow : ∀ (i : Nat) (v : Value), zs[i]? = some v → ∃ (T : Addr) (o : Obj) (ta tb : Tok) (nt : Nat) (p : Int × Int), v = Value.ref T ∧ (T, o) ∈ own7 ∧ o.cls = .type "tuple" ∧ o.data = .seq #[.int p.1 ta, .int p.2 tb] nt ∧ (pairsOfL l.allR r.allR)[i]? = some p := fun i v hv => by
            ((refine Exists.elim (paired_at hP7 hv) ?_); intro p; intro hZ1; (refine And.elim ?_ hZ1); clear hZ1; intro hp hq)
            ((refine Mine.hideG fun G kG => ?_); (refine Mine.ex3 hq ?_); (try clear hq); intro T ta tb; intro hZ1; (refine Mine.and3 hZ1 ?_); clear hZ1; intro e; intro hZ2; (refine Exists.elim hZ2 ?_); clear hZ2; intro o; intro hZ3; (refine Mine.and3 hZ3 ?_); clear hZ3; intro ho hc; intro hZ4; (refine Exists.elim hZ4 ?_); clear hZ4; intro nt hd hn; (refine kG ?_); clear kG G)
            refine ⟨T, o, ta, tb, nt, p, e, ?_, hc, hd, hp⟩
            rcases hs7 T o (ne_locals_of_isTuple F7 ⟨o, ho, hc, nt, hd⟩) ho with q | q
            · have := F3k T o q
              have hn' : h3.get? T = none := hn
              rw [this] at hn'; cases hn'
            · exact q
          have N7 : News B s.heap.objs.size h7 ((D, lst zs) :: own7) := fun p hp => by
            rcases List.mem_cons.mp hp with rfl | hp
            · refine ⟨g7, ?_, none_base (fun b o e => F3k b o e) fr7⟩
              rintro rfl
              ((refine Mine.ex3 F7.ns ?_); intro o _ _; intro hZ1; (refine Mine.and3 hZ1 ?_); clear hZ1; intro ho hd _)
              have g7' : h7.get? s.heap.objs.size = some (lst zs) := g7
              have ho' : h7.get? s.heap.objs.size = some o := ho
              rw [g7'] at ho'; cases ho'; cases hd
            · exact Nown7 p hp
          clear Nown7 hs7
          (try k_fold)
          k_steps
          constructor
          (with_reducible rename Fr _ _ _ _ => F8)
          (with_reducible rename News _ _ _ _ => N8)
          refine ListComp_P (F₀ := F8) (by with_unfolding_all rfl) (by decide) (by rfl) (by decide) (by rfl) (by rfl) (by decide) ?_
          (try k_fold)
          k_steps
          constructor
          refine SrcLP.ledger hh F8 N8 (.head _) (by rw [sizeLine_eq]; simp only [List.size_toArray]; omega) ?_
          intro g9
          refine restP_ind (fun i ys news => news = (D, lst zs) :: own7 ∧ IntsAre ys (((pairsOfL l.allR r.allR).take i).map (fun p => max p.1 (p.2 + 1)))) _ ?_ ?_ ⟨rfl, .nil⟩
          · intro i ys news v hi hJ5 hv
            ((refine And.elim ?_ hJ5); (try clear hJ5); intro hZ1; obtain rfl := hZ1; intro hS)
            have hi2 : i < zs.length := by simpa using hi
            ((refine Mine.ex6 (hrow i v (by simpa using hv)) ?_); intro T9 o9 ta tb nt p9; intro hZ1; (refine Mine.and5 hZ1 ?_); clear hZ1; intro e1 e2 e3 e4 e5)
            refine ⟨T9, o9, _, _, nt, e1, .tail _ e2, e3, e4, ?_⟩
            intro I oI C oC D m₂ h tk E' hC hx1 hx2 F9 N9 off9 ne9
            clear F8 N8
            k_steps
            constructor
            (with_reducible rename Fr _ _ _ _ => F10)
            (with_reducible rename News _ _ _ _ => N10)
            refine max_two_N hh F10 N10 ?_
            intro h11 tk11 F11 N11
            refine CompEnd.intro F11 N11 _ (fun p hp => hp) off9 (.inr ⟨_, .head _, rfl, _, rfl⟩) ⟨rfl, ?_⟩
            rw [List.take_add_one, e5, List.map_append, max_pick]
            exact ksk_snoc hS
          · intro ys news hJ2 D5 h tk F9 N9 o9
            ((refine And.elim ?_ hJ2); (try clear hJ2); intro hZ1; obtain rfl := hZ1; intro hS)
            clear F8 N8
            k_steps
            constructor
            refine ListComp_P (F₀ := F9) (by with_unfolding_all rfl) (by decide) (by rfl) (by decide) (by rfl) (by rfl) (by decide) ?_
            k_steps
            constructor
            refine SrcLP.ledger hh F9 N9 (.tail _ (.head _)) (by rw [sizeLine_eq]; simp only [List.size_toArray]; omega) ?_
            intro g10
            refine restP_ind (fun i zs' news => news = (D5, lst ys) :: (D, lst zs) :: own7 ∧ IntsAre zs' (((pairsOfL l.allR r.allR).take i).map (fun p => max p.2 (p.1 + 1)))) _ ?_ ?_ ⟨rfl, .nil⟩
            · intro i zs' news v hi hJ5 hv
              ((refine And.elim ?_ hJ5); (try clear hJ5); intro hZ1; obtain rfl := hZ1; intro hS')
              have hi2 : i < zs.length := by simpa using hi
              ((refine Mine.ex6 (hrow i v (by simpa using hv)) ?_); intro T9 oo9 ta tb nt p9; intro hZ1; (refine Mine.and5 hZ1 ?_); clear hZ1; intro e1 e2 e3 e4 e5)
              refine ⟨T9, oo9, _, _, nt, e1, .tail _ (.tail _ e2), e3, e4, ?_⟩
              intro I oI C oC D' m₂ h tk E' hC hx1 hx2 F10 N10 off10 ne10
              clear F9 N9
              k_steps
              constructor
              (with_reducible rename Fr _ _ _ _ => F11)
              (with_reducible rename News _ _ _ _ => N11)
              refine max_two_N hh F11 N11 ?_
              intro h12 tk12 F12 N12
              refine CompEnd.intro F12 N12 _ (fun p hp => hp) off10 (.inr ⟨_, .tail _ (.head _), rfl, _, rfl⟩) ⟨rfl, ?_⟩
              rw [List.take_add_one, e5, List.map_append, max_pick]
              exact ksk_snoc hS'
            · intro ys' news hJ2 D' h' tk' F10 N10 o10
              ((refine And.elim ?_ hJ2); (try clear hJ2); intro hZ1; obtain rfl := hZ1; intro hS')
              clear F9 N9
              rw [List.take_of_length_le (by simp only [List.size_toArray]; omega)] at hS hS'
              k_steps
              constructor
              refine add_arrays_ints (hsz := by simp only [List.length_map]; rw [sizeLine_eq]; omega) F10 N10 (N10.isList (.tail _ (.head _))) (N10.isList (.head _)) hS hS' ?_
              intro h11 F11 N11 hS11
              clear F10 N10
              have hS12 : Stop (IntsAre (ys.toArray.toList ++ ys'.toArray.toList) (combo l.allR r.allR)) := ⟨hS11⟩
              clear hS hS' hS11
              have hl11 := N11.isList (.head _)
              k_steps
              constructor
              refine new_set F11 N11 hh hl11 hS12.h hcl.2.1 ?_
              intro h13 tk13 F13 N13 hS13
              have hS14 : Stop (SetX h13 h11.objs.size (foldK (ledOf w) (combo l.allR r.allR))) := ⟨hS13⟩
              clear F11 N11 hS12 hS13 hl11
              k_steps
              constructor
              (with_reducible rename Fr _ _ _ _ => F15)
              (with_reducible rename News _ _ _ _ => N15)
              refine sorted_set F15 N15 hh hS14.h hcl.2.1 ?_
              intro D6 h16 tk16 vs6 c6 F16 N16 i6
              have i7 : Stop (IntsAre vs6 (norm (combo l.allR r.allR))) := ⟨i6⟩
              clear F15 N15 hS14 i6
              k_steps
              (with_reducible rename Fr _ _ _ _ => F17)
              (with_reducible rename News _ _ _ _ => N17)
              exact ret _ _ _ _ _ (none_base hb (N17 _ (.head _)).2.2) (N17 _ (.head _)).1 i7.h (hb.trans F17.keep)
end Mine
end
section -- Y1
open PySem PySem.W PyProof.Rows PyProof.Rows.LCg PyProof.Rows.LCt
set_option maxRecDepth 100000
set_option linter.unusedVariables false
namespace Mine
/-- which half is worked first: is it the right one? -/
noncomputable def Tr.swp (ahead : Bool) (l r : Tr) : Bool := if ahead then decide (l.ersh < r.ersh) else decide (r.ersh < l.ersh)
noncomputable def Tr.peak (ahead : Bool) : Tr → Nat
  | .leaf _ => 1
  | .node l r => if Tr.swp ahead l r then max (r.peak ahead) (l.peak ahead + 1) else max (l.peak ahead) (r.peak ahead + 1)
theorem fr_hideN {b h h' : Heap} {L : Addr} {hs : List Addr} {m : Str → Option Value} (F : Fr b L h m) (hl : ∀ a ∈ hs, b.get? a = none) (hL : L ∉ hs) (e : Ext (hideAll h hs) h') : Fr b L h' m :=
  ⟨F.ns.at' fun o q => e _ o (hideAll_get _ q hL), fun x o q => e x o (hideAll_get _ (F.keep x o q) (fun m => by rw [hl x m] at q; cases q)), F.above⟩
/-- takes everything new into the ledger, but for what is named -/
theorem snapX {h₀ h : Heap} {L : Addr} {m : Str → Option Value} (F : Fr h₀ L h m) (bad : List Addr) : ∃ own, News h₀ L h own ∧ (∀ q ∈ own, q.1 ∉ bad) ∧ ∀ b o, b ≠ L → b ∉ bad → h.get? b = some o → h₀.get? b = some o ∨ (b, o) ∈ own := by
  ((refine Exists.elim (snap F) ?_); intro own; intro hZ1; (refine And.elim ?_ hZ1); clear hZ1; intro N hs)
  refine ⟨own.filter fun q => decide (q.1 ∉ bad), fun p hp => N p (List.mem_filter.mp hp).1, fun q hq => by simpa using (List.mem_filter.mp hq).2, fun b o hb hu e => ?_⟩
  rcases hs b o hb e with h1 | h1
  · exact .inl h1
  · exact .inr (List.mem_filter.mpr ⟨h1, by simpa using hu⟩)
theorem ext_lu {h h₁ h' : Heap} {r d l u : Addr} (k : ∀ b o, b ≠ r → b ≠ d → b ≠ l → b ≠ u → h.get? b = some o → h₁.get? b = some o) (hr : ∀ o, h.get? r = some o → h₁.get? r = some o) (hd : ∀ o, h.get? d = some o → h₁.get? d = some o) (e' : Ext (hideAll h₁ [l, u]) h') : Ext (hideAll h [l, u]) h' := fun b o e => by
  have hm : b ≠ l ∧ b ≠ u := by
    constructor
    · (intro hZ; replace hZ := Eq.symm hZ; obtain rfl := hZ); rw [hideAll_none _ (.head _)] at e; cases e
    · (intro hZ; replace hZ := Eq.symm hZ; obtain rfl := hZ); rw [hideAll_none _ (.tail _ (.head _))] at e; cases e
  have e0 := of_hideAll _ e
  refine e' b o (hideAll_get _ ?_ (by simp [hm.1, hm.2]))
  by_cases hbr : b = r
  · (replace hbr := Eq.symm hbr; obtain rfl := hbr); exact hr _ e0
  · by_cases hbd : b = d
    · (replace hbd := Eq.symm hbd; obtain rfl := hbd); exact hd _ e0
    · exact k b o hbr hbd hm.1 hm.2 e0
theorem leafCodes_ok : ∀ k ∈ leafCodes, 32 ≤ k ∧ k ≠ 127 := by decide
theorem write_len : ∀ t : Tr, t.Good → t.w.length + 2 ≤ 3 * t.leaves := by
  intro t h
  induction h with
  | leaf hk => simp [Tr.w, Tr.leaves]
  | node _ _ i1 i2 => simp only [Tr.w, Tr.leaves, List.length_cons, List.length_append, List.length_nil]; omega
theorem w_mem : ∀ {t : Tr}, t.Good → ∀ c ∈ t.w, c = 40 ∨ c = 41 ∨ c ∈ leafCodes := by
  intro t h
  induction h with
  | leaf hk => intro c hc; simp only [Tr.w, List.toList_toArray, List.mem_singleton] at hc; (replace hc := Eq.symm hc; obtain rfl := hc); exact .inr (.inr hk)
  | node _ _ i1 i2 =>
    intro c hc
    simp only [Tr.w, List.mem_cons, List.mem_append, List.not_mem_nil, or_false] at hc
    rcases hc with rfl | (hc | hc) | rfl
    · exact .inl rfl
    · exact i1 c hc
    · exact i2 c hc
    · exact .inr (.inl rfl)
theorem good_text {t : Tr} (h : t.Good) (hl : t.leaves ≤ 8) : OkText t.write := by
  have e := Tr.write_w t
  refine ⟨fun c hc => ?_, ?_⟩
  · rw [e] at hc
    rcases w_mem h c hc with rfl | rfl | hk
    · decide
    · decide
    · exact leafCodes_ok c hk
  · have := write_len t h
    have hle : t.write.length = t.w.length := by rw [← e]; simp [Str.length]
    omega
theorem PlanAt.ext {h h' : Heap} {v : Value} {t : Tr} (H : PlanAt h v t) (e : Ext h h') : PlanAt h' v t := by
  induction H with
  | leaf hl => exact .leaf (IsList.ext hl e)
  | node hl _ _ i1 i2 => exact .node (IsList.ext hl e) i1 i2
/-- rows that stand below or in the ledger -/
structure RowsIn (B : Heap) (own : List (Addr × Obj)) (vs : List Value) (xs : List (Str × Str)) : Prop where
  len : vs.length = xs.length
  rows : ∃ p1 p2 : Nat → Tok, ∀ i v, vs[i]? = some v → ∃ T o, v = .ref T ∧ o.cls = .type "tuple" ∧ (∃ n, o.data = .seq #[.str (xs.getD i default).1 (p1 i), .str (xs.getD i default).2 (p2 i)] n) ∧ (B.get? T = some o ∨ (T, o) ∈ own)
noncomputable def adrs (vs : List Value) : List Addr := vs.filterMap fun v => match v with | .ref a => some a | _ => none
theorem mem_adrs {a : Addr} {vs : List Value} : a ∈ adrs vs ↔ Value.ref a ∈ vs := by
  unfold adrs
  rw [List.mem_filterMap]
  constructor
  · intro hJ0
    ((refine Exists.elim hJ0 ?_); (try clear hJ0); intro v; intro hZ1; (refine And.elim ?_ hZ1); clear hZ1; intro hv e)
    cases v <;> simp at e
    (replace e := Eq.symm e; obtain rfl := e); exact hv
  · intro h; exact ⟨_, h, rfl⟩
theorem RowsIn.rack {w : World} {B h : Heap} {L r d l : Addr} {own : List (Addr × Obj)} {vs : List Value} {xs : List (Str × Str)} {n : Nat} {tkd : Tok} (R : RowsIn B own vs xs) (F : Ext B h) (N : News B L h own)
    (h1 : h.get? r = some (instObj 227 d)) (h2 : h.get? d = some (dictOf [⟨PyData.keyHash w.params (Str.ofString "_headers"), .str (Str.ofString "_headers") tkd, .ref l⟩] 1)) (h3 : h.get? l = some (listOf vs.toArray n)) : Rack w h r d l vs xs := by
  obtain ⟨hl, p1, p2, hr⟩ := R
  refine ⟨h1, ⟨tkd, h2⟩, ⟨n, h3⟩, hl, p1, p2, fun i v hv => ?_⟩
  ((refine Mine.ex2 (hr i v hv) ?_); intro T o; intro hZ1; (refine Mine.and4 hZ1 ?_); clear hZ1; intro e hc hd hw)
  refine ⟨T, e, o, ?_, hc, hd⟩
  rcases hw with hw | hw
  · exact F _ _ hw
  · exact (N _ hw).1
theorem RowsIn.mono {B : Heap} {own own' : List (Addr × Obj)} {vs : List Value} {xs : List (Str × Str)} (R : RowsIn B own vs xs) (k : ∀ q ∈ own, q ∈ own') : RowsIn B own' vs xs := by
  obtain ⟨hl, p1, p2, hr⟩ := R
  refine ⟨hl, p1, p2, fun i v hv => ?_⟩
  ((refine Mine.ex2 (hr i v hv) ?_); intro T o; intro hZ1; (refine Mine.and4 hZ1 ?_); clear hZ1; intro e hc hd hw)
  exact ⟨T, o, e, hc, hd, hw.imp id (k _)⟩
theorem RowsIn.at {B : Heap} {own : List (Addr × Obj)} {vs : List Value} {xs : List (Str × Str)} (R : RowsIn B own vs xs) {T : Addr} (h : Value.ref T ∈ vs) : ∃ o, B.get? T = some o ∨ (T, o) ∈ own := by
  obtain ⟨hl, p1, p2, hr⟩ := R
  ((refine Exists.elim (List.mem_iff_getElem.mp h) ?_); intro i; intro hZ1; (refine Exists.elim hZ1 ?_); clear hZ1; intro hi e)
  ((refine Exists.elim (hr i _ (by rw [List.getElem?_eq_getElem hi, e])) ?_); intro T'; intro hZ1; (refine Exists.elim hZ1 ?_); clear hZ1; intro o; intro hZ2; (refine Mine.and4 hZ2 ?_); clear hZ2; intro e' _ _ hw)
  cases e'
  exact ⟨o, hw⟩
theorem base_hides {b₀ h : Heap} {hs : List Addr} {vs : List Value} (e : Ext b₀ h) (off : ∀ a ∈ hs, b₀.get? a = none) (hoff : ∀ a : Addr, Value.ref a ∈ vs → b₀.get? a = none) : Ext b₀ (hideAll h (hs ++ adrs vs)) :=
  hide_ext e fun a ha => (List.mem_append.mp ha).elim (off a) fun q => hoff a (mem_adrs.mp q)
theorem hides_ext (h : Heap) (hs : List Addr) : Ext (hideAll h hs) h := fun b o e => of_hideAll _ e
/-- a step that turns the rack's list and the list of numbers alone -/
theorem work_step {w : World} {B h h' : Heap} {L r d l u : Addr} {m : Str → Option Value} {fix own : List (Addr × Obj)} {ol ou : Obj} {tkd : Tok} {vs vs' us' : List Value} {xs xs' : List (Str × Str)} {nu' : Nat}
    (F : Fr B L h m) (N : News B L h (fix ++ (r, instObj 227 d) :: (d, dictOf [⟨PyData.keyHash w.params (Str.ofString "_headers"), .str (Str.ofString "_headers") tkd, .ref l⟩] 1) :: (l, ol) :: (u, ou) :: own))
    (ofix : ∀ p ∈ fix, p.1 ≠ r ∧ p.1 ≠ d ∧ p.1 ≠ l ∧ p.1 ≠ u) (oown : ∀ p ∈ fix, ∀ q ∈ own, q.1 ≠ p.1) (n1 : @Ne Nat r l) (n2 : @Ne Nat r u) (n3 : @Ne Nat d l) (n4 : @Ne Nat d u)
    (R : RowsIn B own vs xs) (e : Ext (hideAll h [l, u]) h') (R' : Rack w h' r d l vs' xs') (hu' : h'.get? u = some (listOf us'.toArray nu'))
    (hv' : ∀ a : Addr, Value.ref a ∈ vs' → Value.ref a ∈ vs ∨ (hideAll h ([r, d, l, u] ++ adrs vs)).get? a = none) :
    ∃ nl own', Fr B L h' m ∧ News B L h' (fix ++ (r, instObj 227 d) :: (d, dictOf [⟨PyData.keyHash w.params (Str.ofString "_headers"), .str (Str.ofString "_headers") tkd, .ref l⟩] 1) :: (l, listOf vs'.toArray nl) :: (u, listOf us'.toArray nu') :: own') ∧
      (∀ p ∈ fix, ∀ q ∈ own', q.1 ≠ p.1) ∧ (∀ q ∈ own', q.1 ≠ r ∧ q.1 ≠ d ∧ q.1 ≠ l ∧ q.1 ≠ u) ∧ RowsIn B own' vs' xs' ∧ (∀ q ∈ own, q.1 ≠ r → q.1 ≠ d → q.1 ≠ l → q.1 ≠ u → q ∈ own') := by
  have Nl := N (l, ol) (List.mem_append_right _ (.tail _ (.tail _ (.head _))))
  have Nu := N (u, ou) (List.mem_append_right _ (.tail _ (.tail _ (.tail _ (.head _)))))
  have Nr := N (r, instObj 227 d) (List.mem_append_right _ (.head _))
  have Nd := N (d, dictOf [⟨PyData.keyHash w.params (Str.ofString "_headers"), .str (Str.ofString "_headers") tkd, .ref l⟩] 1) (List.mem_append_right _ (.tail _ (.head _)))
  have F' : Fr B L h' m := fr_hideN (hs := [l, u]) F (fun a ha => by
    replace ha := mem2 ha
    (rcases ha with hZ | hZ <;> ((replace hZ := Eq.symm hZ); obtain rfl := hZ))
    · exact Nl.2.2
    · exact Nu.2.2) (by
    simp only [List.mem_cons, List.not_mem_nil, or_false, not_or]
    exact ⟨Ne.symm Nl.2.1, Ne.symm Nu.2.1⟩) e
  ((refine Exists.elim (snapX F' (fix.map (·.1) ++ [r, d, l, u])) ?_); intro own'; intro hZ1; (refine Mine.and3 hZ1 ?_); clear hZ1; intro Nown hoff hsn)
  have mm : ∀ {a : Addr}, a ∈ ([r, d, l, u] : List Addr) ↔ a = r ∨ a = d ∨ a = l ∨ a = u := by intro a; simp
  obtain ⟨i1, ⟨tk', i2⟩, ⟨nl, i3⟩, i4, ⟨p1, p2, i5⟩⟩ := R'
  refine ⟨nl, own', F', fun p hp => ?_, fun p hp q hq c => hoff q hq (List.mem_append_left _ (c ▸ List.mem_map_of_mem hp)), fun q hq => ?_, ⟨i4, p1, p2, fun i v hv => ?_⟩, fun q hq q1 q2 q3 q4 => ?_⟩
  · rcases List.mem_append.mp hp with hp | hp
    · have q := N p (List.mem_append_left _ hp)
      have o := ofix p hp
      exact ⟨e _ _ (hideAll_get _ q.1 (by simp [o.2.2.1, o.2.2.2])), q.2⟩
    · rcases List.mem_cons.mp hp with rfl | hp
      · exact ⟨i1, Nr.2⟩
      · rcases List.mem_cons.mp hp with rfl | hp
        · exact ⟨e _ _ (hideAll_get _ Nd.1 (by simp [n3, n4])), Nd.2⟩
        · rcases List.mem_cons.mp hp with rfl | hp
          · exact ⟨i3, Nl.2⟩
          · rcases List.mem_cons.mp hp with rfl | hp
            · exact ⟨hu', Nu.2⟩
            · exact Nown p hp
  · have := hoff q hq
    simp only [List.mem_append, mm, not_or] at this
    exact this.2
  · ((refine Mine.hideG fun G kG => ?_); (refine Exists.elim (i5 i v hv) ?_); intro T; intro hZ1; (refine And.elim ?_ hZ1); clear hZ1; intro hT; intro hZ2; (refine Exists.elim hZ2 ?_); clear hZ2; intro o; intro hZ3; (refine Mine.and3 hZ3 ?_); clear hZ3; intro ho hc hdat; (refine kG ?_); clear kG G)
    refine ⟨T, o, hT, hc, hdat, ?_⟩
    have hTm : Value.ref T ∈ vs' := hT ▸ List.mem_of_getElem? hv
    have tL : T ≠ L := ne_locals_of_isTuple F' ⟨o, ho, hc, hdat⟩
    have tr : T ≠ r := by (intro hZ; replace hZ := Eq.symm hZ; obtain rfl := hZ); cases i1.symm.trans ho; simp at hc
    have td : T ≠ d := by (intro hZ; replace hZ := Eq.symm hZ; obtain rfl := hZ); cases i2.symm.trans ho; simp at hc
    have tl : T ≠ l := by (intro hZ; replace hZ := Eq.symm hZ; obtain rfl := hZ); cases i3.symm.trans ho; simp at hc
    have tu : T ≠ u := by (intro hZ; replace hZ := Eq.symm hZ; obtain rfl := hZ); rw [hu'] at ho; cases ho; simp at hc
    refine hsn T o tL (fun hm => ?_) ho
    rcases List.mem_append.mp hm with hm | hm
    · ((refine Exists.elim (List.mem_map.mp hm) ?_); intro p; intro hZ1; (refine And.elim ?_ hZ1); clear hZ1; intro hp; intro hZ2; obtain rfl := hZ2)
      have q := N p (List.mem_append_left _ hp)
      have inold : Value.ref p.1 ∈ vs → False := fun hv => by
        ((refine Exists.elim (R.at hv) ?_); intro o' hw)
        rcases hw with hw | hw
        · rw [q.2.2] at hw; cases hw
        · exact oown p hp _ hw rfl
      rcases hv' p.1 hTm with hv | hv
      · exact inold hv
      · rw [hideAll_get _ q.1 (fun hm => by
          rcases List.mem_append.mp hm with hm | hm
          · rcases mm.mp hm with h | h | h | h
            · exact tr h
            · exact td h
            · exact tl h
            · exact tu h
          · exact inold (mem_adrs.mp hm))] at hv
        cases hv
    · rcases mm.mp hm with h | h | h | h
      · exact tr h
      · exact td h
      · exact tl h
      · exact tu h
  · have qN := N q (List.mem_append_right _ (.tail _ (.tail _ (.tail _ (.tail _ hq)))))
    have qg := e _ _ (hideAll_get _ qN.1 (by simp [q3, q4]))
    rcases hsn q.1 q.2 qN.2.1 (fun hm => by
      rcases List.mem_append.mp hm with hm | hm
      · ((refine Exists.elim (List.mem_map.mp hm) ?_); intro p; intro hZ1; (refine And.elim ?_ hZ1); clear hZ1; intro hp e)
        exact oown p hp q hq e.symm
      · rcases mm.mp hm with h | h | h | h
        · exact q1 h
        · exact q2 h
        · exact q3 h
        · exact q4 h) qg with h1 | h1
    · rw [qN.2.2] at h1; cases h1
    · exact h1
/-- the names' rows after a deed, told in plain words -/
theorem named_two {xs : List (Str × Str)} {cs : List Nat} (h : Named xs cs) {c1 c2 : Nat} (h1 : AorA c1) (h2 : AorA c2) (y1 y2 : Str) :
    ((xs ++ [(nmS (xs.length + 1) c1, y1)] ++ [(nmS (xs.length + 2) c2, y2)]).filter fun q => Txt.lower q.1 != Txt.lower (nmS (xs.length + 1) (swC c1))).filter (fun q => Txt.lower q.1 != Txt.lower (nmS (xs.length + 2) (swC c2))) = xs := by
  have hx : ∀ q ∈ xs, ∀ n c, AorA c → xs.length < n → (Txt.lower q.1 != Txt.lower (nmS n c)) = true := fun q hq n c hc hn => by
    ((refine Exists.elim (List.mem_iff_getElem.mp hq) ?_); intro i; intro hZ1; (refine Exists.elim hZ1 ?_); clear hZ1; intro hi e)
    have := h.2.2 i q (by rw [List.getElem?_eq_getElem hi, e])
    rw [bne_iff_ne, this, nm_lower _ (h.lt hi), nm_lower _ hc]
    intro e'
    have := nm_inj e'
    omega
  have f1 := List.filter_eq_self.mpr fun q hq => hx q hq (xs.length + 1) (swC c1) (swC_ok _) (by omega)
  have f2 := List.filter_eq_self.mpr fun q hq => hx q hq (xs.length + 2) (swC c2) (swC_ok _) (by omega)
  have a1 : (Txt.lower (nmS (xs.length + 1) c1) != Txt.lower (nmS (xs.length + 1) (swC c1))) = false := by rw [nm_lower _ h1, nm_lower _ (swC_ok _)]; simp
  have a2 : (Txt.lower (nmS (xs.length + 2) c2) != Txt.lower (nmS (xs.length + 2) (swC c2))) = false := by rw [nm_lower _ h2, nm_lower _ (swC_ok _)]; simp
  have a3 : (Txt.lower (nmS (xs.length + 2) c2) != Txt.lower (nmS (xs.length + 1) (swC c1))) = true := by
    rw [nm_lower _ h2, nm_lower _ (swC_ok _), bne_iff_ne]
    intro e
    have := nm_inj e
    omega
  simp only [List.filter_append, f1, f2, List.filter_cons, List.filter_nil, a1, a2, a3, Bool.false_eq_true, if_false, if_true, List.append_nil]
end Mine
end
section -- S2
open PySem PySem.W PyProof.Rows
set_option maxRecDepth 100000
set_option linter.unusedVariables false
set_option maxHeartbeats 4000000
namespace Mine
section
variable {prog : Program} {w : World} {A : Around} {E : Value → Shared → Prop} {s : Shared}
/-- a run of two that does not fall stays as it is -/
theorem run_two {st : SortSt} {k₁ k₂ : Int} {t₁ t₂ : Tok} {v₁ v₂ : Value} {Q : Option Nat → SortSt → Prop} (hk : kindOf st = oneType') (ha : arrOf st = #[(.int k₁ t₁, v₁), (.int k₂ t₂, v₂)]) (hle : ¬ k₂ < k₁) (h : Q (some 2) st) : wpS (model prog w) A E s (countRun' 0 2) Q st := by
  rw [countRun0_eq]
  refine wpS_bind (wpS_mono (Q := fun (c : AscSt) st' => c = (none, 2) ∧ st' = st) ?_ ?_)
  · unfold ascLoop
    refine wpS_forRange (I := fun x c st' => st' = st ∧ ((x = 1 ∧ c = (none, 1)) ∨ (x = 2 ∧ c = (none, 2)))) ?_ ?_ ⟨rfl, .inl ⟨rfl, rfl⟩⟩
    · intro x c st' h1 h2 hJ5
      ((refine And.elim ?_ hJ5); (try clear hJ5); intro hZ1; replace hZ1 := Eq.symm hZ1; obtain rfl := hZ1; intro hx)
      rcases hx with ⟨rfl, rfl⟩ | ⟨rfl, rfl⟩
      · refine wpS_bind (wpS_ltAt (a := k₂) (b := k₁) (t := t₂) (u := t₁) (p := v₂) (q := v₁) hk (by rw [ha]; rfl) (by rw [ha]; rfl) ?_)
        dsimp only
        rw [if_neg (by simpa using hle)]
        exact wpS_pure ⟨rfl, .inr ⟨rfl, rfl⟩⟩
      · omega
    · intro c st' hJ2
      ((refine And.elim ?_ hJ2); (try clear hJ2); intro hZ1; replace hZ1 := Eq.symm hZ1; obtain rfl := hZ1; intro hx)
      rcases hx with ⟨hx, _⟩ | ⟨_, rfl⟩
      · simp at hx
      · exact ⟨rfl, rfl⟩
  · intro c st' hJ2
    ((refine And.elim ?_ hJ2); (try clear hJ2); intro hZ1; obtain rfl := hZ1; intro hZ2; replace hZ2 := Eq.symm hZ2; obtain rfl := hZ2)
    dsimp only
    rw [if_pos (by rfl)]
    exact wpS_pure h
theorem runs_two {st : SortSt} {k₁ k₂ : Int} {t₁ t₂ : Tok} {v₁ v₂ : Value} {Q : Unit → SortSt → Prop} (hk : kindOf st = oneType') (ha : arrOf st = #[(.int k₁ t₁, v₁), (.int k₂ t₂, v₂)]) (hp : pendingOf st = #[]) (hf : failedOf st = none) (hle : ¬ k₂ < k₁)
    (h : ∀ st', arrOf st' = #[(.int k₁ t₁, v₁), (.int k₂ t₂, v₂)] → failedOf st' = none → Q () st') : wpS (model prog w) A E s sortRuns' Q st := by
  rw [sortRuns'_eq]
  refine wpS_bind (wpS_get ?_)
  dsimp only
  have hz : (arrOf st).size = 2 := by rw [ha]; rfl
  have hmr : minRun' 2 2 0 = 2 := by rw [minRun'_succ, if_pos (by decide)]
  simp only [hz, hmr]
  refine wpS_bind (wpS_mono (wpS_forRange
    (I := fun x c st' => (x = 0 ∧ c = (none, 0) ∧ st' = st) ∨ (1 ≤ x ∧ c = (none, 2) ∧ arrOf st' = arrOf st ∧ failedOf st' = none ∧ pendingOf st' = #[(0, 2, 0)]))
    (Q := fun c st' => c = (none, 2) ∧ arrOf st' = arrOf st ∧ failedOf st' = none ∧ pendingOf st' = #[(0, 2, 0)]) ?step ?fin (.inl ⟨rfl, rfl, rfl⟩)) ?post)
  case fin =>
    rintro c st' (⟨hx, _, _⟩ | ⟨_, hD⟩)
    · simp at hx
    · exact hD
  case step =>
    rintro x c st' _ hx (⟨rfl, rfl, rfl⟩ | ⟨hx1, rfl, hD⟩)
    · dsimp only
      rw [if_neg (by decide)]
      refine wpS_bind (run_two (k₁ := k₁) (k₂ := k₂) hk ha hle ?_)
      dsimp only
      rw [if_neg (by decide)]
      refine wpS_bind (wpS_get ?_)
      have hb : (pendingOf st').back? = none := by rw [hp]; rfl
      rw [hb]
      dsimp only
      exact wpS_bind (wpS_modify (wpS_pure (.inr ⟨by omega, rfl, rfl, hf, by show (pendingOf st').push _ = _; rw [hp]; rfl⟩)))
    · dsimp only
      rw [if_pos (Nat.le_refl _)]
      exact wpS_pure ⟨rfl, hD⟩
  case post =>
    intro c st' hJ2
    ((refine And.elim ?_ hJ2); (try clear hJ2); intro hZ1; obtain rfl := hZ1; intro hD)
    dsimp only
    refine wpS_bind (wpS_mono (wpS_forRange (I := fun _ c st'' => st'' = st' ∧ c = (none, ())) (Q := fun c st'' => st'' = st' ∧ c = (none, ())) ?_ (fun _ _ hh => hh) ⟨rfl, rfl⟩) ?_)
    · intro x c st'' _ _ hJ5
      ((refine And.elim ?_ hJ5); (try clear hJ5); intro hZ1; replace hZ1 := Eq.symm hZ1; obtain rfl := hZ1; intro hZ2; obtain rfl := hZ2)
      refine wpS_bind (wpS_get ?_)
      rw [if_pos (by rw [hD.2.2]; exact Nat.le_refl 1)]
      exact wpS_pure ⟨rfl, rfl⟩
    · intro c st'' hJ2
      ((refine And.elim ?_ hJ2); (try clear hJ2); intro hZ1; replace hZ1 := Eq.symm hZ1; obtain rfl := hZ1; intro hZ2; obtain rfl := hZ2)
      exact wpS_pure (h _ (hD.1.trans ha) hD.2.1)
variable {h₀ : Heap} {L a kS l : Addr} {m : Str → Option Value} {news : List (Addr × Obj)} {P : PySem.Fin → Shared → Prop}
theorem two_end {k₁ k₂ : Int} {t₁ t₂ : Tok} {v₁ v₂ : Value} {e e1 : Nat} (F : Fr h₀ L s.heap m) (N : News h₀ L s.heap (news ++ [(kS, seqObj "list" #[.int k₁ t₁, .int k₂ t₂] e), (a, seqObj "list" #[] e1)])) (hka : kS ≠ a) (hnk : ∀ p ∈ news, p.1 ≠ kS) (hna : ∀ p ∈ news, p.1 ≠ a) (hle : ¬ k₂ < k₁)
    (h : ∀ h' tk c, Fr h₀ L h' m → News h₀ L h' ((a, seqObj "list" #[v₁, v₂] c) :: news) → P (.done (.ret .none)) { s with heap := h', toks := tk }) :
    wpAny (model prog w) A (ksk_end a false #[v₁, v₂] e1 (.ref kS) #[.int k₁ t₁, .int k₂ t₂]) P E s := by
  have nk := N (kS, seqObj "list" #[.int k₁ t₁, .int k₂ t₂] e) (List.mem_append_right _ (.head _))
  have na := N (a, seqObj "list" #[] e1) (List.mem_append_right _ (.tail _ (.head _)))
  have Nn : News h₀ L s.heap news := fun p hp => N p (List.mem_append_left _ hp)
  unfold ksk_end
  dsimp only
  rw [if_neg (by decide), if_neg (by simp), if_neg (by simp), if_neg (by decide)]
  rw [ksk_kind (keys := #[.int k₁ t₁, .int k₂ t₂]) (kz := [k₁, k₂]) (.cons _ _ (.cons _ _ .nil)) (by simp)]
  refine wpAny_bind (wpAny_pure ?_)
  refine wpAny_bind (wpAny_mono (runs_two (k₁ := k₁) (k₂ := k₂) (t₁ := t₁) (t₂ := t₂) (v₁ := v₁) (v₂ := v₂) (st := SortSt.mk' oneType' _ #[] 7 none)
      (Q := fun _ st' => arrOf st' = #[(.int k₁ t₁, v₁), (.int k₂ t₂, v₂)] ∧ failedOf st' = none) rfl (by show Array.zip _ _ = _; simp) rfl rfl hle fun st' a1 a2 => ⟨a1, a2⟩) ?_ fun _ _ e => e)
  intro hJ0 s' hJ2
  obtain ⟨⟨⟩, st'⟩ := hJ0
  ((refine Mine.and3 hJ2 ?_); (try clear hJ2); intro hs' hA hf)
  have hs'' := hs'.symm
  subst hs''
  dsimp only
  have s1 := Heap.SameBut.update s.heap kS (Obj.mapSeq fun _ => (#[] : Array Value))
  have na1 : (s.heap.update kS (Obj.mapSeq fun _ => (#[] : Array Value))).get? a = some (seqObj "list" #[] e1) := (s1.2 a hka.symm).trans na.1
  have s2 := Heap.SameBut.update (s.heap.update kS (Obj.mapSeq fun _ => (#[] : Array Value))) a (Obj.mapSeq fun _ => #[v₁, v₂])
  obtain ⟨c2, hc2⟩ : ∃ c2, ((s.heap.update kS (Obj.mapSeq fun _ => (#[] : Array Value))).update a (Obj.mapSeq fun _ => #[v₁, v₂])).get? a = some (seqObj "list" #[v₁, v₂] c2) := ⟨_, get?_update_seq na1 fun _ => #[v₁, v₂]⟩
  have N2 := ksk_news (ksk_news Nn s1 hnk) s2 hna
  unfold ksk_tail
  dsimp only
  have hout : (arrOf st').map (·.2) = #[v₁, v₂] := by rw [hA]; simp
  rw [hout]
  refine wpAny_bind (listUpdate_at nk.1 rfl ?_ (by rw [sizeLine_eq]; simp) (Nat.zero_le _))
  refine wpAny_bind (wpAny_letGo ?_)
  refine wpAny_bind (seqEpoch_at na1 rfl ?_)
  simp only [Bool.false_eq_true, if_false]
  refine wpAny_bind (listUpdate_at na1 rfl ?_ (Nat.zero_le _) (by rw [sizeLine_eq]; simp))
  rw [hf]
  simp only [bne_self_eq_false, Bool.false_eq_true, if_false]
  refine wpAny_pure (h _ _ c2 (ksk_fr (ksk_fr F s1 nk.2.1 nk.2.2) s2 na.2.1 na.2.2) (fun p hp => ?_))
  rcases List.mem_cons.mp hp with rfl | hp
  · exact ⟨hc2, na.2⟩
  · exact N2 p hp
theorem ints_two {xs : Array Value} {k₁ k₂ : Int} (h : IntsAre xs.toList [k₁, k₂]) : ∃ t₁ t₂, xs = #[.int k₁ t₁, .int k₂ t₂] := by
  obtain ⟨l⟩ := xs
  dsimp only at h
  cases h with
  | cons _ t1 h =>
    cases h with
    | cons _ t2 h =>
      cases h
      exact ⟨t1, t2, rfl⟩
theorem two_rest {f v₁ v₂ : Value} {k₁ k₂ : Int} {e1 : Nat} (F : Fr h₀ L s.heap m) (N : News h₀ L s.heap (news ++ [(kS, seqObj "list" #[] 0), (a, seqObj "list" #[] e1)])) (hka : kS ≠ a) (hnk : ∀ p ∈ news, p.1 ≠ kS) (hna : ∀ p ∈ news, p.1 ≠ a) (hle : ¬ k₂ < k₁)
    (turn : ∀ (i : Nat) (v : Value) (k : Int), [v₁, v₂][i]? = some v → [k₁, k₂][i]? = some k → ∀ (h : Heap) (tk : Nat) (own : List (Addr × Obj)), Fr h₀ L h m → News h₀ L h (news ++ own) →
      wpAny (model prog w) A (call f [v]) (KskEnd h₀ L m (news ++ own) k { s with heap := h, toks := tk }) (fun _ _ => False) { s with heap := h, toks := tk })
    (h : ∀ h' tk c, Fr h₀ L h' m → News h₀ L h' ((a, seqObj "list" #[v₁, v₂] c) :: news) → P (.done (.ret .none)) { s with heap := h', toks := tk }) :
    wpAny (model prog w) A (ksk_rest a f false ([v₁, v₂] : List Value).toArray e1 (.ref kS)) P E s := by
  unfold ksk_rest
  refine wpAny_bind (wpAny_rule ?_)
  first
    | rw [List.forIn_toArray]
    | (rw [← Array.forIn_toList]; simp only [List.toList_toArray])
    | rw [← Array.forIn_toList]
  refine wpAny_bind (ksk_fold (fun i s' => ∃ h' tk kA e, s' = { s with heap := h', toks := tk } ∧ Fr h₀ L h' m ∧ News h₀ L h' (news ++ [(kS, seqObj "list" kA e), (a, seqObj "list" #[] e1)]) ∧ IntsAre kA.toList ([k₁, k₂].take i)) [v₁, v₂] 0 s
    ⟨s.heap, s.toks, #[], 0, rfl, F, N, .nil⟩ ?step ?done)
  case step =>
    intro j x s' hx hJ4
    ((refine Mine.ex4 hJ4 ?_); (try clear hJ4); intro h' tk kA e; intro hZ1; (refine Mine.and4 hZ1 ?_); clear hZ1; intro hZ2; obtain rfl := hZ2; intro F' N' hk)
    simp only [Nat.zero_add] at hk ⊢
    have hj : j < 2 := (List.getElem?_eq_some_iff.mp hx).1
    obtain ⟨k, hkj⟩ : ∃ k, [k₁, k₂][j]? = some k := ⟨_, List.getElem?_eq_getElem hj⟩
    have hz : kA.size ≤ 2 := by
      have h1 := hk.length
      rw [Array.length_toList, List.length_take] at h1
      omega
    refine wpAny_bind (wpAny_attempt (wpAny_mono (turn j x k hx hkj h' tk _ F' N') (fun v s'' he => ?_) fun _ _ hF => hF.elim))
    ((refine Mine.hideG fun G kG => ?_); (refine Mine.ex3 he ?_); (try clear he); intro g tk2 t2; intro hZ1; (refine Mine.and4 hZ1 ?_); clear hZ1; intro hZ2; obtain rfl := hZ2; intro hZ3; obtain rfl := hZ3; intro F2 N2; (refine kG ?_); clear kG G)
    dsimp only
    have nk := N2 (kS, seqObj "list" kA e) (List.mem_append_right _ (.head _))
    have na := N2 (a, seqObj "list" #[] e1) (List.mem_append_right _ (.tail _ (.head _)))
    have s1 := Heap.SameBut.update g kS (Obj.mapSeq (·.push (.int k t2)))
    obtain ⟨c2, hc2⟩ : ∃ c2, (g.update kS (Obj.mapSeq (·.push (.int k t2)))).get? kS = some (seqObj "list" (kA.push (.int k t2)) c2) := ⟨_, get?_update_seq nk.1 (·.push (.int k t2))⟩
    have ek : [k₁, k₂].take (j + 1) = [k₁, k₂].take j ++ [k] := by rw [List.take_add_one, hkj]; rfl
    have ea : (kA.push (Value.int k t2)).toList = kA.toList ++ [Value.int k t2] := by simp
    refine wpAny_bind (listUpdate_at nk.1 rfl ?_ (by rw [sizeLine_eq]; omega) (Nat.le_trans (Nat.le_of_eq (Array.size_push ..)) (by rw [sizeLine_eq]; omega)))
    refine wpAny_pure ⟨rfl, _, _, kA.push (.int k t2), c2, rfl, ksk_fr F2 s1 nk.2.1 nk.2.2, fun p hp => ?_, by rw [ea, ek]; exact ksk_snoc hk⟩
    rcases List.mem_append.mp hp with hp | hp
    · exact ksk_news (fun q hq => N2 q (List.mem_append_left _ hq)) s1 hnk p hp
    · rcases List.mem_cons.mp hp with rfl | hp
      · exact ⟨hc2, nk.2⟩
      · rw [List.mem_singleton.mp hp]
        exact ⟨(s1.2 a hka.symm).trans na.1, na.2⟩
  case done =>
    intro s' hJ1
    ((refine Mine.ex4 hJ1 ?_); (try clear hJ1); intro h' tk kA e; intro hZ1; (refine Mine.and4 hZ1 ?_); clear hZ1; intro hZ2; obtain rfl := hZ2; intro F' N' hk)
    ((refine Mine.ex2 (ints_two (k₁ := k₁) (k₂ := k₂) hk) ?_); intro t₁ t₂; intro hZ1; obtain rfl := hZ1)
    have nk := N' (kS, seqObj "list" _ e) (List.mem_append_right _ (.head _))
    refine wpAny_bind (listItems_at nk.1 rfl ?_)
    exact two_end F' N' hka hnk hna hle fun h3 tk3 c F3 N3 => h h3 tk3 c F3 N3
theorem two_sort {f v₁ v₂ : Value} {k₁ k₂ : Int} {n : Nat} (F : Fr h₀ L s.heap m) (N : News h₀ L s.heap news) (ho : s.heap.get? a = some (seqObj "list" ([v₁, v₂] : List Value).toArray n)) (haL : a ≠ L) (ha0 : h₀.get? a = none) (hna : ∀ p ∈ news, p.1 ≠ a) (hle : ¬ k₂ < k₁)
    (turn : ∀ (i : Nat) (v : Value) (k : Int), [v₁, v₂][i]? = some v → [k₁, k₂][i]? = some k → ∀ (h : Heap) (tk : Nat) (own : List (Addr × Obj)), Fr h₀ L h m → News h₀ L h (news ++ own) →
      wpAny (model prog w) A (call f [v]) (KskEnd h₀ L m (news ++ own) k { s with heap := h, toks := tk }) (fun _ _ => False) { s with heap := h, toks := tk })
    (h : ∀ h' tk c, Fr h₀ L h' m → News h₀ L h' ((a, seqObj "list" #[v₁, v₂] c) :: news) → P (.done (.ret .none)) { s with heap := h', toks := tk }) :
    wpAny (model prog w) A (ksk_tree a f false) P E s := by
  have ha : a < s.heap.objs.size := Heap.lt_size ho
  have s1 := Heap.SameBut.update s.heap a (Obj.mapSeq fun _ => (#[] : Array Value))
  obtain ⟨e1, ho1⟩ : ∃ e1, (s.heap.update a (Obj.mapSeq fun _ => (#[] : Array Value))).get? a = some (seqObj "list" #[] e1) := ⟨_, get?_update_seq ho fun _ => #[]⟩
  have F1 := ksk_fr F s1 haL ha0
  have N1 := ksk_news N s1 hna
  have hkS : ((s.heap.update a (Obj.mapSeq fun _ => (#[] : Array Value))).push (seqObj "tuple" ([v₁, v₂] : List Value).toArray 0)).objs.size = s.heap.objs.size + 1 := by rw [size_push', Heap.size_update]
  have hLk : L < ((s.heap.update a (Obj.mapSeq fun _ => (#[] : Array Value))).push (seqObj "tuple" ([v₁, v₂] : List Value).toArray 0)).objs.size := (F1.push _).ns.lt
  unfold ksk_tree
  refine wpAny_bind (listItems_at ho rfl ?_)
  refine wpAny_bind (listUpdate_at ho rfl ?_ (by rw [sizeLine_eq]; simp) (Nat.zero_le _))
  refine wpAny_bind (seqEpoch_at ho1 rfl ?_)
  refine wpAny_bind (wpAny_newTuple ?_ (by rw [sizeLine_eq]; simp))
  refine wpAny_bind (wpAny_newList ?_ (Nat.zero_le _))
  refine wpAny_holding ?_
  refine two_rest (k₁ := k₁) (k₂ := k₂) (s := { s with heap := ((s.heap.update a (Obj.mapSeq fun _ => (#[] : Array Value))).push (seqObj "tuple" ([v₁, v₂] : List Value).toArray 0)).push (seqObj "list" #[] 0) }) (kS := ((s.heap.update a (Obj.mapSeq fun _ => (#[] : Array Value))).push (seqObj "tuple" ([v₁, v₂] : List Value).toArray 0)).objs.size)
    ((F1.push _).push _) (fun p hp => ?_) (by rw [hkS]; exact Nat.ne_of_gt (Nat.lt_succ_of_lt ha)) (fun p hp => by rw [hkS]; exact Nat.ne_of_lt (Nat.lt_succ_of_lt (Heap.lt_size (N p hp).1))) hna hle turn h
  rcases List.mem_append.mp hp with hp | hp
  · exact ⟨Heap.get?_push_of_some _ (Heap.get?_push_of_some _ (N1 p hp).1), (N1 p hp).2⟩
  · rcases List.mem_cons.mp hp with rfl | hp
    · exact ⟨Heap.get?_push_size _ rfl, Nat.ne_of_gt hLk, Heap.get?_none_of_le (Nat.le_trans F.above (Nat.le_of_lt hLk))⟩
    · rw [List.mem_singleton.mp hp]
      exact ⟨Heap.get?_push_of_some _ (Heap.get?_push_of_some _ ho1), haL, ha0⟩
end
section
variable {prog : Program} {w : World} {A : Around} {E : Value → Shared → Prop} {s : Shared} {h₀ : Heap} {L l : Addr} {m : Str → Option Value} {news : List (Addr × Obj)} {Q : Value → Shared → Prop}
/-- sorted(two things, key = f), the second not below the first -/
theorem two_sorted {q : Addr} {v₁ v₂ : Value} {k₁ k₂ : Int} (F : Fr h₀ L s.heap m) (N : News h₀ L s.heap news) (hl : s.heap.IsList l ([v₁, v₂] : List Value).toArray) (hle : ¬ k₂ < k₁)
    (turn : ∀ (i : Nat) (v : Value) (k : Int), [v₁, v₂][i]? = some v → [k₁, k₂][i]? = some k → ∀ (h : Heap) (tk : Nat) (own : List (Addr × Obj)), Fr h₀ L h m → News h₀ L h (news ++ own) →
      wpAny (model prog w) A.in1.in1 (call (.ref q) [v]) (KskEnd h₀ L m (news ++ own) k { s with heap := h, toks := tk }) (fun _ _ => False) { s with heap := h, toks := tk })
    (h : ∀ D h' tk c, Fr h₀ L h' m → News h₀ L h' ((D, listOf #[v₁, v₂] c) :: news) → (∀ q ∈ news, q.1 < D) → Q (.ref D) { s with heap := h', toks := tk }) :
    wpAny (model prog w) A (call (.builtin "sorted") [.ref l] [(Str.ofString "key", .ref q)]) Q E s := by
  refine call_function_entry_kw kind_sorted plain_sorted entry_sorted (ksk_s1 _ _) ?_
  unfold Builtin.«sorted»
  refine wpAny_bind (m := checkCount "sorted" 1 1 _) (wpAny_pure ?_)
  refine wpAny_bind (collect_list hl ?_ (by rw [sizeLine_eq]; simp))
  refine wpAny_bind (wpAny_newList ?_ (by rw [sizeLine_eq]; simp))
  have hsz : ((s.heap.push (seqObj "list" #[] 0)).update s.heap.objs.size (Obj.mapSeq (· ++ ([v₁, v₂] : List Value).toArray))).objs.size = s.heap.objs.size + 1 := by
    rw [Heap.size_update, size_push']
  have hoL : (((s.heap.push (seqObj "list" #[] 0)).update s.heap.objs.size (Obj.mapSeq (· ++ ([v₁, v₂] : List Value).toArray))).push (seqObj "list" ([v₁, v₂] : List Value).toArray 0)).get? (s.heap.objs.size + 1) = some (seqObj "list" ([v₁, v₂] : List Value).toArray 0) := by
    rw [← hsz]; exact Heap.get?_push_size _ rfl
  have keep : ∀ b o, s.heap.get? b = some o → (((s.heap.push (seqObj "list" #[] 0)).update s.heap.objs.size (Obj.mapSeq (· ++ ([v₁, v₂] : List Value).toArray))).push (seqObj "list" ([v₁, v₂] : List Value).toArray 0)).get? b = some o := fun b o q => by
    have hlt : b < s.heap.objs.size := Heap.lt_size q
    rw [Heap.get?_push_ne _ _ _ (by rw [hsz]; exact Nat.ne_of_lt (Nat.lt_succ_of_lt hlt)), Heap.get?_update_ne _ _ _ _ (Nat.ne_of_lt hlt), Heap.get?_push_ne _ _ _ (Nat.ne_of_lt hlt)]
    exact q
  have hL : L < s.heap.objs.size := F.ns.lt
  show wpAny _ _ _ _ _ { s with heap := ((s.heap.push (seqObj "list" #[] 0)).update s.heap.objs.size (Obj.mapSeq (· ++ ([v₁, v₂] : List Value).toArray))).push (seqObj "list" ([v₁, v₂] : List Value).toArray 0) }
  rw [hsz]
  refine wpAny_bind (wpAny_holding (wpAny_call_entry_kw slot_list_sort ⟨_, hoL, rfl⟩ entry_list_sort ?body (ksk_l1 _ _)))
  case body =>
    show wpAny (model prog w) A.in1.in1 (Builtin.«list.sort» ⟨[.ref (s.heap.objs.size + 1)], [(Str.ofString "key", .ref q)]⟩) _ _ _
    rw [ksk_t1]
    refine two_sort (k₁ := k₁) (k₂ := k₂) (s := { s with heap := ((s.heap.push (seqObj "list" #[] 0)).update s.heap.objs.size (Obj.mapSeq (· ++ ([v₁, v₂] : List Value).toArray))).push (seqObj "list" ([v₁, v₂] : List Value).toArray 0) })
      (F.kept keep) (N.grown keep) hoL (Nat.ne_of_gt (Nat.lt_succ_of_lt hL)) (Heap.get?_none_of_le (Nat.le_trans F.above (Nat.le_succ_of_le (Nat.le_of_lt hL))))
      (fun p hp => Nat.ne_of_lt (Nat.lt_succ_of_lt (Heap.lt_size (N p hp).1))) hle turn fun h' tk c F' N' => ⟨_, rfl, ?_⟩
    exact wpAny_pure ⟨_, rfl, h _ h' tk c F' N' (fun q hq => Nat.lt_succ_of_lt (Heap.lt_size (N q hq).1))⟩
end
end Mine
end
section -- Y4
open PySem PySem.W PyProof.Rows
set_option maxRecDepth 100000
set_option linter.unusedVariables false
namespace Mine
theorem zoff_Y4 : True := by
  w_top off
  k_with_none
  k_with "Hid" => (refine Mine.Hid.go (by with_reducible assumption) ?_)
  k_with "execs cons" => ((fail_if_success (with_reducible refine Mine.isHid ?_)); (refine Mine.hideQ fun _ _ => ?_))
  k_with "exec Assign" => ((fail_if_success (with_reducible refine Mine.isHid ?_)); (refine Mine.hideQ fun _ _ => ?_))
  k_with "exec Expr" => ((fail_if_success (with_reducible refine Mine.isHid ?_)); (refine Mine.hideQ fun _ _ => ?_))
  k_with "exec Return" => ((fail_if_success (with_reducible refine Mine.isHid ?_)); (refine Mine.hideQ fun _ _ => ?_))
  k_with "exec AugAssign" => ((fail_if_success (with_reducible refine Mine.isHid ?_)); (refine Mine.hideQ fun _ _ => ?_))
  k_with "exec If" => ((fail_if_success (with_reducible refine Mine.isHid ?_)); (refine Mine.hideQ fun _ _ => ?_))
  trivial
/-- what the law's plain reckoning says -/
noncomputable def Tr.late : Tr → Nat × Nat
  | .leaf _ => (1, 1)
  | .node l r => if l.late.1 ≤ r.late.1 then (r.late.1 + (if l.late.1 = r.late.1 then 1 else 0), max l.late.2 (r.late.2 + 1)) else (l.late.1, max r.late.2 (l.late.2 + 1))
noncomputable def lamQ : Str := Str.ofString "_law_late" ++ ".<locals>." ++ "<lambda>"
/-- the state of the table of codes -/
noncomputable def LateSt (h : Heap) (ps : Array Value) : Prop := h.get? 290 = some (tabObj ps) ∧ (ps = #[] ∨ ∃ c' : Addr, ps = #[rawInt 210, rawInt 73, .ref c'] ∧ h.CodeRec (.ref c') lamQ)
theorem code294 (w : World) {h : Heap} (X : (KX w.params).In h) : CodeHd h 294 290 := by
  refine ⟨_, _, _, _, _, _, _, _, _, X 294 _ (by rfl), rfl, rfl, rfl, rfl, rfl, rfl, rfl, rfl, by decide⟩
theorem lateSt_ne {h : Heap} {ps : Array Value} {c' : Addr} {q : Str} (h1 : h.get? 290 = some (tabObj ps)) (hps : ps = #[] ∨ ∃ c, ps = #[rawInt 210, rawInt 73, .ref c]) (hc : h.CodeRec (.ref c') q) : c' ≠ 290 := by
  rintro rfl
  ((refine Mine.ex4 hc ?_); (try clear hc); intro c o vs t; intro hZ1; (refine Mine.and4 hZ1 ?_); clear hZ1; intro e ho hd hv)
  cases e
  rw [h1] at ho; cases ho
  cases hd
  rcases hps with rfl | ⟨c, rfl⟩
  · cases hv
  · cases hv
theorem CodeRec.ext {h h' : Heap} {v : Value} {q : Str} (H : h.CodeRec v q) (k : ∀ c, v = .ref c → ∀ o, h.get? c = some o → h'.get? c = some o) : h'.CodeRec v q := by
  ((refine Mine.ex4 H ?_); (try clear H); intro c o vs t; intro hZ1; (refine Mine.and3 hZ1 ?_); clear hZ1; intro e ho r)
  exact ⟨c, o, vs, t, e, k c e o ho, r⟩
noncomputable def LateTab (ps : Array Value) (c' : Addr) : Prop := ps = #[rawInt 210, rawInt 73, .ref c']
noncomputable def LateCode (B : Heap) (news : List (Addr × Obj)) (c' : Addr) : Prop := ∃ oc vs t, (B.get? c' = some oc ∨ (c', oc) ∈ news) ∧ oc.data = .fields vs ∧ vs[1]? = some (.str lamQ t)
theorem LateCode.rec {B h : Heap} {L : Addr} {news : List (Addr × Obj)} {c' : Addr} (H : LateCode B news c') (F : Ext B h) (N : News B L h news) : h.CodeRec (.ref c') lamQ := by
  ((refine Mine.ex3 H ?_); (try clear H); intro oc vs t; intro hZ1; (refine Mine.and3 hZ1 ?_); clear hZ1; intro hw hd hv)
  exact ⟨c', oc, vs, t, rfl, hw.elim (F _ _) (fun q => (N _ q).1), hd, hv⟩
theorem mid_lam {M : Model} {A : Around} {E : Value → Shared → Prop} {s : Shared} {B : Heap} {L : Addr} {m : Str → Option Value} {cs : Scope} {rest : List (Addr × Obj)} {p : Program} {loose : List Str} {mean : ExcName → Option Value} {mg mb : Str → Option Value} {params : Arguments} {body : PySem.Expr} {scope : Scope} {pos : Pos} {ps : Array Value} {Q : Value → Shared → Prop}
    (F : Fr B L s.heap m) (N : News B L s.heap ((290, tabObj ps) :: rest)) (h290 : ∀ q ∈ rest, q.1 ≠ 290) (T : Top p loose mean mg mb B) (C : CodeHd B 294 290) (hS : LateSt s.heap ps) (hkc : ∀ c' o, ps = #[rawInt 210, rawInt 73, .ref c'] → s.heap.get? c' = some o → B.get? c' = some o ∨ (c', o) ∈ (290, tabObj ps) :: rest) (hp : pos.line = 210 ∧ pos.col = 73)
    (hdef : defaultsOf params (envOf (Str.ofString "_law_late") cs L 295 (.ref 294)) = ([], [])) (hcl : closureFor scope (envOf (Str.ofString "_law_late") cs L 295 (.ref 294)) = pure []) (hq : (envOf (Str.ofString "_law_late") cs L 295 (.ref 294)).qual ++ "<lambda>" = lamQ)
    (h : ∀ f c' ctv h' tk ps' ex, Fr B L h' m → News B L h' ((f, kla_obj "<lambda>" lamQ params body scope [] ((mg "__name__").getD .none) c' ctv) :: (290, tabObj ps') :: (rest ++ ex)) → LateTab ps' c' → LateCode B (rest ++ ex) c' → (∀ q ∈ (290, tabObj ps) :: rest, q.1 < f) → Q (.ref f) { s with heap := h', toks := tk }) :
    wpAny M A (eval (.Lambda params body scope pos) (envOf (Str.ofString "_law_late") cs L 295 (.ref 294))) Q E s := by
  refine kla_eval hdef ?_
  rw [hq]
  rcases hS with ⟨h1, rfl | ⟨c', rfl, hrec⟩⟩
  · refine kla_nest (ps := #[]) (P := 290) (c := 294) (g := fun o => (290, o) :: rest) (clos := []) F N T C rfl (.head h290) trivial rfl hcl ?_
    intro f c' oc vs t ctv h' tk F' N' hd hv l1 l2
    refine h f c' ctv h' tk (#[] ++ #[rawInt pos.line, rawInt pos.col, .ref c']) [(c', oc)] F' (fun p hp => ?_) (by rw [hp.1, hp.2]; rfl) ⟨oc, vs, t, .inr (List.mem_append_right _ (.head _)), hd, hv⟩ (fun q hq => Nat.lt_trans (l1 q hq) l2)
    rcases List.mem_cons.mp hp with rfl | hp
    · exact N' _ (.head _)
    · rcases List.mem_cons.mp hp with rfl | hp
      · exact N' _ (.tail _ (.tail _ (.head _)))
      · rcases List.mem_append.mp hp with hp | hp
        · exact N' _ (.tail _ (.tail _ (.tail _ hp)))
        · rw [List.mem_singleton.mp hp]
          exact N' _ (.tail _ (.head _))
  · ((refine Mine.ex4 hrec ?_); (try clear hrec); intro c oc vs t; intro hZ1; (refine Mine.and4 hZ1 ?_); clear hZ1; intro e ho hd hv)
    cases e
    refine kla_hit (ps := #[rawInt 210, rawInt 73, .ref c']) (P := 290) (c := 294) (c' := c') (clos := []) F N T C rfl (.head _) ?_ ?_ hcl ?_
    · simp [TriplesOk, rawInt]
    · simp [codeAmong, rawInt, hp.1, hp.2]
    intro f ctv h' tk F' N' l1
    refine h f c' ctv h' tk _ [] F' (by simpa using N') rfl ⟨oc, vs, t, ?_, hd, hv⟩ l1
    rcases hkc c' oc rfl ho with q | q
    · exact .inl q
    · rcases List.mem_cons.mp q with q | q
      · cases q
        cases hd
        cases hv
      · exact .inr (List.mem_append_left _ q)
theorem lam_call {w : World} {A : Around} {E : Value → Shared → Prop} {s : Shared} {f c' D : Addr} {ctv pm x : Value} {k : Int} {tk : Tok} {params : Arguments} {scope : Scope} {p1 p2 p3 : Pos} {k0 : Tok} {Q : Value → Shared → Prop}
    (ho : s.heap.get? f = some (kla_obj "<lambda>" lamQ params (.Subscript (.Name (Str.ofString "pair") p1) (.Constant (.int 0) k0 p2) p3) scope [] pm c' ctv)) (hcd : s.heap.CodeRec (.ref c') lamQ) (nl : s.heap.NoLimit) (hD : s.heap.IsList D #[.int k tk, x]) (hroom : A.depth < recursionLimit)
    (hbind : bindArgs (kla_fn "<lambda>" lamQ params (.Subscript (.Name (Str.ofString "pair") p1) (.Constant (.int 0) k0 p2) p3) scope [] pm (.ref c') ctv) ⟨[.ref D], []⟩ = pure [(Str.ofString "pair", .ref D)]) (hsc : scope = { kind := .function, names := [(Str.ofString "pair", .local)], isGenerator := false, isCoroutine := false })
    (h : ∀ h' tk', Ext s.heap h' → Q (.int k tk) { s with heap := h', toks := tk' }) : wpAny (model PySem.Challenge.rw_sh0039_01.row.prog w) A (call (.ref f) [.ref D]) Q E s := by
  subst hsc
  refine wpAny_call ?_
  refine kla_callFunE hroom ho rfl rfl rfl rfl hcd ?_
  rw [hbind]
  refine wpAny_pure (wpAny_newFunctionEnv (fun x hx => by cases hx with | head => exact fun e => nomatch e | tail _ h => cases h) (fun x hx => by cases hx with | head => rfl | tail _ h => cases h) (fun h₁ hns hsb => ⟨nl.fresh _ hsb, ?_⟩) rfl)
  have hk₁ : ∀ b o, s.heap.get? b = some o → h₁.get? b = some o := fun b o e => hsb.extBut b o (Nat.ne_of_lt (Heap.lt_size e)) (Heap.get?_push_of_some _ e)
  refine kla_codeExpr ?_
  have F : Fr s.heap s.heap.objs.size h₁ (fun y => [(Str.ofString "pair", Value.ref D)].reverse.lookup y) := ⟨hns, hk₁, Nat.le_refl _⟩
  have hD1 : h₁.IsList D #[.int k tk, x] := IsList.ext hD hk₁
  show wpAny _ _ (eval (.Subscript (.Name (Str.ofString "pair") p1) (.Constant (.int 0) k0 p2) p3) (envOf lamQ { kind := .function, names := [(Str.ofString "pair", .local)], isGenerator := false, isCoroutine := false } s.heap.objs.size f (.ref c'))) _ _ _
  k_steps
  exact h _ _ hk₁
theorem LateSt.keep {h h' : Heap} {ps : Array Value} (S : LateSt h ps) (g : h'.get? 290 = some (tabObj ps)) (k : ∀ c' o, ps = #[rawInt 210, rawInt 73, .ref c'] → c' ≠ 290 → h.get? c' = some o → h'.get? c' = some o) : LateSt h' ps := by
  ((refine And.elim ?_ S); (try clear S); intro h1 hps)
  refine ⟨g, ?_⟩
  rcases hps with rfl | ⟨c', rfl, hrec⟩
  · exact .inl rfl
  · have hne := lateSt_ne h1 (.inr ⟨c', rfl⟩) hrec
    exact .inr ⟨c', rfl, CodeRec.ext hrec fun c e o ho => by cases e; exact k c' o rfl hne ho⟩
theorem ne_tab {B h : Heap} {L D : Addr} {arr : Array Value} {k : Nat} {ps : Array Value} {news : List (Addr × Obj)} (N : News B L h news) (h1 : (D, listOf arr k) ∈ news) (h2 : (290, tabObj ps) ∈ news) : D ≠ 290 := fun q => by
  have e1 := (N _ h1).1
  have e2 := (N _ h2).1
  dsimp only at e1 e2
  rw [q, e2] at e1
  cases e1
theorem fresh_of {B h : Heap} {D : Addr} (hBk : ∀ b o, b ≠ 290 → h.get? b = some o → B.get? b = some o) (hB : B.get? D = none) (hne : D ≠ 290) : h.get? D = none := by
  cases e : h.get? D with
  | none => rfl
  | some o => rw [hBk _ _ hne e] at hB; cases hB
theorem perm4 {B h : Heap} {L : Addr} {p1 p2 p3 p4 : Addr × Obj} {rest : List (Addr × Obj)} (N : News B L h (p1 :: p2 :: p3 :: p4 :: rest)) : News B L h (p4 :: p1 :: p2 :: p3 :: rest) := fun p hp => by
  (rcases List.mem_cons.mp hp with hZ | hp <;> (try ((replace hZ := Eq.symm hZ); obtain rfl := hZ)))
  · exact N _ (.tail _ (.tail _ (.tail _ (.head _))))
  · (rcases List.mem_cons.mp hp with hZ | hp <;> (try ((replace hZ := Eq.symm hZ); obtain rfl := hZ)))
    · exact N _ (.head _)
    · (rcases List.mem_cons.mp hp with hZ | hp <;> (try ((replace hZ := Eq.symm hZ); obtain rfl := hZ)))
      · exact N _ (.tail _ (.head _))
      · (rcases List.mem_cons.mp hp with hZ | hp <;> (try ((replace hZ := Eq.symm hZ); obtain rfl := hZ)))
        · exact N _ (.tail _ (.tail _ (.head _)))
        · exact N _ (.tail _ (.tail _ (.tail _ (.tail _ hp))))
structure SortAt (B : Heap) (L : Addr) (m : Str → Option Value) (news : List (Addr × Obj)) (l r : Tr) (s : Shared) (v : Value) (s' : Shared) : Prop where
  ex : ∃ D h' tk c Da Db, ∃ (fa fb : Nat × Nat), ∃ ta1 ta2 tb1 tb2 ka kb, v = .ref D ∧ s' = { s with heap := h', toks := tk } ∧ Fr B L h' m ∧
    News B L h' ((D, listOf #[.ref Da, .ref Db] c) :: (Da, listOf #[.int ((fa.1 : Nat) : Int) ta1, .int ((fa.2 : Nat) : Int) ta2] ka) :: (Db, listOf #[.int ((fb.1 : Nat) : Int) tb1, .int ((fb.2 : Nat) : Int) tb2] kb) :: news) ∧ (Tr.node l r).late = (fb.1 + (if fa.1 = fb.1 then 1 else 0), max fa.2 (fb.2 + 1))
theorem mid_sort {M : Model} {A : Around} {t : Sem Value} {Q E : Value → Shared → Prop} {s : Shared} {B : Heap} {L : Addr} {m : Str → Option Value} {news : List (Addr × Obj)} {l r : Tr} (F : Fr B L s.heap m) (N : News B L s.heap news) (h1 : wpAny M A t (SortAt B L m news l r s) E s)
    (h2 : ∀ D h' tk c Da Db, ∀ (fa fb : Nat × Nat), ∀ ta1 ta2 tb1 tb2 ka kb, Fr B L h' m → News B L h' ((D, listOf #[.ref Da, .ref Db] c) :: (Da, listOf #[.int ((fa.1 : Nat) : Int) ta1, .int ((fa.2 : Nat) : Int) ta2] ka) :: (Db, listOf #[.int ((fb.1 : Nat) : Int) tb1, .int ((fb.2 : Nat) : Int) tb2] kb) :: news) →
      (Tr.node l r).late = (fb.1 + (if fa.1 = fb.1 then 1 else 0), max fa.2 (fb.2 + 1)) → Q (.ref D) { s with heap := h', toks := tk }) : wpAny M A t Q E s :=
  wpAny_mono h1 (fun v s' q => by ((refine Mine.hideG fun G kG => ?_); (refine Mine.ex9 q.ex ?_); intro D h' tk c Da Db fa fb ta1; intro hZ1; (refine Mine.ex5 hZ1 ?_); clear hZ1; intro ta2 tb1 tb2 ka kb; intro hZ2; (refine Mine.and5 hZ2 ?_); clear hZ2; intro hZ3; obtain rfl := hZ3; intro hZ4; obtain rfl := hZ4; intro F N e; (refine kG ?_); clear kG G); exact h2 D h' tk c Da Db fa fb ta1 ta2 tb1 tb2 ka kb F N e) fun _ _ q => q
theorem dup2 {B h : Heap} {L : Addr} {p0 p1 p2 : Addr × Obj} {rest : List (Addr × Obj)} (N : News B L h (p0 :: rest)) (h1 : p1 ∈ rest) (h2 : p2 ∈ rest) : News B L h (p0 :: p1 :: p2 :: rest) := fun p hp => by
  (rcases List.mem_cons.mp hp with hZ | hp <;> (try ((replace hZ := Eq.symm hZ); obtain rfl := hZ)))
  · exact N _ (.head _)
  · (rcases List.mem_cons.mp hp with hZ | hp <;> (try ((replace hZ := Eq.symm hZ); obtain rfl := hZ)))
    · exact N _ (.tail _ h1)
    · (rcases List.mem_cons.mp hp with hZ | hp <;> (try ((replace hZ := Eq.symm hZ); obtain rfl := hZ)))
      · exact N _ (.tail _ h2)
      · exact N _ (.tail _ hp)
theorem two_eq {h : Heap} {D : Addr} {X Y L1 L2 : Int} {t u : Tok} {k : Nat} (g : h.get? D = some (listOf #[.int X t, .int Y u] k)) (e1 : X = L1) (e2 : Y = L2) : h.get? D = some (listOf #[.int L1 t, .int L2 u] k) := by
  subst e1 e2; exact g
theorem late_max {fa fb l1 : Nat} (e : l1 = max fa (fb + 1)) : (if ((fb : Nat) : Int) + 1 > ((fa : Nat) : Int) then ((fb : Nat) : Int) + 1 else ((fa : Nat) : Int)) = ((l1 : Nat) : Int) := by
  split <;> omega
theorem LateSt.at {h : Heap} {ps : Array Value} (S : LateSt h ps) {c' : Addr} (e : ps = #[rawInt 210, rawInt 73, .ref c']) : ∃ o vs t, h.get? c' = some o ∧ o.data = .fields vs ∧ vs[1]? = some (.str lamQ t) ∧ c' ≠ 290 := by
  ((refine And.elim ?_ S); (try clear S); intro h1 hps)
  subst e
  rcases hps with e | ⟨c, e, hrec⟩
  · cases e
  · cases e
    have hne := lateSt_ne h1 (.inr ⟨c', rfl⟩) hrec
    ((refine Mine.ex4 hrec ?_); (try clear hrec); intro c o vs t; intro hZ1; (refine Mine.and4 hZ1 ?_); clear hZ1; intro e ho hd hv)
    cases e
    exact ⟨o, vs, t, ho, hd, hv, hne⟩
theorem zk_Y4_1 : True := by
  k_with "execs nil" => (refine wpAny_execs_nil ?_)
  trivial
local macro_rules | `(tactic| k_mem) => `(tactic| (refine List.mem_append.mpr (Or.inr ?_); k_mem))
theorem zk_Y4_2 : True := by
  k_with "call builtin:sorted" => (refine Stop.h ?_)
  k_with "eval Lambda" => (refine Stop.h ?_)
  trivial
set_option maxHeartbeats 8000000 in
theorem late_spec (w : World) {p : Program} {loose : List Str} {mean : ExcName → Option Value} {mg mb : Str → Option Value} : ∀ (n : Nat) (t : Tr), t.size ≤ n → ∀ (b₀ : Heap) (ps : Array Value) (A : Around) (s : Shared) (v : Value) (Q E : Value → Shared → Prop)
    (X : (KX w.params).In b₀) (T : Top p loose mean mg mb b₀) (hb : Ext b₀ s.heap) (off : b₀.get? 290 = none) (hS : LateSt s.heap ps) (hR : TreeAt (hideAll s.heap [290]) v t) (hd : A.depth + t.size + 30 < recursionLimit) (hh : A.handled = none) (hl : t.size ≤ 40)
    (ret : ∀ D h' tk' t1 t2 k ps', s.heap.get? D = none → h'.get? D = some (listOf #[.int ((t.late.1 : Nat) : Int) t1, .int ((t.late.2 : Nat) : Int) t2] k) → LateSt h' ps' → Ext (hideAll s.heap [290]) h' → Q (.ref D) { s with heap := h', toks := tk' }), wpAny (model PySem.Challenge.rw_sh0039_01.row.prog w) A (call (.ref 295) [v]) Q E s := by
  k_fill
  intro n
  induction n with
  | zero => intro t h; cases t <;> simp [Tr.size] at h
  | succ n ih =>
    intro t hn b₀ ps A s v Q E X T hb off hS hR hd hh hl ret
    have hd0 : A.depth < recursionLimit := by omega
    have hu : Ext b₀ (hideAll s.heap [290]) := hide_ext hb (fun a ha => by rw [List.mem_singleton.mp ha]; exact off)
    k_dflt (refine' enterH (hs := [290]) (news := [(290, tabObj ps)]) (K := KX w.params) (X.keeps hu) (T.keeps hu) ?kn ?k6 ?k7 hd0 ?k9 ?kB ?_ ?c2 ?c3 ?c4 ?c5)
    (case kn => intro q hq; rw [List.mem_singleton.mp hq]; exact ⟨hS.1, .head _⟩)
    (case k6 => k_is)
    (case k7 => k_is)
    (case k9 => exact BindsTo.of_eq rfl)
    (case kB => exact locs rfl)
    (case c2 => exact rfl)
    (case c3 => exact rfl)
    (case c4 => exact rfl)
    (case c5 => decide)
    clear X T
    have hBn : (hideAll s.heap [290]).get? 290 = none := hideAll_none _ (.head _)
    have hBk : Stop (∀ b o, b ≠ 290 → s.heap.get? b = some o → (hideAll s.heap [290]).get? b = some o) := ⟨fun b o hb e => hideAll_get _ e (by simpa using hb)⟩
    have sS : Stop (LateSt s.heap ps) := ⟨hS⟩
    clear hS
    generalize hideAll s.heap [290] = B at *
    intro h₁ F N X T
    cases hR
    · (try k_fold)
      k_steps
      (with_reducible rename Fr _ _ _ _ => F1)
      (with_reducible rename News _ _ _ _ => N1)
      exact ret _ _ _ _ _ _ ps (fresh_of hBk.h (N1 _ (.head _)).2.2 (ne_tab N1 (.head _) (by k_mem))) (N1 _ (.head _)).1 (sS.h.keep (N1 (290, tabObj ps) (by k_mem)).1 fun c' o _ hne ho => F1.keep _ _ (hBk.h _ _ hne ho)) F1.keep
    · rename_i a v₁ v₂ l r hL h1 h2
      simp only [Tr.size] at *
      (try k_fold)
      k_steps
      (with_reducible rename Fr _ _ _ _ => F1)
      (with_reducible rename News _ _ _ _ => N1)
      have hB290 : ∀ a ∈ [290], B.get? a = none := fun a ha => by rw [List.mem_singleton.mp ha]; exact hBn
      have S1 : LateSt _ ps := sS.h.keep (N1 (290, tabObj ps) (by k_mem)).1 fun c' o _ hne ho => F1.keep _ _ (hBk.h _ _ hne ho)
      have n290 := (N1 (290, tabObj ps) (by k_mem)).2
      refine ih l (by omega) B ps _ _ _ _ _ X T F1.keep hBn S1 (h1.ext (hide_ext F1.keep hB290)) (by simp only [depth_deeper]; omega) hh (by omega) ?_
      intro D1 hD tD t1 t2 k1 ps1 fr1 g1 S1' eD
      have F2 := fr_hideN F1 hB290 (by simpa using Ne.symm n290.1) eD
      have hLn : ∀ a, Heap.get? _ a = none → a ≠ s.heap.objs.size := fun a e q => by
        ((refine Mine.ex3 F1.ns ?_); intro o _ _; intro hZ1; (refine And.elim ?_ hZ1); clear hZ1; intro ho _)
        rw [← q, e] at ho; cases ho
      have d1L := hLn _ fr1
      have d1B := none_base F1.keep fr1
      ((refine Exists.elim (snapX F2 [290, D1]) ?_); intro own2; intro hZ1; (refine Mine.and3 hZ1 ?_); clear hZ1; intro Nown2 hoff2 hs2)
      have N3 : News B s.heap.objs.size hD ((D1, listOf #[.int ((l.late.1 : Nat) : Int) t1, .int ((l.late.2 : Nat) : Int) t2] k1) :: (290, tabObj ps1) :: own2) := fun p hp => by
        rcases List.mem_cons.mp hp with rfl | hp
        · exact ⟨g1, d1L, d1B⟩
        · rcases List.mem_cons.mp hp with rfl | hp
          · exact ⟨S1'.1, n290⟩
          · exact Nown2 p hp
      have dL2 : ∀ o vs, hD.get? s.heap.objs.size = some o → o.data ≠ .fields vs := fun o vs e1 e2 => by
        ((refine Mine.ex3 F2.ns ?_); intro o' _ _; intro hZ1; (refine Mine.and3 hZ1 ?_); clear hZ1; intro ho hd' _)
        rw [e1] at ho; cases ho; rw [e2] at hd'; cases hd'
      have sS1 : Stop (LateSt hD ps1 ∧ (∀ b o, b ≠ s.heap.objs.size → b ∉ [290, D1] → hD.get? b = some o → B.get? b = some o ∨ (b, o) ∈ own2) ∧ (∀ o vs, hD.get? s.heap.objs.size = some o → o.data ≠ .fields vs)) := ⟨S1', hs2, dL2⟩
      clear F1 N1 S1 S1' hs2 dL2 Nown2 eD hLn
      dsimp only
      k_steps
      (with_reducible rename Fr _ _ _ _ => F4)
      (with_reducible rename News _ _ _ _ => N4)
      have S4 : LateSt _ ps1 := sS1.h.1.keep (N4 (290, tabObj ps1) (by k_mem)).1 fun c' o e hne ho => by
        ((refine Mine.ex3 (sS1.h.1.at e) ?_); intro o' vs t; intro hZ1; (refine Mine.and4 hZ1 ?_); clear hZ1; intro ho' hdt hv; intro hZ2; obtain - := hZ2)
        rw [ho'] at ho; cases ho
        rcases sS1.h.2.1 c' _ (fun q => sS1.h.2.2 _ vs (q ▸ ho') hdt) (by
          simp only [List.mem_cons, List.not_mem_nil, or_false, not_or]
          refine ⟨hne, fun q => ?_⟩
          (replace q := Eq.symm q; obtain rfl := q); rw [g1] at ho'; cases ho'; cases hdt) ho' with q | q
        · exact F4.keep _ _ q
        · exact (N4 _ (.tail _ (.tail _ q))).1
      refine ih r (by omega) B ps1 _ _ _ _ _ X T F4.keep hBn S4 (h2.ext (hide_ext F4.keep hB290)) (by simp only [depth_deeper]; omega) hh (by omega) ?_
      intro D2 hG tG t3 t4 k2 ps2 fr2 g2 S2' eG
      have F5 := fr_hideN F4 hB290 (by simpa using Ne.symm n290.1) eG
      have hLn : ∀ a, Heap.get? _ a = none → a ≠ s.heap.objs.size := fun a e q => by
        ((refine Mine.ex3 F4.ns ?_); intro o _ _; intro hZ1; (refine And.elim ?_ hZ1); clear hZ1; intro ho _)
        rw [← q, e] at ho; cases ho
      have d2L := hLn _ fr2
      have d2B := none_base F4.keep fr2
      have gd1 := (N4 (D1, _) (.head _)).1
      have d12 : D1 ≠ 290 := ne_tab N4 (.head _) (by k_mem)
      have g1' : hG.get? D1 = some (listOf #[.int ((l.late.1 : Nat) : Int) t1, .int ((l.late.2 : Nat) : Int) t2] k1) := eG _ _ (hideAll_get [290] gd1 (by simpa using d12))
      ((refine Exists.elim (snapX F5 [290, D1, D2]) ?_); intro own5; intro hZ1; (refine Mine.and3 hZ1 ?_); clear hZ1; intro Nown5 hoff5 hs5)
      have N6 : News B s.heap.objs.size hG ((D2, listOf #[.int ((r.late.1 : Nat) : Int) t3, .int ((r.late.2 : Nat) : Int) t4] k2) :: (D1, listOf #[.int ((l.late.1 : Nat) : Int) t1, .int ((l.late.2 : Nat) : Int) t2] k1) :: (290, tabObj ps2) :: own5) := fun p hp => by
        rcases List.mem_cons.mp hp with rfl | hp
        · exact ⟨g2, d2L, d2B⟩
        · rcases List.mem_cons.mp hp with rfl | hp
          · exact ⟨g1', d1L, d1B⟩
          · rcases List.mem_cons.mp hp with rfl | hp
            · exact ⟨S2'.1, n290⟩
            · exact Nown5 p hp
      have dL5 : ∀ o vs, hG.get? s.heap.objs.size = some o → o.data ≠ .fields vs := fun o vs e1 e2 => by
        ((refine Mine.ex3 F5.ns ?_); intro o' _ _; intro hZ1; (refine Mine.and3 hZ1 ?_); clear hZ1; intro ho hd' _)
        rw [e1] at ho; cases ho; rw [e2] at hd'; cases hd'
      have sS2 : Stop (LateSt hG ps2 ∧ (∀ b o, b ≠ s.heap.objs.size → b ∉ [290, D1, D2] → hG.get? b = some o → B.get? b = some o ∨ (b, o) ∈ own5) ∧ (∀ o vs, hG.get? s.heap.objs.size = some o → o.data ≠ .fields vs)) := ⟨S2', hs5, dL5⟩
      clear F4 N4 S4 S2' hs5 dL5 Nown5 eG hLn sS1 gd1
      dsimp only
      k_steps
      constructor
      (with_reducible rename Fr _ _ _ _ => F7)
      (with_reducible rename News _ _ _ _ => N7)
      have hcode : ∀ c', ps2 = #[rawInt 210, rawInt 73, .ref c'] → ∃ o vs t, hG.get? c' = some o ∧ o.data = .fields vs ∧ vs[1]? = some (.str lamQ t) ∧ (B.get? c' = some o ∨ (c', o) ∈ own5) := fun c' e => by
        ((refine Mine.ex3 (sS2.h.1.at e) ?_); intro o' vs t; intro hZ1; (refine Mine.and4 hZ1 ?_); clear hZ1; intro ho' hdt hv hne)
        refine ⟨o', vs, t, ho', hdt, hv, sS2.h.2.1 c' o' (fun q => sS2.h.2.2 o' vs (q ▸ ho') hdt) ?_ ho'⟩
        simp only [List.mem_cons, List.not_mem_nil, or_false, not_or]
        refine ⟨hne, fun q => ?_, fun q => ?_⟩
        · (replace q := Eq.symm q; obtain rfl := q); rw [g1'] at ho'; cases ho'; cases hdt
        · (replace q := Eq.symm q; obtain rfl := q); rw [g2] at ho'; cases ho'; cases hdt
      have Nown7 : News B s.heap.objs.size _ own5 := fun p hp => N7 p (.tail _ (.tail _ (.tail _ (.tail _ hp))))
      refine mid_lam (mg := mg) F7 (perm4 N7) (fun q hq => ?_) T (code294 w X) (sS2.h.1.keep (N7 (290, tabObj ps2) (by k_mem)).1 fun c' o e hne ho => ?_) (fun c' o e ho => ?_) ⟨rfl, rfl⟩ rfl rfl rfl ?_
      · rcases List.mem_cons.mp hq with rfl | hq
        · exact ne_tab N7 (.head _) (by k_mem)
        · rcases List.mem_cons.mp hq with rfl | hq
          · exact ne_tab N7 (.tail _ (.head _)) (by k_mem)
          · rcases List.mem_cons.mp hq with rfl | hq
            · exact d12
            · have := hoff5 q hq
              simp only [List.mem_cons, not_or] at this
              exact this.1
      · ((refine Mine.ex3 (hcode c' e) ?_); intro o' vs t; intro hZ1; (refine Mine.and4 hZ1 ?_); clear hZ1; intro ho' hdt hv hw)
        rw [ho'] at ho
        cases ho
        rcases hw with q | q
        · exact F7.keep _ _ q
        · exact (Nown7 _ q).1
      · ((refine Mine.ex3 (hcode c' e) ?_); intro o' vs t; intro hZ1; (refine Mine.and4 hZ1 ?_); clear hZ1; intro ho' hdt hv hw)
        rcases hw with q | q
        · have := F7.keep _ _ q
          rw [ho] at this; cases this
          exact .inl q
        · have := (Nown7 _ q).1
          rw [ho] at this; cases this
          exact .inr (.tail _ (.tail _ (.tail _ (.tail _ q))))
      intro f c' ctv h8 tk8 ps8 ex F8 N8 ht8 hc8 lf
      simp only [List.cons_append] at N8
      clear F7 N7 Nown7 hcode
      dsimp only
      k_steps
      constructor
      (with_reducible rename Fr _ _ _ _ => F9)
      (with_reducible rename News _ _ _ _ => N9)
      show wpAny _ _ (call (.builtin "sorted") [Value.ref _] [(Str.ofString "key", .ref f)]) _ _ _
      have n1 : A.depth + 20 < recursionLimit := by omega
      refine mid_sort (l := l) (r := r) F9 N9 ?_ ?_
      · by_cases hlt : r.late.1 < l.late.1
        · refine ksk_two (b := false) (v₁ := .ref D1) (v₂ := .ref D2) ((l.late.1 : Nat) : Int) ((r.late.1 : Nat) : Int) F9 N9 (News.isList N9 (.tail _ (.tail _ (.head _)))) (ksk_s1 _ _) (fun _ => ksk_l1 _ _) (fun x => ksk_t1 _ _) (fun h tk own F N => ?_) (fun h tk own F N => ?_) (fun h12 => ?_) (fun _ D c h' tk F N lD => ?_)
          · exact lam_call (k := ((l.late.1 : Nat) : Int)) (tk := t1) (N _ (.head _)).1 (hc8.rec F.keep (fun p hp => N p (List.mem_append_left _ (.tail _ (.tail _ hp))))) ((T.nolimit).keeps F.keep) (News.isList N (.tail _ (.tail _ (.tail _ (.tail _ (.head _)))))) (by simp only [Around.in1_depth, depth_deeper]; omega) rfl rfl (fun h' tk' e => KskEnd.intro (Fr.keeps F e) (News.grown N e) (fun p hp => hp))
          · exact lam_call (k := ((r.late.1 : Nat) : Int)) (tk := t3) (N _ (.head _)).1 (hc8.rec F.keep (fun p hp => N p (List.mem_append_left _ (.tail _ (.tail _ hp))))) ((T.nolimit).keeps F.keep) (News.isList N (.tail _ (.tail _ (.tail _ (.head _))))) (by simp only [Around.in1_depth, depth_deeper]; omega) rfl rfl (fun h' tk' e => KskEnd.intro (Fr.keeps F e) (News.grown N e) (fun p hp => hp))
          · simp only [Bool.false_eq_true, if_false] at h12; omega
          · refine ⟨⟨D, h', tk, c, D2, D1, r.late, l.late, _, _, _, _, _, _, rfl, rfl, F, dup2 N (.tail _ (.tail _ (.tail _ (.head _)))) (.tail _ (.tail _ (.tail _ (.tail _ (.head _))))), ?_⟩⟩
            simp only [Tr.late]
            rw [if_neg (by omega), if_neg (by omega)]
            rfl
        · refine two_sorted (v₁ := .ref D1) (v₂ := .ref D2) (k₁ := ((l.late.1 : Nat) : Int)) (k₂ := ((r.late.1 : Nat) : Int)) F9 N9 (News.isList N9 (.tail _ (.tail _ (.head _)))) (by omega) (fun i v k hv hk h tk own F N => ?_) (fun D h' tk c F N lD => ?_)
          · rcases i with _ | _ | i
            · cases hv; cases hk
              exact lam_call (k := ((l.late.1 : Nat) : Int)) (tk := t1) (N _ (.head _)).1 (hc8.rec F.keep (fun p hp => N p (List.mem_append_left _ (.tail _ (.tail _ hp))))) ((T.nolimit).keeps F.keep) (News.isList N (.tail _ (.tail _ (.tail _ (.tail _ (.head _)))))) (by simp only [Around.in1_depth, depth_deeper]; omega) rfl rfl (fun h' tk' e => KskEnd.intro (Fr.keeps F e) (News.grown N e) (fun p hp => hp))
            · cases hv; cases hk
              exact lam_call (k := ((r.late.1 : Nat) : Int)) (tk := t3) (N _ (.head _)).1 (hc8.rec F.keep (fun p hp => N p (List.mem_append_left _ (.tail _ (.tail _ hp))))) ((T.nolimit).keeps F.keep) (News.isList N (.tail _ (.tail _ (.tail _ (.head _))))) (by simp only [Around.in1_depth, depth_deeper]; omega) rfl rfl (fun h' tk' e => KskEnd.intro (Fr.keeps F e) (News.grown N e) (fun p hp => hp))
            · simp at hv
          · refine ⟨⟨D, h', tk, c, D1, D2, l.late, r.late, _, _, _, _, _, _, rfl, rfl, F, dup2 N (.tail _ (.tail _ (.tail _ (.tail _ (.head _))))) (.tail _ (.tail _ (.tail _ (.head _)))), ?_⟩⟩
            simp only [Tr.late]
            rw [if_pos (by omega)]
      · intro D h' tk c Da Db fa fb ta1 ta2 tb1 tb2 ka kb F10 N10 elate
        clear F9 N9
        refine kun_list F10 N10 (News.isList N10 (.head _)) hh rfl rfl ?_
        intro h11 F11 N11
        clear F10 N10
        have e2 := congrArg Prod.snd elate
        have e1 := congrArg Prod.fst elate
        dsimp only at e1 e2
        clear elate
        k_steps
        · (with_reducible rename Fr _ _ _ _ => F12)
          (with_reducible rename News _ _ _ _ => N12)
          have hq : ((fa.1 : Nat) : Int) = ((fb.1 : Nat) : Int) := by assumption
          refine max_two_N hh F12 N12 ?_
          intro h13 tk13 F13 N13
          clear F12 N12
          k_steps
          (with_reducible rename Fr _ _ _ _ => F14)
          (with_reducible rename News _ _ _ _ => N14)
          refine ret _ _ _ _ _ _ ps8 (fresh_of hBk.h (N14 _ (.head _)).2.2 (ne_tab N14 (.head _) (.tail _ (.tail _ (.tail _ (.tail _ (.tail _ (.head _)))))))) (two_eq (N14 _ (.head _)).1 ?_ (late_max e2)) ⟨(N14 (290, tabObj ps8) (.tail _ (.tail _ (.tail _ (.tail _ (.tail _ (.head _))))))).1, .inr ⟨c', ht8, hc8.rec F14.keep (fun p hp => N14 p (.tail _ (.tail _ (.tail _ (.tail _ (.tail _ (.tail _ hp)))))))⟩⟩ F14.keep
          show ((fb.1 : Nat) : Int) + 1 = _
          rw [e1, if_pos (by omega)]; omega
        · (with_reducible rename Fr _ _ _ _ => F12)
          (with_reducible rename News _ _ _ _ => N12)
          have hq : ((fa.1 : Nat) : Int) ≠ ((fb.1 : Nat) : Int) := by assumption
          refine max_two_N hh F12 N12 ?_
          intro h13 tk13 F13 N13
          clear F12 N12
          k_steps
          (with_reducible rename Fr _ _ _ _ => F14)
          (with_reducible rename News _ _ _ _ => N14)
          refine ret _ _ _ _ _ _ ps8 (fresh_of hBk.h (N14 _ (.head _)).2.2 (ne_tab N14 (.head _) (.tail _ (.tail _ (.tail _ (.tail _ (.tail _ (.head _)))))))) (two_eq (N14 _ (.head _)).1 ?_ (late_max e2)) ⟨(N14 (290, tabObj ps8) (.tail _ (.tail _ (.tail _ (.tail _ (.tail _ (.head _))))))).1, .inr ⟨c', ht8, hc8.rec F14.keep (fun p hp => N14 p (.tail _ (.tail _ (.tail _ (.tail _ (.tail _ (.tail _ hp)))))))⟩⟩ F14.keep
          show ((fb.1 : Nat) : Int) + 0 = _
          rw [e1, if_neg (by omega)]; omega
end Mine
end
section -- Y2
open PySem PySem.W PyProof.Rows PyProof.Rows.LCg PyProof.Rows.LCt
set_option maxRecDepth 100000
set_option linter.unusedVariables false
local macro_rules | `(tactic| omega) => `(tactic| omega +splitDisjunctions)
namespace Mine
theorem zoff_Y2 : True := by
  w_top off
  k_with_none
  k_with "Hid" => (refine Mine.Hid.go (by with_reducible assumption) ?_)
  k_with "execs cons" => ((fail_if_success (with_reducible refine Mine.isHid ?_)); (refine Mine.hideQ fun _ _ => ?_))
  k_with "exec Assign" => ((fail_if_success (with_reducible refine Mine.isHid ?_)); (refine Mine.hideQ fun _ _ => ?_))
  k_with "exec Expr" => ((fail_if_success (with_reducible refine Mine.isHid ?_)); (refine Mine.hideQ fun _ _ => ?_))
  k_with "exec Return" => ((fail_if_success (with_reducible refine Mine.isHid ?_)); (refine Mine.hideQ fun _ _ => ?_))
  k_with "exec AugAssign" => ((fail_if_success (with_reducible refine Mine.isHid ?_)); (refine Mine.hideQ fun _ _ => ?_))
  k_with "exec If" => ((fail_if_success (with_reducible refine Mine.isHid ?_)); (refine Mine.hideQ fun _ _ => ?_))
  trivial
noncomputable def sA (sw : Bool) : Int := if sw then 2 else 1
noncomputable def sB (sw : Bool) : Int := if sw then 1 else 2
theorem sAB (sw : Bool) : 1 ≤ sA sw ∧ sA sw ≤ 2 ∧ sB sw = 3 - sA sw := by cases sw <;> decide
structure OrderAt (b : Heap) (L : Addr) (m : Str → Option Value) (news : List (Addr × Obj)) (sw : Bool) (s : Shared) (v : Value) (s' : Shared) : Prop where
  ex : ∃ lo h' tk' t3 t4, v = .ref lo ∧ s' = { s with heap := h', toks := tk' } ∧ Fr b L h' m ∧ News b L h' ((lo, listOf #[.int (sA sw) t3, .int (sB sw) t4] 0) :: news) ∧ (∀ p ∈ news, @LT.lt Nat _ p.1 lo)
theorem mid_order {M : Model} {A : Around} {t : Sem Value} {Q E : Value → Shared → Prop} {s : Shared} {b : Heap} {L : Addr} {m : Str → Option Value} {news : List (Addr × Obj)} {sw : Bool} (F : Fr b L s.heap m) (N : News b L s.heap news)
    (h1 : wpAny M A t (OrderAt b L m news sw s) E s)
    (h2 : ∀ lo h' tk' t3 t4, Fr b L h' m → News b L h' ((lo, listOf #[.int (sA sw) t3, .int (sB sw) t4] 0) :: news) → (∀ p ∈ news, @LT.lt Nat _ p.1 lo) → Q (.ref lo) { s with heap := h', toks := tk' }) : wpAny M A t Q E s :=
  wpAny_mono h1 (fun v s' q => by ((refine Mine.hideG fun G kG => ?_); (refine Mine.ex5 q.ex ?_); intro lo h' tk' t3 t4; intro hZ1; (refine Mine.and5 hZ1 ?_); clear hZ1; intro hZ2; obtain rfl := hZ2; intro hZ3; obtain rfl := hZ3; intro F N l; (refine kG ?_); clear kG G); exact h2 lo h' tk' t3 t4 F N l) fun _ _ q => q
theorem split5 {B h : Heap} {L : Addr} {p1 p2 p3 p4 p5 : Addr × Obj} {rest : List (Addr × Obj)} (N : News B L h (p1 :: p2 :: p3 :: p4 :: p5 :: rest)) : ∃ fix, fix = [p1, p2, p3, p4, p5] ∧ News B L h (fix ++ rest) := ⟨_, rfl, N⟩
theorem toFix2 {B h : Heap} {L : Addr} {a b p1 p2 p3 p4 p5 : Addr × Obj} {fix rest : List (Addr × Obj)} (e : fix = [p1, p2, p3, p4, p5]) (N : News B L h (a :: b :: p1 :: p2 :: p3 :: p4 :: p5 :: rest)) : News B L h ((a :: b :: fix) ++ rest) := by
  subst e; exact N
noncomputable def rowsOf (n : Nat) (T0 T1 : Tr) : List Nat → List (Str × Str)
  | [] => []
  | [c] => [(nmS (n + 1) c, T0.write)]
  | c :: c' :: _ => [(nmS (n + 1) c, T0.write), (nmS (n + 2) c', T1.write)]
inductive Done (n par : Nat) (ah : Bool) (T0 T1 : Tr) : Nat → List Value → List Int → List Nat → Prop where
  | zero : Done n par ah T0 T1 0 [] [] []
  | one {t : Tok} {c : Nat} {zs : List Int} : AorA c → c = par → zs.length = T0.leaves → (∀ z ∈ zs, z ≤ ((n + T0.peak ah : Nat) : Int)) → ((n + T0.peak ah : Nat) : Int) ∈ zs → Done n par ah T0 T1 1 [.str (nmS (n + 1) c) t] zs [c]
  | two {t t' : Tok} {c c' : Nat} {zs : List Int} : AorA c → c = par → AorA c' → zs.length = T0.leaves + T1.leaves → (∀ z ∈ zs, z ≤ ((n + max (T0.peak ah) (T1.peak ah + 1) : Nat) : Int)) → ((n + max (T0.peak ah) (T1.peak ah + 1) : Nat) : Int) ∈ zs →
      Done n par ah T0 T1 2 [.str (nmS (n + 1) c) t, .str (nmS (n + 2) c') t'] zs [c, c']
theorem Done.len {n par : Nat} {ah : Bool} {T0 T1 : Tr} {i : Nat} {ys : List Value} {zs : List Int} {cl : List Nat} (h : Done n par ah T0 T1 i ys zs cl) : (rowsOf n T0 T1 cl).length = i ∧ zs.length = (if i = 0 then 0 else if i = 1 then T0.leaves else T0.leaves + T1.leaves) := by
  cases h with
  | zero => exact ⟨rfl, rfl⟩
  | one a b c d e => exact ⟨rfl, c⟩
  | two a b c d e f => exact ⟨rfl, d⟩
theorem Done.named {xs : List (Str × Str)} {cs : List Nat} {par : Nat} {ah : Bool} {T0 T1 : Tr} {i : Nat} {ys : List Value} {zs : List Int} {cl : List Nat} (hn : Named xs cs) (h : Done xs.length par ah T0 T1 i ys zs cl) : Named (xs ++ rowsOf xs.length T0 T1 cl) (cs ++ cl) := by
  cases h with
  | zero => simpa [rowsOf] using hn
  | one a b c d e => exact hn.snoc a _
  | two a b c d e f =>
    have h1 := (hn.snoc a T0.write).snoc c T1.write
    simpa [rowsOf] using h1
theorem Done.step {n par : Nat} {ah : Bool} {T0 T1 Ti : Tr} {i : Nat} {ys : List Value} {zs zs' : List Int} {cl : List Nat} {c : Nat} {tn : Tok} (h : Done n par ah T0 T1 i ys zs cl) (hi : i < 2) (hT : Ti = if i = 0 then T0 else T1)
    (hc : AorA c) (hp : i = 0 → c = par) (hl : zs'.length = Ti.leaves) (hb : ∀ z ∈ zs', z ≤ ((n + i + Ti.peak ah : Nat) : Int)) (hm : ((n + i + Ti.peak ah : Nat) : Int) ∈ zs') :
    Done n par ah T0 T1 (i + 1) (ys ++ [.str (nmS (n + i + 1) c) tn]) (zs ++ zs') (cl ++ [c]) ∧ rowsOf n T0 T1 (cl ++ [c]) = rowsOf n T0 T1 cl ++ [(nmS (n + i + 1) c, Ti.write)] := by
  cases h with
  | zero =>
    simp only [if_true] at hT
    subst hT
    exact ⟨.one hc (hp rfl) hl hb hm, rfl⟩
  | one a b e f g =>
    simp only [Nat.one_ne_zero, if_false] at hT
    subst hT
    refine ⟨.two a b hc (by simp [e, hl]) (fun z hz => ?_) ?_, rfl⟩
    · rcases List.mem_append.mp hz with hz | hz
      · exact step_a (f z hz)
      · exact step_b (hb z hz)
    · by_cases hle : Ti.peak ah + 1 ≤ T0.peak ah
      · rw [step_c hle]
        exact List.mem_append_left _ g
      · rw [step_d hle]
        exact List.mem_append_right _ hm
  | two => omega
structure CompJ (w : World) (b₀ B : Heap) (fix : List (Addr × Obj)) (r d l u : Addr) (tkd : Tok) (xs : List (Str × Str)) (ns : List Int) (par : Nat) (ah : Bool) (T0 T1 : Tr) (i : Nat) (ys : List Value) (news : List (Addr × Obj)) : Prop where
  ex : ∃ vs us nl nu zs cl own, news = fix ++ (r, instObj 227 d) :: (d, dictOf [⟨PyData.keyHash w.params (Str.ofString "_headers"), .str (Str.ofString "_headers") tkd, .ref l⟩] 1) :: (l, listOf (List.toArray vs) nl) :: (u, listOf (List.toArray us) nu) :: own ∧
    (∀ p ∈ fix, ∀ q ∈ own, q.1 ≠ p.1) ∧ (∀ q ∈ own, q.1 ≠ r ∧ q.1 ≠ d ∧ q.1 ≠ l ∧ q.1 ≠ u) ∧ RowsIn B own vs (xs ++ rowsOf xs.length T0 T1 cl) ∧ (∀ a : Addr, Value.ref a ∈ vs → b₀.get? a = none) ∧ IntsAre us (ns ++ zs) ∧ Done xs.length par ah T0 T1 i ys zs cl
theorem CompJ.init {w : World} {b₀ B : Heap} {fix : List (Addr × Obj)} {r d l u : Addr} {tkd : Tok} {xs : List (Str × Str)} {ns : List Int} {par : Nat} {ah : Bool} {T0 T1 : Tr} {vs us : List Value} {nl nu : Nat} {p1 p2 : Nat → Tok}
    (h4 : vs.length = xs.length) (hrows : ∀ i v, vs[i]? = some v → ∃ T, v = .ref T ∧ B.IsTuple T #[.str (xs.getD i default).1 (p1 i), .str (xs.getD i default).2 (p2 i)]) (hoff : ∀ a : Addr, Value.ref a ∈ vs → b₀.get? a = none) (hus : IntsAre us ns) :
    CompJ w b₀ B fix r d l u tkd xs ns par ah T0 T1 0 [] (fix ++ [(r, instObj 227 d), (d, dictOf [⟨PyData.keyHash w.params (Str.ofString "_headers"), .str (Str.ofString "_headers") tkd, .ref l⟩] 1), (l, listOf (List.toArray vs) nl), (u, listOf (List.toArray us) nu)]) := by
  refine ⟨vs, us, nl, nu, [], [], [], rfl, (fun _ _ _ h => nomatch h), (fun _ h => nomatch h), ⟨by simpa [rowsOf] using h4, p1, p2, fun i v hv => ?_⟩, hoff, by simpa using hus, .zero⟩
  ((refine Mine.hideG fun G kG => ?_); (refine Exists.elim (hrows i v hv) ?_); intro T; intro hZ1; (refine And.elim ?_ hZ1); clear hZ1; intro hT; intro hZ2; (refine Exists.elim hZ2 ?_); clear hZ2; intro o; intro hZ3; (refine Mine.and3 hZ3 ?_); clear hZ3; intro ho hc hdat; (refine kG ?_); clear kG G)
  refine ⟨T, o, hT, hc, ?_, .inl ho⟩
  simpa [rowsOf] using hdat
theorem leaves_pos : ∀ t : Tr, 1 ≤ t.leaves
  | .leaf _ => Nat.le_refl _
  | .node l r => by have := leaves_pos l; simp only [Tr.leaves]; omega
theorem all8 {α : Type} {P : α → Prop} {a b c d e f g h : α} (ha : P a) (hb : P b) (hc : P c) (hd : P d) (he : P e) (hf : P f) (hg : P g) (hh : P h) : ∀ p ∈ [a, b, c, d, e, f, g, h], P p :=
  List.forall_mem_cons.2 ⟨ha, List.forall_mem_cons.2 ⟨hb, List.forall_mem_cons.2 ⟨hc, List.forall_mem_cons.2 ⟨hd, List.forall_mem_cons.2 ⟨he, List.forall_mem_cons.2 ⟨hf, List.forall_mem_cons.2 ⟨hg, List.forall_mem_cons.2 ⟨hh, fun _ q => nomatch q⟩⟩⟩⟩⟩⟩⟩⟩
theorem ti_facts {T0 T1 tl tr Ti : Tr} {i : Nat} (hi : i < 2) (e : Ti = if i = 0 then T0 else T1) (h : T0.leaves + T1.leaves = tl.leaves + tr.leaves ∧ T0.size + T1.size = tl.size + tr.size ∧ T0.Good ∧ T1.Good) :
    Ti.Good ∧ Ti.size ≤ tl.size + tr.size ∧ Ti.leaves ≤ tl.leaves + tr.leaves ∧ i + Ti.leaves ≤ tl.leaves + tr.leaves ∧ (if i = 0 then 0 else T0.leaves) + Ti.leaves ≤ tl.leaves + tr.leaves := by
  rw [e, ← h.1, ← h.2.1]
  match i, hi with
  | 0, _ => exact ⟨h.2.2.1, Nat.le_add_right _ _, Nat.le_add_right _ _, (Nat.zero_add _).symm ▸ Nat.le_add_right _ _, (Nat.zero_add _).symm ▸ Nat.le_add_right _ _⟩
  | 1, _ => exact ⟨h.2.2.2, Nat.le_add_left _ _, Nat.le_add_left _ _, Nat.add_le_add_right (leaves_pos T0) _, Nat.le_refl _⟩
theorem zs_at {i a b : Nat} (h : i < 2) : (if i = 0 then 0 else if i = 1 then a else b) = if i = 0 then 0 else a := by
  match i, h with
  | 0, _ => rfl
  | 1, _ => rfl
theorem ti_room {ns zs : List Int} {a b c : Nat} (h : ns.length + c ≤ 20) (e : zs.length = a) (g : a + b ≤ c) : (ns ++ zs).length + b ≤ 20 := by
  rw [List.length_append, e, Nat.add_assoc]; exact Nat.le_trans (Nat.add_le_add_left g _) h
theorem my_delItem {M : Model} {A : Around} {E : Value → Shared → Prop} {s : Shared} {K : Frag} {x C L f : Addr} {h₀ : Heap} {m : Str → Option Value} {ox : Obj} {od : Option Obj} {i : Value} {Q : Unit → Shared → Prop} (F : Fr h₀ L s.heap m) (X₀ : K.In h₀) (I : InstAt s.heap x ox C od) (hq : noSeq K C = true) (hs : findIn K (.ref C) "__delitem__" = some (some (.ref f))) (hf : isFn K (.ref f) = true)
    (h : wpAny M A (call (.ref f) [.ref x, i]) (fun _ s' => Q () s') E s) : wpAny M A (delItem (.ref x) i) Q E s := by
  have X := X₀.keeps F.keep
  unfold delItem sequenceKey
  refine wpAny_holding (wpAny_bind (wpAny_bind (I.type.here ?_)))
  refine wpAny_bind ((anyM_none X hq).here ?_)
  rw [if_pos (show (!false) = true from rfl)]
  exact wpAny_pure (wpAny_bind (special_fn X I hs (beq_iff_eq.mp hf) (wpAny_mono h (fun _ _ z => wpAny_pure z) fun _ _ z => z)))
theorem ext_more {h h' : Heap} {l u : Addr} (e : Ext (hideAll h [l]) h') : Ext (hideAll h [l, u]) h' := fun b o q => by
  have hm : b ∉ [l, u] := fun m => by rw [hideAll_none _ m] at q; cases q
  exact e b o (hideAll_get _ (of_hideAll _ q) (fun m => hm (by rw [List.mem_singleton.mp m]; exact .head _)))
theorem zk_Y2_1 : True := by
  k_with "UnrEnd" => (refine Stop.h ?_)
  k_with "call builtin:min" => (refine Stop.h ?_)
  k_with "delItem ref str" => (refine Stop.h ?_)
  trivial
theorem names_at {xs : List (Str × Str)} {cs : List Nat} {c c' : Nat} {t t' : Tok} {T0 T1 tl tr : Tr} {sw : Bool} (h : Named (xs ++ [(nmS (xs.length + 1) c, T0.write), (nmS (xs.length + 2) c', T1.write)]) cs) (hc : AorA c) (hc' : AorA c') (hx : xs.length ≤ 20)
    (e0 : T0 = if sw then tr else tl) (e1 : T1 = if sw then tl else tr) :
    (∃ y ty, (OkName y ∧ getOf y (xs ++ [(nmS (xs.length + 1) c, T0.write), (nmS (xs.length + 2) c', T1.write)]) = some tl.write) ∧ (#[Value.str (nmS (xs.length + 1) c) t, Value.str (nmS (xs.length + 2) c') t'] : Array Value).getD (sA sw - 1).toNat .none = .str y ty) ∧
    (∃ y ty, (OkName y ∧ getOf y (xs ++ [(nmS (xs.length + 1) c, T0.write), (nmS (xs.length + 2) c', T1.write)]) = some tr.write) ∧ (#[Value.str (nmS (xs.length + 1) c) t, Value.str (nmS (xs.length + 2) c') t'] : Array Value).getD (sB sw - 1).toNat .none = .str y ty) := by
  have g0 := h.get_some (i := xs.length) (q := (nmS (xs.length + 1) c, T0.write)) hc (by rw [List.getElem?_append_right (Nat.le_refl _)]; simp)
  have g1 := h.get_some (i := xs.length + 1) (q := (nmS (xs.length + 2) c', T1.write)) hc' (by rw [List.getElem?_append_right (by omega)]; simp)
  have k0 := nm_okName (n := xs.length + 1) (c := c) (by omega) hc
  have k1 := nm_okName (n := xs.length + 2) (c := c') (by omega) hc'
  cases sw
  · simp only [Bool.false_eq_true, if_false] at e0 e1
    subst e0 e1
    exact ⟨⟨_, t, ⟨k0, g0⟩, rfl⟩, ⟨_, t', ⟨k1, g1⟩, rfl⟩⟩
  · simp only [if_true] at e0 e1
    subst e0 e1
    exact ⟨⟨_, t', ⟨k1, g1⟩, rfl⟩, ⟨_, t, ⟨k0, g0⟩, rfl⟩⟩
theorem done_text {n par : Nat} {ah : Bool} {T0 T1 : Tr} {i : Nat} {ys : List Value} {zs : List Int} {cl : List Nat} (h : Done n par ah T0 T1 i ys zs cl) (h0 : OkText T0.write) (h1 : OkText T1.write) : ∀ q ∈ rowsOf n T0 T1 cl, OkText q.2 := by
  cases h with
  | zero => intro q hq; cases hq
  | one => intro q hq; rw [List.mem_singleton.mp hq]; exact h0
  | two =>
    intro q hq
    simp only [rowsOf, List.mem_cons, List.not_mem_nil, or_false] at hq
    rcases hq with rfl | rfl
    · exact h0
    · exact h1
theorem item_led {prog : Program} {w : World} {A : Around} {E : Value → Shared → Prop} {s : Shared} {h₀ : Heap} {L l : Addr} {news : List (Addr × Obj)} {arr : Array Value} {n : Nat} {x : Value} {value slice : PySem.Expr} {k : Int} {u : Tok} {Q : Value → Shared → Prop}
    (N : News h₀ L s.heap news) (hm : (l, listOf arr n) ∈ news) (h0 : 0 ≤ k) (h1 : k < 1000) (hx : arr[k.toNat]? = some x) (h : Q x s)
    (hs : subscripted slice false (.ref l) (.int k u) = operate [.ref l, .int k u] (getItem (.ref l) (.int k u)) := by with_unfolding_all rfl) :
    wpAny (model prog w) A (subscriptTail value slice (.ref l) (.int k u)) Q E s := by
  have hl : s.heap.IsList l arr := ⟨_, (N _ hm).1, rfl, n, rfl⟩
  exact tail_any hl.typeIs slot_list_getitem.lookup (wpAny_getItem_list hl h0 (by omega) hx h) hs
theorem zk_Y2_2 : True := by
  k_with "compareOp Lt str str" => (refine Stop.h ?_)
  k_with "compareOp Gt str str" => (refine Stop.h ?_)
  trivial
theorem my_lt {prog : Program} {w : World} {A : Around} {E : Value → Shared → Prop} {s : Shared} {x y : Str} {t u : Tok} {Q : Value → Shared → Prop} (h : Q (.bool (decide (x.cps.toList < y.cps.toList))) s) : wpAny (model prog w) A (compareOp .Lt (.str x t) (.str y u)) Q E s :=
  compareOp_gives (op := .Lt) (typeIs_str s x t) (typeIs_str s y u) F.slot_str_lt F.entry_str_lt (F.args_str_lt_2 _ _) (gives_str_lt x y t u) (fun e => nomatch e) h
theorem my_gt {prog : Program} {w : World} {A : Around} {E : Value → Shared → Prop} {s : Shared} {x y : Str} {t u : Tok} {Q : Value → Shared → Prop} (h : Q (.bool (decide (y.cps.toList < x.cps.toList))) s) : wpAny (model prog w) A (compareOp .Gt (.str x t) (.str y u)) Q E s :=
  compareOp_gives (op := .Gt) (typeIs_str s x t) (typeIs_str s y u) F.slot_str_gt F.entry_str_gt (F.args_str_gt_2 _ _) (gives_str_gt x y t u) (fun e => nomatch e) h
theorem zk_Y2_3 : True := by
  k_with "execs nil" => (refine wpAny_execs_nil ?_)
  k_with "eval ListComp" => (refine Stop.h ?_)
  trivial
theorem len_base {prog : Program} {w : World} {A : Around} {E : Value → Shared → Prop} {s : Shared} {b : Heap} {L a : Addr} {m : Str → Option Value} {items : Array Value} {Q : Value → Shared → Prop} (F : Fr b L s.heap m) (hl : b.IsList a items) (k : Int) (hk : (items.size : Int) = k) (hs : k < 1000)
    (h : ∀ t k', Q (.int k t) { s with toks := k' }) : wpAny (model prog w) A (call (.builtin "len") [.ref a]) Q E s := by
  refine len_list (IsList.ext hl F.keep) (by omega) ?_
  rw [hk]
  exact h _ _
theorem zk_Y2_4 : True := by
  k_with "call builtin:len" => ((with_reducible rename Fr _ _ _ _ => FZq); first | (refine len_base FZq (by assumption) 2 rfl (by decide) ?_) | (refine len_base FZq (by assumption) 3 rfl (by decide) ?_); intro _ _)
  trivial
theorem eq_int_t {prog : Program} {w : World} {A : Around} {E : Value → Shared → Prop} {s : Shared} {a b : Int} {t u : Tok} {Q : Value → Shared → Prop} (e : (a == b) = true) (h : Q (.bool true) s) : wpAny (model prog w) A (compareOp .Eq (.int a t) (.int b u)) Q E s := PyProof.Rows.eq_int (by rw [e]; exact h)
theorem eq_int_f {prog : Program} {w : World} {A : Around} {E : Value → Shared → Prop} {s : Shared} {a b : Int} {t u : Tok} {Q : Value → Shared → Prop} (e : (a == b) = false) (h : Q (.bool false) s) : wpAny (model prog w) A (compareOp .Eq (.int a t) (.int b u)) Q E s := PyProof.Rows.eq_int (by rw [e]; exact h)
theorem item_base {prog : Program} {w : World} {A : Around} {E : Value → Shared → Prop} {s : Shared} {b : Heap} {L l : Addr} {m : Str → Option Value} {arr : Array Value} {x : Value} {k : Int} {value slice : PySem.Expr} {u : Tok} {Q : Value → Shared → Prop}
    (F : Fr b L s.heap m) (hl : b.IsList l arr) (h0 : 0 ≤ k) (h1 : k < 1000) (hx : arr[k.toNat]? = some x) (h : Q x s)
    (hs : subscripted slice false (.ref l) (.int k u) = operate [.ref l, .int k u] (getItem (.ref l) (.int k u)) := by with_unfolding_all rfl) :
    wpAny (model prog w) A (subscriptTail value slice (.ref l) (.int k u)) Q E s := by
  have hl2 : s.heap.IsList l arr := IsList.ext hl F.keep
  exact tail_any hl2.typeIs slot_list_getitem.lookup (wpAny_getItem_list hl2 h0 (by omega) hx h) hs
theorem item_b31 {prog : Program} {w : World} {A : Around} {E : Value → Shared → Prop} {s : Shared} {b : Heap} {L l : Addr} {m : Str → Option Value} {x y z : Value} {value slice : PySem.Expr} {u : Tok} {Q : Value → Shared → Prop}
    (F : Fr b L s.heap m) (hl : b.IsList l #[x, y, z]) (h : Q y s) (hs : subscripted slice false (.ref l) (.int 1 u) = operate [.ref l, .int 1 u] (getItem (.ref l) (.int 1 u)) := by with_unfolding_all rfl) :
    wpAny (model prog w) A (subscriptTail value slice (.ref l) (.int 1 u)) Q E s := item_base F hl (by decide) (by decide) rfl h hs
theorem item_b32 {prog : Program} {w : World} {A : Around} {E : Value → Shared → Prop} {s : Shared} {b : Heap} {L l : Addr} {m : Str → Option Value} {x y z : Value} {value slice : PySem.Expr} {u : Tok} {Q : Value → Shared → Prop}
    (F : Fr b L s.heap m) (hl : b.IsList l #[x, y, z]) (h : Q z s) (hs : subscripted slice false (.ref l) (.int 2 u) = operate [.ref l, .int 2 u] (getItem (.ref l) (.int 2 u)) := by with_unfolding_all rfl) :
    wpAny (model prog w) A (subscriptTail value slice (.ref l) (.int 2 u)) Q E s := item_base F hl (by decide) (by decide) rfl h hs
theorem item_b21 {prog : Program} {w : World} {A : Around} {E : Value → Shared → Prop} {s : Shared} {b : Heap} {L l : Addr} {m : Str → Option Value} {x y : Value} {value slice : PySem.Expr} {u : Tok} {Q : Value → Shared → Prop}
    (F : Fr b L s.heap m) (hl : b.IsList l #[x, y]) (h : Q y s) (hs : subscripted slice false (.ref l) (.int 1 u) = operate [.ref l, .int 1 u] (getItem (.ref l) (.int 1 u)) := by with_unfolding_all rfl) :
    wpAny (model prog w) A (subscriptTail value slice (.ref l) (.int 1 u)) Q E s := item_base F hl (by decide) (by decide) rfl h hs
theorem zk_Y2_5 : True := by
  k_with "subscriptTail" => ((with_reducible rename Fr _ _ _ _ => FZq); first | (refine item_b31 FZq (by assumption) ?_) | (refine item_b32 FZq (by assumption) ?_) | (refine item_b21 FZq (by assumption) ?_) | (refine item_base FZq (by assumption) (by first | decide | assumption) (by first | decide | assumption) (by assumption) ?_) | (refine item_led (by assumption) (by k_mem) (by decide) (by decide) rfl ?_) | (refine Stop.h ?_))
  k_with "subscriptTail Name Constant ref int" => ((with_reducible rename Fr _ _ _ _ => FZq); first | (refine item_b31 FZq (by assumption) ?_) | (refine item_b32 FZq (by assumption) ?_) | (refine item_b21 FZq (by assumption) ?_) | (refine item_base FZq (by assumption) (by first | decide | assumption) (by first | decide | assumption) (by assumption) ?_) | (refine item_led (by assumption) (by k_mem) (by decide) (by decide) rfl ?_) | (refine Stop.h ?_))
  k_with "subscriptTail Name Name ref int" => ((with_reducible rename Fr _ _ _ _ => FZq); first | (refine item_b31 FZq (by assumption) ?_) | (refine item_b32 FZq (by assumption) ?_) | (refine item_b21 FZq (by assumption) ?_) | (refine item_base FZq (by assumption) (by first | decide | assumption) (by first | decide | assumption) (by assumption) ?_) | (refine item_led (by assumption) (by k_mem) (by decide) (by decide) rfl ?_) | (refine Stop.h ?_))
  k_with "subscriptTail Subscript Constant ref int" => ((with_reducible rename Fr _ _ _ _ => FZq); first | (refine item_b31 FZq (by assumption) ?_) | (refine item_b32 FZq (by assumption) ?_) | (refine item_b21 FZq (by assumption) ?_) | (refine item_base FZq (by assumption) (by first | decide | assumption) (by first | decide | assumption) (by assumption) ?_) | (refine item_led (by assumption) (by k_mem) (by decide) (by decide) rfl ?_) | (refine Stop.h ?_))
  k_with "last subscriptTail" => ((with_reducible rename Fr _ _ _ _ => FZq); first | (refine item_b31 FZq (by assumption) ?_) | (refine item_b32 FZq (by assumption) ?_) | (refine item_b21 FZq (by assumption) ?_) | (refine item_base FZq (by assumption) (by first | decide | assumption) (by first | decide | assumption) (by assumption) ?_) | (refine item_led (by assumption) (by k_mem) (by decide) (by decide) rfl ?_) | (refine Stop.h ?_))
  k_with "compareOp Eq int int" => (first | (refine eq_int_t (by decide) ?_) | (refine eq_int_f (by decide) ?_))
  k_with "CompSrc" => (refine Stop.h ?_)
  k_with "eval IfExp" => (refine Stop.h ?_)
  trivial
set_option maxHeartbeats 8000000 in
theorem work_spec (w : World) {p : Program} {loose : List Str} {mean : ExcName → Option Value} {mg mb : Str → Option Value} : ∀ (n : Nat) (t : Tr), t.size ≤ n → ∀ (b₀ : Heap) (r d l u : Addr) (vs us : List Value) (ns : List Int) (nu : Nat) (xs : List (Str × Str)) (cs : List Nat) (ah : Bool) (v : Value) (A : Around) (s : Shared) (Q E : Value → Shared → Prop)
    (X : (KX w.params).In b₀) (T : Top p loose mean mg mb b₀) (hb : Ext b₀ s.heap) (off : ∀ a ∈ [r, d, l, u], b₀.get? a = none) (H : Rack w s.heap r d l vs xs) (hu : s.heap.get? u = some (listOf us.toArray nu)) (hus : IntsAre us ns) (hul : u ≠ l)
    (hoff : ∀ a : Addr, Value.ref a ∈ vs → b₀.get? a = none) (hd : A.depth + t.size + 40 < recursionLimit) (hh : A.handled = none) (hnm : Named xs cs) (hxt : ∀ q ∈ xs, OkText q.2) (hsz : xs.length + t.leaves ≤ 20) (hns : ns.length + t.leaves ≤ 20)
    (hpl : PlanAt b₀ v t) (hok : t.Good) (htl : t.leaves ≤ 8)
    (ret : ∀ vs' tn us' nu' zs c h' tk', (∀ a : Addr, Value.ref a ∈ vs' → b₀.get? a = none) → Ext (hideAll s.heap [l, u]) h' → AorA c → c = (if ns.length % 2 = 1 then 65 else 97) → Rack w h' r d l vs' (xs ++ [(nmS (xs.length + 1) c, t.write)]) → h'.get? u = some (listOf (List.toArray us') nu') → IntsAre us' (ns ++ zs) →
      zs.length = t.leaves → (∀ z ∈ zs, z ≤ ((xs.length + t.peak ah : Nat) : Int)) → ((xs.length + t.peak ah : Nat) : Int) ∈ zs → Q (.str (nmS (xs.length + 1) c) tn) { s with heap := h', toks := tk' }),
    wpAny (model PySem.Challenge.rw_sh0039_01.row.prog w) A (call (.ref 276) [v, .ref r, .bool ah, .ref u]) Q E s := by
  k_fill
  intro n
  induction n with
  | zero => intro t h; cases t <;> simp [Tr.size] at h
  | succ n ih =>
    intro t hn b₀ r d l u vs us ns nu xs cs ah v A s Q E X T hb off H hu hus hul hoff hd hh hnm hxt hsz hns hpl hok htl ret
    have hd0 : A.depth < recursionLimit := by omega
    have H0 := H
    obtain ⟨h1, ⟨tkd, h2⟩, ⟨n0, h3⟩, h4, ⟨p1, p2, h5⟩⟩ := H
    ((refine Mine.and3 (ne3 h1 h2 h3) ?_); intro n1 n2 n3)
    have hru : @Ne Nat r u := fun e => by rw [e, hu] at h1; simp at h1
    have hdu : @Ne Nat d u := fun e => by rw [e, hu] at h2; simp at h2
    have hbu : Ext b₀ (hideAll s.heap [r, d, l, u]) := hide_ext hb off
    have hr : RowsOk xs := hnm.rowsOk (by omega) hxt
    have hoff3 : ∀ a ∈ [r, d, l], b₀.get? a = none := fun a ha => off a (List.mem_append_left [u] ha)
    k_dflt (refine' enterHC (hs := [r, d, l, u]) (news := [(r, instObj 227 d), (d, dictOf [⟨PyData.keyHash w.params (Str.ofString "_headers"), .str (Str.ofString "_headers") tkd, .ref l⟩] 1), (l, listOf vs.toArray n0), (u, listOf us.toArray nu)]) (K := KX w.params) (X.keeps hbu) (T.keeps hbu) ?kn ?k6 ?k7 hd0 ?k9 ?kB ?kD ?_ ?c2 ?c3 ?c4)
    (case kn => exact all4 ⟨h1, .head _⟩ ⟨h2, .tail _ (.head _)⟩ ⟨h3, .tail _ (.tail _ (.head _))⟩ ⟨hu, .tail _ (.tail _ (.tail _ (.head _)))⟩)
    (case k6 => k_is)
    (case k7 => k_is)
    (case k9 => exact BindsTo.of_eq rfl)
    (case kB => exact rfl)
    (case kD => decide +kernel)
    (case c2 => exact rfl)
    (case c3 => exact rfl)
    (case c4 => exact rfl)
    have X0 := X
    have T0 := T
    have st : Stop ((xs.length + t.leaves ≤ 20 ∧ ns.length + t.leaves ≤ 20 ∧ t.leaves ≤ 8) ∧ t.Good ∧ A.depth + t.size + 40 < recursionLimit ∧ t.size ≤ n + 1) := ⟨⟨hsz, hns, htl⟩, hok, hd, hn⟩
    clear X T hsz hns htl hok hd hn
    intro h₁ tk1 cells F N Y X T l1
    (try k_lt l1)
    k_cells Y
    (try simp only [List.cons_append, List.nil_append] at N)
    (try dsimp only)
    rename_i oA oB oC oD dA dB dC dD
    replace dA : oA.data = Data.cell (some (.ref u)) := dA.trans (by kernel_rfl)
    replace dB : oB.data = Data.cell (some (.bool ah)) := dB.trans (by kernel_rfl)
    replace dC : oC.data = Data.cell (some (.ref r)) := dC.trans (by kernel_rfl)
    replace dD : oD.data = Data.cell (some v) := dD.trans (by kernel_rfl)
    have key : ∃ M, Fr (hideAll s.heap [r, d, l, u]) s.heap.objs.size h₁ M := ⟨_, F⟩
    clear F
    ((refine Exists.elim key ?_); (try clear key); intro M0 F)
    have sv : Stop ((s.heap.get? r = some (instObj 227 d) ∧ s.heap.get? d = some (dictOf [⟨PyData.keyHash w.params (Str.ofString "_headers"), .str (Str.ofString "_headers") tkd, .ref l⟩] 1) ∧ s.heap.get? l = some (listOf vs.toArray n0) ∧ s.heap.get? u = some (listOf us.toArray nu)) ∧
        (∀ i v, vs[i]? = some v → ∃ T, v = .ref T ∧ s.heap.IsTuple T #[.str (xs.getD i default).1 (p1 i), .str (xs.getD i default).2 (p2 i)])) := ⟨⟨h1, h2, h3, hu⟩, h5⟩
    clear h1 h2 h3 hu h5
    have hrows : ∀ i v, vs[i]? = some v → ∃ T, v = .ref T ∧ (hideAll s.heap [r, d, l, u]).IsTuple T #[.str (xs.getD i default).1 (p1 i), .str (xs.getD i default).2 (p2 i)] := fun i v hv => by
      ((refine Exists.elim (sv.h.2 i v hv) ?_); intro T; intro hZ1; (refine And.elim ?_ hZ1); clear hZ1; intro hT hU)
      refine ⟨T, hT, hide_tupN (fun a ha o ho => ?_) hU⟩
      ((refine And.elim ?_ sv.h); intro hZ1; (refine Mine.and4 hZ1 ?_); clear hZ1; intro h1 h2 h3 hu; intro hZ2; obtain - := hZ2)
      replace ha := mem4 ha
      (rcases ha with hZ | hZ | hZ | hZ <;> ((replace hZ := Eq.symm hZ); obtain rfl := hZ))
      · cases h1.symm.trans ho; simp
      · cases h2.symm.trans ho; simp
      · cases h3.symm.trans ho; simp
      · cases hu.symm.trans ho; simp
    have hBn : ∀ a ∈ [r, d, l, u], (hideAll s.heap [r, d, l, u]).get? a = none := fun a ha => hideAll_none _ ha
    have hBe : Stop (∀ b o, b ≠ r → b ≠ d → b ≠ l → b ≠ u → s.heap.get? b = some o → (hideAll s.heap [r, d, l, u]).get? b = some o) := ⟨fun b o q1 q2 q3 q4 e => hideAll_get _ e (by simp [q1, q2, q3, q4])⟩
    generalize hideAll s.heap [r, d, l, u] = B at *
    cases hpl with
    | @leaf a c t1 t2 hL =>
      have hLb : B.IsList a #[.str (dotsS 1) t1, .str c t2] := IsList.ext hL hbu
      (try k_fold)
      k_steps
      (with_reducible rename Fr _ _ _ _ => F1)
      have st1 := st.h
      have hct : OkText c := good_text st1.2.1 st1.1.2.2
      refine lay_spec w b₀ r d l u vs us ns nu xs cs c _ _ _ _ _ X0 T0 (hbu.trans F1.keep) off (rack_of N F1.keep (by k_mem) (by k_mem) (by k_mem) h4 hrows) (N (u, listOf us.toArray nu) (by k_mem)).1 hus hul hoff (by simp only [depth_deeper]; omega) hh hnm hct hxt (by omega) (by omega) ?_
      intro v' tn us' nu' h' tk' hv' e' R' hu' hi'
      repeat (refine Mine.Hid.go (by with_reducible assumption) ?_)
      refine ret (vs ++ [v']) tn us' nu' [((xs.length + 1 : Nat) : Int)] _ _ _ (fun a ha => ?_) (ext_lu (fun b o q1 q2 q3 q4 e => F1.keep b o (hBe.h b o q1 q2 q3 q4 e)) (fun o e => ?_) (fun o e => ?_) e') (by split; exact .inr rfl; exact .inl rfl) rfl R' hu' hi' rfl (fun z hz => by rw [List.mem_singleton.mp hz]; exact Int.le_refl _) (List.mem_singleton.mpr rfl)
      · rcases List.mem_append.mp ha with ha | ha
        · exact hoff a ha
        · exact none_base (hide_ext (hbu.trans F1.keep) off) (hv' a (List.mem_singleton.mp ha).symm)
      · rw [sv.h.1.1] at e; cases e; exact (N (r, instObj 227 d) (by k_mem)).1
      · rw [sv.h.1.2.1] at e; cases e; exact (N (d, dictOf [⟨PyData.keyHash w.params (Str.ofString "_headers"), .str (Str.ofString "_headers") tkd, .ref l⟩] 1) (by k_mem)).1
    | @node a v₁ v₂ tl tr t1 hL hp1 hp2 =>
      have hLb : B.IsList a #[.str (dotsS (Tr.node tl tr).ersh) t1, v₁, v₂] := IsList.ext hL hbu
      ((refine Mine.ex3 hp1.head ?_); intro a1 arr1 tq1; intro hZ1; (refine Mine.and3 hZ1 ?_); clear hZ1; intro hZ2; obtain rfl := hZ2; intro hl1 hx1)
      ((refine Mine.ex3 hp2.head ?_); intro a2 arr2 tq2; intro hZ1; (refine Mine.and3 hZ1 ?_); clear hZ1; intro hZ2; obtain rfl := hZ2; intro hl2 hx2)
      have hlb1 : B.IsList a1 arr1 := IsList.ext hl1 hbu
      have hlb2 : B.IsList a2 arr2 := IsList.ext hl2 hbu
      replace hx1 : arr1[Int.toNat 0]? = some (.str (dotsS tl.ersh) tq1) := hx1
      replace hx2 : arr2[Int.toNat 0]? = some (.str (dotsS tr.ersh) tq2) := hx2
      obtain ⟨sw, hsw⟩ : ∃ sw, sw = Tr.swp ah tl tr := ⟨_, rfl⟩
      (try k_fold)
      k_steps
      constructor
      (with_reducible rename Fr _ _ _ _ => F1)
      refine mid_order (b := B) (sw := sw) F1 N ?_ ?_
      · refine wpAny_IfExp ?_
        cases ah with
        | true =>
          have e : Tr.swp true tl tr = decide (tl.ersh < tr.ersh) := rfl
          rw [e] at hsw
          k_steps
          constructor
          refine my_lt ?_
          refine wpAny_truthy_bool ?_
          rw [show decide ((dotsS tl.ersh).cps.toList < (dotsS tr.ersh).cps.toList) = sw from by rw [hsw]; exact decide_eq_decide.mpr (by simpa [dotsS] using rep_lt)]
          cases sw with
          | true =>
            rw [if_pos rfl]
            k_steps
            (with_reducible rename Fr _ _ _ _ => F2)
            (with_reducible rename News _ _ _ _ => N2)
            (with_reducible rename _ < _ ∧ _ => l2)
            exact ⟨⟨_, _, _, _, _, rfl, rfl, F2, N2, by
              refine all8 ?_ ?_ ?_ ?_ ?_ ?_ ?_ ?_ <;> first | exact l2.1 | exact l2.2.1 | exact l2.2.2.1 | exact l2.2.2.2.1 | exact l2.2.2.2.2.1 | exact l2.2.2.2.2.2.1 | exact l2.2.2.2.2.2.2.1 | exact l2.2.2.2.2.2.2.2 | (dsimp only; omega)⟩⟩
          | false =>
            rw [if_neg Bool.false_ne_true]
            k_steps
            (with_reducible rename Fr _ _ _ _ => F2)
            (with_reducible rename News _ _ _ _ => N2)
            (with_reducible rename _ < _ ∧ _ => l2)
            exact ⟨⟨_, _, _, _, _, rfl, rfl, F2, N2, by
              refine all8 ?_ ?_ ?_ ?_ ?_ ?_ ?_ ?_ <;> first | exact l2.1 | exact l2.2.1 | exact l2.2.2.1 | exact l2.2.2.2.1 | exact l2.2.2.2.2.1 | exact l2.2.2.2.2.2.1 | exact l2.2.2.2.2.2.2.1 | exact l2.2.2.2.2.2.2.2 | (dsimp only; omega)⟩⟩
        | false =>
          have e : Tr.swp false tl tr = decide (tr.ersh < tl.ersh) := rfl
          rw [e] at hsw
          k_steps
          constructor
          refine my_gt ?_
          refine wpAny_truthy_bool ?_
          rw [show decide ((dotsS tr.ersh).cps.toList < (dotsS tl.ersh).cps.toList) = sw from by rw [hsw]; exact decide_eq_decide.mpr (by simpa [dotsS] using rep_lt)]
          cases sw with
          | true =>
            rw [if_pos rfl]
            k_steps
            (with_reducible rename Fr _ _ _ _ => F2)
            (with_reducible rename News _ _ _ _ => N2)
            (with_reducible rename _ < _ ∧ _ => l2)
            exact ⟨⟨_, _, _, _, _, rfl, rfl, F2, N2, by
              refine all8 ?_ ?_ ?_ ?_ ?_ ?_ ?_ ?_ <;> first | exact l2.1 | exact l2.2.1 | exact l2.2.2.1 | exact l2.2.2.2.1 | exact l2.2.2.2.2.1 | exact l2.2.2.2.2.2.1 | exact l2.2.2.2.2.2.2.1 | exact l2.2.2.2.2.2.2.2 | (dsimp only; omega)⟩⟩
          | false =>
            rw [if_neg Bool.false_ne_true]
            k_steps
            (with_reducible rename Fr _ _ _ _ => F2)
            (with_reducible rename News _ _ _ _ => N2)
            (with_reducible rename _ < _ ∧ _ => l2)
            exact ⟨⟨_, _, _, _, _, rfl, rfl, F2, N2, by
              refine all8 ?_ ?_ ?_ ?_ ?_ ?_ ?_ ?_ <;> first | exact l2.1 | exact l2.2.1 | exact l2.2.2.1 | exact l2.2.2.2.1 | exact l2.2.2.2.2.1 | exact l2.2.2.2.2.2.1 | exact l2.2.2.2.2.2.2.1 | exact l2.2.2.2.2.2.2.2 | (dsimp only; omega)⟩⟩
      · intro lo h' tk' t3 t4 F2 N2 hlo
        clear F1 N
        k_steps
        constructor
        (with_reducible rename Fr _ _ _ _ => F3)
        (with_reducible rename News _ _ _ _ => N3)
        have hT0 : ∃ T0 T1 : Tr, T0 = (if sw then tr else tl) ∧ T1 = (if sw then tl else tr) := ⟨_, _, rfl, rfl⟩
        ((refine Mine.ex2 hT0 ?_); (try clear hT0); intro T0' T1'; intro hZ1; (refine And.elim ?_ hZ1); clear hZ1; intro eT0 eT1)
        have hpar : ∃ par : Nat, par = (if ns.length % 2 = 1 then 65 else 97) := ⟨_, rfl⟩
        ((refine Exists.elim hpar ?_); (try clear hpar); intro par epar)
        ((refine Exists.elim (split5 N3) ?_); intro fix; intro hZ1; (refine And.elim ?_ hZ1); clear hZ1; intro hfix N4)
        clear N3
        have hfr : ∀ p ∈ fix, p.1 ≠ r ∧ p.1 ≠ d ∧ p.1 ≠ l ∧ p.1 ≠ u := by
          have q1 := hlo (r, instObj 227 d) (by k_mem)
          have q2 := hlo (d, dictOf [⟨PyData.keyHash w.params (Str.ofString "_headers"), .str (Str.ofString "_headers") tkd, .ref l⟩] 1) (by k_mem)
          have q3 := hlo (l, listOf vs.toArray n0) (by k_mem)
          have q4 := hlo (u, listOf us.toArray nu) (by k_mem)
          intro p hp
          rw [hfix] at hp
          replace hp := mem5 hp
          rcases hp with rfl | rfl | rfl | rfl | rfl <;> dsimp only at * <;> refine ⟨Nat.ne_of_gt ?_, Nat.ne_of_gt ?_, Nat.ne_of_gt ?_, Nat.ne_of_gt ?_⟩ <;> omega
        refine CompSrc.ledger hh F3 N4 (by rw [hfix]; exact .head _) (by simp [sizeLine]) ?_
        intro g
        refine restU_ind (CompJ w b₀ B fix r d l u tkd xs ns par ah T0' T1') _ ?_ ?_ (CompJ.init h4 hrows hoff hus)
        · intro i ys news v I oI C oC D m₂ h tkt E' hi hJ14 hv hC hx1 F5 N5 off5 ne5
          ((refine Mine.hideG fun G kG => ?_); (refine Mine.ex7 hJ14.ex ?_); clear hJ14; intro vsi usi nl nui zs cl own; intro hZ1; (refine Mine.and7 hZ1 ?_); clear hZ1; intro hZ2 o1 o2 hR hoffi hui hdone; obtain rfl := hZ2; (refine kG ?_); clear kG G)
          have hi2 : i < 2 := by simpa using hi
          obtain ⟨Ti, eTi⟩ : ∃ Ti : Tr, Ti = if i = 0 then T0' else T1' := ⟨_, rfl⟩
          have hst := st.h
          have hlv : T0'.leaves + T1'.leaves = tl.leaves + tr.leaves ∧ T0'.size + T1'.size = tl.size + tr.size ∧ T0'.Good ∧ T1'.Good := by
            cases hst.2.1 with
            | node g1 g2 => rw [eT0, eT1]; cases sw; exact ⟨rfl, rfl, g1, g2⟩; exact ⟨Nat.add_comm _ _, Nat.add_comm _ _, g2, g1⟩
          have hTi : Ti.Good ∧ Ti.size ≤ tl.size + tr.size ∧ Ti.leaves ≤ tl.leaves + tr.leaves ∧ i + Ti.leaves ≤ tl.leaves + tr.leaves ∧ (if i = 0 then 0 else T0'.leaves) + Ti.leaves ≤ tl.leaves + tr.leaves := ti_facts hi2 eTi hlv
          obtain ⟨k, tv, wv, rfl, hk0, hk1, hwv, hplw⟩ : ∃ k tv wv, v = .int k tv ∧ 0 ≤ k ∧ k < 1000 ∧ (#[.str (dotsS (Tr.node tl tr).ersh) t1, Value.ref a1, Value.ref a2] : Array Value)[k.toNat]? = some wv ∧ PlanAt b₀ wv Ti := by
            rw [eTi, eT0, eT1]
            match i, hi2 with
            | 0, _ => cases hv; cases sw; exact ⟨_, _, _, rfl, by decide, by decide, rfl, hp1⟩; exact ⟨_, _, _, rfl, by decide, by decide, rfl, hp2⟩
            | 1, _ => cases hv; cases sw; exact ⟨_, _, _, rfl, by decide, by decide, rfl, hp2⟩; exact ⟨_, _, _, rfl, by decide, by decide, rfl, hp1⟩
          clear hv
          have N6 : News B s.heap.objs.size h ((I, oI) :: (C, oC) :: (D, lst ys) :: ([_, _, _, _, _] ++ (r, instObj 227 d) :: (d, dictOf [⟨PyData.keyHash w.params (Str.ofString "_headers"), .str (Str.ofString "_headers") tkd, .ref l⟩] 1) :: (l, listOf vsi.toArray nl) :: (u, listOf usi.toArray nui) :: own)) := hfix ▸ N5
          simp only [List.cons_append, List.nil_append] at N6
          clear N5
          have so : Stop (Off3 I C D (fix ++ (r, instObj 227 d) :: (d, dictOf [⟨PyData.keyHash w.params (Str.ofString "_headers"), .str (Str.ofString "_headers") tkd, .ref l⟩] 1) :: (l, listOf vsi.toArray nl) :: (u, listOf usi.toArray nui) :: own)) := ⟨off5⟩
          clear off5
          (try k_fold)
          k_steps
          (with_reducible rename Fr _ _ _ _ => F7)
          (with_reducible rename News _ _ _ _ => N7)
          have off5 := so.h
          have hlen : (xs ++ rowsOf xs.length T0' T1' cl).length = xs.length + i := by rw [List.length_append, hdone.len.1]
          have N7own : News B s.heap.objs.size h own := fun p hp => N7 p (by (iterate 12 (refine .tail _ ?_)); exact hp)
          have hbx := base_hides (hs := [r, d, l, u]) (hbu.trans F7.keep) off hoffi
          have hzl0 := hdone.len.2
          simp only [Tr.leaves, Tr.size] at hst
          have hT0t : OkText T0'.write := good_text hlv.2.2.1 (Nat.le_trans (Nat.le_add_right _ T1'.leaves) (Nat.le_trans (Nat.le_of_eq hlv.1) hst.1.2.2))
          have hT1t : OkText T1'.write := good_text hlv.2.2.2 (Nat.le_trans (Nat.le_add_left _ T0'.leaves) (Nat.le_trans (Nat.le_of_eq hlv.1) hst.1.2.2))
          have hnl : (ns ++ zs).length + Ti.leaves ≤ 20 := ti_room hst.1.2.1 (hzl0.trans (zs_at hi2)) hTi.2.2.2.2
          refine ih Ti (Nat.le_trans hTi.2.1 (Nat.le_of_succ_le_succ hst.2.2.2)) (hideAll h ([r, d, l, u] ++ adrs vsi)) r d l u vsi usi (ns ++ zs) nui (xs ++ rowsOf xs.length T0' T1' cl) (cs ++ cl) ah wv _ _ _ _ (X0.keeps hbx) (T0.keeps hbx) (hides_ext _ _) (fun a ha => hideAll_none _ (List.mem_append_left _ ha))
            (hR.rack F7.keep N7own (N7 (r, instObj 227 d) (by k_mem)).1 (N7 (d, dictOf [⟨PyData.keyHash w.params (Str.ofString "_headers"), .str (Str.ofString "_headers") tkd, .ref l⟩] 1) (by k_mem)).1 (N7 (l, listOf vsi.toArray nl) (by k_mem)).1) (N7 (u, listOf usi.toArray nui) (by k_mem)).1 hui hul
            (fun a ha => hideAll_none _ (List.mem_append_right _ (mem_adrs.mpr ha))) (by simp only [depth_deeper]; omega) hh (hdone.named hnm) (fun q hq => (List.mem_append.mp hq).elim (hxt q) (done_text hdone hT0t hT1t q)) (by rw [hlen, Nat.add_assoc]; exact Nat.le_trans (Nat.add_le_add_left hTi.2.2.2.1 _) hst.1.1) hnl (hplw.ext hbx) hTi.1 (Nat.le_trans hTi.2.2.1 hst.1.2.2) ?_
          intro vs' tn us' nu' zs' c h8 tk8 hoff8 e8 hc8 hcp8 R8 hu8 hi8 hzl8 hzb8 hzm8
          rw [hlen] at R8 hzb8 hzm8 ⊢
          have ofix : ∀ p ∈ (I, oI) :: (C, oC) :: (D, lst ys) :: fix, p.1 ≠ r ∧ p.1 ≠ d ∧ p.1 ≠ l ∧ p.1 ≠ u := fun p hp => by
            have m1 := Off3.mem off5 (r, instObj 227 d) (List.mem_append_right _ (.head _))
            have m2 := Off3.mem off5 (d, dictOf [⟨PyData.keyHash w.params (Str.ofString "_headers"), .str (Str.ofString "_headers") tkd, .ref l⟩] 1) (List.mem_append_right _ (.tail _ (.head _)))
            have m3 := Off3.mem off5 (l, listOf vsi.toArray nl) (List.mem_append_right _ (.tail _ (.tail _ (.head _))))
            have m4 := Off3.mem off5 (u, listOf usi.toArray nui) (List.mem_append_right _ (.tail _ (.tail _ (.tail _ (.head _)))))
            rcases List.mem_cons.mp hp with rfl | hp
            · exact ⟨Ne.symm m1.1, Ne.symm m2.1, Ne.symm m3.1, Ne.symm m4.1⟩
            · rcases List.mem_cons.mp hp with rfl | hp
              · exact ⟨Ne.symm m1.2.1, Ne.symm m2.2.1, Ne.symm m3.2.1, Ne.symm m4.2.1⟩
              · rcases List.mem_cons.mp hp with rfl | hp
                · exact ⟨Ne.symm m1.2.2, Ne.symm m2.2.2, Ne.symm m3.2.2, Ne.symm m4.2.2⟩
                · exact hfr p hp
          have oown : ∀ p ∈ (I, oI) :: (C, oC) :: (D, lst ys) :: fix, ∀ q ∈ own, q.1 ≠ p.1 := fun p hp q hq => by
            have m := Off3.mem off5 q (List.mem_append_right _ (.tail _ (.tail _ (.tail _ (.tail _ hq)))))
            rcases List.mem_cons.mp hp with rfl | hp
            · exact m.1
            · rcases List.mem_cons.mp hp with rfl | hp
              · exact m.2.1
              · rcases List.mem_cons.mp hp with rfl | hp
                · exact m.2.2
                · exact o1 p hp q hq
          have N8 : News B s.heap.objs.size h (((I, oI) :: (C, oC) :: (D, lst ys) :: fix) ++ (r, instObj 227 d) :: (d, dictOf [⟨PyData.keyHash w.params (Str.ofString "_headers"), .str (Str.ofString "_headers") tkd, .ref l⟩] 1) :: (l, listOf vsi.toArray nl) :: (u, listOf usi.toArray nui) :: own) := by rw [hfix]; exact N7
          ((refine Mine.ex2 (work_step F7 N8 ofix oown n1 hru n2 hdu hR e8 R8 hu8 (fun a ha => .inr (hoff8 a ha))) ?_); intro nl' own'; intro hZ1; (refine Mine.and6 hZ1 ?_); clear hZ1; intro F9 N9 q1 q2 R9; intro hZ2; obtain - := hZ2)
          ((refine And.elim ?_ (hdone.step (tn := tn) hi2 eTi hc8 (fun e => by subst e; cases hdone; rw [hcp8, epar]; simp) hzl8 hzb8 hzm8)); intro g1 g2)
          have mm : ∀ p, p ∈ fix → p ∈ (I, oI) :: (C, oC) :: (D, lst ys) :: fix := fun p hp => .tail _ (.tail _ (.tail _ hp))
          refine CompEnd.intro F9 N9 (fix ++ (r, instObj 227 d) :: (d, dictOf [⟨PyData.keyHash w.params (Str.ofString "_headers"), .str (Str.ofString "_headers") tkd, .ref l⟩] 1) :: (l, listOf vs'.toArray nl') :: (u, listOf us'.toArray nu') :: own') (fun p hp => hp) (Off3.of fun p hp => ?_) (.inr ⟨_, List.mem_append_left _ (by rw [hfix]; exact .head _), rfl, _, rfl⟩)
            ⟨⟨vs', us', nl', nu', zs ++ zs', cl ++ [c], own', rfl, fun p hp => q1 p (mm p hp), q2, ?_, fun a ha => none_base hbx (hoff8 a ha), by rw [← List.append_assoc]; exact hi8, g1⟩⟩
          · have a1 := ofix (I, oI) (.head _)
            have a2 := ofix (C, oC) (.tail _ (.head _))
            have a3 := ofix (D, lst ys) (.tail _ (.tail _ (.head _)))
            rcases List.mem_append.mp hp with hp | hp
            · exact Off3.mem off5 p (List.mem_append_left _ hp)
            · rcases List.mem_cons.mp hp with rfl | hp
              · exact ⟨Ne.symm a1.1, Ne.symm a2.1, Ne.symm a3.1⟩
              · rcases List.mem_cons.mp hp with rfl | hp
                · exact ⟨Ne.symm a1.2.1, Ne.symm a2.2.1, Ne.symm a3.2.1⟩
                · rcases List.mem_cons.mp hp with rfl | hp
                  · exact ⟨Ne.symm a1.2.2.1, Ne.symm a2.2.2.1, Ne.symm a3.2.2.1⟩
                  · rcases List.mem_cons.mp hp with rfl | hp
                    · exact ⟨Ne.symm a1.2.2.2, Ne.symm a2.2.2.2, Ne.symm a3.2.2.2⟩
                    · exact ⟨q1 (I, oI) (.head _) p hp, q1 (C, oC) (.tail _ (.head _)) p hp, q1 (D, lst ys) (.tail _ (.tail _ (.head _))) p hp⟩
          · rw [g2, ← List.append_assoc]; exact R9
        · intro ys news hJ2
          ((refine Mine.hideG fun G kG => ?_); (refine Mine.ex7 hJ2.ex ?_); clear hJ2; intro vs2 us2 nl2 nu2 zs cl own; intro hZ1; (refine Mine.and7 hZ1 ?_); clear hZ1; intro hZ2 o1 o2 hR hoff2 hu2 hdone; obtain rfl := hZ2; (refine kG ?_); clear kG G)
          unfold FinA
          intro D2 h6 tk6 F6 N6 o6
          have hnm2 := hdone.named hnm
          have hst := st.h
          simp only [Tr.leaves, Tr.size] at hst
          have hlv : T0'.leaves + T1'.leaves = tl.leaves + tr.leaves ∧ T0'.Good ∧ T1'.Good ∧ tl.Good ∧ tr.Good := by
            cases hst.2.1 with
            | node g1 g2 => rw [eT0, eT1]; cases sw; exact ⟨rfl, g1, g2, g1, g2⟩; exact ⟨Nat.add_comm _ _, g2, g1, g1, g2⟩
          have hT0t : OkText T0'.write := good_text hlv.2.1 (Nat.le_trans (Nat.le_add_right _ T1'.leaves) (Nat.le_trans (Nat.le_of_eq hlv.1) hst.1.2.2))
          have hT1t : OkText T1'.write := good_text hlv.2.2.1 (Nat.le_trans (Nat.le_add_left _ T0'.leaves) (Nat.le_trans (Nat.le_of_eq hlv.1) hst.1.2.2))
          have htlt : OkText tl.write := good_text hlv.2.2.2.1 (Nat.le_trans (Nat.le_add_right _ tr.leaves) hst.1.2.2)
          have htrt : OkText tr.write := good_text hlv.2.2.2.2 (Nat.le_trans (Nat.le_add_left _ tl.leaves) hst.1.2.2)
          have hxt2 := fun q hq => (List.mem_append.mp hq).elim (hxt q) (done_text hdone hT0t hT1t q)
          have N7 : News B s.heap.objs.size h6 ((D2, lst ys) :: ([_, _, _, _, _] ++ (r, instObj 227 d) :: (d, dictOf [⟨PyData.keyHash w.params (Str.ofString "_headers"), .str (Str.ofString "_headers") tkd, .ref l⟩] 1) :: (l, listOf vs2.toArray nl2) :: (u, listOf us2.toArray nu2) :: own)) := hfix ▸ N6
          simp only [List.cons_append, List.nil_append] at N7
          clear N6
          cases hdone with
          | @two t t' c c' _ hc hcp hc' hzl hzb hzm =>
          have hx20 : xs.length ≤ 20 := Nat.le_trans (Nat.le_add_right _ _) hst.1.1
          have su2 : Stop (IntsAre us2 (ns ++ zs)) := ⟨hu2⟩
          clear hu2
          ((refine Mine.hideG fun G kG => ?_); (refine And.elim ?_ (names_at (t := t) (t' := t') hnm2 hc hc' hx20 eT0 eT1)); intro hZ1; (refine Mine.ex2 hZ1 ?_); clear hZ1; intro y1 ty1; intro hZ2; (refine And.elim ?_ hZ2); clear hZ2; intro hy1 ey1; intro hZ3; (refine Mine.ex2 hZ3 ?_); clear hZ3; intro y2 ty2; intro hZ4; (refine And.elim ?_ hZ4); clear hZ4; intro hy2 ey2; (refine kG ?_); clear kG G)
          have hrow2 := hnm2.rowsOk (by rw [List.length_append]; simp [rowsOf]; omega) hxt2
          have hAB := sAB sw
          generalize hxs2 : xs ++ rowsOf xs.length T0' T1' [c, c'] = xs2 at *
          (try k_fold)
          k_steps
          constructor
          (with_reducible rename Fr _ _ _ _ => F8)
          (with_reducible rename News _ _ _ _ => N8)
          refine item_led (x := .int (sA sw) t3) N8 (.tail _ (.head _)) (by decide) (by decide) (by rfl) ?_
          k_steps
          constructor
          (with_reducible rename News _ _ _ _ => N9)
          refine my_item_str N9 (.head _) (by omega) (by show sA sw - 1 < 2; omega) (by omega) (P := fun y => OkName y ∧ getOf y xs2 = some tl.write) ⟨y1, ty1, hxs2 ▸ hy1, ey1⟩ ?_
          intro z1 tz1 hz1
          k_steps
          (with_reducible rename Fr _ _ _ _ => F10)
          (with_reducible rename News _ _ _ _ => N10)
          have N10own : News B s.heap.objs.size _ own := fun p hp => N10 p (by (iterate 10 (refine .tail _ ?_)); exact hp)
          refine get_spec w b₀ r d l vs2 xs2 z1 _ _ _ _ _ X0 T0 (hbu.trans F10.keep) hoff3 (hR.rack F10.keep N10own (N10 (r, instObj 227 d) (by k_mem)).1 (N10 (d, dictOf [⟨PyData.keyHash w.params (Str.ofString "_headers"), .str (Str.ofString "_headers") tkd, .ref l⟩] 1) (by k_mem)).1 (N10 (l, listOf vs2.toArray nl2) (by k_mem)).1) (by simp only [depth_deeper]; omega) hh hz1.1 hrow2 ?_
          intro v11 h11 tk11 hv11 e11
          have F11 := Fr.keeps F10 e11
          have N11 := News.grown N10 e11
          clear F10 N10 N10own e11
          rw [hz1.2] at hv11
          ((refine Exists.elim hv11 ?_); (try clear hv11); intro tz11; intro hZ1; obtain rfl := hZ1)
          have hw1 : tl.write.length ≤ 600 := htlt.2
          have hw2 : tr.write.length ≤ 600 := htrt.2
          dsimp only
          k_steps
          constructor
          (with_reducible rename News _ _ _ _ => N12)
          refine item_led (x := .int (sB sw) t4) N12 (.tail _ (.head _)) (by decide) (by decide) (by rfl) ?_
          k_steps
          constructor
          (with_reducible rename News _ _ _ _ => N13)
          refine my_item_str N13 (.head _) (by omega) (by show sB sw - 1 < 2; omega) (by omega) (P := fun y => OkName y ∧ getOf y xs2 = some tr.write) ⟨y2, ty2, hxs2 ▸ hy2, ey2⟩ ?_
          intro z2 tz2 hz2
          k_steps
          (with_reducible rename Fr _ _ _ _ => F14)
          (with_reducible rename News _ _ _ _ => N14)
          have N14own : News B s.heap.objs.size _ own := fun p hp => N14 p (by (iterate 10 (refine .tail _ ?_)); exact hp)
          refine get_spec w b₀ r d l vs2 xs2 z2 _ _ _ _ _ X0 T0 (hbu.trans F14.keep) hoff3 (hR.rack F14.keep N14own (N14 (r, instObj 227 d) (by k_mem)).1 (N14 (d, dictOf [⟨PyData.keyHash w.params (Str.ofString "_headers"), .str (Str.ofString "_headers") tkd, .ref l⟩] 1) (by k_mem)).1 (N14 (l, listOf vs2.toArray nl2) (by k_mem)).1) (by simp only [depth_deeper]; omega) hh hz2.1 hrow2 ?_
          intro v15 h15 tk15 hv15 e15
          have F15 := Fr.keeps F14 e15
          have N15 := News.grown N14 e15
          clear F14 N14 N14own e15
          rw [hz2.2] at hv15
          ((refine Exists.elim hv15 ?_); (try clear hv15); intro tz15; intro hZ1; obtain rfl := hZ1)
          dsimp only
          k_steps
          (with_reducible rename Fr _ _ _ _ => F16)
          (with_reducible rename News _ _ _ _ => N16)
          refine iter_listUnr (vs := [.str (nmS (xs.length + 1) c) t, .str (nmS (xs.length + 2) c') t']) hh F16 N16 (.head _) rfl rfl ?_
          intro I hI
          refine ListRest.succ ?_
          intro it h17 tk17 hic F17 N17
          have hnl1 : (nmS (xs.length + 1) c).length ≤ 30 := by rw [nm_len]; omega
          have hnl2 : (nmS (xs.length + 2) c').length ≤ 30 := by rw [nm_len]; omega
          have sI : Stop (∀ p ∈ ((D2, lst [.str (nmS (xs.length + 1) c) t, .str (nmS (xs.length + 2) c') t']) :: fix) ++ (r, instObj 227 d) :: (d, dictOf [⟨PyData.keyHash w.params (Str.ofString "_headers"), .str (Str.ofString "_headers") tkd, .ref l⟩] 1) :: (l, listOf vs2.toArray nl2) :: (u, listOf us2.toArray nu2) :: own, p.1 < I) := ⟨fun p hp => hI p (by rw [hfix] at hp; exact hp)⟩
          clear hI F16 N16
          (try k_fold)
          k_steps
          constructor
          k_dflt (refine' my_delItem (f := 145) ?F ?X ?I ?hQ ?hS ?hF ?_; (case F => k_asm); (case X => k_asm); (case I => k_inst); (case hS => k_is); (case hF => k_is); (case hQ => k_is); k_whole)
          k_steps
          (with_reducible rename Fr _ _ _ _ => F18)
          (with_reducible rename News _ _ _ _ => N18)
          have N18own : News B s.heap.objs.size _ own := fun p hp => N18 p (by (iterate 11 (refine .tail _ ?_)); exact hp)
          have gu18 := (N18 (u, listOf us2.toArray nu2) (by k_mem)).1
          rw [nm_swap _ hc]
          have hxl2 : xs2.length = xs.length + 2 := by rw [← hxs2, List.length_append]; rfl
          refine del_spec w b₀ r d l vs2 xs2 (nmS (xs.length + 1) (swC c)) _ _ _ _ _ X0 T0 (hbu.trans F18.keep) hoff3 (hR.rack F18.keep N18own (N18 (r, instObj 227 d) (by k_mem)).1 (N18 (d, dictOf [⟨PyData.keyHash w.params (Str.ofString "_headers"), .str (Str.ofString "_headers") tkd, .ref l⟩] 1) (by k_mem)).1 (N18 (l, listOf vs2.toArray nl2) (by k_mem)).1) (by simp only [depth_deeper]; omega) hh (nm_okName (by omega) (swC_ok _)) hrow2 (by omega) ?_
          intro vs3 h19 tk19 hsub3 e19 R19
          have ofix : ∀ p ∈ (I, it) :: (D2, lst [.str (nmS (xs.length + 1) c) t, .str (nmS (xs.length + 2) c') t']) :: fix, p.1 ≠ r ∧ p.1 ≠ d ∧ p.1 ≠ l ∧ p.1 ≠ u := fun p hp => by
            have sI' := sI.h
            have m1 := off1_mem o6 (r, instObj 227 d) (List.mem_append_right _ (.head _))
            have m2 := off1_mem o6 (d, dictOf [⟨PyData.keyHash w.params (Str.ofString "_headers"), .str (Str.ofString "_headers") tkd, .ref l⟩] 1) (List.mem_append_right _ (.tail _ (.head _)))
            have m3 := off1_mem o6 (l, listOf vs2.toArray nl2) (List.mem_append_right _ (.tail _ (.tail _ (.head _))))
            have m4 := off1_mem o6 (u, listOf us2.toArray nu2) (List.mem_append_right _ (.tail _ (.tail _ (.tail _ (.head _)))))
            rcases List.mem_cons.mp hp with rfl | hp
            · exact ⟨Nat.ne_of_gt (sI' (r, instObj 227 d) (List.mem_append_right _ (.head _))), Nat.ne_of_gt (sI' (d, dictOf [⟨PyData.keyHash w.params (Str.ofString "_headers"), .str (Str.ofString "_headers") tkd, .ref l⟩] 1) (List.mem_append_right _ (.tail _ (.head _)))), Nat.ne_of_gt (sI' (l, listOf vs2.toArray nl2) (List.mem_append_right _ (.tail _ (.tail _ (.head _))))), Nat.ne_of_gt (sI' (u, listOf us2.toArray nu2) (List.mem_append_right _ (.tail _ (.tail _ (.tail _ (.head _))))))⟩
            · rcases List.mem_cons.mp hp with rfl | hp
              · exact ⟨Ne.symm m1, Ne.symm m2, Ne.symm m3, Ne.symm m4⟩
              · exact hfr p hp
          have oown : ∀ p ∈ (I, it) :: (D2, lst [.str (nmS (xs.length + 1) c) t, .str (nmS (xs.length + 2) c') t']) :: fix, ∀ q ∈ own, q.1 ≠ p.1 := fun p hp q hq => by
            rcases List.mem_cons.mp hp with rfl | hp
            · exact Nat.ne_of_lt (sI.h q (List.mem_append_right _ (.tail _ (.tail _ (.tail _ (.tail _ hq))))))
            · rcases List.mem_cons.mp hp with rfl | hp
              · exact off1_mem o6 q (List.mem_append_right _ (.tail _ (.tail _ (.tail _ (.tail _ hq)))))
              · exact o1 p hp q hq
          have N19 := toFix2 hfix N18
          ((refine Mine.ex2 (work_step F18 N19 ofix oown n1 hru n2 hdu hR (ext_more e19) R19 (e19 _ _ (hideAll_get _ gu18 (by simpa using hul))) (fun a ha => .inl (hsub3 _ ha))) ?_); intro nl3 own3; intro hZ1; (refine Mine.and6 hZ1 ?_); clear hZ1; intro F20 N20 q1 q2 R20; intro hZ2; obtain - := hZ2)
          clear F18 N18 N18own N19 R19 e19 gu18
          k_steps
          constructor
          refine UnrEnd.intro F20 N20 ((D2, lst [.str (nmS (xs.length + 1) c) t, .str (nmS (xs.length + 2) c') t']) :: (fix ++ (r, instObj 227 d) :: (d, dictOf [⟨PyData.keyHash w.params (Str.ofString "_headers"), .str (Str.ofString "_headers") tkd, .ref l⟩] 1) :: (l, listOf vs3.toArray nl3) :: (u, listOf us2.toArray nu2) :: own3)) (fun p hp => hp) (fun p hp => ?_) ⟨.head _, ListRest.succ ?_⟩
          · have h0 := ofix (I, it) (.head _)
            rcases List.mem_append.mp (show p ∈ ((D2, lst [.str (nmS (xs.length + 1) c) t, .str (nmS (xs.length + 2) c') t']) :: fix) ++ _ from hp) with hp | hp
            · exact Nat.ne_of_lt (sI.h p (List.mem_append_left _ hp))
            · rcases List.mem_cons.mp hp with rfl | hp
              · exact Ne.symm h0.1
              · rcases List.mem_cons.mp hp with rfl | hp
                · exact Ne.symm h0.2.1
                · rcases List.mem_cons.mp hp with rfl | hp
                  · exact Ne.symm h0.2.2.1
                  · rcases List.mem_cons.mp hp with rfl | hp
                    · exact Ne.symm h0.2.2.2
                    · exact q1 (I, it) (.head _) p hp
          clear F20 N20
          intro it2 h21 tk21 hic2 F21 N21'
          have N21 : News B s.heap.objs.size h21 ((I, it2) :: (D2, lst [.str (nmS (xs.length + 1) c) t, .str (nmS (xs.length + 2) c') t']) :: ([_, _, _, _, _] ++ (r, instObj 227 d) :: (d, dictOf [⟨PyData.keyHash w.params (Str.ofString "_headers"), .str (Str.ofString "_headers") tkd, .ref l⟩] 1) :: (l, listOf vs3.toArray nl3) :: (u, listOf us2.toArray nu2) :: own3)) := hfix ▸ N21'
          simp only [List.cons_append, List.nil_append] at N21
          clear N21'
          k_steps
          constructor
          k_dflt (refine' my_delItem (f := 145) ?F ?X ?I ?hQ ?hS ?hF ?_; (case F => k_asm); (case X => k_asm); (case I => k_inst); (case hS => k_is); (case hF => k_is); (case hQ => k_is); k_whole)
          k_steps
          (with_reducible rename Fr _ _ _ _ => F22)
          (with_reducible rename News _ _ _ _ => N22)
          have N22own : News B s.heap.objs.size _ own3 := fun p hp => N22 p (by (iterate 11 (refine .tail _ ?_)); exact hp)
          have gu22 := (N22 (u, listOf us2.toArray nu2) (by k_mem)).1
          rw [nm_swap _ hc']
          have hrow3 : RowsOk (xs2.filter fun q => Txt.lower q.1 != Txt.lower (nmS (xs.length + 1) (swC c))) := fun q hq => hrow2 q (List.mem_filter.mp hq).1
          refine del_spec w b₀ r d l vs3 _ (nmS (xs.length + 2) (swC c')) _ _ _ _ _ X0 T0 (hbu.trans F22.keep) hoff3 (R20.rack F22.keep N22own (N22 (r, instObj 227 d) (by k_mem)).1 (N22 (d, dictOf [⟨PyData.keyHash w.params (Str.ofString "_headers"), .str (Str.ofString "_headers") tkd, .ref l⟩] 1) (by k_mem)).1 (N22 (l, listOf vs3.toArray nl3) (by k_mem)).1) (by simp only [depth_deeper]; omega) hh (nm_okName (by omega) (swC_ok _)) hrow3 (Nat.le_trans (List.length_filter_le _ _) (by omega)) ?_
          intro vs4 h23 tk23 hsub4 e23 R23
          have ofix2 : ∀ p ∈ (I, it2) :: (D2, lst [.str (nmS (xs.length + 1) c) t, .str (nmS (xs.length + 2) c') t']) :: fix, p.1 ≠ r ∧ p.1 ≠ d ∧ p.1 ≠ l ∧ p.1 ≠ u := fun p hp => by
            rcases List.mem_cons.mp hp with rfl | hp
            · exact ofix (I, it) (.head _)
            · exact ofix p (.tail _ hp)
          have oown2 : ∀ p ∈ (I, it2) :: (D2, lst [.str (nmS (xs.length + 1) c) t, .str (nmS (xs.length + 2) c') t']) :: fix, ∀ q ∈ own3, q.1 ≠ p.1 := fun p hp q hq => by
            rcases List.mem_cons.mp hp with rfl | hp
            · exact q1 (I, it) (.head _) q hq
            · exact q1 p (.tail _ hp) q hq
          have N23 := toFix2 hfix N22
          ((refine Mine.ex2 (work_step F22 N23 ofix2 oown2 n1 hru n2 hdu R20 (ext_more e23) R23 (e23 _ _ (hideAll_get _ gu22 (by simpa using hul))) (fun a ha => .inl (hsub4 _ ha))) ?_); intro nl4 own4; intro hZ1; (refine Mine.and6 hZ1 ?_); clear hZ1; intro F24 N24 q3 q4 R24; intro hZ2; obtain - := hZ2)
          clear F22 N22 N22own N23 R23 e23 gu22
          rw [← hxs2, show xs ++ rowsOf xs.length T0' T1' [c, c'] = xs ++ [(nmS (xs.length + 1) c, T0'.write)] ++ [(nmS (xs.length + 2) c', T1'.write)] from by rw [List.append_assoc]; rfl, named_two hnm hc hc'] at R24
          k_steps
          constructor
          refine UnrEnd.intro F24 N24 ((D2, lst [.str (nmS (xs.length + 1) c) t, .str (nmS (xs.length + 2) c') t']) :: (fix ++ (r, instObj 227 d) :: (d, dictOf [⟨PyData.keyHash w.params (Str.ofString "_headers"), .str (Str.ofString "_headers") tkd, .ref l⟩] 1) :: (l, listOf vs4.toArray nl4) :: (u, listOf us2.toArray nu2) :: own4)) (fun p hp => hp) (fun p hp => ?_) ⟨.head _, ListRest.zero ?_⟩
          · have h0 := ofix2 (I, it2) (.head _)
            rcases List.mem_append.mp (show p ∈ ((D2, lst [.str (nmS (xs.length + 1) c) t, .str (nmS (xs.length + 2) c') t']) :: fix) ++ _ from hp) with hp | hp
            · exact Nat.ne_of_lt (sI.h p (List.mem_append_left _ hp))
            · rcases List.mem_cons.mp hp with rfl | hp
              · exact Ne.symm h0.1
              · rcases List.mem_cons.mp hp with rfl | hp
                · exact Ne.symm h0.2.1
                · rcases List.mem_cons.mp hp with rfl | hp
                  · exact Ne.symm h0.2.2.1
                  · rcases List.mem_cons.mp hp with rfl | hp
                    · exact Ne.symm h0.2.2.2
                    · exact q3 (I, it2) (.head _) p hp
          clear F24 N24
          intro h25 tk25 F25 N25'
          have N25 : News B s.heap.objs.size h25 ((D2, lst [.str (nmS (xs.length + 1) c) t, .str (nmS (xs.length + 2) c') t']) :: ([_, _, _, _, _] ++ (r, instObj 227 d) :: (d, dictOf [⟨PyData.keyHash w.params (Str.ofString "_headers"), .str (Str.ofString "_headers") tkd, .ref l⟩] 1) :: (l, listOf vs4.toArray nl4) :: (u, listOf us2.toArray nu2) :: own4)) := hfix ▸ N25'
          simp only [List.cons_append, List.nil_append] at N25
          clear N25'
          k_steps
          constructor
          (with_reducible rename Fr _ _ _ _ => F26)
          (with_reducible rename News _ _ _ _ => N26)
          show wpAny _ _ (call (.builtin "min") [Value.ref _] [(Str.ofString "key", .builtin "len")]) _ _ _
          refine kmb_min_two (v₁ := .str (nmS (xs.length + 1) c) t) (v₂ := .str (nmS (xs.length + 2) c') t') ((nmS (xs.length + 1) c).length : Int) ((nmS (xs.length + 2) c').length : Int) hh F26 N26 (fun h _ N => News.isList N (.head _)) (fun h tk own F N => ?_) (fun h tk own F N => ?_) (fun _ h27 tk27 F27 N27 => ?_) (fun hlt => ?_)
          · exact len_str (by omega) (KskEnd.intro F N (fun p hp => hp))
          · exact len_str (by omega) (KskEnd.intro F N (fun p hp => hp))
          rotate_left
          · rw [nm_len, nm_len] at hlt; omega
          clear F26 N26
          have hbw : OkText (Tr.node tl tr).write := good_text hst.2.1 hst.1.2.2
          have hbl : (Str.ofString "(" ++ tl.write ++ tr.write ++ Str.ofString ")").length ≤ 600 := hbw.2
          k_steps
          (with_reducible rename Fr _ _ _ _ => F28)
          (with_reducible rename News _ _ _ _ => N28)
          have N28own : News B s.heap.objs.size _ own4 := fun p hp => N28 p (by (iterate 10 (refine .tail _ ?_)); exact hp)
          refine setd_spec w b₀ r d l vs4 xs (nmS (xs.length + 1) c) (Tr.node tl tr).write _ _ _ _ _ _ X0 T0 (hbu.trans F28.keep) hoff3 (R24.rack F28.keep N28own (N28 (r, instObj 227 d) (by k_mem)).1 (N28 (d, dictOf [⟨PyData.keyHash w.params (Str.ofString "_headers"), .str (Str.ofString "_headers") tkd, .ref l⟩] 1) (by k_mem)).1 (N28 (l, listOf vs4.toArray nl4) (by k_mem)).1) (by simp only [depth_deeper]; omega) hh (nm_okName (by omega) hc) (nm_okText (by omega) hc) hbw hr (by omega) ?_ ?_
          · intro z v h' tk' t hz
            rw [hnm.get_none hc (by omega)] at hz
            cases hz
          intro v29 h29 tk29 _ hv29 e29 R29
          have F29 := fr_hide1 F28 (hBn l (by simp)) (N28 (l, listOf vs4.toArray nl4) (by k_mem)).2.1 e29
          have gu29 : h29.get? u = some (listOf us2.toArray nu2) := e29 _ _ (hideAll_get _ (N28 (u, listOf us2.toArray nu2) (by k_mem)).1 (by simpa using hul))
          have gd29 := e29 _ _ (hideAll_get [l] (N28 (d, dictOf [⟨PyData.keyHash w.params (Str.ofString "_headers"), .str (Str.ofString "_headers") tkd, .ref l⟩] 1) (by k_mem)).1 (by simpa using n2))
          have gD29 := e29 _ _ (hideAll_get [l] (N28 (D2, lst [.str (nmS (xs.length + 1) c) t, .str (nmS (xs.length + 2) c') t']) (by k_mem)).1 (by simpa using Ne.symm (off1_mem o6 (l, listOf vs2.toArray nl2) (List.mem_append_right _ (.tail _ (.tail _ (.head _)))))))
          have gD2 := (N28 (D2, lst [.str (nmS (xs.length + 1) c) t, .str (nmS (xs.length + 2) c') t']) (by k_mem)).2
          ((refine Exists.elim (snap F29) ?_); intro own5; intro hZ1; (refine And.elim ?_ hZ1); clear hZ1; intro Nown5 hs5)
          have N29 : News B s.heap.objs.size h29 ((D2, lst [.str (nmS (xs.length + 1) c) t, .str (nmS (xs.length + 2) c') t']) :: own5) := fun p hp => by
            rcases List.mem_cons.mp hp with rfl | hp
            · exact ⟨gD29, gD2⟩
            · exact Nown5 p hp
          clear F28 N28 N28own
          k_steps
          constructor
          (with_reducible rename Fr _ _ _ _ => F30)
          (with_reducible rename News _ _ _ _ => N30)
          show wpAny _ _ (call (.builtin "min") [Value.ref _] [(Str.ofString "key", .builtin "len")]) _ _ _
          refine kmb_min_two (v₁ := .str (nmS (xs.length + 1) c) t) (v₂ := .str (nmS (xs.length + 2) c') t') ((nmS (xs.length + 1) c).length : Int) ((nmS (xs.length + 2) c').length : Int) hh F30 N30 (fun h _ N => News.isList N (.head _)) (fun h tk own F N => ?_) (fun h tk own F N => ?_) (fun _ h31 tk31 F31 N31 => ?_) (fun hlt => ?_)
          · exact len_str (by omega) (KskEnd.intro F N (fun p hp => hp))
          · exact len_str (by omega) (KskEnd.intro F N (fun p hp => hp))
          rotate_left
          · rw [nm_len, nm_len] at hlt; omega
          have kk := snap_keep F31 N31 hs5 (fun q hq => .tail _ hq)
          ((refine And.elim ?_ sv.h); intro hZ1; (refine Mine.and4 hZ1 ?_); clear hZ1; intro gr0 gd0 gl0 gu0; intro hZ2; obtain - := hZ2)
          obtain ⟨lr, ld, ll, lu⟩ : r < s.heap.objs.size ∧ d < s.heap.objs.size ∧ l < s.heap.objs.size ∧ u < s.heap.objs.size := ⟨Heap.lt_size gr0, Heap.lt_size gd0, Heap.lt_size gl0, Heap.lt_size gu0⟩
          have hRk := R29.keepB (h' := h31) (Bad := fun b => b = s.heap.objs.size) kk (Nat.ne_of_lt lr) (Nat.ne_of_lt ld) (Nat.ne_of_lt ll) (fun T its hT => ne_locals_of_isTuple F30 hT)
          have hpk : (Tr.node tl tr).peak ah = max (T0'.peak ah) (T1'.peak ah + 1) := by
            simp only [Tr.peak]
            rw [eT0, eT1, hsw]
            cases Tr.swp ah tl tr <;> simp
          repeat (refine Mine.Hid.go (by with_reducible assumption) ?_)
          refine ret (vs4 ++ [v29]) t us2 nu2 zs c h31 tk31 (fun a ha => ?_) (ext_lu (h₁ := h31) (fun b o q1 q2 q3 q4 e => F31.keep b o (hBe.h b o q1 q2 q3 q4 e)) (fun o e => ?_) (fun o e => ?_) (hides_ext _ _)) hc (by rw [hcp, epar]) hRk (kk _ _ (Nat.ne_of_lt lu) gu29) su2.h (by rw [hzl]; exact hlv.1) (fun z hz => by rw [hpk]; exact hzb z hz) (by rw [hpk]; exact hzm)
          · rcases List.mem_append.mp ha with ha | ha
            · exact hoff2 a (by have := hsub3 _ (hsub4 _ ha); exact this)
            · exact hv29 a (List.mem_singleton.mp ha).symm
          · cases gr0.symm.trans e; exact hRk.inst
          · cases gd0.symm.trans e; exact kk _ _ (Nat.ne_of_lt ld) gd29
end Mine
end
section -- H6
open PySem PySem.W PyProof.Rows
set_option maxRecDepth 100000
set_option linter.unusedVariables false
namespace Mine
theorem zoff_H6 : True := by
  w_top off
  k_with_none
  k_with "Hid" => (refine Mine.Hid.go (by with_reducible assumption) ?_)
  k_with "execs cons" => ((fail_if_success (with_reducible refine Mine.isHid ?_)); (refine Mine.hideQ fun _ _ => ?_))
  k_with "exec Assign" => ((fail_if_success (with_reducible refine Mine.isHid ?_)); (refine Mine.hideQ fun _ _ => ?_))
  k_with "exec Expr" => ((fail_if_success (with_reducible refine Mine.isHid ?_)); (refine Mine.hideQ fun _ _ => ?_))
  k_with "exec Return" => ((fail_if_success (with_reducible refine Mine.isHid ?_)); (refine Mine.hideQ fun _ _ => ?_))
  k_with "exec AugAssign" => ((fail_if_success (with_reducible refine Mine.isHid ?_)); (refine Mine.hideQ fun _ _ => ?_))
  k_with "exec If" => ((fail_if_success (with_reducible refine Mine.isHid ?_)); (refine Mine.hideQ fun _ _ => ?_))
  trivial
set_option maxHeartbeats 8000000 in
theorem items_spec (w : World) {p : Program} {loose : List Str} {mean : ExcName → Option Value} {mg mb : Str → Option Value} : ∀ (b₀ : Heap) (r d l : Addr) (vs : List Value) (xs : List (Str × Str)) (A : Around) (s : Shared) (Q E : Value → Shared → Prop)
    (X : (KX w.params).In b₀) (T : Top p loose mean mg mb b₀) (hb : Ext b₀ s.heap) (off : ∀ a ∈ [r, d, l], b₀.get? a = none) (H : Rack w s.heap r d l vs xs) (hd : A.depth < recursionLimit) (hh : A.handled = none) (hsz : xs.length ≤ 100)
    (ret : ∀ D h' tk', h'.IsList D vs.toArray → Ext s.heap h' → Q (.ref D) { s with heap := h', toks := tk' }), wpAny (model PySem.Challenge.rw_sh0039_01.row.prog w) A (call (.ref 191) [.ref r]) Q E s := by
  k_fill
  intro b₀ r d l vs xs A s Q E X T hb off H hd hh hsz ret
  obtain ⟨h1, ⟨tkd, h2⟩, ⟨n, h3⟩, h4, ⟨p1, p2, h5⟩⟩ := H
  ((refine Mine.and3 (ne3 h1 h2 h3) ?_); intro n1 n2 n3)
  have hvs : vs.toArray.size ≤ 100 := by simp; omega
  have hu := hide_ext hb off
  k_dflt (refine' enterH (hs := [r, d, l]) (news := [(r, instObj 227 d), (d, dictOf [⟨PyData.keyHash w.params (Str.ofString "_headers"), .str (Str.ofString "_headers") tkd, .ref l⟩] 1), (l, listOf vs.toArray n)]) (K := KX w.params) (X.keeps hu) (T.keeps hu) ?kn ?k6 ?k7 hd ?k9 ?kB ?_ ?c2 ?c3 ?c4 ?c5)
  (case kn => exact all3 ⟨h1, .head _⟩ ⟨h2, .tail _ (.head _)⟩ ⟨h3, .tail _ (.tail _ (.head _))⟩)
  (case k6 => k_is)
  (case k7 => k_is)
  (case k9 => exact BindsTo.of_eq rfl)
  (case kB => exact locs rfl)
  (case c2 => exact rfl)
  (case c3 => exact rfl)
  (case c4 => exact rfl)
  (case c5 => decide)
  clear X T
  intro h₁ F N X T
  (try k_fold)
  k_steps
  (with_reducible rename Fr _ _ _ _ => F1)
  (with_reducible rename News _ _ _ _ => N1)
  have e : slicePick vs.toArray none none none = vs.toArray := by
    rw [PySem.W.kmk_pick_nat vs.toArray (a := 0) (b := vs.toArray.size) rfl]
    simp
  rw [e] at N1
  exact ret _ _ _ ⟨_, (N1 _ (.head _)).1, rfl, _, rfl⟩ (ext_unhide F1.keep (kept3' (fun p hp => N1 p (.tail _ hp)) h1 h2 h3))
end Mine
end
section -- Y5
open PySem PySem.W PyProof.Rows PyProof.Rows.LCg PyProof.Rows.LCt
set_option maxRecDepth 100000
set_option linter.unusedVariables false
namespace Mine
theorem zoff_Y5 : True := by
  w_top off
  k_with_none
  k_with "Hid" => (refine Mine.Hid.go (by with_reducible assumption) ?_)
  k_with "execs cons" => ((fail_if_success (with_reducible refine Mine.isHid ?_)); (refine Mine.hideQ fun _ _ => ?_))
  k_with "exec Assign" => ((fail_if_success (with_reducible refine Mine.isHid ?_)); (refine Mine.hideQ fun _ _ => ?_))
  k_with "exec Expr" => ((fail_if_success (with_reducible refine Mine.isHid ?_)); (refine Mine.hideQ fun _ _ => ?_))
  k_with "exec Return" => ((fail_if_success (with_reducible refine Mine.isHid ?_)); (refine Mine.hideQ fun _ _ => ?_))
  k_with "exec AugAssign" => ((fail_if_success (with_reducible refine Mine.isHid ?_)); (refine Mine.hideQ fun _ _ => ?_))
  k_with "exec If" => ((fail_if_success (with_reducible refine Mine.isHid ?_)); (refine Mine.hideQ fun _ _ => ?_))
  trivial
theorem len_one {α : Type} {l : List α} (h : l.length = 0 + 1) : ∃ v, l = [v] := List.length_eq_one_iff.mp h
/-- what _law_run gives back -/
structure RunAt (h : Heap) (D : Addr) (t : Tr) (ah : Bool) : Prop where
  ex : ∃ I T tk t1 t2, h.IsList D #[.ref I, .int ((t.peak ah : Nat) : Int) tk] ∧ h.IsList I #[.ref T] ∧ h.IsTuple T #[.str (nmS 1 97) t1, .str t.write t2]
theorem zk_Y5_1 : True := by
  k_with "execs nil" => (refine wpAny_execs_nil ?_)
  trivial
local macro_rules | `(tactic| k_mem) => `(tactic| (refine List.mem_append.mpr (Or.inr ?_); k_mem))
theorem zk_Y5_2 : True := by
  k_with "call builtin:max" => (refine Stop.h ?_)
  trivial
set_option maxHeartbeats 8000000 in
theorem run_spec (w : World) {p : Program} {loose : List Str} {mean : ExcName → Option Value} {mg mb : Str → Option Value} : ∀ (t : Tr) (ah : Bool) (v : Value) (A : Around) (s : Shared) (Q E : Value → Shared → Prop)
    (X : (KX w.params).In s.heap) (T : Top p loose mean mg mb s.heap) (hd : A.depth + t.size + 60 < recursionLimit) (hh : A.handled = none) (hpl : PlanAt s.heap v t) (hok : t.Good) (htl : t.leaves ≤ 8)
    (ret : ∀ D h' tk', RunAt h' D t ah → Ext s.heap h' → s.heap.get? D = none → Q (.ref D) { s with heap := h', toks := tk' }),
    wpAny (model PySem.Challenge.rw_sh0039_01.row.prog w) A (call (.ref 283) [v, .bool ah]) Q E s := by
  k_fill
  intro t ah v A s Q E X T hd hh hpl hok htl ret
  have hd0 : A.depth < recursionLimit := by omega
  k_dflt (refine' enter (K := KX w.params) X T ?k6 ?k7 hd0 ?k9 ?kB ?_ ?c2 ?c3 ?c4 ?c5)
  (case k6 => k_is)
  (case k7 => k_is)
  (case k9 => exact BindsTo.of_eq rfl)
  (case kB => exact locs rfl)
  (case c2 => exact rfl)
  (case c3 => exact rfl)
  (case c4 => exact rfl)
  (case c5 => decide)
  have X0 := X
  have T0 := T
  clear X T
  intro h₁ F N X T
  (try k_fold)
  k_steps
  (with_reducible rename Fr _ _ _ _ => F1)
  (with_reducible rename News _ _ _ _ => N1)
  refine new0_spec w s.heap _ _ _ _ X T F1.keep (by simp only [depth_deeper]; omega) hh ?_
  intro r d l h2 tk2 fr fd fl e2 R2
  have F2 := Fr.keeps F1 e2
  have hLn : ∀ a, Heap.get? _ a = none → a ≠ s.heap.objs.size := fun a e q => by
    ((refine Mine.ex3 F1.ns ?_); intro o _ _; intro hZ1; (refine And.elim ?_ hZ1); clear hZ1; intro ho _)
    rw [← q, e] at ho; cases ho
  have off2 : ∀ a ∈ [r, d, l], s.heap.get? a = none ∧ a ≠ s.heap.objs.size := fun a ha => by
    replace ha := mem3 ha
    (rcases ha with hZ | hZ | hZ <;> ((replace hZ := Eq.symm hZ); obtain rfl := hZ))
    · exact ⟨none_base F1.keep fr, hLn _ fr⟩
    · exact ⟨none_base F1.keep fd, hLn _ fd⟩
    · exact ⟨none_base F1.keep fl, hLn _ fl⟩
  clear F1 N1
  obtain ⟨ri, ⟨tkd, rd⟩, ⟨nl, rl⟩, -, -⟩ := id R2
  ((refine Mine.and3 (ne3 ri rd rl) ?_); intro m1 m2 m3)
  ((refine Exists.elim (snap F2) ?_); intro own2; intro hZ1; (refine And.elim ?_ hZ1); clear hZ1; intro Nown2 hs2)
  have N2 : News s.heap s.heap.objs.size h2 ((r, instObj 227 d) :: (d, dictOf [⟨PyData.keyHash w.params (Str.ofString "_headers"), .str (Str.ofString "_headers") tkd, .ref l⟩] 1) :: (l, listOf #[] nl) :: own2) := fun p hp => by
    rcases List.mem_cons.mp hp with rfl | hp
    · exact ⟨ri, (off2 _ (.head _)).2, (off2 _ (.head _)).1⟩
    · rcases List.mem_cons.mp hp with rfl | hp
      · exact ⟨rd, (off2 _ (.tail _ (.head _))).2, (off2 _ (.tail _ (.head _))).1⟩
      · rcases List.mem_cons.mp hp with rfl | hp
        · exact ⟨rl, (off2 _ (.tail _ (.tail _ (.head _)))).2, (off2 _ (.tail _ (.tail _ (.head _)))).1⟩
        · exact Nown2 p hp
  clear Nown2
  have snt : Stop (∀ T its, h2.IsTuple T its → T ≠ s.heap.objs.size) := ⟨fun T its hT => ne_locals_of_isTuple F2 hT⟩
  dsimp only
  k_steps
  (with_reducible rename Fr _ _ _ _ => F3)
  (with_reducible rename News _ _ _ _ => N3)
  (with_reducible rename _ < _ ∧ _ => l3)
  have kk := snap_keep F3 N3 hs2 (fun q hq => .tail _ (.tail _ (.tail _ (.tail _ hq))))
  have R3 := R2.keepB (Bad := fun b => b = s.heap.objs.size) kk (off2 _ (.head _)).2 (off2 _ (.tail _ (.head _))).2 (off2 _ (.tail _ (.tail _ (.head _)))).2 snt.h
  refine work_spec w t.size t (Nat.le_refl _) s.heap r d l _ [] [] [] 0 [] [] ah v _ _ _ _ X T F3.keep (fun a ha => ?_) R3 (N3 _ (.head _)).1 .nil (Nat.ne_of_gt l3.2.2.1) (fun a ha => by cases ha) (by simp only [depth_deeper]; omega) hh ⟨rfl, fun c hc => (by cases hc), fun i q hq => (by simp at hq)⟩ (fun q hq => by cases hq) (by simp only [List.length_nil]; omega) (by simp only [List.length_nil]; omega) hpl hok htl ?_
  · replace ha := mem4 ha
    (rcases ha with hZ | hZ | hZ | hZ <;> ((replace hZ := Eq.symm hZ); obtain rfl := hZ))
    · exact (off2 _ (.head _)).1
    · exact (off2 _ (.tail _ (.head _))).1
    · exact (off2 _ (.tail _ (.tail _ (.head _)))).1
    · exact (N3 _ (.head _)).2.2
  intro vs' tn us' nu' zs c h4 tk4 hoff4 e4 hc hcp R4 hu4 hi4 hzl hzb hzm
  obtain rfl : c = 97 := by rw [hcp]; rfl
  have F4 := fr_hideN F3 (fun a ha => by
    replace ha := mem2 ha
    (rcases ha with hZ | hZ <;> ((replace hZ := Eq.symm hZ); obtain rfl := hZ))
    · exact (N3 (_, listOf #[] nl) (by k_mem)).2.2
    · exact (N3 _ (.head _)).2.2) (by
    simp only [List.mem_cons, List.not_mem_nil, or_false, not_or]
    exact ⟨Ne.symm (N3 (_, listOf #[] nl) (by k_mem)).2.1, Ne.symm (N3 _ (.head _)).2.1⟩) e4
  have nr := (N3 (r, instObj 227 d) (by k_mem)).2
  have nd := (N3 (d, dictOf [⟨PyData.keyHash w.params (Str.ofString "_headers"), .str (Str.ofString "_headers") tkd, .ref l⟩] 1) (by k_mem)).2
  have nu0 := (N3 _ (.head _)).2
  clear F3 N3 kk R3 R2
  obtain ⟨ri4, ⟨tkd4, rd4⟩, ⟨nl4, rl4⟩, -, -⟩ := id R4
  ((refine Exists.elim (snap F4) ?_); intro own4; intro hZ1; (refine And.elim ?_ hZ1); clear hZ1; intro Nown4 hs4)
  have N4 : News s.heap s.heap.objs.size h4 ((r, instObj 227 d) :: (d, dictOf [⟨PyData.keyHash w.params (Str.ofString "_headers"), .str (Str.ofString "_headers") tkd4, .ref l⟩] 1) :: (_, listOf us'.toArray nu') :: own4) := fun p hp => by
    rcases List.mem_cons.mp hp with rfl | hp
    · exact ⟨ri4, nr⟩
    · rcases List.mem_cons.mp hp with rfl | hp
      · exact ⟨rd4, nd⟩
      · rcases List.mem_cons.mp hp with rfl | hp
        · exact ⟨hu4, nu0⟩
        · exact Nown4 p hp
  have si4 : Stop (IntsAre us' zs) := ⟨by simpa using hi4⟩
  clear hi4
  dsimp only
  k_steps
  have off4 : ∀ a ∈ [r, d, l], s.heap.get? a = none := fun a ha => (off2 a ha).1
  (with_reducible rename Fr _ _ _ _ => F5)
  (with_reducible rename News _ _ _ _ => N5)
  refine items_spec w s.heap r d l vs' _ _ _ _ _ X0 T0 F5.keep off4 R4 (by simp only [depth_deeper]; omega) hh (by simp) ?_
  intro I h6 tk6 hI e6
  have F6 := Fr.keeps F5 e6
  have nlI := fun a xs (q : h6.IsList a xs) => ne_locals_of_isList F6 q
  have nlT := fun T its (q : h6.IsTuple T its) => ne_locals_of_isTuple F6 q
  have gu6 := e6 _ _ hu4
  have R6 := R4.ext e6
  ((refine Exists.elim (snap F6) ?_); intro own6; intro hZ1; (refine And.elim ?_ hZ1); clear hZ1; intro Nown6 hs6)
  have N6 : News s.heap s.heap.objs.size h6 ((_, listOf us'.toArray nu') :: own6) := fun p hp => by
    rcases List.mem_cons.mp hp with rfl | hp
    · exact ⟨gu6, nu0⟩
    · exact Nown6 p hp
  clear F5 N5 Nown6
  dsimp only
  have sv6 : Stop ((∀ a xs, h6.IsList a xs → a ≠ s.heap.objs.size) ∧ (∀ T its, h6.IsTuple T its → T ≠ s.heap.objs.size)) := ⟨nlI, nlT⟩
  clear nlI nlT
  k_steps
  constructor
  (with_reducible rename Fr _ _ _ _ => F7)
  (with_reducible rename News _ _ _ _ => N7)
  refine kso_max F7 N7 (News.isList N7 (.head _)) si4.h (by rw [hzl]; exact leaves_pos t) hh ?_
  intro h8 M tM tk8 F8 N8 hM hMb
  have eM : M = ((t.peak ah : Nat) : Int) := by
    have h1 := hzb M hM
    have h2 := hMb _ hzm
    simp only [List.length_nil, Nat.zero_add] at h1 h2
    omega
  clear F7 N7
  k_steps
  (with_reducible rename Fr _ _ _ _ => F9)
  (with_reducible rename News _ _ _ _ => N9)
  have kk := snap_keep F9 N9 hs6 (fun q hq => .tail _ (.tail _ hq))
  ((refine Exists.elim (id hI) ?_); intro o; intro hZ1; (refine Mine.and3 hZ1 ?_); clear hZ1; intro ho hoc; intro hZ2; (refine Exists.elim hZ2 ?_); clear hZ2; intro n hod)
  obtain ⟨-, -, -, rlen, q1, q2, rrow⟩ := R6
  ((refine Exists.elim (len_one rlen) ?_); intro v0; intro hZ1; obtain rfl := hZ1)
  ((refine Mine.hideG fun G kG => ?_); (refine Exists.elim (rrow 0 v0 rfl) ?_); intro T; intro hZ1; (refine And.elim ?_ hZ1); clear hZ1; intro hZ2; obtain rfl := hZ2; intro hZ3; (refine Exists.elim hZ3 ?_); clear hZ3; intro oT; intro hZ4; (refine Mine.and3 hZ4 ?_); clear hZ4; intro hoT hTc hTd; (refine kG ?_); clear kG G)
  refine ret _ _ _ ⟨I, T, _, _, _, eM ▸ News.isList N9 (.head _), ⟨o, kk _ _ (sv6.h.1 _ _ hI) ho, hoc, n, hod⟩, ⟨oT, kk _ _ (sv6.h.2 _ _ ⟨oT, hoT, hTc, hTd⟩) hoT, hTc, hTd⟩⟩ F9.keep (N9 _ (.head _)).2.2
end Mine
end
section -- Y6
open PySem PySem.W PyProof.Rows
set_option maxRecDepth 100000
set_option linter.unusedVariables false
namespace Mine
theorem zoff_Y6 : True := by
  w_top off
  k_with_none
  k_with "Hid" => (refine Mine.Hid.go (by with_reducible assumption) ?_)
  k_with "execs cons" => ((fail_if_success (with_reducible refine Mine.isHid ?_)); (refine Mine.hideQ fun _ _ => ?_))
  k_with "exec Assign" => ((fail_if_success (with_reducible refine Mine.isHid ?_)); (refine Mine.hideQ fun _ _ => ?_))
  k_with "exec Expr" => ((fail_if_success (with_reducible refine Mine.isHid ?_)); (refine Mine.hideQ fun _ _ => ?_))
  k_with "exec Return" => ((fail_if_success (with_reducible refine Mine.isHid ?_)); (refine Mine.hideQ fun _ _ => ?_))
  k_with "exec AugAssign" => ((fail_if_success (with_reducible refine Mine.isHid ?_)); (refine Mine.hideQ fun _ _ => ?_))
  k_with "exec If" => ((fail_if_success (with_reducible refine Mine.isHid ?_)); (refine Mine.hideQ fun _ _ => ?_))
  trivial
theorem zk_Y6_1 : True := by
  k_with "execs cons" => ((with_reducible refine wpAny_execs_cons ?_); try dsimp only)
  k_with "execs nil" => (refine wpAny_execs_nil ?_)
  k_with "execs cons Assign cons" => ((with_reducible refine wpAny_execs_cons ?_); try dsimp only)
  k_with "eval Name" => (refine ldq (by rfl) (by assumption) (by assumption) ?_)
  k_with "pyIter ref" => (refine Stop.h ?_)
  k_with "binaryOp Add ref ref" => (refine Stop.h ?_)
  k_with "call type:list" => (refine Stop.h ?_)
  k_with "eval IfExp" => (refine Stop.h ?_)
  trivial
theorem range30 {n : Nat} (h : n ≤ 30) : Builtin.Range.small 0 (n : Int) 1 = true ∧ Builtin.Range.rangeSize 0 (n : Int) 1 = (n : Int) := by
  have : ∀ j : Fin 31, Builtin.Range.small 0 (j.val : Int) 1 = true ∧ Builtin.Range.rangeSize 0 (j.val : Int) 1 = (j.val : Int) := by decide +kernel
  exact this ⟨n, by omega⟩
theorem zk_Y6_2 : True := by
  k_with "subscriptTail" => (refine Stop.h ?_)
  k_with "subscriptTail Name Name ref int" => (refine Stop.h ?_)
  trivial
noncomputable def codesL : List Int := [173, 847, 6150, 6155, 6156, 6157, 8203, 8204, 8205, 8288, 65279] ++ rangeKs 65024 16
theorem codes_ok (j : Nat) : 0 ≤ codesL.getD j 0 ∧ codesL.getD j 0 ≤ 1114111 ∧ (j < 27 → (codesL.getD j 0).toNat ∈ b1L) := by
  by_cases h : j < 27
  · have : ∀ j : Fin 27, 0 ≤ codesL.getD j.val 0 ∧ codesL.getD j.val 0 ≤ 1114111 ∧ ((codesL.getD j.val 0).toNat ∈ b1L) := by decide +kernel
    have := this ⟨j, h⟩
    exact ⟨this.1, this.2.1, fun _ => this.2.2⟩
  · have hl : codesL.length = 27 := by decide +kernel
    have e : codesL.getD j 0 = 0 := by
      rw [List.getD_eq_getElem?_getD, List.getElem?_eq_none (by omega)]; rfl
    rw [e]
    exact ⟨by decide, by decide, fun q => absurd q h⟩
theorem marks_at {fig : Int} {uc : Nat} {a0 a1 a2 a3 a4 a5 a6 a7 : Tok} (h0 : 0 ≤ fig) (h8 : fig < 8) : ∃ y t, (y.cps.toList = mkT fig.toNat uc ∧ y.length ≤ 6) ∧
    (#[Value.str (Str.ofString "") a0, .str (Str.ofString "\\" ++ ⟨#[uc]⟩ ++ Str.ofString ")") a1, .str (Str.ofString "\\\"") a2, .str ⟨#[uc]⟩ a3, .str (Str.ofString "\"(\"") a4, .str (Str.ofString "\"\\" ++ ⟨#[uc]⟩ ++ Str.ofString "\")\"") a5, .str (⟨#[uc]⟩ ++ Str.ofString "\")\\\\\"") a6, .str (Str.ofString "\"\"") a7] : Array Value).getD fig.toNat .none = .str y t := by
  have e0 : (Str.ofString "").cps = #[] := by decide +kernel
  have e1 : (Str.ofString "\\").cps = #[92] := by decide +kernel
  have e1' : (Str.ofString ")").cps = #[41] := by decide +kernel
  have e2 : (Str.ofString "\\\"").cps = #[92, 34] := by decide +kernel
  have e4 : (Str.ofString "\"(\"").cps = #[34, 40, 34] := by decide +kernel
  have e5 : (Str.ofString "\"\\").cps = #[34, 92] := by decide +kernel
  have e5' : (Str.ofString "\")\"").cps = #[34, 41, 34] := by decide +kernel
  have e6 : (Str.ofString "\")\\\\\"").cps = #[34, 41, 92, 92, 34] := by decide +kernel
  have e7 : (Str.ofString "\"\"").cps = #[34, 34] := by decide +kernel
  have hk : fig.toNat < 8 := by omega
  generalize fig.toNat = k at hk
  refine lt8 (P := fun k => ∃ y t, (y.cps.toList = mkT k uc ∧ y.length ≤ 6) ∧ (#[Value.str (Str.ofString "") a0, .str (Str.ofString "\\" ++ ⟨#[uc]⟩ ++ Str.ofString ")") a1, .str (Str.ofString "\\\"") a2, .str ⟨#[uc]⟩ a3, .str (Str.ofString "\"(\"") a4, .str (Str.ofString "\"\\" ++ ⟨#[uc]⟩ ++ Str.ofString "\")\"") a5, .str (⟨#[uc]⟩ ++ Str.ofString "\")\\\\\"") a6, .str (Str.ofString "\"\"") a7] : Array Value).getD k .none = .str y t) ?_ ?_ ?_ ?_ ?_ ?_ ?_ ?_ hk <;>
    refine ⟨_, _, ⟨?_, ?_⟩, rfl⟩ <;> simp [mkT_eq, Str.length, app_cps, e0, e1, e1', e2, e4, e5, e5', e6, e7]
theorem lefts_at {fig : Int} {a0 a1 a2 a3 a4 a5 a6 a7 : Tok} (h0 : 0 ≤ fig) (h8 : fig < 8) : ∃ y t, (y.cps.toList = mkL fig.toNat ∧ y.length ≤ 2) ∧
    (#[Value.str (Str.ofString "") a0, .str (Str.ofString "\\)") a1, .str (Str.ofString "\\\"") a2, .str (Str.ofString "") a3, .str (Str.ofString "") a4, .str (Str.ofString "") a5, .str (Str.ofString "") a6, .str (Str.ofString "") a7] : Array Value).getD fig.toNat .none = .str y t := by
  have e0 : (Str.ofString "").cps = #[] := by decide +kernel
  have e1 : (Str.ofString "\\)").cps = #[92, 41] := by decide +kernel
  have e2 : (Str.ofString "\\\"").cps = #[92, 34] := by decide +kernel
  have hk : fig.toNat < 8 := by omega
  generalize fig.toNat = k at hk
  refine lt8 (P := fun k => ∃ y t, (y.cps.toList = mkL k ∧ y.length ≤ 2) ∧ (#[Value.str (Str.ofString "") a0, .str (Str.ofString "\\)") a1, .str (Str.ofString "\\\"") a2, .str (Str.ofString "") a3, .str (Str.ofString "") a4, .str (Str.ofString "") a5, .str (Str.ofString "") a6, .str (Str.ofString "") a7] : Array Value).getD k .none = .str y t) ?_ ?_ ?_ ?_ ?_ ?_ ?_ ?_ hk <;>
    refine ⟨_, _, ⟨?_, ?_⟩, rfl⟩ <;> simp [mkL_eq, Str.length, e0, e1, e2]
theorem typed_len : ∀ bs : List Blk, (typedL bs).length ≤ 7 * bs.length ∧ (leftL bs).length ≤ 3 * bs.length
  | [] => by simp [typedL, leftL]
  | b :: r => by
    have ih := typed_len r
    have e1 : typedL (b :: r) = mkT b.k b.u ++ [b.c] ++ typedL r := rfl
    have e2 : leftL (b :: r) = mkL b.k ++ [b.c] ++ leftL r := rfl
    have h1 : (mkT b.k b.u).length ≤ 6 := mkT_len _ _
    have h2 : (mkL b.k).length ≤ 2 := mkL_len _
    rw [e1, e2]
    simp only [List.length_append, List.length_cons, List.length_nil]
    omega
theorem item_at {x : Str} {i : Nat} (h : i < x.length) : ∃ c, x.cps.toList[i]? = some c ∧ Txt.item x (i : Int) = ⟨#[c]⟩ := by
  have hn : x.cps.toList.length = x.length := by simp [Str.length]
  have hi : i < x.cps.toList.length := by omega
  refine ⟨x.cps.toList[i], List.getElem?_eq_getElem hi, ?_⟩
  have hs : i < x.cps.size := by simpa using hi
  unfold Txt.item
  congr 1
  have hq : seqIndex? (i : Int) x.length = some i := by
    have hni : ¬ ((i : Int) < 0) := Int.not_lt.mpr (Int.natCast_nonneg i)
    unfold seqIndex?
    simp only [if_neg hni]
    rw [decide_eq_true (Int.natCast_nonneg i), decide_eq_true (Int.ofNat_lt.mpr h)]; rfl
  unfold Txt.charAt
  rw [hq]
  simp [hs]
theorem blk_snoc {bs : List Blk} {x : Str} {pl c : Nat} {fig : Int} {uc : Nat} {a b y z : Str} (hbk : ∀ q ∈ bs, BlkOk q) (hbp : plainL bs = x.cps.toList.take pl) (hba : a.cps.toList = typedL bs) (hbb : b.cps.toList = leftL bs)
    (hc : x.cps.toList[pl]? = some c) (hok : signOk c) (hu : uc ∈ b1L) (h0 : 0 ≤ fig) (h8 : fig < 8) (hy : y.cps.toList = mkT fig.toNat uc) (hz : z.cps.toList = mkL fig.toNat) :
    (∀ q ∈ bs ++ [⟨fig.toNat, uc, c⟩], BlkOk q) ∧ plainL (bs ++ [⟨fig.toNat, uc, c⟩]) = x.cps.toList.take (pl + 1) ∧ (a ++ (y ++ ⟨#[c]⟩)).cps.toList = typedL (bs ++ [⟨fig.toNat, uc, c⟩]) ∧ (b ++ (z ++ ⟨#[c]⟩)).cps.toList = leftL (bs ++ [⟨fig.toNat, uc, c⟩]) := by
  refine ⟨fun q hq => ?_, ?_, ?_, ?_⟩
  · rcases List.mem_append.mp hq with hq | hq
    · exact hbk q hq
    · rw [List.mem_singleton.mp hq]
      exact ⟨by show fig.toNat < 8; omega, hu, hok⟩
  · rw [plainL, List.map_append, List.take_add_one, hc, ← hbp]; rfl
  · rw [app_cps, app_cps, Array.toList_append, Array.toList_append, hba, hy, typedL, typedL, List.flatMap_append]; simp
  · rw [app_cps, app_cps, Array.toList_append, Array.toList_append, hbb, hz, leftL, leftL, List.flatMap_append]; simp
theorem codes_eq : codesL = b1L.map Int.ofNat := by decide +kernel
set_option maxHeartbeats 8000000 in
theorem typed_spec (w : World) {p : Program} {loose : List Str} {mean : ExcName → Option Value} {mg mb : Str → Option Value} : ∀ (x : Str) (seed : Int) (t1 t2 : Tok) (A : Around) (s : Shared) (Q E : Value → Shared → Prop)
    (X : (KX w.params).In s.heap) (T : Top p loose mean mg mb s.heap) (hd : A.depth < recursionLimit) (hh : A.handled = none) (hx : Stop ((∀ c ∈ x.cps.toList, signOk c) ∧ 1 ≤ x.length ∧ x.length ≤ 30)) (hs : Stop (0 ≤ seed ∧ seed < 10 ^ 30))
    (ret : ∀ D a b ta tb k bs h' tk', (∀ q ∈ bs, BlkOk q) → plainL bs = x.cps.toList → a.cps.toList = typedL bs → b.cps.toList = leftL bs → h'.get? D = some (listOf #[.str a ta, .str b tb] k) → s.heap.get? D = none → Ext s.heap h' → Q (.ref D) { s with heap := h', toks := tk' }),
    wpAny (model PySem.Challenge.rw_sh0039_01.row.prog w) A (call (.ref 252) [.str x t1, .int seed t2]) Q E s := by
  k_fill
  intro x seed t1 t2 A s Q E X T hd hh hx hs ret
  k_dflt (refine' enter (K := KX w.params) X T ?k6 ?k7 hd ?k9 ?kB ?_ ?c2 ?c3 ?c4 ?c5)
  (case k6 => k_is)
  (case k7 => k_is)
  (case k9 => exact BindsTo.of_eq rfl)
  (case kB => exact locs rfl)
  (case c2 => exact rfl)
  (case c3 => exact rfl)
  (case c4 => exact rfl)
  (case c5 => decide)
  clear X T
  intro h₁ F N X T
  have hxl : x.length ≤ 30 := hx.h.2.2
  (try k_fold)
  k_steps
  constructor
  (with_reducible rename Fr _ _ _ _ => F1)
  (with_reducible rename News _ _ _ _ => N1)
  (with_reducible rename IsRange _ _ _ _ _ _ _ _ => hR1)
  refine kll_range (n := 16) hh F1 N1 hR1 (by decide +kernel) (by decide +kernel) (by decide) ?_
  intro D us c h2 tk2 F2 N2 l2 i2
  clear F1 N1
  k_steps
  constructor
  (with_reducible rename Fr _ _ _ _ => F3)
  (with_reducible rename News _ _ _ _ => N3)
  refine add_arrays_ints (hsz := ?z1) F3 N3 (News.isList N3 (.tail _ (.head _))) (News.isList N3 (.head _)) (ns := [173, 847, 6150, 6155, 6156, 6157, 8203, 8204, 8205, 8288, 65279]) (by repeat constructor) (by simpa using i2) ?_
  case z1 => rw [rangeKs_length]; decide
  intro h4 F4 N4 i4
  clear F3 N3 i2
  k_steps
  constructor
  (with_reducible rename Fr _ _ _ _ => F5)
  (with_reducible rename News _ _ _ _ => N5)
  (with_reducible rename IsRange _ _ _ _ _ _ _ _ => hR5)
  have key : ∃ (cp : Addr) (arr : Array Value) (k0 : Nat) (M : Str → Option Value) (ta tb : Tok), IntsAre arr.toList codesL ∧ News s.heap s.heap.objs.size _ [(cp, listOf arr k0)] ∧ Fr s.heap s.heap.objs.size _ M ∧
      M (Str.ofString "typed") = some (.str (Str.ofString "") ta) ∧ M (Str.ofString "left") = some (.str (Str.ofString "") tb) ∧ M (Str.ofString "plain") = some (.str x t1) ∧ M (Str.ofString "seed") = some (.int seed t2) ∧ M (Str.ofString "codes") = some (.ref cp) :=
    ⟨_, _, 0, _, _, _, by rw [List.toList_toArray]; exact i4, fun p hp => N5 p (by rw [List.mem_singleton.mp hp]; exact .head _), F5, rfl, rfl, rfl, rfl, rfl⟩
  clear N5 F5 i4
  ((refine Mine.ex6 key ?_); (try clear key); intro cp arr k0 M ta tb; intro hZ1; (refine Mine.and8 hZ1 ?_); clear hZ1; intro hi N5 F5 a1 a2 a3 a4 a5)
  refine iter_rangeJ (n := x.length) (fun i m nx => ∃ bs a b, nx = [(cp, listOf arr k0)] ∧ (∀ q ∈ bs, BlkOk q) ∧ plainL bs = x.cps.toList.take i ∧ a.cps.toList = typedL bs ∧ b.cps.toList = leftL bs ∧
      (∃ ta, m (Str.ofString "typed") = some (.str a ta)) ∧ (∃ tb, m (Str.ofString "left") = some (.str b tb)) ∧ m (Str.ofString "plain") = some (.str x t1) ∧ m (Str.ofString "seed") = some (.int seed t2) ∧ m (Str.ofString "codes") = some (.ref cp))
    hh hR5 (range30 hxl).1 (range30 hxl).2 F5 N5 ⟨[], Str.ofString "", Str.ofString "", rfl, fun q hq => (by cases hq), by simp [plainL], by decide +kernel, by decide +kernel, ⟨ta, a1⟩, ⟨tb, a2⟩, a3, a4, a5⟩ ?_ ?_
  · intro pl tp m₁ nx h tkh own hpc hown hadr hJ10 F6 N6
    ((refine Mine.hideG fun G kG => ?_); (refine Mine.ex3 hJ10 ?_); (try clear hJ10); intro bs a b; intro hZ1; (refine Mine.and10 hZ1 ?_); clear hZ1; intro hZ2; obtain rfl := hZ2; intro hbk hbp hba hbb; intro hZ3; (refine Exists.elim hZ3 ?_); clear hZ3; intro ta' b1; intro hZ4; (refine Exists.elim hZ4 ?_); clear hZ4; intro tb' b2 b3 b4 b5; (refine kG ?_); clear kG G)
    clear F5 N5 a1 a2 a3 a4 a5
    have e1 : ∀ z y, z = Str.ofString "typed" ∨ z = Str.ofString "left" ∨ z = Str.ofString "plain" ∨ z = Str.ofString "seed" ∨ z = Str.ofString "codes" → m₁ z = some y → (fun y => if y = Str.ofString "place" then some (Value.int pl tp) else m₁ y) z = some y := by
      intro z y hx e
      dsimp only
      rw [if_neg (by rcases hx with rfl | rfl | rfl | rfl | rfl <;> decide)]
      exact e
    have key : ∃ M, Fr s.heap s.heap.objs.size h M ∧ M (Str.ofString "place") = some (.int pl tp) ∧ M (Str.ofString "typed") = some (.str a ta') ∧ M (Str.ofString "left") = some (.str b tb') ∧ M (Str.ofString "plain") = some (.str x t1) ∧ M (Str.ofString "seed") = some (.int seed t2) ∧ M (Str.ofString "codes") = some (.ref cp) :=
      ⟨_, F6, by simp, e1 _ _ (.inl rfl) b1, e1 _ _ (.inr (.inl rfl)) b2, e1 _ _ (.inr (.inr (.inl rfl))) b3, e1 _ _ (.inr (.inr (.inr (.inl rfl)))) b4, e1 _ _ (.inr (.inr (.inr (.inr rfl)))) b5⟩
    clear F6 e1 b1 b2 b3 b4 b5
    ((refine Exists.elim key ?_); (try clear key); intro M; intro hZ1; (refine Mine.and7 hZ1 ?_); clear hZ1; intro F6 b0 b1 b2 b3 b4 b5)
    replace N6 : News s.heap s.heap.objs.size h ((cp, listOf arr k0) :: own) := N6
    (try k_fold)
    k_steps
    constructor
    have hpw := pow8 pl (by omega)
    refine pure_mid (fun v => ∃ fig tf, v = .int fig tf ∧ 0 ≤ fig ∧ fig < 8) ?_ ?_
    · refine wpAny_IfExp ?_
      k_steps
      · refine floordiv_int (by simpa using Int.ne_of_gt hpw.1) ?_ (.inl (PyProof.noPylong_of_log2 (by simpa using hpw.2)))
        generalize hq : Int.fdiv seed _ = q
        clear hq
        k_steps
    · intro v tk7 hJ2
      ((refine Mine.ex2 hJ2 ?_); (try clear hJ2); intro fig tf; intro hZ1; (refine Mine.and3 hZ1 ?_); clear hZ1; intro hZ2; obtain rfl := hZ2; intro hf0 hf8)
      dsimp only
      k_steps
      refine floordiv_int (by simpa using Int.ne_of_gt hpw.1) ?_ (.inl (PyProof.noPylong_of_log2 (by simpa using hpw.2)))
      generalize hq : Int.fdiv seed _ = q
      clear hq hpw
      k_steps
      refine chr_of_range (codes_ok _).1 (codes_ok _).2.1 ?_
      have huc : (codesL.getD (q.fmod 27).toNat 0).toNat ∈ b1L := (codes_ok _).2.2 (by have a := Int.fmod_lt_of_pos q (b := 27) (by decide); have b := Int.fmod_nonneg_of_pos q (b := 27) (by decide); omega)
      generalize (codesL.getD (q.fmod 27).toNat 0).toNat = uc at *
      have hul : (⟨#[uc]⟩ : Str).length = 1 := rfl
      k_steps
      (with_reducible rename Fr _ _ _ _ => F8)
      refine ldn F8 (v := .str a ta') ((if_neg (by decide)).trans ((if_neg (by decide)).trans ((if_neg (by decide)).trans b1))) ?_
      have hal : a.length ≤ 300 ∧ b.length ≤ 300 := by
        have h1 := typed_len bs
        have h2 : bs.length = pl := by
          have := congrArg List.length hbp
          rw [plainL, List.length_map, List.length_take] at this
          have h3 : x.cps.toList.length = x.length := by simp [Str.length]
          omega
        have h3 : a.cps.toList.length = a.length := by simp [Str.length]
        have h4 : b.cps.toList.length = b.length := by simp [Str.length]
        rw [hba] at h3
        rw [hbb] at h4
        omega
      have ⟨hal1, hal2⟩ := hal
      clear hal
      k_steps
      constructor
      (with_reducible rename Fr _ _ _ _ => F9)
      (with_reducible rename News _ _ _ _ => N9)
      refine my_item_str N9 (.head _) hf0 (by show fig < 8; exact hf8) (by omega) (P := fun y => y.cps.toList = mkT fig.toNat uc ∧ y.length ≤ 6) (marks_at hf0 hf8) ?_
      intro y ty hJ2
      ((refine And.elim ?_ hJ2); (try clear hJ2); intro hy hyl)
      k_steps
      (with_reducible rename Fr _ _ _ _ => F10)
      refine ldn F10 (v := .str b tb') ((if_neg (by decide)).trans ((if_neg (by decide)).trans ((if_neg (by decide)).trans ((if_neg (by decide)).trans b2)))) ?_
      k_steps
      constructor
      (with_reducible rename Fr _ _ _ _ => F11)
      (with_reducible rename News _ _ _ _ => N11)
      refine my_item_str N11 (.head _) hf0 (by show fig < 8; exact hf8) (by omega) (P := fun y => y.cps.toList = mkL fig.toNat ∧ y.length ≤ 2) (lefts_at hf0 hf8) ?_
      intro z tz hJ2
      ((refine And.elim ?_ hJ2); (try clear hJ2); intro hz hzl)
      k_steps
      (with_reducible rename Fr _ _ _ _ => F12)
      (with_reducible rename News _ _ _ _ => N12)
      ((refine Exists.elim (item_at hpc) ?_); intro c; intro hZ1; (refine And.elim ?_ hZ1); clear hZ1; intro hc hit)
      rw [hit] at F12
      ((refine Mine.and4 (blk_snoc hbk hbp hba hbb hc (hx.h.1 c (List.mem_of_getElem? hc)) huc hf0 hf8 hy hz) ?_); intro r1 r2 r3 r4)
      refine LnEnd.one F12 (fun p hp => N12 p (.tail _ (.tail _ hp))) ⟨_, _, _, rfl, r1, r2, r3, r4, ?_, ?_, ?_, ?_, ?_⟩
      · exact ⟨_, (if_neg (by decide)).trans (if_pos rfl)⟩
      · exact ⟨_, if_pos rfl⟩
      · exact (if_neg (by decide)).trans ((if_neg (by decide)).trans ((if_neg (by decide)).trans ((if_neg (by decide)).trans ((if_neg (by decide)).trans b3))))
      · exact (if_neg (by decide)).trans ((if_neg (by decide)).trans ((if_neg (by decide)).trans ((if_neg (by decide)).trans ((if_neg (by decide)).trans b4))))
      · exact (if_neg (by decide)).trans ((if_neg (by decide)).trans ((if_neg (by decide)).trans ((if_neg (by decide)).trans ((if_neg (by decide)).trans b5))))
  · intro m₁ nx h tkh hJ4 F6 N6
    ((refine Mine.hideG fun G kG => ?_); (refine Mine.ex3 hJ4 ?_); (try clear hJ4); intro bs a b; intro hZ1; (refine Mine.and10 hZ1 ?_); clear hZ1; intro hZ2; obtain rfl := hZ2; intro hbk hbp hba hbb; intro hZ3; (refine Exists.elim hZ3 ?_); clear hZ3; intro ta' b1; intro hZ4; (refine Exists.elim hZ4 ?_); clear hZ4; intro tb' b2 b3 b4 b5; (refine kG ?_); clear kG G)
    clear F5 N5 a1 a2 a3 a4 a5
    (try k_fold)
    k_steps
    (with_reducible rename Fr _ _ _ _ => F7)
    (with_reducible rename News _ _ _ _ => N7)
    have hn : x.cps.toList.length = x.length := by simp [Str.length]
    rw [List.take_of_length_le (by omega)] at hbp
    exact ret _ _ _ _ _ _ bs _ _ hbk hbp hba hbb (N7 _ (.head _)).1 (N7 _ (.head _)).2.2 F7.keep
end Mine
end
section -- Y8
open PySem PySem.W PyProof.Rows PyProof.Rows.LCg PyProof.Rows.LCp PyProof.Rows.LCt
set_option maxRecDepth 100000
set_option linter.unusedVariables false
namespace Mine
section
variable {prog : Program} {w : World} {A : Around} {E : Value → Shared → Prop} {s : Shared} {h₀ : Heap} {L : Addr} {m : Str → Option Value} {env : Env}
/-- a comprehension with one test over the signs of a text -/
structure StrSrc (prog : Program) (w : World) (A : Around) (h₀ : Heap) (L : Addr) (m : Str → Option Value) (env : Env) (ct elt : PySem.Expr) (x : Str) (scope : Scope) (cl : List (Str × Addr)) (Q : Value → Shared → Prop) (xv : Value) (s₁ : Shared) : Prop where
  ex : ∃ y t news, xv = .str y t ∧ y.cps.size ≤ sizeLine ∧ Fr h₀ L s₁.heap m ∧ News h₀ L s₁.heap news ∧
    ∀ g, CompRestT prog w A h₀ L m env ct elt x scope cl { s₁ with heap := g } (fun _ => True) (SignAt y) (FinE h₀ L m { s₁ with heap := g } Q) y.cps.size 0 [] news
theorem striter_st {I : Addr} {x : Str} {ty : String} {t : Tok} : ∀ i (h h' : Heap) (o : Obj) (nw : List (Addr × Obj)), h.IsStrIter I ty x t i → h.get? I = some o → h'.get? I = some o → (∀ b o, h₀.get? b = some o → h'.get? b = some o) → News h₀ L h' nw → True → h'.IsStrIter I ty x t i :=
  fun i h h' o nw st e e' _ _ _ => by
    ((refine Exists.elim st ?_); (try clear st); intro o'; intro hZ1; (refine And.elim ?_ hZ1); clear hZ1; intro q r)
    rw [e] at q; cases q
    exact ⟨o, e', r⟩
theorem ListComp_TS {ct elt iter : PySem.Expr} {x : Str} {px : Pos} {scope : Scope} {cl : List (Str × Addr)} {pos : Pos} {Q : Value → Shared → Prop} (F₀ : Fr h₀ L s.heap m) (hh : A.handled = none)
    (hclos : closureFor scope env = pure cl) (hcell : ∀ y ∈ scope.names, y.2 ≠ .cell) (hkind : scope.kind = .function)
    (hnames : ∀ y ∈ scope.names, y.2 = .local → scope.names.lookup y.1 = some .local) (hx : scope.names.lookup x = some .local)
    (h : wpAny (model prog w) A (eval iter env) (StrSrc prog w A h₀ L m env ct elt x scope cl Q) E s)
    (hs : ∀ x, foldedSetIterable iter env x = pure x := by intro _; rfl) :
    wpAny (model prog w) A (eval (.ListComp elt [⟨.Name x px, iter, [ct], 0⟩] scope pos) env) Q E s := by
  rw [eval_ListComp]
  refine wpAny_comprehension_free (use := none) rfl hs hclos hkind hnames (wpAny_mono h (fun xv s₁ h₁ => ?_) fun _ _ e => e)
  ((refine Mine.ex3 h₁.ex ?_); intro y t news; intro hZ1; (refine Mine.and5 hZ1 ?_); clear hZ1; intro hZ2; obtain rfl := hZ2; intro hsz F N R)
  cases ha : y.cps.all (· < 128)
  · refine wpAny_pyIter_wide ha ?_
    refine block_T (Walks.strWide hh s₁.heap.objs.size y t) hsz (fun i h st => by ((refine Exists.elim st ?_); (try clear st); intro o; intro hZ1; (refine And.elim ?_ hZ1); clear hZ1; intro e _); exact ⟨o, e⟩) striter_st hcell hkind hx ⟨_, Heap.get?_push_size _ rfl, rfl, rfl⟩ (fun b hb => ?_)
      (F.keeps fun _ _ e => Heap.get?_push_of_some _ e) (N.grown fun _ _ e => Heap.get?_push_of_some _ e) (Nat.ne_of_lt F.ns.lt) (next_is_new F) (fun p hp => Nat.ne_of_lt (Heap.lt_size (N p hp).1)) trivial (R _) ?_
    · rw [List.mem_singleton.mp hb]
      show s₁.heap.objs.size < (s₁.heap.push _).objs.size
      rw [Heap.size_push]; exact Nat.lt_succ_self _
    · intro D C h tk m' ys news' F' N' o1 hn hC₀ hD₀ hCL hDL hCD offC fin
      refine ⟨m', hn, fun h'' hs'' => fin D h'' tk (F'.change hs'' hCL hC₀) (fun p hp => ?_) o1⟩
      refine ⟨hs''.extBut _ _ ?_ (N' p hp).1, (N' p hp).2⟩
      rcases List.mem_cons.mp hp with rfl | hp
      · exact Ne.symm hCD
      · exact offC p hp
  · refine wpAny_pyIter_ascii ha ?_
    refine block_T (Walks.strAscii hh s₁.heap.objs.size y t) hsz (fun i h st => by ((refine Exists.elim st ?_); (try clear st); intro o; intro hZ1; (refine And.elim ?_ hZ1); clear hZ1; intro e _); exact ⟨o, e⟩) striter_st hcell hkind hx ⟨_, Heap.get?_push_size _ rfl, rfl, rfl⟩ (fun b hb => ?_)
      (F.keeps fun _ _ e => Heap.get?_push_of_some _ e) (N.grown fun _ _ e => Heap.get?_push_of_some _ e) (Nat.ne_of_lt F.ns.lt) (next_is_new F) (fun p hp => Nat.ne_of_lt (Heap.lt_size (N p hp).1)) trivial (R _) ?_
    · rw [List.mem_singleton.mp hb]
      show s₁.heap.objs.size < (s₁.heap.push _).objs.size
      rw [Heap.size_push]; exact Nat.lt_succ_self _
    · intro D C h tk m' ys news' F' N' o1 hn hC₀ hD₀ hCL hDL hCD offC fin
      refine ⟨m', hn, fun h'' hs'' => fin D h'' tk (F'.change hs'' hCL hC₀) (fun p hp => ?_) o1⟩
      refine ⟨hs''.extBut _ _ ?_ (N' p hp).1, (N' p hp).2⟩
      rcases List.mem_cons.mp hp with rfl | hp
      · exact Ne.symm hCD
      · exact offC p hp
end
end Mine
end
section -- Y9
open PySem PySem.W PyProof.Rows PySem.PyData
set_option maxRecDepth 100000
set_option linter.unusedVariables false
namespace Mine
noncomputable def Tr.data : Tr → PyData
  | .leaf c => .str c
  | .node l r => .list [l.data, r.data]
theorem tree_reads {h : Heap} {v : Value} {t : Tr} (H : TreeAt h v t) : ∃ as, Reads h v t.data as := by
  induction H with
  | leaf => exact ⟨_, .str _ _⟩
  | node hl _ _ i1 i2 =>
    ((refine Exists.elim i1 ?_); (try clear i1); intro a1 r1)
    ((refine Exists.elim i2 ?_); (try clear i2); intro a2 r2)
    ((refine Exists.elim hl ?_); (try clear hl); intro o; intro hZ1; (refine Mine.and3 hZ1 ?_); clear hZ1; intro ho hc; intro hZ2; (refine Exists.elim hZ2 ?_); clear hZ2; intro n hd)
    exact ⟨_, .list ho hc hd (.cons r1 (.cons r2 .nil))⟩
theorem leaf_strOk : ∀ k ∈ leafCodes, PyData.strOk ⟨#[k]⟩ = true := by decide +kernel
theorem data_can {t : Tr} (h : t.Good) : t.data.canLay0 = true := by
  induction h with
  | leaf hk => simp only [Tr.data, canLay0]; exact leaf_strOk _ hk
  | node _ _ i1 i2 => simp only [Tr.data, canLay0, canLayAll0, i1, i2]; rfl
theorem data_depth : ∀ t : Tr, t.data.depth ≤ t.size
  | .leaf c => by simp [Tr.data, depth, Tr.size]
  | .node l r => by
    exact dep2 (data_depth l) (data_depth r)
theorem data_weight {t : Tr} (h : t.Good) : t.data.weight ≤ 3 * t.size := by
  induction h with
  | leaf hk => simp [Tr.data, weight, Tr.size]
  | node _ _ i1 i2 => simp only [Tr.data, weight, weightAll, Tr.size]; omega
theorem data_lay {t : Tr} (h : t.Good) (hs : t.size ≤ 40) : t.data.layable0 = true := by
  have := data_depth t
  have := data_weight h
  unfold layable0
  rw [data_can h, decide_eq_true (by omega), decide_eq_true (by omega)]; rfl
noncomputable def runD (t : Tr) (k : Nat) : PyData := .list [.list [.tuple [.str (nmS 1 97), .str t.write]], .int ((k : Nat) : Int)]
theorem run_reads {h : Heap} {D : Addr} {t : Tr} {ah : Bool} (H : RunAt h D t ah) : ∃ as, Reads h (.ref D) (runD t (t.peak ah)) as := by
  ((refine Mine.hideG fun G kG => ?_); (refine Mine.ex5 H.ex ?_); intro I T tk t1 t2; intro hZ1; (refine Mine.and3 hZ1 ?_); clear hZ1; intro hZ2; (refine Exists.elim hZ2 ?_); clear hZ2; intro o1; intro hZ3; (refine Mine.and3 hZ3 ?_); clear hZ3; intro ho1 hc1; intro hZ4; (refine Exists.elim hZ4 ?_); clear hZ4; intro n1 hd1; intro hZ5; (refine Exists.elim hZ5 ?_); clear hZ5; intro o2; intro hZ6; (refine Mine.and3 hZ6 ?_); clear hZ6; intro ho2 hc2; intro hZ7; (refine Exists.elim hZ7 ?_); clear hZ7; intro n2 hd2; intro hZ8; (refine Exists.elim hZ8 ?_); clear hZ8; intro o3; intro hZ9; (refine Mine.and3 hZ9 ?_); clear hZ9; intro ho3 hc3; intro hZ10; (refine Exists.elim hZ10 ?_); clear hZ10; intro n3 hd3; (refine kG ?_); clear kG G)
  exact ⟨_, .list ho1 hc1 hd1 (.cons (.list ho2 hc2 hd2 (.cons (.tuple ho3 hc3 hd3 (.cons (.str _ _) (.cons (.str _ _) .nil))) .nil)) (.cons (.int _ _) .nil))⟩
theorem nm_a : Str.ofString ".a" = nmS 1 97 := by decide +kernel
theorem held_reads {h : Heap} {D I T : Addr} {t : Tr} {k : Nat} {tk t1 t2 : Tok} (h1 : h.IsList D #[.ref I, .int ((k : Nat) : Int) tk]) (h2 : h.IsList I #[.ref T]) (h3 : h.IsTuple T #[.str (Str.ofString ".a") t1, .str t.write t2]) : ∃ as, Reads h (.ref D) (runD t k) as := by
  rw [nm_a] at h3
  ((refine Exists.elim h1 ?_); (try clear h1); intro o1; intro hZ1; (refine Mine.and3 hZ1 ?_); clear hZ1; intro ho1 hc1; intro hZ2; (refine Exists.elim hZ2 ?_); clear hZ2; intro n1 hd1)
  ((refine Exists.elim h2 ?_); (try clear h2); intro o2; intro hZ1; (refine Mine.and3 hZ1 ?_); clear hZ1; intro ho2 hc2; intro hZ2; (refine Exists.elim hZ2 ?_); clear hZ2; intro n2 hd2)
  ((refine Exists.elim h3 ?_); (try clear h3); intro o3; intro hZ1; (refine Mine.and3 hZ1 ?_); clear hZ1; intro ho3 hc3; intro hZ2; (refine Exists.elim hZ2 ?_); clear hZ2; intro n3 hd3)
  exact ⟨_, .list ho1 hc1 hd1 (.cons (.list ho2 hc2 hd2 (.cons (.tuple ho3 hc3 hd3 (.cons (.str _ _) (.cons (.str _ _) .nil))) .nil)) (.cons (.int _ _) .nil))⟩
theorem sign_strOk {x : Str} (h : ∀ c ∈ x.cps.toList, c = 40 ∨ c = 41 ∨ c ∈ leafCodes) : PyData.strOk x = true := by
  unfold PyData.strOk
  rw [← Array.all_toList, List.all_eq_true]
  intro c hc
  have hb : ∀ c ∈ leafCodes, c < 0x110000 := by decide
  rcases h c hc with rfl | rfl | hk
  · decide
  · decide
  · exact decide_eq_true (hb c hk)
theorem run_lay {t : Tr} (h : t.Good) (hl : t.leaves ≤ 8) {k : Nat} (hk : k ≤ 64) : (runD t k).layable0 = true := by
  have hw : PyData.strOk t.write = true := sign_strOk fun c hc => w_mem h c (by rw [Tr.write_w] at hc; exact hc)
  have hn : PyData.strOk (nmS 1 97) = true := by decide +kernel
  have hlen : t.write.cps.size ≤ 30 := by
    have := write_len t h
    have e := congrArg List.length (Tr.write_w t)
    rw [Array.length_toList] at e
    omega
  have hn2 : (nmS 1 97).cps.size ≤ 2 := by decide
  have hk2 : weight (.int ((k : Nat) : Int)) ≤ 64 := by
    have : ∀ k, k ≤ 64 → weight (.int ((k : Nat) : Int)) ≤ 64 := by decide
    exact this k hk
  unfold layable0
  have e1 : (runD t k).canLay0 = true := by simp only [runD, canLay0, canLayAll0, hw, hn]; rfl
  have e2 : (runD t k).depth ≤ 64 := by simp [runD, depth, depthAll]
  have e3 : (runD t k).weight ≤ 2 ^ 20 := by
    have : (runD t k).weight = ((nmS 1 97).cps.size + 1 + (t.write.cps.size + 1 + 0)) + 1 + 0 + 1 + (weight (.int ((k : Nat) : Int)) + 1 + 0) := by
      simp only [runD, weight, weightAll]
    omega
  rw [e1, decide_eq_true e2, decide_eq_true e3]; rfl
theorem run_can {t : Tr} (h : t.Good) (hl : t.leaves ≤ 8) {k : Nat} : (runD t k).canLay0 = true := by
  have hw : PyData.strOk t.write = true := sign_strOk fun c hc => w_mem h c (by rw [Tr.write_w] at hc; exact hc)
  have hn : PyData.strOk (nmS 1 97) = true := by decide +kernel
  simp only [runD, canLay0, canLayAll0, hw, hn]; rfl
theorem late_one : ∀ t : Tr, t.late.1 = t.ersh
  | .leaf c => rfl
  | .node l r => by
    have h1 := late_one l
    have h2 := late_one r
    simp only [Tr.late, Tr.ersh]
    rw [h1, h2]
    split <;> split <;> (try split) <;> omega
theorem peak_true : ∀ t : Tr, t.peak true = t.ersh
  | .leaf c => rfl
  | .node l r => by
    have h1 := peak_true l
    have h2 := peak_true r
    simp only [Tr.peak, Tr.ersh, h1, h2, Tr.swp, if_true, decide_eq_true_eq]
    rcases Nat.lt_trichotomy l.ersh r.ersh with h | h | h
    · rw [if_pos h, if_neg (by omega)]; omega
    · rw [if_neg (by omega), if_pos h]; omega
    · rw [if_neg (by omega), if_neg (by omega)]; omega
theorem peak_false : ∀ t : Tr, t.peak false = t.late.2
  | .leaf c => rfl
  | .node l r => by
    have h1 := peak_false l
    have h2 := peak_false r
    have h3 := late_one l
    have h4 := late_one r
    simp only [Tr.peak, Tr.late, h1, h2, Tr.swp, h3, h4, Bool.false_eq_true, if_false, decide_eq_true_eq]
    by_cases h : r.ersh < l.ersh
    · rw [if_pos h, if_neg (by omega)]
    · rw [if_neg h, if_pos (by omega)]
theorem least_eq {t : Tr} {M : Int} (h1 : M ∈ t.allR) (h2 : ∀ a ∈ t.allR, M ≤ a) : M = ((t.ersh : Nat) : Int) := by
  ((refine Exists.elim ((allR_iff t M).mp h1) ?_); intro m; intro hZ1; (refine And.elim ?_ hZ1); clear hZ1; intro hm; intro hZ2; obtain rfl := hZ2)
  have q1 := all_ge hm
  have q2 := h2 _ ((allR_iff t _).mpr ⟨_, all_ersh t, rfl⟩)
  omega
theorem allR_pos (t : Tr) : 0 < t.allR.length := List.length_pos_of_mem ((allR_iff t _).mpr ⟨_, all_ersh t, rfl⟩)
theorem turned_at {t : Tr} (h : t.Good) (h3 : 3 ≤ t.leaves) {x : Str} (hx : x = Txt.slice t.write (some 1) none ++ Txt.slice t.write none (some 1)) :
    checkOf x = false ∧ 34 ∉ x.cps.toList ∧ 92 ∉ x.cps.toList ∧ x.length = t.write.length := by
  cases h with
  | leaf => simp [Tr.leaves] at h3
  | @node l r hl hr =>
    have e := Tr.write_w (.node l r)
    have hlen : 1 ≤ (Tr.node l r).write.length := by
      show 1 ≤ (Tr.node l r).write.cps.size
      rw [← Array.length_toList, e]; simp [Tr.w]
    rw [sl_sn (by decide) (by omega), sl_ns (by decide) (by omega), e] at hx
    have hx2 : x.cps.toList = l.w ++ r.w ++ [41] ++ [40] := by
      rw [hx, cps_toList_append]
      show (l.w ++ r.w ++ [41]) ++ [40] = _
      rfl
    have o1 := (good_ok hl).noq
    have o2 := (good_ok hr).noq
    refine ⟨turn_false hl hr hx2, by rw [hx2]; simp [o1.1, o2.1], by rw [hx2]; simp [o1.2, o2.2], ?_⟩
    show x.cps.size = (Tr.node l r).write.cps.size
    rw [← Array.length_toList, ← Array.length_toList, hx2, e]
    simp [Tr.w]
    omega
theorem dots_mul : ∀ k : Nat, k ≤ 8 → Txt.mul (Str.ofString ".") ((k : Nat) : Int) = dotsS k := by decide +kernel
theorem ersh_leaves : ∀ t : Tr, t.ersh ≤ t.leaves := fun t => (all_le (all_ersh t)).2
theorem peak_le : ∀ (t : Tr) (b : Bool), t.peak b ≤ t.leaves
  | .leaf _, _ => Nat.le_refl _
  | .node l r, b => by
    have h1 := peak_le l b
    have h2 := peak_le r b
    have := leaves_pos l
    have := leaves_pos r
    simp only [Tr.peak, Tr.leaves]
    split <;> omega
end Mine
end
section -- YA
open PySem PySem.W PyProof.Rows PySem.StrLaws PySem.Builtin PySem.Builtin.Str
set_option maxRecDepth 100000
set_option linter.unusedVariables false
namespace Mine
theorem flat_le7 {α : Type} {f : α → List Nat} {n : Nat} : ∀ {l : List α}, (∀ a ∈ l, (f a).length ≤ n) → (l.flatMap f).length ≤ n * l.length
  | [], _ => by simp
  | a :: r, h => by
    have h1 := h a (.head _)
    have h2 := flat_le7 (l := r) (f := f) (n := n) fun q hq => h q (.tail _ hq)
    simp only [List.flatMap_cons, List.length_append, List.length_cons, Nat.mul_succ]; omega
theorem typed_le7 {bs : List Blk} (h : ∀ b ∈ bs, BlkOk b) : (typedL bs).length ≤ 7 * bs.length := flat_le7 fun b hb => by
  obtain ⟨k, u, c⟩ := b
  have hk : k < 8 := (h _ hb).1
  exact lt8 (P := fun k => (mkT k u ++ [c]).length ≤ 7) (Nat.le_of_ble_eq_true rfl) (Nat.le_of_ble_eq_true rfl) (Nat.le_of_ble_eq_true rfl) (Nat.le_of_ble_eq_true rfl) (Nat.le_of_ble_eq_true rfl) (Nat.le_of_ble_eq_true rfl) (Nat.le_of_ble_eq_true rfl) (Nat.le_of_ble_eq_true rfl) hk
theorem seen_le7 {bs : List Blk} (h : ∀ b ∈ bs, BlkOk b) : (seenL bs).length ≤ 7 * bs.length := flat_le7 fun b hb => by
  obtain ⟨k, u, c⟩ := b
  have hk : k < 8 := (h _ hb).1
  exact lt8 (P := fun k => (mkS k ++ [c]).length ≤ 7) (Nat.le_of_ble_eq_true rfl) (Nat.le_of_ble_eq_true rfl) (Nat.le_of_ble_eq_true rfl) (Nat.le_of_ble_eq_true rfl) (Nat.le_of_ble_eq_true rfl) (Nat.le_of_ble_eq_true rfl) (Nat.le_of_ble_eq_true rfl) (Nat.le_of_ble_eq_true rfl) hk
theorem left_le7 {bs : List Blk} (h : ∀ b ∈ bs, BlkOk b) : (leftL bs).length ≤ 7 * bs.length := flat_le7 fun b hb => by
  obtain ⟨k, u, c⟩ := b
  have hk : k < 8 := (h _ hb).1
  exact lt8 (P := fun k => (mkL k ++ [c]).length ≤ 7) (Nat.le_of_ble_eq_true rfl) (Nat.le_of_ble_eq_true rfl) (Nat.le_of_ble_eq_true rfl) (Nat.le_of_ble_eq_true rfl) (Nat.le_of_ble_eq_true rfl) (Nat.le_of_ble_eq_true rfl) (Nat.le_of_ble_eq_true rfl) (Nat.le_of_ble_eq_true rfl) hk
theorem first_le7 {bs : List Blk} (h : ∀ b ∈ bs, BlkOk b) {x : Str} (hx : x.cps.toList = leftL bs) : (Txt.replace x (Str.ofString "\\)") (Str.ofString "")).length ≤ 7 * bs.length := by
  show (Txt.replace x (Str.ofString "\\)") (Str.ofString "")).cps.size ≤ _
  rw [← Array.length_toList, e_bs1, e_nil, replace_cut2, hx]
  show (del2 41 _).length ≤ _
  rw [del_one bs h]
  refine flat_le7 fun b hb => ?_
  obtain ⟨k, u, c⟩ := b
  have hk : k < 8 := (h _ hb).1
  exact lt8 (P := fun k => (mkM k ++ [c]).length ≤ 7) (Nat.le_of_ble_eq_true rfl) (Nat.le_of_ble_eq_true rfl) (Nat.le_of_ble_eq_true rfl) (Nat.le_of_ble_eq_true rfl) (Nat.le_of_ble_eq_true rfl) (Nat.le_of_ble_eq_true rfl) (Nat.le_of_ble_eq_true rfl) (Nat.le_of_ble_eq_true rfl) hk
noncomputable def onesL (l : List Nat) : List Str := l.map fun c => ⟨#[c]⟩
theorem ones_flat : ∀ r : List Nat, (onesL r).flatMap (fun k => ([] : List Nat) ++ k.cps.toList) = r
  | [] => rfl
  | b :: q => by
    show b :: (onesL q).flatMap (fun k => ([] : List Nat) ++ k.cps.toList) = b :: q
    rw [ones_flat q]
theorem join_ones (l : List Nat) : (Txt.join (Str.ofString "") (onesL l)).cps.toList = l := by
  unfold Txt.join
  rw [glued_eq_join]
  cases l with
  | nil => rfl
  | cons a r =>
    show (Str.join _ ((⟨#[a]⟩ : Str) :: onesL r)).cps.toList = _
    rw [join_cps]
    have e0 : (Str.ofString "").cps.toList = [] := by decide +kernel
    rw [e0]
    show a :: _ = a :: r
    congr 1
    exact ones_flat r
theorem ones_sum (l : List Nat) : ((onesL l).map (·.length)).sum = l.length := by
  induction l with
  | nil => rfl
  | cons a r ih => simp only [onesL, List.map_cons, List.sum_cons, List.length_cons] at *; rw [ih]; show 1 + _ = _; omega
theorem ones_filter (p : Nat → Bool) (l : List Nat) {i c : Nat} (h : l[i]? = some c) : onesL ((l.take (i + 1)).filter p) = onesL ((l.take i).filter p) ++ (if p c then [⟨#[c]⟩] else []) := by
  rw [List.take_add_one, h, List.filter_append]
  unfold onesL
  rw [List.map_append]
  congr 1
  simp only [Option.toList_some, List.filter_cons, List.filter_nil]
  cases p c <;> rfl
theorem setOf_keep {p : Program} {w : World} {h h' : Heap} (B : h.SetOf (intKind p w) 84 b1S 27) (k : ∀ o, h.get? 84 = some o → h'.get? 84 = some o) : h'.SetOf (intKind p w) 84 b1S 27 := by
  ((refine Mine.ex4 B ?_); (try clear B); intro o es ep t; intro hZ1; (refine And.elim ?_ hZ1); clear hZ1; intro ho r)
  exact ⟨o, es, ep, t, k o ho, r⟩
end Mine
end
section -- Y7
open PySem PySem.W PyProof.Rows PyProof.Rows.LCg PyProof.Rows.LCp PyProof.Rows.LCt
set_option maxRecDepth 100000
set_option linter.unusedVariables false
namespace Mine
theorem zoff_Y7 : True := by
  w_top off
  k_with_none
  k_with "Hid" => (refine Mine.Hid.go (by with_reducible assumption) ?_)
  k_with "execs cons" => ((fail_if_success (with_reducible refine Mine.isHid ?_)); (refine Mine.hideQ fun _ _ => ?_))
  k_with "exec Assign" => ((fail_if_success (with_reducible refine Mine.isHid ?_)); (refine Mine.hideQ fun _ _ => ?_))
  k_with "exec Expr" => ((fail_if_success (with_reducible refine Mine.isHid ?_)); (refine Mine.hideQ fun _ _ => ?_))
  k_with "exec Return" => ((fail_if_success (with_reducible refine Mine.isHid ?_)); (refine Mine.hideQ fun _ _ => ?_))
  k_with "exec AugAssign" => ((fail_if_success (with_reducible refine Mine.isHid ?_)); (refine Mine.hideQ fun _ _ => ?_))
  k_with "exec If" => ((fail_if_success (with_reducible refine Mine.isHid ?_)); (refine Mine.hideQ fun _ _ => ?_))
  trivial
theorem ints_at {vs : List Value} {ns : List Int} (H : IntsAre vs ns) : ∀ {i : Nat} {v : Value}, vs[i]? = some v → ∃ t n, v = .int n t ∧ ns[i]? = some n := by
  induction H with
  | nil => intro i v h; simp at h
  | cons n t h ih =>
    intro i v e
    cases i with
    | zero => exact ⟨t, n, (Option.some.inj e).symm, rfl⟩
    | succ i => exact ih (i := i) e
theorem nums_at {vs : List Value} {L : List Int} (h : IntsAre vs L) (hl : L.length ≤ 3) (hb : ∀ x ∈ L, 0 ≤ x ∧ x < 10 ^ 30) {t0 t1 t2 : Tok} :
    ∃ n0 n1 n2 u0 u1 u2, (vs.toArray.toList ++ (slicePick #[Value.int 2 t0, Value.int 4 t1, Value.int 22860477029499 t2] (some (vs.toArray.size : Int)) none none).toList).toArray = #[Value.int n0 u0, Value.int n1 u1, Value.int n2 u2] ∧
      (0 ≤ n0 ∧ n0 < 10 ^ 30) ∧ (0 ≤ n1 ∧ n1 < 10 ^ 30) ∧ (0 ≤ n2 ∧ n2 < 10 ^ 30) := by
  cases h with
  | nil => exact ⟨2, 4, 22860477029499, t0, t1, t2, by with_unfolding_all rfl, by decide, by decide, by decide⟩
  | cons a ta h =>
    have ha := hb a (.head _)
    cases h with
    | nil => exact ⟨a, 4, 22860477029499, ta, t1, t2, by with_unfolding_all rfl, ha, by decide, by decide⟩
    | cons b tb h =>
      have hb' := hb b (.tail _ (.head _))
      cases h with
      | nil => exact ⟨a, b, 22860477029499, ta, tb, t2, by with_unfolding_all rfl, ha, hb', by decide⟩
      | cons c tc h =>
        have hc := hb c (.tail _ (.tail _ (.head _)))
        cases h with
        | nil => exact ⟨a, b, c, ta, tb, tc, by with_unfolding_all rfl, ha, hb', hc⟩
        | cons d td h => simp only [List.length_cons] at hl; omega
theorem size_leaves : ∀ t : Tr, t.size + 1 = 2 * t.leaves
  | .leaf _ => rfl
  | .node l r => by have := size_leaves l; have := size_leaves r; simp only [Tr.size, Tr.leaves]; omega
/-- facts of the heap that what is new besides the names' table does not change -/
noncomputable def Keepy (L : Addr) (P : Heap → Prop) : Prop := ∀ h h', (∀ a xs, h.IsList a xs → a ≠ L) → (∀ a xs, h.IsTuple a xs → a ≠ L) → (∀ b o, b ≠ L → h.get? b = some o → h'.get? b = some o) → P h → P h'
noncomputable def Fz (B : Heap) (L : Addr) (rest : List (Addr × Obj)) (P : Heap → Prop) : Prop := ∀ h m news, Fr B L h m → News B L h news → (∀ q ∈ rest, q ∈ news) → P h
theorem Fz.mono {B : Heap} {L : Addr} {rest rest' : List (Addr × Obj)} {P : Heap → Prop} (H : Fz B L rest P) (k : ∀ q ∈ rest, q ∈ rest') : Fz B L rest' P := fun h m news F N hs => H h m news F N fun q hq => hs q (k q hq)
theorem Fz.start {B h : Heap} {L : Addr} {m : Str → Option Value} {fix rest : List (Addr × Obj)} {P : Heap → Prop} (F : Fr B L h m) (N : News B L h (fix ++ rest)) (K : Keepy L P) (H : P h) :
    ∃ rest', News B L h (fix ++ rest') ∧ (∀ q ∈ rest, q ∈ rest') ∧ Fz B L rest' P := by
  ((refine Exists.elim (snap F) ?_); intro own; intro hZ1; (refine And.elim ?_ hZ1); clear hZ1; intro No hs)
  refine ⟨own ++ rest, fun p hp => ?_, fun q hq => List.mem_append_right _ hq, fun h' m' news F' N' hsub => ?_⟩
  · rcases List.mem_append.mp hp with hp | hp
    · exact N p (List.mem_append_left _ hp)
    · rcases List.mem_append.mp hp with hp | hp
      · exact No p hp
      · exact N p (List.mem_append_right _ hp)
  · exact K h h' (fun a xs q => ne_locals_of_isList F q) (fun a xs q => ne_locals_of_isTuple F q) (snap_keep F' N' hs fun q hq => hsub q (List.mem_append_left _ hq)) H
theorem keepy_tree {L : Addr} {v : Value} {t : Tr} : Keepy L (fun h => TreeAt h v t) := fun h h' nl _ k H => H.keepL nl k
theorem keepy_plan {L : Addr} {v : Value} {t : Tr} : Keepy L (fun h => PlanAt h v t) := fun h h' nl _ k H => H.keepL nl k
theorem keepy_run {L D : Addr} {t : Tr} {ah : Bool} : Keepy L (fun h => RunAt h D t ah) := fun h h' nl nt k H => by
  ((refine Mine.ex5 H.ex ?_); intro I T tk t1 t2; intro hZ1; (refine Mine.and3 hZ1 ?_); clear hZ1; intro h1 h2 h3)
  have n1 := nl _ _ h1
  have n2 := nl _ _ h2
  have n3 := nt _ _ h3
  ((refine Exists.elim h1 ?_); (try clear h1); intro o1; intro hZ1; (refine And.elim ?_ hZ1); clear hZ1; intro ho1 r1)
  ((refine Exists.elim h2 ?_); (try clear h2); intro o2; intro hZ1; (refine And.elim ?_ hZ1); clear hZ1; intro ho2 r2)
  ((refine Exists.elim h3 ?_); (try clear h3); intro o3; intro hZ1; (refine And.elim ?_ hZ1); clear hZ1; intro ho3 r3)
  exact ⟨⟨I, T, tk, t1, t2, ⟨o1, k _ _ n1 ho1, r1⟩, ⟨o2, k _ _ n2 ho2, r2⟩, ⟨o3, k _ _ n3 ho3, r3⟩⟩⟩
theorem str_ne_self (x : Str) : (x != x) = false := by
  have : (x == x) = true := Spec.same_self (.str x)
  show (!(x == x)) = false
  rw [this]; rfl
theorem cps_inj {a b : Str} (h : a.cps.toList = b.cps.toList) : a = b := by
  cases a; cases b; congr 1; exact Array.toList_inj.mp h
theorem keepy_held {L a b : Addr} {xs ys : Array Value} : Keepy L (fun h => h.IsList a xs ∧ h.IsTuple b ys) := fun h h' nl nt k ⟨h1, h2⟩ => by
  have n1 := nl _ _ h1
  have n2 := nt _ _ h2
  ((refine Exists.elim h1 ?_); (try clear h1); intro o1; intro hZ1; (refine And.elim ?_ hZ1); clear hZ1; intro ho1 r1)
  ((refine Exists.elim h2 ?_); (try clear h2); intro o2; intro hZ1; (refine And.elim ?_ hZ1); clear hZ1; intro ho2 r2)
  exact ⟨⟨o1, k _ _ n1 ho1, r1⟩, ⟨o2, k _ _ n2 ho2, r2⟩⟩
theorem keepy_tab {L : Addr} {ps : Array Value} (hne : 290 ≠ L) : Keepy L (fun h => h.get? 290 = some (tabObj ps)) := fun h h' _ _ k H => k 290 _ hne H
theorem keepy_and {L : Addr} {P R : Heap → Prop} (hP : Keepy L P) (hR : Keepy L R) : Keepy L (fun h => P h ∧ R h) := fun h h' nl nt k H => ⟨hP h h' nl nt k H.1, hR h h' nl nt k H.2⟩
noncomputable def modL (ns : List Int) : List Int := ns.map (· % 10 ^ 30)
theorem zk_Y7_1 : True := by
  k_with "execs nil" => (refine wpAny_execs_nil ?_)
  k_with "call builtin:len" => (refine len_list (News.isList (by assumption) (by k_mem)) (by omega) ?_)
  k_with "last subscriptTail" => ((with_reducible show wpAny _ _ (subscriptTail _ _ _ (Value.ref _)) _ _ _); (refine Stop.h ?_))
  k_with "eval ListComp" => (refine Stop.h ?_)
  k_with "Src" => (refine Stop.h ?_)
  k_with "binaryOp Add ref ref" => (refine Stop.h ?_)
  k_with "call builtin:str.join" => (refine Stop.h ?_)
  k_with "compareOp NotEq str str" => (refine Stop.h ?_)
  k_with "call builtin:str.replace" => (refine Stop.h ?_)
  k_with "call builtin:min" => (refine Stop.h ?_)
  k_with "binaryOp Mult str int" => (refine Stop.h ?_)
  k_with "CompSrc" => (refine Stop.h ?_)
  trivial
set_option maxHeartbeats 8000000 in
theorem law_spec (w : World) {p : Program} {loose : List Str} {mean : ExcName → Option Value} {mg mb : Str → Option Value} : ∀ (b₀ : Heap) (ps : Array Value) (a : Addr) (vs : List Value) (ns : List Int) (A : Around) (s : Shared) (Q E : Value → Shared → Prop)
    (X : (KX w.params).In b₀) (T : Top p loose mean mg mb b₀) (hb : Ext b₀ s.heap) (off : b₀.get? 290 = none) (hS : LateSt s.heap ps) (B1 : b₀.SetOf (intKind PySem.Challenge.rw_sh0039_01.row.prog w) 84 b1S 27)
    (hl : s.heap.IsList a vs.toArray) (hi : IntsAre vs ns) (hn : ns.length ≤ 63) (hd : A.depth + 200 < recursionLimit) (hun : A.units + 70 < cLine) (hh : A.handled = none)
    (ret : ∀ h' tk' gs', Ext (hideAll s.heap [290]) h' → GB s.gens gs' → (∃ ps', h'.get? 290 = some (tabObj ps')) → Q (.bool true) { s with heap := h', toks := tk', gens := gs' }), wpAny (model PySem.Challenge.rw_sh0039_01.row.prog w) A (call (.ref 300) [.ref a]) Q E s := by
  k_fill
  intro b₀ ps a vs ns A s Q E X T hb off hS B1 hl hi hn hd hun hh ret
  have hd0 : A.depth < recursionLimit := by omega
  have hu : Ext b₀ (hideAll s.heap [290]) := fun b o e => hideAll_get _ (hb b o e) (by
    intro h; rw [List.mem_singleton.mp h, off] at e; cases e)
  k_dflt (refine' enterH (hs := [290]) (news := [(290, tabObj ps)]) (K := KX w.params) (X.keeps hu) (T.keeps hu) ?kn ?k6 ?k7 hd0 ?k9 ?kB ?_ ?c2 ?c3 ?c4 ?c5)
  (case kn =>
    intro q hq
    rw [List.mem_singleton.mp hq]
    exact ⟨hS.1, .head _⟩)
  (case k6 => k_is)
  (case k7 => k_is)
  (case k9 => exact BindsTo.of_eq rfl)
  (case kB => exact locs rfl)
  (case c2 => exact rfl)
  (case c3 => exact rfl)
  (case c4 => exact rfl)
  (case c5 => decide)
  have X₀ := X
  have T₀ := T
  clear X T
  have hBn : (hideAll s.heap [290]).get? 290 = none := hideAll_none _ (.head _)
  have hlB : (hideAll s.heap [290]).IsList a vs.toArray := by
    ((refine Exists.elim hl ?_); (try clear hl); intro o; intro hZ1; (refine Mine.and3 hZ1 ?_); clear hZ1; intro ho hc; intro hZ2; (refine Exists.elim hZ2 ?_); clear hZ2; intro n hd)
    refine ⟨o, hideAll_get _ ho (fun q => ?_), hc, n, hd⟩
    rw [List.mem_singleton.mp q, hS.1] at ho
    cases ho; cases hd
  have sS : Stop (LateSt s.heap ps) := ⟨hS⟩
  have hBk : Stop (∀ b o, b ≠ 290 → s.heap.get? b = some o → (hideAll s.heap [290]).get? b = some o) := ⟨fun b o hb e => hideAll_get _ e (by simpa using hb)⟩
  clear hS
  generalize hideAll s.heap [290] = B at *
  intro h₁ F N X T
  have B1' := B1
  (try k_fold)
  k_steps
  constructor
  (with_reducible rename Fr _ _ _ _ => F1)
  (with_reducible rename News _ _ _ _ => N1)
  (with_reducible rename IntsAre _ (List.take 3 ns) => hi3)
  rename_i DN ws1 _ _ _ _
  refine CompSrc.ledger hh F1 N1 (.head _) (by have := hi3.length; rw [sizeLine_eq]; simp only [List.size_toArray]; rw [this]; simp only [List.length_take]; omega) ?_
  intro g1
  refine restU_ind (fun i ys news => news = [(DN, W.listOf ws1.toArray 0), (290, tabObj ps)] ∧ IntsAre ys (modL ((ns.take 3).take i))) _ ?_ ?_ ⟨rfl, .nil⟩
  · intro i ys news v I oI C oC D m₂ h tk E' hi9 hJ14 hv hC hx1 F2 N2 off2 ne2
    ((refine And.elim ?_ hJ14); (try clear hJ14); intro hZ1; obtain rfl := hZ1; intro hS)
    ((refine Mine.ex2 (ints_at hi3 (i := i) (v := v) (by simpa using hv)) ?_); intro tv nv; intro hZ1; (refine And.elim ?_ hZ1); clear hZ1; intro hZ2; obtain rfl := hZ2; intro hnv)
    clear F1 N1
    k_steps
    (with_reducible rename Fr _ _ _ _ => F3)
    (with_reducible rename News _ _ _ _ => N3)
    refine CompEnd.intro F3 N3 _ (fun p hp => hp) off2 (.inr ⟨_, .head _, rfl, _, rfl⟩) ⟨rfl, ?_⟩
    rw [List.take_add_one, hnv]
    unfold modL
    rw [List.map_append, Int.fmod_eq_emod_of_nonneg _ (by decide)]
    exact ksk_snoc hS
  · intro ys news hJ2 D h tk F2 N2 o2
    ((refine And.elim ?_ hJ2); (try clear hJ2); intro hZ1; obtain rfl := hZ1; intro hS)
    clear F1 N1
    have hS2 : IntsAre ys (modL (ns.take 3)) := by
      rwa [List.take_of_length_le (by have := hi3.length; simp only [List.size_toArray]; omega)] at hS
    have hyl : ys.toArray.size ≤ 3 := by have := hS2.length; simp only [List.size_toArray]; rw [this]; unfold modL; simp only [List.length_map, List.length_take]; omega
    have hS3 : Stop (IntsAre ys (modL (ns.take 3))) := ⟨hS2⟩
    clear hS hi3 hS2
    k_steps
    constructor
    (with_reducible rename Fr _ _ _ _ => F3)
    (with_reducible rename News _ _ _ _ => N3)
    refine kba_turn (value' := .Name (Str.ofString "x") default) (fun _ => rfl) ?_
    refine slice_list F3 N3 (N3.isList (.head _)) (.int _ _) .none ?_
    intro h4 F4 N4
    clear F3 N3
    k_steps
    constructor
    obtain ⟨L3, eL3⟩ : ∃ L3, L3 = modL (ns.take 3) := ⟨_, rfl⟩
    have hL3 : L3.length ≤ 3 ∧ ∀ x ∈ L3, 0 ≤ x ∧ x < 10 ^ 30 := by
      rw [eL3]; unfold modL
      refine ⟨by simp only [List.length_map, List.length_take]; omega, fun x hx => ?_⟩
      ((refine Mine.hideG fun G kG => ?_); (refine Exists.elim (List.mem_map.mp hx) ?_); intro y; intro hZ1; (refine And.elim ?_ hZ1); clear hZ1; intro hZ2; obtain - := hZ2; intro hZ3; obtain rfl := hZ3; (refine kG ?_); clear kG G)
      exact ⟨Int.emod_nonneg _ (by decide), Int.emod_lt_of_pos _ (by decide)⟩
    rw [← eL3] at hS3
    obtain ⟨n0, n1, n2, u0, u1, u2, eN, hn0, hn1, hn2⟩ := nums_at hS3.h hL3.1 hL3.2 (t0 := _) (t1 := _) (t2 := _)
    refine add_arrays (hsz := ?hs4) F4 N4 (N4.isList (.tail _ (.tail _ (.head _)))) (N4.isList (.head _)) ?_
    case hs4 =>
      refine Nat.le_trans (Nat.le_of_eq (?_ : _ = 3)) (by rw [sizeLine_eq]; decide)
      have q := congrArg Array.size eN
      rw [List.size_toArray, List.length_append, Array.length_toList, Array.length_toList] at q
      exact q
    intro h5 F5 N5
    rw [eN] at N5
    have N6 : News B s.heap.objs.size h5 [(h4.objs.size, W.listOf #[Value.int n0 u0, Value.int n1 u1, Value.int n2 u2] 0), (290, tabObj ps)] := fun p hp => by
      rcases List.mem_cons.mp hp with rfl | hp
      · exact N5 _ (.head _)
      · rw [List.mem_singleton.mp hp]; exact N5 _ (by k_mem)
    clear F4 N4 N5 eN hS3 hL3 eL3
    dsimp only
    generalize h4.objs.size = NB at *
    have st0 : Stop ((0 ≤ n0 ∧ n0 < 10 ^ 30) ∧ (0 ≤ n1 ∧ n1 < 10 ^ 30) ∧ (0 ≤ n2 ∧ n2 < 10 ^ 30)) := ⟨hn0, hn1, hn2⟩
    clear hn0 hn1 hn2
    k_steps
    (with_reducible rename Fr _ _ _ _ => F7)
    (with_reducible rename News _ _ _ _ => N7)
    obtain ⟨c, hc, hc3, hc8⟩ : ∃ c : Nat, 3 + Int.fmod n0 6 = (c : Int) ∧ 3 ≤ c ∧ c ≤ 8 := by
      have h1 := Int.emod_nonneg n0 (b := 6) (by decide)
      have h2 := Int.emod_lt_of_pos n0 (b := 6) (by decide)
      rw [Int.fmod_eq_emod_of_nonneg _ (by decide)]
      exact ⟨(3 + n0 % 6).toNat, by omega, by omega, by omega⟩
    show wpAny _ _ (call (.ref 238) [.int (3 + Int.fmod n0 6) _, .int n1 _, .int n2 _]) _ _ _
    rw [hc]
    refine tree_spec w c n1 n2 _ _ _ _ _ _ _ (X.keeps F7.keep) (T.keeps F7.keep) (by simp only [depth_deeper]; omega) hh ⟨⟨hc3, hc8⟩⟩ ⟨st0.h.2.1⟩ ⟨st0.h.2.2⟩ ?_
    intro tv t h8 tk8 hT8 hG hlv e8
    have F8 := Fr.keeps F7 e8
    ((refine Exists.elim (Fz.start (rest := []) F8 (fun p hp => News.grown N7 e8 p (by rwa [List.append_nil] at hp)) keepy_tree hT8) ?_); intro rest; intro hZ1; (refine Mine.and3 hZ1 ?_); clear hZ1; intro N8; intro hZ2; obtain - := hZ2; intro zT)
    simp only [List.cons_append, List.nil_append] at N8
    have sT : Stop (t.Good ∧ 3 ≤ t.leaves ∧ t.leaves ≤ 8 ∧ Fz B s.heap.objs.size rest (fun h => TreeAt h tv t)) := ⟨hG, by omega, by omega, zT⟩
    clear F7 N7 hT8 hG zT e8
    dsimp only
    k_steps
    (with_reducible rename Fr _ _ _ _ => F9)
    (with_reducible rename News _ _ _ _ => N9)
    have hwl := write_len t sT.h.1
    have hwe := congrArg List.length (Tr.write_w t)
    rw [Array.length_toList] at hwe
    have hsz := size_leaves t
    have hlv := sT.h.2.1
    have hlv8 := sT.h.2.2.1
    have hlen : t.write.length + 2 ≤ 3 * t.leaves := by show t.write.cps.size + 2 ≤ _; rw [hwe]; exact hwl
    have hlen1 : 1 ≤ t.write.length := by
      show 1 ≤ t.write.cps.size
      rw [hwe]; cases t with
      | leaf c => simp only [Tr.leaves] at hlv; omega
      | node l r => simp [Tr.w]
    refine write_spec w t.size t (Nat.le_refl _) _ _ _ _ _ (sT.h.2.2.2 _ _ _ F9 N9 (fun q hq => .tail _ (.tail _ hq))) (X.keeps F9.keep) (T.keeps F9.keep) (by simp only [depth_deeper]; omega) (by omega) ?_
    intro ptk h10 tk10 e10
    have F10 := Fr.keeps F9 e10
    have N10 := News.grown N9 e10
    clear F9 N9 e10
    dsimp only
    k_steps
    (with_reducible rename Fr _ _ _ _ => F11)
    (with_reducible rename News _ _ _ _ => N11)
    show wpAny _ _ (call (.ref 252) [.str t.write _, .int n2 _]) _ _ _
    refine typed_spec w t.write n2 _ _ _ _ _ _ (X.keeps F11.keep) (T.keeps F11.keep) (by simp only [depth_deeper]; omega) hh ⟨⟨by rw [Tr.write_w]; exact good_sign sT.h.1, hlen1, by omega⟩⟩ ⟨st0.h.2.2⟩ ?_
    intro D2 xa xb ta tb k2 bs h12 tk12 hbs hpl hxa hxb g12 fr12 e12
    have F12 := Fr.keeps F11 e12
    have N12 : News B s.heap.objs.size h12 ((D2, W.listOf #[Value.str xa ta, Value.str xb tb] k2) :: (290, tabObj ps) :: rest) := fun p hp => by
      rcases List.mem_cons.mp hp with rfl | hp
      · refine ⟨g12, fun q => ?_, none_base F11.keep fr12⟩
        have q' : D2 = s.heap.objs.size := q
        subst q'
        ((refine Mine.ex3 F11.ns ?_); intro o _ _; intro hZ1; (refine And.elim ?_ hZ1); clear hZ1; intro ho _)
        rw [fr12] at ho; cases ho
      · exact News.grown N11 e12 p (.tail _ hp)
    have sB : Stop ((∀ q ∈ bs, BlkOk q) ∧ plainL bs = t.write.cps.toList ∧ xa.cps.toList = typedL bs ∧ xb.cps.toList = leftL bs) := ⟨hbs, hpl, hxa, hxb⟩
    clear F11 N11 e12 hbs hpl hxa hxb g12 fr12
    dsimp only
    refine kun_list F12 N12 (News.isList N12 (.head _)) hh rfl rfl ?_
    intro h13 F13 N13
    clear F12 N12
    have hbl : bs.length ≤ 30 := by
      have q := congrArg List.length sB.h.2.1
      unfold plainL at q
      rw [List.length_map] at q
      have : t.write.cps.toList.length = t.write.length := rfl
      omega
    have hta := typed_le7 sB.h.1
    have hsl := seen_le7 sB.h.1
    have hll := left_le7 sB.h.1
    k_steps
    constructor
    (with_reducible rename Fr _ _ _ _ => F14)
    (with_reducible rename News _ _ _ _ => N14)
    refine ListComp_TS F14 hh (by with_unfolding_all rfl) (by decide) (by rfl) (by decide) (by rfl) ?_
    k_steps
    refine ⟨⟨xa, _, _, rfl, ?_, F14, N14, ?_⟩⟩
    · have : xa.cps.size = (typedL bs).length := by rw [← sB.h.2.2.1, Array.length_toList]
      rw [sizeLine_eq]; omega
    · intro g14
      refine restT_ind (fun i ys news => news = _ ∧ StrsAre ys (onesL (((typedL bs).take i).filter fun c => !inB1 c))) _ ?_ ?_ ⟨rfl, .nil⟩
      · intro i ys news v I oI C oC DD m₂ h tkt E' hi hJ14 hv hC hx1 F15 N15 off15 ne15
        ((refine And.elim ?_ hJ14); (try clear hJ14); intro hZ1; obtain rfl := hZ1; intro hS)
        ((refine Mine.ex2 hv ?_); (try clear hv); intro c0 u0'; intro hZ1; (refine And.elim ?_ hZ1); clear hZ1; intro hc0; intro hZ2; obtain rfl := hZ2)
        have hc1 : (typedL bs)[i]? = some c0 := by rw [← sB.h.2.2.1]; simpa using hc0
        clear F14 N14
        k_steps
        (with_reducible rename Fr _ _ _ _ => F16)
        (with_reducible rename News _ _ _ _ => N16)
        have B16 : Heap.SetOf (intKind PySem.Challenge.rw_sh0039_01.row.prog w) _ 84 b1S 27 := setOf_keep B1 (fun o e => F16.keep _ _ (hu _ _ e))
        refine b1_spec w c0 _ _ _ _ _ (X.keeps F16.keep) (T.keeps F16.keep) B16 (by simp only [depth_deeper]; omega) ?_
        intro h17 tk17 e17
        have F17 := Fr.keeps F16 e17
        have N17 := News.grown N16 e17
        clear F16 N16 B16 e17
        have hf := ones_filter (fun c => !inB1 c) _ hc1
        cases hb1 : b1S (c0 : Int) with
        | false =>
          have hb2 : inB1 c0 = false := hb1
          rw [hb2] at hf
          dsimp only
          k_steps
          refine CompEnd.intro F17 N17 _ (fun p hp => hp) off15 trivial ⟨rfl, ?_⟩
          rw [hf]
          exact StrsAre.append' hS (.cons _ _ .nil)
        | true =>
          have hb2 : inB1 c0 = true := hb1
          rw [hb2] at hf
          dsimp only
          k_steps
          refine CompEnd.intro F17 N17 _ (fun p hp => hp) off15 trivial ⟨rfl, ?_⟩
          rw [hf]
          simpa using hS
      · intro ys news hJ2 DD h tkt F15 N15 o15
        ((refine And.elim ?_ hJ2); (try clear hJ2); intro hZ1; obtain rfl := hZ1; intro hS)
        clear F14 N14
        have hS2 : StrsAre ys (onesL (seenL bs)) := by
          rw [List.take_of_length_le (by rw [← sB.h.2.2.1, Array.length_toList]; exact Nat.le_refl _), seen_filter bs sB.h.1] at hS
          exact hS
        clear hS
        k_steps
        constructor
        refine join_listC (N15.isList (.head _)) (by simpa using hS2) (by decide) (by rw [ones_sum]; simp only [onesL, List.length_map]; omega) ?_
        intro tj kj
        clear hS2
        have hjo := join_ones (seenL bs)
        generalize hsn : Txt.join (Str.ofString "") (onesL (seenL bs)) = sn at hjo ⊢
        have hsnl : sn.length = (seenL bs).length := by rw [← hjo]; rfl
        clear hsn
        have sJ : Stop (sn.cps.toList = seenL bs) := ⟨hjo⟩
        clear hjo
        k_steps
        (with_reducible rename Fr _ _ _ _ => F18)
        (with_reducible rename News _ _ _ _ => N18)
        refine strip_spec w sn _ _ _ _ _ (X.keeps F18.keep) (T.keeps F18.keep) (by simp only [depth_deeper]; omega) hh (by rw [sJ.h]; exact esc_seen bs sB.h.1) (by omega) ?_
        intro h19 tk19 t19 gs19 e19 gb19
        have F19 := Fr.keeps F18 e19
        have N19 := News.grown N18 e19
        clear F18 N18 e19
        have hst := strip_seen sB.h.1 sJ.h
        have hcl : stripOf sn = xb := cps_inj (hst.trans sB.h.2.2.2.symm)
        rw [hcl]
        have sC : Stop (stripOf sn = xb) := ⟨hcl⟩
        clear hst hcl
        dsimp only
        k_steps
        constructor
        refine ne_str ?_
        rw [str_ne_self]
        have hok := good_ok sT.h.1
        have hbal := hok.bal
        have hpl2 : plainL bs = t.w := by rw [sB.h.2.1, Tr.write_w]
        k_steps
        (with_reducible rename Fr _ _ _ _ => F20)
        (with_reducible rename News _ _ _ _ => N20)
        refine wpAny_with_toks (n := 1) (by first | omega | (dsimp only; omega)) ?_
        refine check_spec w sn _ _ _ _ _ (X.keeps F20.keep) (T.keeps F20.keep) (by simp only [depth_deeper]; omega) hh (by rw [sJ.h]; exact esc_seen bs sB.h.1) (by omega) (by rw [sC.h, sB.h.2.2.2]; exact esc_left bs sB.h.1) (by rw [sC.h]; show xb.cps.size ≤ _; rw [← Array.length_toList, sB.h.2.2.2]; omega) ?_
        intro h21 tk21 gs21 e21 gb21 ht21
        have F21 := Fr.keeps F20 e21
        have N21 := News.grown N20 e21
        clear F20 N20 e21
        rw [check_seen sB.h.1 sJ.h (by rw [hpl2]; exact hbal.1) (by rw [hpl2]; exact hbal.2)]
        dsimp only
        k_steps
        (with_reducible rename Fr _ _ _ _ => F22)
        (with_reducible rename News _ _ _ _ => N22)
        generalize hxt : Txt.slice t.write (some 1) none ++ Txt.slice t.write none (some 1) = xt at *
        ((refine Mine.and4 (turned_at sT.h.1 sT.h.2.1 hxt.symm) ?_); intro ht1 ht2 ht3 ht4)
        have hst : stripOf xt = xt := if_neg ht2
        refine wpAny_with_toks (n := 1) (by first | omega | (dsimp only; omega) | exact ht21) ?_
        refine check_spec w xt _ _ _ _ _ (X.keeps F22.keep) (T.keeps F22.keep) (by simp only [depth_deeper]; omega) hh (escEnd_plain _ ht3) (by omega) (by rw [hst]; exact escEnd_plain _ ht3) (by rw [hst]; omega) ?_
        intro h23 tk23 gs23 e23 gb23 ht23
        have F23 := Fr.keeps F22 e23
        have N23 := News.grown N22 e23
        clear F22 N22 e23
        rw [ht1]
        clear ht2 ht3 ht4 hst hxt
        dsimp only
        k_steps
        constructor
        have ht23' : 1 ≤ tk23 := ht23
        have hxb : xb.length ≤ 300 := by show xb.cps.size ≤ _; rw [← Array.length_toList, sB.h.2.2.2]; omega
        have hx1 := first_le7 sB.h.1 sB.h.2.2.2
        refine wpAny_with_toks (n := 1) (by first | omega | (dsimp only; omega)) ?_
        refine SC.replaceW (by show @Ne Nat _ _; first | omega | (dsimp only; omega)) (by show @Ne Nat _ _; first | omega | (dsimp only; omega)) (by show @Ne Nat _ _; first | omega | (dsimp only; omega)) (by decide +kernel) (by omega) (by decide +kernel) ?_
        intro t24 k24 ht24
        have ht24' : 1 ≤ k24 := ht24
        dsimp only
        k_steps
        constructor
        refine SC.replaceW (by show @Ne Nat _ _; first | omega | (dsimp only; omega)) (by show @Ne Nat _ _; first | omega | (dsimp only; omega)) (by show @Ne Nat _ _; first | omega | (dsimp only; omega)) (by decide +kernel) (by omega) (by decide +kernel) ?_
        intro t25 k25
        dsimp only
        have hrd := read_seen sB.h.1 sB.h.2.2.2
        generalize Txt.replace (Txt.replace xb (Str.ofString "\\)") (Str.ofString "")) (Str.ofString "\\\"") (Str.ofString "") = xr at hrd ⊢
        clear hx1
        have hxr : xr.cps.toList = t.w := hrd.trans hpl2
        have hxrl : xr.length = t.write.length := by
          show xr.cps.size = t.write.cps.size
          rw [← Array.length_toList, hxr, hwe]
        clear hrd
        k_steps
        (with_reducible rename Fr _ _ _ _ => F26)
        (with_reducible rename News _ _ _ _ => N26)
        refine read_spec w t.size t (Nat.le_refl _) xr _ _ _ _ _ hok hxr (X.keeps F26.keep) (T.keeps F26.keep) (by simp only [depth_deeper]; omega) hh (by omega) ?_
        intro rv h27 tk27 gs27 e27 gb27 hT27
        have sG : Stop (GB s.gens gs27) := ⟨GB.trans gb19 (GB.trans gb21 (GB.trans gb23 gb27))⟩
        clear gb19 gb21 gb23 gb27
        have F27 := Fr.keeps F26 e27
        ((refine Exists.elim (Fz.start (fix := [(290, tabObj ps)]) (rest := rest) F27 (fun p hp => News.grown N26 e27 p (.tail _ (.tail _ hp))) keepy_tree hT27) ?_); intro rest1; intro hZ1; (refine Mine.and3 hZ1 ?_); clear hZ1; intro N27 sub1 zR)
        simp only [List.cons_append, List.nil_append] at N27
        have sR : Stop (Fz B s.heap.objs.size rest1 (fun h => TreeAt h tv t) ∧ Fz B s.heap.objs.size rest1 (fun h => TreeAt h rv t)) := ⟨sT.h.2.2.2.mono sub1, zR⟩
        clear F26 N26 e27 hT27 zR hxr hxrl
        dsimp only
        k_steps
        (with_reducible rename Fr _ _ _ _ => F28)
        (with_reducible rename News _ _ _ _ => N28)
        refine plan_spec w t.size t (Nat.le_refl _) _ _ _ _ _ (sR.h.2 _ _ _ F28 N28 (fun q hq => .tail _ hq)) (X.keeps F28.keep) (T.keeps F28.keep) (by simp only [depth_deeper]; omega) hh (by omega) ?_
        intro pv h29 tk29 hP29 _ e29
        ((refine Mine.hideG fun G kG => ?_); (refine Mine.ex3 hP29.head ?_); intro pa arrP tP; intro hZ1; (refine Mine.and3 hZ1 ?_); clear hZ1; intro hZ2; obtain rfl := hZ2; intro hZ3; obtain - := hZ3; intro hZ4; obtain - := hZ4; (refine kG ?_); clear kG G)
        have F29 := Fr.keeps F28 e29
        ((refine Exists.elim (Fz.start (fix := [(290, tabObj ps)]) (rest := rest1) F29 (fun p hp => News.grown N28 e29 p hp) keepy_plan hP29) ?_); intro rest2; intro hZ1; (refine Mine.and3 hZ1 ?_); clear hZ1; intro N29 sub2 zP)
        simp only [List.cons_append, List.nil_append] at N29
        have sP : Stop (Fz B s.heap.objs.size rest2 (fun h => TreeAt h tv t) ∧ Fz B s.heap.objs.size rest2 (fun h => TreeAt h rv t) ∧ Fz B s.heap.objs.size rest2 (fun h => PlanAt h (.ref pa) t)) := ⟨sR.h.1.mono sub2, sR.h.2.mono sub2, zP⟩
        clear F28 N28 e29 hP29 zP sR
        dsimp only
        k_steps
        (with_reducible rename Fr _ _ _ _ => F30)
        (with_reducible rename News _ _ _ _ => N30)
        refine all_spec w t.size t (Nat.le_refl _) _ _ _ _ _ (sP.h.1 _ _ _ F30 N30 (fun q hq => .tail _ hq)) (X.keeps F30.keep) (T.keeps F30.keep) (by simp only [depth_deeper]; omega) hh (by omega) ?_
        intro DA h31 tk31 vsA kA fr31 g31 iA e31
        have F31 := Fr.keeps F30 e31
        have N31 : News B s.heap.objs.size h31 ((DA, W.listOf vsA.toArray kA) :: (290, tabObj ps) :: rest2) := fun p hp => by
          rcases List.mem_cons.mp hp with rfl | hp
          · refine ⟨g31, fun q => ?_, none_base F30.keep fr31⟩
            have q' : DA = s.heap.objs.size := q
            subst q'
            ((refine Mine.ex3 F30.ns ?_); intro o _ _; intro hZ1; (refine And.elim ?_ hZ1); clear hZ1; intro ho _)
            rw [fr31] at ho; cases ho
          · exact News.grown N30 e31 p hp
        have sA : Stop (IntsAre vsA t.allR) := ⟨iA⟩
        clear F30 N30 e31 fr31 g31 iA
        dsimp only
        k_steps
        constructor
        (with_reducible rename Fr _ _ _ _ => F32)
        (with_reducible rename News _ _ _ _ => N32)
        refine kso_min F32 N32 (News.isList N32 (.head _)) sA.h (allR_pos t) hh ?_
        intro h33 M33 t33 tk33 F33 N33 hM1 hM2
        rw [least_eq hM1 hM2]
        clear F32 N32 hM1 hM2 sA
        dsimp only
        k_steps
        (with_reducible rename Fr _ _ _ _ => F34)
        (with_reducible rename News _ _ _ _ => N34)
        ((refine Exists.elim (tree_reads (sP.h.2.1 _ _ _ F34 N34 (fun q hq => .tail _ (.tail _ (.tail _ (.tail _ hq)))))) ?_); intro as1 rd1)
        ((refine Exists.elim (tree_reads (sP.h.1 _ _ _ F34 N34 (fun q hq => .tail _ (.tail _ (.tail _ (.tail _ hq)))))) ?_); intro as2 rd2)
        refine ne_dataS rd1 rd2 (data_lay sT.h.1 (by omega)) (data_lay sT.h.1 (by omega)) (by simp only [units_deeper]; omega) ?_
        rw [PySem.SeqAt.eqv_refl _ (data_can sT.h.1)]
        clear rd1 rd2
        ((refine Exists.elim (Fz.start (P := fun h => Heap.IsList h _ _ ∧ Heap.IsTuple h _ _) (fix := [(290, tabObj ps)]) (rest := rest2) F34 (fun p hp => N34 p (.tail _ (.tail _ (.tail _ hp)))) keepy_held ⟨News.isList N34 (.head _), ⟨_, (N34 _ (.tail _ (.head _))).1, rfl, _, rfl⟩⟩) ?_); intro rest3; intro hZ1; (refine Mine.and3 hZ1 ?_); clear hZ1; intro N35 sub3 zH)
        simp only [List.cons_append, List.nil_append] at N35
        have sH := Stop.mk zH
        have sQ : Stop (Fz B s.heap.objs.size rest3 (fun h => TreeAt h tv t) ∧ Fz B s.heap.objs.size rest3 (fun h => PlanAt h (.ref pa) t)) := ⟨sP.h.1.mono sub3, sP.h.2.2.mono sub3⟩
        clear N34 zH sP
        k_steps
        ((refine Mine.ex3 (PlanAt.head (sQ.h.2 _ _ _ F34 N35 (fun q hq => .tail _ hq))) ?_); intro a' arr' t1'; intro hZ1; (refine Mine.and3 hZ1 ?_); clear hZ1; intro e' hl' h0')
        cases e'
        refine item_list hl' (by decide) (by decide) h0' ?_
        clear hl' h0'
        k_steps
        constructor
        have hek := ersh_leaves t
        refine SB.mul (mulOk_of 16 1048576 (by decide) (by omega) (by omega) (by decide) (by decide)) ?_
        intro t36 k36
        rw [dots_mul _ (by omega)]
        k_steps
        constructor
        refine ne_str ?_
        rw [str_ne_self]
        k_steps
        (with_reducible rename Fr _ _ _ _ => F37)
        (with_reducible rename News _ _ _ _ => N37)
        refine run_spec w t true _ _ _ _ _ (X.keeps F37.keep) (T.keeps F37.keep) (by simp only [depth_deeper]; omega) hh (sQ.h.2 _ _ _ F37 N37 (fun q hq => .tail _ hq)) sT.h.1 (by omega) ?_
        intro DR h38 tk38 hR38 e38 _
        have F38 := Fr.keeps F37 e38
        ((refine Exists.elim (Fz.start (fix := [(290, tabObj ps)]) (rest := rest3) F38 (fun p hp => News.grown N37 e38 p hp) keepy_run hR38) ?_); intro rest4; intro hZ1; (refine Mine.and3 hZ1 ?_); clear hZ1; intro N38 sub4 zR2)
        simp only [List.cons_append, List.nil_append] at N38
        have sH2 := Stop.mk (sH.h.mono sub4)
        have sQ2 : Stop (Fz B s.heap.objs.size rest4 (fun h => TreeAt h tv t) ∧ Fz B s.heap.objs.size rest4 (fun h => PlanAt h (.ref pa) t) ∧ Fz B s.heap.objs.size rest4 (fun h => RunAt h DR t true)) := ⟨sQ.h.1.mono sub4, sQ.h.2.mono sub4, zR2⟩
        clear F37 N37 e38 hR38 zR2 sH sQ
        dsimp only
        k_steps
        (with_reducible rename Fr _ _ _ _ => F39)
        (with_reducible rename News _ _ _ _ => N39)
        have hr39 := sQ2.h.2.2 _ _ _ F39 N39 (fun q hq => .tail _ (.tail _ hq))
        have hh39 := sH2.h _ _ _ F39 N39 (fun q hq => .tail _ (.tail _ hq))
        ((refine Exists.elim (run_reads hr39) ?_); intro as3 rd3)
        ((refine Exists.elim (held_reads (News.isList N39 (.head _)) hh39.1 hh39.2) ?_); intro as4 rd4)
        rw [peak_true] at rd3
        refine ne_dataS rd3 rd4 (run_lay sT.h.1 (by omega) (by omega)) (run_lay sT.h.1 (by omega) (by omega)) (by simp only [units_deeper]; omega) ?_
        rw [PySem.SeqAt.eqv_refl _ (run_can sT.h.1 (by omega))]
        clear rd3 rd4 hr39 hh39
        k_steps
        refine run_spec w t false _ _ _ _ _ (X.keeps F39.keep) (T.keeps F39.keep) (by simp only [depth_deeper]; omega) hh (sQ2.h.2.1 _ _ _ F39 N39 (fun q hq => .tail _ (.tail _ hq))) sT.h.1 (by omega) ?_
        intro DS h40 tk40 hR40 e40 _
        have F40 := Fr.keeps F39 e40
        ((refine Exists.elim (Fz.start (fix := [(290, tabObj ps)]) (rest := rest4) F40 (fun p hp => News.grown N39 e40 p (.tail _ hp)) keepy_run hR40) ?_); intro rest5; intro hZ1; (refine Mine.and3 hZ1 ?_); clear hZ1; intro N40 sub5 zR3)
        simp only [List.cons_append, List.nil_append] at N40
        have sH3 := Stop.mk (sH2.h.mono sub5)
        have sQ3 : Stop (Fz B s.heap.objs.size rest5 (fun h => TreeAt h tv t) ∧ Fz B s.heap.objs.size rest5 (fun h => RunAt h DS t false)) := ⟨sQ2.h.1.mono sub5, zR3⟩
        clear F39 N39 e40 hR40 zR3 sH2 sQ2
        dsimp only
        k_steps
        (with_reducible rename Fr _ _ _ _ => F41)
        (with_reducible rename News _ _ _ _ => N41)
        have n290 := N41 (290, tabObj ps) (.head _)
        have hT41 : TreeAt (hideAll _ [290]) tv t := TreeAt.keepL (L := 290) (fun a xs q e => by
          subst e
          ((refine Exists.elim q ?_); (try clear q); intro o; intro hZ1; (refine Mine.and3 hZ1 ?_); clear hZ1; intro ho hc; intro hZ2; (refine Exists.elim hZ2 ?_); clear hZ2; intro n hd)
          have := n290.1
          rw [ho] at this; cases this; cases hd) (fun b o hb e => hideAll_get _ e (by simpa using hb)) (sQ3.h.1 _ _ _ F41 N41 (fun q hq => .tail _ hq))
        have hB290 : ∀ a ∈ [290], B.get? a = none := fun a ha => by rw [List.mem_singleton.mp ha]; exact hBn
        refine late_spec w t.size t (Nat.le_refl _) b₀ ps _ _ _ _ _ X₀ T₀ (hu.trans F41.keep) off (sS.h.keep n290.1 fun c' o _ hne ho => F41.keep _ _ (hBk.h _ _ hne ho)) hT41 (by simp only [depth_deeper]; omega) hh (by omega) ?_
        intro DL h42 tk42 tl1 tl2 kl ps' fr42 g42 S42 e42
        have F42 := fr_hideN F41 hB290 (by simpa using Ne.symm n290.2.1) e42
        have h4k : ∀ b o, b ≠ 290 → Heap.get? _ b = some o → h42.get? b = some o := fun b o hb e => e42 b o (hideAll_get _ e (by simpa using hb))
        have hl290 : ∀ a xs, Heap.IsList _ a xs → a ≠ 290 := fun a xs q e => by
          subst e
          ((refine Exists.elim q ?_); (try clear q); intro o; intro hZ1; (refine Mine.and3 hZ1 ?_); clear hZ1; intro ho hc; intro hZ2; (refine Exists.elim hZ2 ?_); clear hZ2; intro n hd)
          have := n290.1
          rw [ho] at this; cases this; cases hd
        have ht290 : ∀ a xs, Heap.IsTuple _ a xs → a ≠ 290 := fun a xs q e => by
          subst e
          ((refine Exists.elim q ?_); (try clear q); intro o; intro hZ1; (refine Mine.and3 hZ1 ?_); clear hZ1; intro ho hc; intro hZ2; (refine Exists.elim hZ2 ?_); clear hZ2; intro n hd)
          have := n290.1
          rw [ho] at this; cases this; cases hd
        have P42 := keepy_and keepy_run keepy_held _ h42 hl290 ht290 h4k ⟨sQ3.h.2 _ _ _ F41 N41 (fun q hq => .tail _ hq), sH3.h _ _ _ F41 N41 (fun q hq => .tail _ hq)⟩
        have N42 : News B s.heap.objs.size h42 [(DL, W.listOf #[Value.int ((t.late.1 : Nat) : Int) tl1, Value.int ((t.late.2 : Nat) : Int) tl2] kl)] := fun p hp => by
          rw [List.mem_singleton.mp hp]
          refine ⟨g42, fun q => ?_, none_base F41.keep fr42⟩
          have q' : DL = s.heap.objs.size := q
          subst q'
          ((refine Mine.ex3 F41.ns ?_); intro o _ _; intro hZ1; (refine And.elim ?_ hZ1); clear hZ1; intro ho _)
          rw [fr42] at ho; cases ho
        ((refine Exists.elim (Fz.start (rest := []) F42 (fun p hp => N42 p (by rwa [List.append_nil] at hp)) (keepy_and (keepy_and keepy_run keepy_held) (keepy_tab n290.2.1)) ⟨P42, S42.1⟩) ?_); intro rest6; intro hZ1; (refine Mine.and3 hZ1 ?_); clear hZ1; intro N43; intro hZ2; obtain - := hZ2; intro zF)
        simp only [List.cons_append, List.nil_append] at N43
        have sF := Stop.mk zF
        clear F41 N41 N42 P42 h4k hl290 ht290 hT41 e42 S42 zF n290 fr42 g42
        dsimp only
        k_steps
        (with_reducible rename Fr _ _ _ _ => F44)
        (with_reducible rename News _ _ _ _ => N44)
        have z44 := sF.h _ _ _ F44 N44 (fun q hq => .tail _ (.tail _ hq))
        ((refine Exists.elim (run_reads z44.1.1) ?_); intro as5 rd5)
        ((refine Exists.elim (held_reads (k := t.late.2) (News.isList N44 (.head _)) z44.1.2.1 z44.1.2.2) ?_); intro as6 rd6)
        have hpk := peak_le t false
        rw [peak_false] at rd5 hpk
        refine eq_dataS rd5 rd6 (run_lay sT.h.1 (by omega) (by omega)) (run_lay sT.h.1 (by omega) (by omega)) (by simp only [units_deeper]; omega) ?_
        rw [PySem.SeqAt.eqv_refl _ (run_can sT.h.1 (by omega))]
        repeat (refine Mine.Hid.go (by with_reducible assumption) ?_)
        exact ret _ _ _ F44.keep sG.h ⟨_, z44.2⟩
end Mine
end
open PySem PySem.W PyProof.Rows
set_option maxRecDepth 100000
namespace Mine
set_option maxHeartbeats 0 in
theorem mid_post (w : World) (s₀ s₁ : Shared) (args : List WData) (hargs : ∃ ns, args = [ofPy (PyData.list (List.map PyData.int ns))]) (hg : s₁.gens = #[]) (ht : CodeHd s₁.heap 294 290) (h290 : s₁.heap.get? 290 = some (tabObj #[]))
    (h' : Heap) (tk' : Nat) (gs' : Array GenState) (e : Ext (hideAll s₁.heap [290]) h') (g : GB s₁.gens gs') (t : ∃ ps', h'.get? 290 = some (tabObj ps')) :
    GoodWG PySem.Challenge.rw_sh0039_01.row.claim (classAt s₀.heap) (ExcName.means s₀.heap) args s₁ (Except.ok (Flow.ret (.bool true))) { s₁ with heap := h', toks := tk', gens := gs' } := by
  obtain ⟨ns, rfl⟩ := hargs
  obtain ⟨ps', t⟩ := t
  have keep : ∀ b o, b ≠ 290 → s₁.heap.get? b = some o → h'.get? b = some o := fun b o hb q => e b o (hideAll_get _ q (by simpa using hb))
  refine ⟨.inl ⟨_, _, _, rfl, fun _ => rfl, .bool true, ?_, fun _ => ⟨List.nodup_nil, fun a ha => by cases ha⟩⟩, ⟨fun b o q => ?_, fun b o q => ?_⟩, rfl, ?_⟩
  · exact postW_of (by rfl) (by rfl) (same_self _)
  · by_cases hb : b = 290
    · subst hb
      rw [h290] at q; cases q
      exact .inr (.inl ⟨(ht.tab h290).isCodeTable, rfl, #[], ps', rfl, by rw [Array.empty_append]; exact t⟩)
    · exact .inl (keep b o hb q)
  · by_cases hb : b = 290
    · subst hb; exact ⟨_, t⟩
    · exact ⟨o, keep b o hb q⟩
  · rw [hg] at g
    exact g (fun x hx => by simp at hx)
set_option maxHeartbeats 0 in
theorem law_call : PySem.Challenge.rw_sh0039_01.row.wellSaid = true → PySem.Challenge.rw_sh0039_01.row.Holds := by
  intro said
  w_on
  refine holds_open (q := lawView) (loose := lawLoose) (Xt := lawXt) (XP := XL lawView []) (Yf := lawHook.obs) (Ya := lawHook.val) (YP := lawHook.says) (N := 5298) (left_law head_all) lawHook.of lawHook.keeps (fun s e => xl_of s (Bool.and_eq_true_iff.mp e).1) XL.keeps (by rfl) (by rfl) (by rfl) (fun s e => recFacts_of (Bool.and_eq_true_iff.mp e).2) (by rfl) (by assumption) (by decide +kernel) ⟨rfl, rfl, rfl, rfl, rfl, by decide +kernel⟩ ?hw ?hc
  case hw => w_witness2
  intro w s₀ s₁ mg mb G Y fa o pm cd doc dV kV ho hd hcd hD hmg hg args vals as hpre hlay hrd hwl hlo
  obtain ⟨Y1, Y2, Y3⟩ := Y
  have X : (KX w.params).In s₁.heap := Y1
  clear said
  refine Ground.open G ?_
  intro T B D TE TW
  have hfa : Value.ref fa = .ref 300 := Option.some.inj (hmg.symm.trans (mg_of X T.g (by rfl)))
  cases hfa
  have hcH : CodeHd s₁.heap 294 290 := code294 w X
  have hT9 : TabsAt [((294 : Addr), (290 : Addr))] s₁.heap := fun q hq => by rw [List.mem_singleton.mp hq]; exact ⟨hcH, Y2⟩
  have T9 := ghost_top hT9 T
  have X9 : (KX w.params).In (hideAll s₁.heap [290]) := fun a o e => hideAll_get _ (X a o e) (fun q => by
    rw [List.mem_singleton.mp q] at e
    have e' : (KX w.params).lookup 290 = none := by rfl
    rw [e'] at e; cases e)
  have B9 : Heap.SetOf (intKind PySem.Challenge.rw_sh0039_01.row.prog w) (hideAll s₁.heap [290]) 84 b1S 27 := setOf_keep (set84_of Y3) (fun o e => hideAll_get _ e (by decide))
  clear D TE TW B hmg ho hd hcd hD G
  wrow_args hpre hlay hrd hwl hlo
  rename_i hL _ _ _ hI _ hlt _
  refine law_spec w _ #[] _ _ _ callerA s₁ _ _ X9 T9 (fun b o e => of_hideAll _ e) (hideAll_none _ (.head _)) ⟨Y2, .inl rfl⟩ B9 hL hI (by omega) (by decide) (by decide) rfl ?_
  intro h' tk' gs' e g t
  exact mid_post w s₀ s₁ _ ⟨_, rfl⟩ hg hcH Y2 h' tk' gs' e g t
end Mine
set_option maxHeartbeats 0 in
theorem PySem.Challenge.cw_sh0039_01_holds : PySem.Challenge.rw_sh0039_01.Holds := by
  exact holds_law Mine.said_law fun said => Mine.law_call said
