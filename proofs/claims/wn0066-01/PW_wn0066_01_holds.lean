import PyProof.Rows.All
import Wide.All
import OpenK.AllK
import Wide.FinOn
import PySem.Challenge.RW_wn0066_01
set_option Elab.async false
set_option maxRecDepth 100000
section
namespace Mine
open Nat.Internal.Linear in
noncomputable def FL : List (Nat × Expr × Expr) → Expr
  | [] => .num 0
  | (k, x, _) :: t => .add (.mulL k x) (FL t)
open Nat.Internal.Linear in
noncomputable def FR : List (Nat × Expr × Expr) → Expr
  | [] => .num 0
  | (k, _, y) :: t => .add (.mulL k y) (FR t)
open Nat.Internal.Linear in
noncomputable def FDen (c : Context) : List (Nat × Expr × Expr) → Prop
  | [] => False
  | (_, x, y) :: t => x.denote c ≤ y.denote c → FDen c t
open Nat.Internal.Linear in
theorem Farlow (c : Context) (hs : List (Nat × Expr × Expr)) : ((FL hs).denote c ≤ (FR hs).denote c → False) → FDen c hs := by
  induction hs with
  | nil => exact fun h => h (Nat.le_refl _)
  | cons r t ih => exact fun h l => ih fun u => h (Nat.add_le_add (Nat.mul_le_mul_left r.1 l) u)
open Nat.Internal.Linear in
theorem far (c : Context) (hs : List (Nat × Expr × Expr)) (h : (ExprCnstr.mk false (FL hs) (FR hs)).toNormPoly.isUnsat = true) : FDen c hs :=
  Farlow c hs fun u => (ExprCnstr.eq_false_of_isUnsat c _ h).mp u
open Int.Internal.Linear in
noncomputable def GL : List (Nat × Expr × Expr) → Expr
  | [] => .num 0
  | (k, x, _) :: t => .add (.mulL k x) (GL t)
open Int.Internal.Linear in
noncomputable def GR : List (Nat × Expr × Expr) → Expr
  | [] => .num 0
  | (k, _, y) :: t => .add (.mulL k y) (GR t)
open Int.Internal.Linear in
noncomputable def GDen (c : Context) : List (Nat × Expr × Expr) → Prop
  | [] => False
  | (_, x, y) :: t => x.denote c ≤ y.denote c → GDen c t
open Int.Internal.Linear in
theorem FarlowI (c : Context) (hs : List (Nat × Expr × Expr)) : ((GL hs).denote c ≤ (GR hs).denote c → False) → GDen c hs := by
  induction hs with
  | nil => exact fun h => h (Int.le_refl _)
  | cons r t ih => exact fun h l => ih fun u => h (Int.add_le_add (Int.mul_le_mul_of_nonneg_left l (Int.natCast_nonneg r.1)) u)
open Int.Internal.Linear in
theorem farI (c : Context) (hs : List (Nat × Expr × Expr)) (h : ((GL hs).sub (GR hs)).norm.isUnsatLe = true) : GDen c hs :=
  FarlowI c hs fun u => (le_eq_false c _ _ h).mp u
theorem sub_or (x y : Nat) : (y ≤ x ∧ x - y + y ≤ x) ∨ (x ≤ y ∧ x - y ≤ 0) :=
  (Nat.le_total y x).elim (fun h => .inl ⟨h, Nat.le_of_eq (Nat.sub_add_cancel h)⟩) (fun h => .inr ⟨h, Nat.le_of_eq (Nat.sub_eq_zero_of_le h)⟩)
theorem sub_lo (x y : Nat) : x ≤ x - y + y := Nat.le_add_of_sub_le (Nat.le_refl _)
theorem min_or (x y : Nat) : (x ≤ y ∧ x ≤ min x y) ∨ (y ≤ x ∧ y ≤ min x y) :=
  (Nat.le_total x y).elim (fun h => .inl ⟨h, Nat.le_of_eq (Nat.min_eq_left h).symm⟩) (fun h => .inr ⟨h, Nat.le_of_eq (Nat.min_eq_right h).symm⟩)
theorem div_hi (x k : Nat) (h : 0 < k) : x < k * (x / k) + k := Nat.lt_mul_div_succ x h
theorem mod_lo (x k : Nat) : k * (x / k) + x % k ≤ x := Nat.le_of_eq (Nat.div_add_mod x k)
theorem mod_hi (x k : Nat) : x ≤ k * (x / k) + x % k := Nat.le_of_eq (Nat.div_add_mod x k).symm
end Mine
end
section
namespace Mine.Fr
open Nat.Internal.Linear in
theorem far0 (hs : List (Nat × Expr × Expr)) (h : (ExprCnstr.mk false (FL hs) (FR hs)).toNormPoly.isUnsat = true) : FDen (.leaf 0) hs := far _ hs h
open Nat.Internal.Linear in
theorem far1 (a : Nat) (hs : List (Nat × Expr × Expr)) (h : (ExprCnstr.mk false (FL hs) (FR hs)).toNormPoly.isUnsat = true) : FDen (.leaf a) hs := far _ hs h
open Nat.Internal.Linear in
theorem far2 (a b : Nat) (hs : List (Nat × Expr × Expr)) (h : (ExprCnstr.mk false (FL hs) (FR hs)).toNormPoly.isUnsat = true) : FDen (.branch 1 (.leaf a) (.leaf b)) hs := far _ hs h
open Nat.Internal.Linear in
theorem far3 (a b c : Nat) (hs : List (Nat × Expr × Expr)) (h : (ExprCnstr.mk false (FL hs) (FR hs)).toNormPoly.isUnsat = true) : FDen (.branch 1 (.leaf a) (.branch 2 (.leaf b) (.leaf c))) hs := far _ hs h
open Nat.Internal.Linear in
theorem far4 (a b c d : Nat) (hs : List (Nat × Expr × Expr)) (h : (ExprCnstr.mk false (FL hs) (FR hs)).toNormPoly.isUnsat = true) : FDen (.branch 2 (.branch 1 (.leaf a) (.leaf b)) (.branch 3 (.leaf c) (.leaf d))) hs := far _ hs h
open Nat.Internal.Linear in
theorem far5 (a b c d e : Nat) (hs : List (Nat × Expr × Expr)) (h : (ExprCnstr.mk false (FL hs) (FR hs)).toNormPoly.isUnsat = true) : FDen (.branch 2 (.branch 1 (.leaf a) (.leaf b)) (.branch 3 (.leaf c) (.branch 4 (.leaf d) (.leaf e)))) hs := far _ hs h
open Nat.Internal.Linear in
theorem far6 (a b c d e f : Nat) (hs : List (Nat × Expr × Expr)) (h : (ExprCnstr.mk false (FL hs) (FR hs)).toNormPoly.isUnsat = true) : FDen (.branch 3 (.branch 1 (.leaf a) (.branch 2 (.leaf b) (.leaf c))) (.branch 4 (.leaf d) (.branch 5 (.leaf e) (.leaf f)))) hs := far _ hs h
open Nat.Internal.Linear in
theorem far7 (a b c d e f g : Nat) (hs : List (Nat × Expr × Expr)) (h : (ExprCnstr.mk false (FL hs) (FR hs)).toNormPoly.isUnsat = true) : FDen (.branch 3 (.branch 1 (.leaf a) (.branch 2 (.leaf b) (.leaf c))) (.branch 5 (.branch 4 (.leaf d) (.leaf e)) (.branch 6 (.leaf f) (.leaf g)))) hs := far _ hs h
open Nat.Internal.Linear in
theorem far8 (a b c d e f g i : Nat) (hs : List (Nat × Expr × Expr)) (h : (ExprCnstr.mk false (FL hs) (FR hs)).toNormPoly.isUnsat = true) : FDen (.branch 4 (.branch 2 (.branch 1 (.leaf a) (.leaf b)) (.branch 3 (.leaf c) (.leaf d))) (.branch 6 (.branch 5 (.leaf e) (.leaf f)) (.branch 7 (.leaf g) (.leaf i)))) hs := far _ hs h
theorem nl {a b : Nat} (h : ¬b < a) : a ≤ b := Nat.le_of_not_lt h
theorem nt {a b : Nat} (h : ¬b ≤ a) : a < b := Nat.lt_of_not_le h
theorem el {a b : Nat} (h : a = b) : a ≤ b := Nat.le_of_eq h
theorem eg {a b : Nat} (h : a = b) : b ≤ a := Nat.le_of_eq h.symm
theorem bl {a b : Nat} (h : a.ble b = true) : a ≤ b := Nat.le_of_ble_eq_true h
open Nat.Internal.Linear Expr
@[reducible] noncomputable def A := Expr.add
@[reducible] noncomputable def M := Expr.mulL
@[reducible] noncomputable def R := Expr.mulR
@[reducible] noncomputable def N := Expr.num
@[reducible] noncomputable def S (x : Expr) : Expr := .add x (.num 1)
@[reducible] noncomputable def v0 : Expr := .var 0
@[reducible] noncomputable def v1 : Expr := .var 1
@[reducible] noncomputable def v2 : Expr := .var 2
@[reducible] noncomputable def v3 : Expr := .var 3
@[reducible] noncomputable def v4 : Expr := .var 4
@[reducible] noncomputable def v5 : Expr := .var 5
@[reducible] noncomputable def v6 : Expr := .var 6
@[reducible] noncomputable def v7 : Expr := .var 7
end Mine.Fr
namespace Mine
open Fr
variable {a b c d e f : Nat}
theorem dig4 {x y r s : Nat} (h0 : r < 4) (h1 : s < 4) (h2 : 4 * x + r = 4 * y + s) : x = y ∧ r = s :=
  have h3 : x = y := Nat.le_antisymm (Nat.le_of_not_lt fun n0 => far4 s x r y [(1, A v0 (N 1), N 4), (1, A (M 4 v1) v2, A (M 4 v3) v0), (4, S v3, v1)] rfl h1 (Nat.le_of_eq h2) n0) (Nat.le_of_not_lt fun n0 => far4 r y s x [(1, S v0, N 4), (1, A (M 4 v1) v2, A (M 4 v3) v0), (4, S v3, v1)] rfl h0 (Nat.le_of_eq h2.symm) n0)
  ⟨h3, Nat.add_left_cancel (h3 ▸ h2)⟩
theorem om0 : 2 + 6 ≤ 7 * 0 + 11 := Nat.le_add_left _ _
theorem om2 : 1 ≤ 7 * 0 + 11 := Nat.le_add_left _ _
theorem om3 : 1 ≤ 2 := Nat.le_add_left _ _
theorem om4 : 3 ≤ 3 := Nat.le_refl _
theorem om5 : 9 ≤ 16777216 := Nat.le_add_left _ _
theorem om6 : ¬(0 > 0) := Nat.lt_irrefl _
theorem om8 (h0 : (100 : Int) = (300 : Int)) : False := farI (.leaf 0) [(1, .num 300, .num 100)] rfl (Int.le_of_eq h0.symm)
theorem om9 (h0 : 43 = 46 ∨ 43 = 63 ∨ 65 ≤ 43 ∧ 43 ≠ 95) : False := h0.elim (fun s0 => far1 0 [(1, N 46, N 43)] rfl (eg s0)) (fun s0 => s0.elim (fun s1 => far1 0 [(1, N 63, N 43)] rfl (eg s1)) (fun s1 => far1 0 [(1, N 65, N 43)] rfl s1.1))
theorem om10 (h0 : 45 = 46 ∨ 45 = 63 ∨ 65 ≤ 45 ∧ 45 ≠ 95) : False := h0.elim (fun s0 => far1 0 [(1, N 46, N 45)] rfl (eg s0)) (fun s0 => s0.elim (fun s1 => far1 0 [(1, N 63, N 45)] rfl (eg s1)) (fun s1 => far1 0 [(1, N 65, N 45)] rfl s1.1))
theorem om11 (h0 : 48 ≤ 46 ∧ 46 ≤ 57) : False := absurd h0 (by decide)
theorem om12 (h0 : 46 = 43) : False := far1 0 [(1, N 46, N 43)] rfl (el h0)
theorem om13 {a : Int} (h0 : (0 : Int) ≤ a ∧ a < (12 : Int)) : Int.toNat a < 12 := (Int.toNat_lt h0.1).mpr h0.2
theorem om14 {a : Int} (h0 : (0 : Int) ≤ a ∧ a < (12 : Int)) : a < (2 : Int) ^ 63 := Int.not_le.mp fun n0 => farI (.leaf a) [(1, .add (.var 0) (.num 1), .num 12), (1, .num (((2 : Int) ^ 63)), .var 0)] rfl h0.2 n0
theorem om15 {a : Int} (h0 : (0 : Int) ≤ a ∧ a < (130 : Int)) : a < (200 : Int) := by exact Int.lt_of_lt_of_le h0.2 (by decide)
theorem om16 {a : Int} (h0 : (0 : Int) ≤ a ∧ a < (2 : Int)) : a = (0 : Int) ∨ a = (1 : Int) := ((Decidable.em _).elim .inl (fun n0 => .inr (Int.le_antisymm (Int.not_lt.mp fun n1 => farI (.leaf a) [(1, .add (.var 0) (.num 1), .num 2), (1, .add (.num 1) (.num 1), .var 0)] rfl h0.2 n1) (Int.not_lt.mp fun n1 => (Int.lt_or_gt_of_ne n0).elim (fun s2 => farI (.leaf a) [(1, .num 0, .var 0), (1, .add (.var 0) (.num 1), .num 0)] rfl h0.1 s2) (fun s2 => farI (.leaf a) [(1, .add (.var 0) (.num 1), .num 1), (1, .add (.num 0) (.num 1), .var 0)] rfl n1 s2)))))
theorem om17 {a : Int} (h0 : (0 : Int) ≤ a ∧ a < (2 : Int)) : a < (3 : Int) := by exact Int.lt_of_lt_of_le h0.2 (by decide)
theorem om18 {a : Int} (h0 : (0 : Int) ≤ a ∧ a < (200 : Int)) : Int.natAbs a < 2 ^ 64 := Int.ofNat_lt.mp ((Int.natAbs_of_nonneg h0.1).symm ▸ Int.lt_trans h0.2 (by decide))
theorem om19 {a : Int} (h0 : (0 : Int) ≤ a ∧ a < (3 : Int)) : Int.natAbs a < 2 ^ 64 := Int.ofNat_lt.mp ((Int.natAbs_of_nonneg h0.1).symm ▸ Int.lt_trans h0.2 (by decide))
theorem om20 {a : Int} (h0 : (0 : Int) ≤ a ∧ a < (3 : Int)) : Int.toNat a < 3 := (Int.toNat_lt h0.1).mpr h0.2
theorem om21 {a : Int} (h0 : (0 : Int) ≤ a ∧ a < (3 : Int)) : a < (200 : Int) := by exact Int.lt_of_lt_of_le h0.2 (by decide)
theorem om22 {a : Int} (h0 : (0 : Int) ≤ a ∧ a < (3 : Int)) : a < (3 : Int) := by exact h0.2
theorem om23 {a : Int} (h0 : (0 : Int) ≤ a ∧ a < (30 : Int)) : (0 : Int) ≤ a ∧ a < (130 : Int) := ⟨Int.not_lt.mp fun n0 => farI (.leaf a) [(1, .num 0, .var 0), (1, .add (.var 0) (.num 1), .num 0)] rfl h0.1 n0, Int.not_le.mp fun n0 => farI (.leaf a) [(1, .add (.var 0) (.num 1), .num 30), (1, .num 130, .var 0)] rfl h0.2 n0⟩
theorem om24 {a : Int} (h0 : (0 : Int) ≤ a ∧ a < (30 : Int)) : (0 : Int) ≤ a ∧ a < (200 : Int) := ⟨Int.not_lt.mp fun n0 => farI (.leaf a) [(1, .num 0, .var 0), (1, .add (.var 0) (.num 1), .num 0)] rfl h0.1 n0, Int.not_le.mp fun n0 => farI (.leaf a) [(1, .add (.var 0) (.num 1), .num 30), (1, .num 200, .var 0)] rfl h0.2 n0⟩
theorem om25 {a : Int} (h0 : (0 : Int) ≤ a ∧ a < (64 : Int)) : Int.toNat a < 64 := (Int.toNat_lt h0.1).mpr h0.2
theorem om26 {a : Int} (h0 : (0 : Int) ≤ a) (h1 : a < (2 : Int) ^ 20) : (-(9223372036854775808 : Int)) ≤ a ∧ a < (9223372036854775808 : Int) := ⟨Int.not_lt.mp fun n0 => farI (.leaf a) [(1, .num 0, .var 0), (1, .add (.var 0) (.num 1), .neg (.num 9223372036854775808))] rfl h0 n0, Int.not_le.mp fun n0 => farI (.leaf a) [(1, .add (.var 0) (.num 1), .num (((2 : Int) ^ 20))), (1, .num 9223372036854775808, .var 0)] rfl h1 n0⟩
theorem om27 {a : Int} (h0 : (0 : Int) ≤ a) (h1 : a < (3 : Int)) : a = (0 : Int) ∨ a = (1 : Int) ∨ a = (2 : Int) := ((Decidable.em _).elim .inl (fun n0 => .inr (((Decidable.em _).elim .inl (fun n1 => .inr (Int.le_antisymm (Int.not_lt.mp fun n2 => farI (.leaf a) [(1, .add (.var 0) (.num 1), .num 3), (1, .add (.num 2) (.num 1), .var 0)] rfl h1 n2) (Int.not_lt.mp fun n2 => (Int.lt_or_gt_of_ne n0).elim (fun s3 => farI (.leaf a) [(1, .num 0, .var 0), (1, .add (.var 0) (.num 1), .num 0)] rfl h0 s3) (fun s3 => (Int.lt_or_gt_of_ne n1).elim (fun s4 => farI (.leaf a) [(1, .add (.num 0) (.num 1), .var 0), (1, .add (.var 0) (.num 1), .num 1)] rfl s3 s4) (fun s4 => farI (.leaf a) [(1, .add (.var 0) (.num 1), .num 2), (1, .add (.num 1) (.num 1), .var 0)] rfl n2 s4)))))))))
theorem om28 {a : Int} (h0 : (0 : Int) ≤ a) (h1 : a ≤ (200 : Int)) : Int.natAbs a < 2 ^ 64 := Int.ofNat_lt.mp ((Int.natAbs_of_nonneg h0).symm ▸ Int.lt_of_le_of_lt h1 (by decide))
theorem om29 {a : Int} (h0 : a < (130 : Int)) : a < (200 : Int) := Int.not_le.mp fun n0 => farI (.leaf a) [(1, .add (.var 0) (.num 1), .num 130), (1, .num 200, .var 0)] rfl h0 n0
theorem om30 {a : Int} {b : Int} (h0 : (0 : Int) ≤ a ∧ a < (200 : Int) ∧ (0 : Int) ≤ b ∧ b ≤ (200 : Int)) : a ≤ (200 : Int) := Int.not_lt.mp fun n0 => farI (.leaf a) [(1, .add (.var 0) (.num 1), .num 200), (1, .add (.num 200) (.num 1), .var 0)] rfl h0.2.1 n0
theorem om31 {a : Int} {b : Int} (h0 : (0 : Int) ≤ a ∧ a < (30 : Int)) (h1 : (0 : Int) ≤ b ∧ b < (100 : Int)) : (0 : Int) ≤ a + (1 : Int) + b ∧ a + (1 : Int) + b < (130 : Int) := ⟨Int.not_lt.mp fun n0 => farI (.branch 1 (.leaf a) (.leaf b)) [(1, .num 0, .var 0), (1, .num 0, .var 1), (1, .add (.add (.add (.var 0) (.num 1)) (.var 1)) (.num 1), .num 0)] rfl h0.1 h1.1 n0, Int.not_le.mp fun n0 => farI (.branch 1 (.leaf a) (.leaf b)) [(1, .add (.var 0) (.num 1), .num 30), (1, .add (.var 1) (.num 1), .num 100), (1, .num 130, .add (.add (.var 0) (.num 1)) (.var 1))] rfl h0.2 h1.2 n0⟩
theorem om32 {a : Int} {b : Int} (h0 : (0 : Int) ≤ a ∧ a < (30 : Int)) (h1 : (0 : Int) ≤ b ∧ b < (100 : Int)) : a < a + (1 : Int) + b ∧ a + (1 : Int) + b < (200 : Int) := ⟨Int.not_le.mp fun n0 => farI (.branch 1 (.leaf b) (.leaf a)) [(1, .num 0, .var 0), (1, .add (.add (.var 1) (.num 1)) (.var 0), .var 1)] rfl h1.1 n0, Int.not_le.mp fun n0 => farI (.branch 1 (.leaf a) (.leaf b)) [(1, .add (.var 0) (.num 1), .num 30), (1, .add (.var 1) (.num 1), .num 100), (1, .num 200, .add (.add (.var 0) (.num 1)) (.var 1))] rfl h0.2 h1.2 n0⟩
theorem om33 {a : Int} {b : Int} (h0 : (0 : Int) ≤ b ∧ b < (30 : Int)) (h1 : b < a ∧ a < (200 : Int)) : (0 : Int) ≤ a ∧ a < (200 : Int) := ⟨Int.not_lt.mp fun n0 => farI (.branch 1 (.leaf b) (.leaf a)) [(1, .num 0, .var 0), (1, .add (.var 0) (.num 1), .var 1), (1, .add (.var 1) (.num 1), .num 0)] rfl h0.1 h1.1 n0, Int.not_le.mp fun n0 => farI (.leaf a) [(1, .add (.var 0) (.num 1), .num 200), (1, .num 200, .var 0)] rfl h1.2 n0⟩
theorem om34 {a : Int} {b : Int} (h0 : a < b) (h1 : a = b) : False := farI (.branch 1 (.leaf a) (.leaf b)) [(1, .add (.var 0) (.num 1), .var 1), (1, .var 1, .var 0)] rfl h0 (Int.le_of_eq h1.symm)
theorem om35 {a : Int} {b : Int} (h0 : a < b) (h1 : b = a) : False := farI (.branch 1 (.leaf a) (.leaf b)) [(1, .add (.var 0) (.num 1), .var 1), (1, .var 1, .var 0)] rfl h0 (Int.le_of_eq h1)
theorem om36 {a : Int} {b : Int} (h0 : a < b) : a < b ∧ ¬(a = b) := ⟨Int.not_le.mp fun n0 => farI (.branch 1 (.leaf a) (.leaf b)) [(1, .add (.var 0) (.num 1), .var 1), (1, .var 1, .var 0)] rfl h0 n0, (fun n0 => farI (.branch 1 (.leaf a) (.leaf b)) [(1, .add (.var 0) (.num 1), .var 1), (1, .var 1, .var 0)] rfl h0 (Int.le_of_eq n0.symm))⟩
theorem om37 {a : Int} {b : Int} (h0 : a < b) : a ≤ b ∧ ¬(b = a) := ⟨Int.not_lt.mp fun n0 => farI (.branch 1 (.leaf a) (.leaf b)) [(1, .add (.var 0) (.num 1), .var 1), (1, .add (.var 1) (.num 1), .var 0)] rfl h0 n0, (fun n0 => farI (.branch 1 (.leaf a) (.leaf b)) [(1, .add (.var 0) (.num 1), .var 1), (1, .var 1, .var 0)] rfl h0 (Int.le_of_eq n0))⟩
theorem om38 {a : Int} {b : Int} (h0 : b < a) : ¬(a < b) := by exact Int.lt_asymm h0
theorem om39 {a : Int} {b : Int} {c : Int} {d : Int} : a + b + (c + d) = a + c + (b + d) := Int.le_antisymm (Int.not_lt.mp fun n0 => farI (.branch 2 (.branch 1 (.leaf a) (.leaf c)) (.branch 3 (.leaf b) (.leaf d))) [(1, .add (.add (.add (.var 0) (.var 1)) (.add (.var 2) (.var 3))) (.num 1), .add (.add (.var 0) (.var 2)) (.add (.var 1) (.var 3)))] rfl n0) (Int.not_lt.mp fun n0 => farI (.branch 2 (.branch 1 (.leaf a) (.leaf b)) (.branch 3 (.leaf c) (.leaf d))) [(1, .add (.add (.add (.var 0) (.var 1)) (.add (.var 2) (.var 3))) (.num 1), .add (.add (.var 0) (.var 2)) (.add (.var 1) (.var 3)))] rfl n0)
theorem om40 {a : Int} {b : Int} {c : Prop} (h0 : a < b) (h1 : a = b ∧ c ∧ True) : False := farI (.branch 1 (.leaf a) (.leaf b)) [(1, .add (.var 0) (.num 1), .var 1), (1, .var 1, .var 0)] rfl h0 (Int.le_of_eq h1.1.symm)
theorem om41 {a : Int} (h0 : (0 : Int) ≤ a ∧ a < (b : Int)) : a = (Int.toNat a : Int) := (Int.toNat_of_nonneg h0.1).symm
theorem om42 {a : Int} : Int.toNat (max (-(1 : Int)) (min a ((b : Int) - (1 : Int))) - (-(1 : Int))) ≤ b + 1 := Int.toNat_le.mpr (Int.add_le_add_right (Int.max_le.mpr ⟨Int.le_trans (by decide : (-1:Int) ≤ 0) (Int.natCast_nonneg b), Int.le_trans (Int.min_le_right _ _) (Int.sub_le_self _ (by decide))⟩) 1)
theorem om43 {a : Int} : a + (b : Int) * a = (b : Int) * a + a := by exact Int.add_comm a (↑b * a)
theorem om44 (h0 : (a % 4 : Int) = (0 : Int)) : a % 4 = 0 := by exact Int.ofNat.inj h0
theorem om45 (h0 : (a % 4 : Int) = (1 : Int)) : a % 4 = 1 := by exact Int.ofNat.inj h0
theorem om46 (h0 : (a % 4 : Int) = (2 : Int)) : a % 4 = 2 := by exact Int.ofNat.inj h0
theorem om47 (h0 : (0 : Int) ≤ (a : Int) ∧ (a : Int) < (130 : Int)) : a < 130 := nt fun n0 => farI (.leaf ((a : Nat) : Int)) [(1, .add (.var 0) (.num 1), .num 130), (1, .num 130, .var 0)] rfl h0.2 (Int.ofNat_le.mpr n0)
theorem om48 (h0 : 0 < a ∧ a < 127 ∨ a = 223 ∨ a = 7838) : a < 16 ^ 8 := nt fun n0 => h0.elim (fun s1 => far1 a [(1, N ((16 ^ 8)), v0), (1, S v0, N 127)] rfl n0 s1.2) (fun s1 => s1.elim (fun s2 => far1 a [(1, N ((16 ^ 8)), v0), (1, v0, N 223)] rfl n0 (el s2)) (fun s2 => far1 a [(1, N ((16 ^ 8)), v0), (1, v0, N 7838)] rfl n0 (el s2)))
theorem om49 (h0 : 0 < a ∧ a < 127 ∨ a = 223 ∨ a = 7838) : a ≠ 0 := (fun n0 => h0.elim (fun s1 => far1 a [(1, v0, N 0), (1, S (N 0), v0)] rfl (el n0) s1.1) (fun s1 => s1.elim (fun s2 => far1 a [(1, v0, N 0), (1, N 223, v0)] rfl (el n0) (eg s2)) (fun s2 => far1 a [(1, v0, N 0), (1, N 7838, v0)] rfl (el n0) (eg s2))))
theorem om50 (h0 : (a : Int) < (200 : Int)) : a < 200 := by exact Int.ofNat_lt.mp h0
theorem om51 (h0 : (a : Int) = (0 : Int)) : a = 0 := by exact Int.ofNat.inj h0
theorem om52 (h0 : (a : Int) = (5 : Int)) : a = 5 := by exact Int.ofNat.inj h0
theorem om53 (h0 : (a : Int) ≤ (200 : Int)) : a ≤ 200 := nl fun n0 => farI (.leaf ((a : Nat) : Int)) [(1, .var 0, .num 200), (1, .add (.num 200) (.num 1), .var 0)] rfl h0 (Int.ofNat_le.mpr n0)
theorem om54 (h0 : 0 < a ∧ a < 127) : a ≠ 0 := (fun n0 => far1 a [(1, S (N 0), v0), (1, v0, N 0)] rfl h0.1 (el n0))
theorem om55 (h0 : 48 ≤ a ∧ a ≤ 57) (h1 : a = 46 ∨ a = 63 ∨ 65 ≤ a ∧ a ≠ 95) : False := h1.elim (fun s0 => far1 a [(1, N 48, v0), (1, v0, N 46)] rfl h0.1 (el s0)) (fun s0 => s0.elim (fun s1 => far1 a [(1, v0, N 57), (1, N 63, v0)] rfl h0.2 (eg s1)) (fun s1 => far1 a [(1, v0, N 57), (1, N 65, v0)] rfl h0.2 s1.1))
theorem om56 (h0 : 48 ≤ a ∧ a ≤ 57) : 0 < a ∧ a < 127 := ⟨nt fun n0 => far1 a [(1, N 48, v0), (1, v0, N 0)] rfl h0.1 n0, nt fun n0 => far1 a [(1, v0, N 57), (1, N 127, v0)] rfl h0.2 n0⟩
theorem om57 (h0 : 48 ≤ a ∧ a ≤ 57) : a < 58 := nt fun n0 => far1 a [(1, v0, N 57), (1, N 58, v0)] rfl h0.2 n0
theorem om58 (h0 : 48 ≤ a ∧ a ≤ 57) : a ≠ 931 := (fun n0 => far1 a [(1, v0, N 57), (1, N 931, v0)] rfl h0.2 (eg n0))
theorem om59 (h0 : 65 ≤ a ∧ a ≤ 90) : ¬(a - 55 < 10) := (fun n0 => far2 a (a - 55) [(1, N 65, v0), (1, S v1, N 10), (1, v0, A v1 (N 55))] rfl h0.1 n0 (sub_lo a 55))
theorem om60 (h0 : 97 ≤ a ∧ a ≤ 122) : ¬(a - 87 < 10) := (fun n0 => far2 a (a - 87) [(1, N 97, v0), (1, S v1, N 10), (1, v0, A v1 (N 87))] rfl h0.1 n0 (sub_lo a 87))
theorem om61 (h0 : a + 1 ≤ 2) : a < 2 := h0
theorem om62 (h0 : a + 1 ≤ 2) : a ≤ 2 := Nat.le_of_lt h0
theorem om63 (h0 : a + 1 ≤ 3) : a < 3 := h0
theorem om64 (h0 : a + 1 ≤ 3) : a ≤ 3 := Nat.le_of_lt h0
theorem om65 (h0 : a = 46 ∨ a = 63 ∨ 65 ≤ a ∧ a ≠ 95) : (¬(a = 32)) ∧ (9 ≤ a → 13 < a) := ⟨(fun n0 => h0.elim (fun s1 => far1 a [(1, v0, N 32), (1, N 46, v0)] rfl (el n0) (eg s1)) (fun s1 => s1.elim (fun s2 => far1 a [(1, v0, N 32), (1, N 63, v0)] rfl (el n0) (eg s2)) (fun s2 => far1 a [(1, v0, N 32), (1, N 65, v0)] rfl (el n0) s2.1))), (fun n0 => nt fun n1 => h0.elim (fun s2 => far1 a [(1, v0, N 13), (1, N 46, v0)] rfl n1 (eg s2)) (fun s2 => s2.elim (fun s3 => far1 a [(1, v0, N 13), (1, N 63, v0)] rfl n1 (eg s3)) (fun s3 => far1 a [(1, v0, N 13), (1, N 65, v0)] rfl n1 s3.1)))⟩
theorem om66 (h0 : a = 46 ∨ a = 63 ∨ 65 ≤ a ∧ a ≠ 95) : ¬(a = 95) := (fun n0 => h0.elim (fun s1 => far1 a [(1, N 95, v0), (1, v0, N 46)] rfl (eg n0) (el s1)) (fun s1 => s1.elim (fun s2 => far1 a [(1, N 95, v0), (1, v0, N 63)] rfl (eg n0) (el s2)) (fun s2 => (Nat.lt_or_gt_of_ne s2.2).elim (fun s3 => far1 a [(1, N 95, v0), (1, S v0, N 95)] rfl (eg n0) s3) (fun s3 => far1 a [(1, v0, N 95), (1, S (N 95), v0)] rfl (el n0) s3))))
theorem om67 (h0 : 0 < a) : (0 : Int) < (a : Int) := by exact Int.ofNat_lt.mpr h0
theorem om68 (h0 : 0 = a + (3 - 1 - 1) * 1) : False := far3 a ((3 - 1) - 1) (3 - 1) [(1, A v0 (R v1 1), N 0), (1, v2, S v1), (1, N 3, S v2)] rfl (eg h0) (sub_lo (3 - 1) 1) (sub_lo 3 1)
theorem om69 (h0 : 1 ≤ a) (h1 : ¬(1 = a)) : 2 + (a - 2) ≤ a := nl fun n0 => (Nat.lt_or_gt_of_ne h1).elim (fun s1 => (sub_or a 2).elim (fun s2 => far2 a (a - 2) [(1, S v0, A (N 2) v1), (1, A v1 (N 2), v0)] rfl n0 s2.2) (fun s2 => far2 a (a - 2) [(1, S v0, A (N 2) v1), (1, S (N 1), v0), (1, v1, N 0)] rfl n0 s1 s2.2)) (fun s1 => far1 a [(1, N 1, v0), (1, S v0, N 1)] rfl h0 s1)
theorem om70 (h0 : 1 ≤ a) (h1 : ¬(1 = a)) : 1 < 1 + (a - 1) := nt fun n0 => (Nat.lt_or_gt_of_ne h1).elim (fun s1 => far2 (a - 1) a [(1, A (N 1) v0, N 1), (1, S (N 1), v1), (1, v1, S v0)] rfl n0 s1 (sub_lo a 1)) (fun s1 => far1 a [(1, N 1, v0), (1, S v0, N 1)] rfl h0 s1)
theorem om71 (h0 : 1 ≤ a) (h1 : ¬(1 = a)) : 1 < a := Nat.lt_of_le_of_ne h0 h1
theorem om72 (h0 : 1 ≤ a) (h1 : ¬(a > 1)) : a = 1 := Nat.le_antisymm (nl fun n0 => far1 a [(1, v0, N 1), (1, S (N 1), v0)] rfl (nl h1) n0) (nl fun n0 => far1 a [(1, N 1, v0), (1, S v0, N 1)] rfl h0 n0)
theorem om73 (h0 : 1 ≤ a) : 1 + (a - 1) ≤ a := nl fun n0 => (sub_or a 1).elim (fun s1 => far2 a (a - 1) [(1, S v0, A (N 1) v1), (1, S v1, v0)] rfl n0 s1.2) (fun s1 => far2 a (a - 1) [(1, N 1, v0), (1, S v0, A (N 1) v1), (1, v1, N 0)] rfl h0 n0 s1.2)
theorem om74 (h0 : 1 ≤ a) : a - 1 < a := Nat.sub_one_lt_of_lt h0
theorem om75 (h0 : 1 ≤ a) : max a 1 = a := Nat.max_eq_left h0
theorem om76 (h0 : 1 ≤ a) : 0 < a := h0
theorem om77 (h0 : 1 ≤ a) : a ≠ a - 1 := (fun n0 => (sub_or a 1).elim (fun s1 => far2 a (a - 1) [(1, v0, v1), (1, S v1, v0)] rfl (el n0) s1.2) (fun s1 => far2 a (a - 1) [(1, N 1, v0), (1, v0, v1), (1, v1, N 0)] rfl h0 (el n0) s1.2))
theorem om78 (h0 : 1 ≤ a) : ¬(a < 1) := Nat.not_lt_of_le h0
theorem om79 (h0 : 2 ≤ a) : 1 ≤ a := Nat.le_of_lt h0
theorem om80 (h0 : 2 ≤ a) : ¬(a < 2) := Nat.not_lt_of_le h0
theorem om81 (h0 : 4 < a) : 4 + (a - 4) = a := Nat.le_antisymm (nl fun n0 => (sub_or a 4).elim (fun s1 => far2 a (a - 4) [(1, S v0, A (N 4) v1), (1, A v1 (N 4), v0)] rfl n0 s1.2) (fun s1 => far1 a [(1, S (N 4), v0), (1, v0, N 4)] rfl h0 s1.1)) (nl fun n0 => far2 (a - 4) a [(1, A (A (N 4) v0) (N 1), v1), (1, v1, A v0 (N 4))] rfl n0 (sub_lo a 4))
theorem om82 (h0 : a < 2 ^ 20) : (a : Int) < (2 : Int) ^ 20 := Int.not_le.mp fun n0 => farI (.leaf ((a : Nat) : Int)) [(1, .add (.var 0) (.num 1), .num 1048576), (1, .num (((2 : Int) ^ 20)), .var 0)] rfl (Int.ofNat_le.mpr h0) n0
theorem om83 (h0 : a < 2 ^ 62) : ¬((a : Int) ≥ (2 : Int) ^ 63) := (fun n0 => farI (.leaf ((a : Nat) : Int)) [(1, .add (.var 0) (.num 1), .num 4611686018427387904), (1, .num (((2 : Int) ^ 63)), .var 0)] rfl (Int.ofNat_le.mpr h0) n0)
theorem om84 (h0 : a < 2 ^ 64) : a < 4 * 2 ^ 64 := nt fun n0 => far1 a [(1, S v0, N ((2 ^ 64))), (1, M 4 (N ((2 ^ 64))), v0)] rfl h0 n0
theorem om85 (h0 : a < 4 * 0) : False := absurd h0 (Nat.not_lt_zero _)
theorem om86 (h0 : a < a + 0) : False := absurd h0 (Nat.lt_irrefl _)
theorem om87 (h0 : a < 0) : False := absurd h0 (Nat.not_lt_zero _)
theorem om88 (h0 : a < 130) : a ≤ 200 := Nat.le_trans (Nat.le_of_lt h0) (bl rfl)
theorem om89 (h0 : a < 2) : min (8 * a) (8 * (a + 1) + 1) + (0 + 1) + min (8 * a + 8 - 8 * a) (8 * (a + 1) + 1 - 8 * a) + (0 + 1) + (8 * (a + 1) + 1 - (8 * a + 8)) ≤ 100 := nl fun n0 => far5 a (min (8 * a) ((8 * (a + 1)) + 1)) (min (((8 * a) + 8) - (8 * a)) (((8 * (a + 1)) + 1) - (8 * a))) (((8 * (a + 1)) + 1) - ((8 * a) + 8)) (((8 * a) + 8) - (8 * a)) [(24, S v0, N 2), (1, S (N 100), A (A (A (A v1 (S (N 0))) v2) (S (N 0))) v3), (1, v1, M 8 v0), (1, v2, v4), (1, v3, A (M 8 (S v0)) (N 1)), (1, v4, A (M 8 v0) (N 8))] rfl h0 n0 (Nat.min_le_left (8 * a) ((8 * (a + 1)) + 1)) (Nat.min_le_left (((8 * a) + 8) - (8 * a)) (((8 * (a + 1)) + 1) - (8 * a))) (Nat.sub_le ((8 * (a + 1)) + 1) ((8 * a) + 8)) (Nat.sub_le ((8 * a) + 8) (8 * a))
theorem om90 (h0 : a < 2) : (4 : Int) + (a : Int) < (2 : Int) ^ 63 := Int.not_le.mp fun n0 => farI (.leaf ((a : Nat) : Int)) [(1, .add (.var 0) (.num 1), .num 2), (1, .num (((2 : Int) ^ 63)), .add (.num 4) (.var 0))] rfl (Int.ofNat_le.mpr h0) n0
theorem om91 (h0 : a < 2) : 8 * (a + 1) + 1 ≤ 16777216 := nl fun n0 => far1 a [(8, S v0, N 2), (1, S (N 16777216), A (M 8 (S v0)) (N 1))] rfl h0 n0
theorem om92 (h0 : a < 2) : 8 * a + 8 ≤ 16777216 := nl fun n0 => far1 a [(8, S v0, N 2), (1, S (N 16777216), A (M 8 v0) (N 8))] rfl h0 n0
theorem om93 (h0 : a < 2) : 8 * a ≤ 100 := nl fun n0 => far1 a [(8, S v0, N 2), (1, S (N 100), M 8 v0)] rfl h0 n0
theorem om94 (h0 : a < 2) : Int.natAbs (a : Int) < 2 ^ 64 := by exact Nat.lt_of_lt_of_le h0 (by decide)
theorem om95 (h0 : a < 2) : a + 1 ≤ 2 := h0
theorem om96 (h0 : a < 3) : (a : Int) < (2 : Int) ^ 63 := Int.not_le.mp fun n0 => farI (.leaf ((a : Nat) : Int)) [(1, .add (.var 0) (.num 1), .num 3), (1, .num (((2 : Int) ^ 63)), .var 0)] rfl (Int.ofNat_le.mpr h0) n0
theorem om97 (h0 : a < 3) : (a : Int) ≤ (1000000 : Int) := Int.not_lt.mp fun n0 => farI (.leaf ((a : Nat) : Int)) [(1, .add (.var 0) (.num 1), .num 3), (1, .add (.num 1000000) (.num 1), .var 0)] rfl (Int.ofNat_le.mpr h0) n0
theorem om98 (h0 : a < 3) : Int.natAbs (a : Int) < 2 ^ 64 := by exact Nat.lt_of_lt_of_le h0 (by decide)
theorem om99 (h0 : a < 3) : a = 0 ∨ a = 1 ∨ a = 2 := ((Decidable.em _).elim .inl (fun n0 => .inr (((Decidable.em _).elim .inl (fun n1 => .inr (Nat.le_antisymm (nl fun n2 => far1 a [(1, S v0, N 3), (1, S (N 2), v0)] rfl h0 n2) (nl fun n2 => (Nat.lt_or_gt_of_ne n0).elim (fun s3 => far1 a [(1, S v0, N 0)] rfl s3) (fun s3 => (Nat.lt_or_gt_of_ne n1).elim (fun s4 => far1 a [(1, S (N 0), v0), (1, S v0, N 1)] rfl s3 s4) (fun s4 => far1 a [(1, S v0, N 2), (1, S (N 1), v0)] rfl n2 s4)))))))))
theorem om100 (h0 : a < 3) : a ≤ 16777216 := Nat.le_trans (Nat.le_of_lt h0) (bl rfl)
theorem om101 (h0 : a < 4) : (a : Int) < (2 : Int) ^ 63 := Int.not_le.mp fun n0 => farI (.leaf ((a : Nat) : Int)) [(1, .add (.var 0) (.num 1), .num 4), (1, .num (((2 : Int) ^ 63)), .var 0)] rfl (Int.ofNat_le.mpr h0) n0
theorem om102 (h0 : a < 4) : a / 2 ^ 2 = 0 := Nat.div_eq_of_lt h0
theorem om103 (h0 : a < 4) : a / 2 < 2 := Nat.div_lt_of_lt_mul h0
theorem om104 (h0 : a < 4) : a = 0 ∨ a = 1 ∨ a = 2 ∨ a = 3 := ((Decidable.em _).elim .inl (fun n0 => .inr (((Decidable.em _).elim .inl (fun n1 => .inr (((Decidable.em _).elim .inl (fun n2 => .inr (Nat.le_antisymm (nl fun n3 => far1 a [(1, S v0, N 4), (1, S (N 3), v0)] rfl h0 n3) (nl fun n3 => (Nat.lt_or_gt_of_ne n0).elim (fun s4 => far1 a [(1, S v0, N 0)] rfl s4) (fun s4 => (Nat.lt_or_gt_of_ne n1).elim (fun s5 => far1 a [(1, S (N 0), v0), (1, S v0, N 1)] rfl s4 s5) (fun s5 => (Nat.lt_or_gt_of_ne n2).elim (fun s6 => far1 a [(1, S (N 1), v0), (1, S v0, N 2)] rfl s5 s6) (fun s6 => far1 a [(1, S v0, N 3), (1, S (N 2), v0)] rfl n3 s6)))))))))))))
theorem om105 (h0 : a < 64) : (a : Int) < (2 : Int) ^ 63 := Int.not_le.mp fun n0 => farI (.leaf ((a : Nat) : Int)) [(1, .add (.var 0) (.num 1), .num 64), (1, .num (((2 : Int) ^ 63)), .var 0)] rfl (Int.ofNat_le.mpr h0) n0
theorem om106 (h0 : a < 64) : a = 16 * (a / 4 ^ 2 % 4) + 4 * (a / 4 ^ 1 % 4) + a / 4 ^ 0 % 4 := (by decide : ∀ a < 64, a = 16 * ((a / 4 ^ 2) % 4) + 4 * ((a / 4 ^ 1) % 4) + (a / 4 ^ 0) % 4) a h0
theorem om108 (h0 : a < 64) : a ≤ 16777216 := Nat.le_trans (Nat.le_of_lt h0) (bl rfl)
theorem om109 (h0 : a < 8) : (a / 2 : Int) < (2 : Int) ^ 63 := Int.not_le.mp fun n0 => farI (.branch 1 (.leaf ((a : Nat) : Int)) (.leaf (((a / 2) : Nat) : Int))) [(1, .add (.var 0) (.num 1), .num 8), (2, .num (((2 : Int) ^ 63)), .var 1), (1, .mulL 2 (.var 1), .var 0)] rfl (Int.ofNat_le.mpr h0) n0 (Int.ofNat_le.mpr (Nat.mul_div_le a 2))
theorem om110 (h0 : a < 8) : (a : Int) < (2 : Int) ^ 63 := Int.not_le.mp fun n0 => farI (.leaf ((a : Nat) : Int)) [(1, .add (.var 0) (.num 1), .num 8), (1, .num (((2 : Int) ^ 63)), .var 0)] rfl (Int.ofNat_le.mpr h0) n0
theorem om111 (h0 : a < 8) : a / 2 < 4 := Nat.div_lt_of_lt_mul h0
theorem om112 (h0 : a < 8) : a = 0 ∨ a = 1 ∨ a = 2 ∨ a = 3 ∨ a = 4 ∨ a = 5 ∨ a = 6 ∨ a = 7 := (by decide : ∀ a < 8, a = 0 ∨ a = 1 ∨ a = 2 ∨ a = 3 ∨ a = 4 ∨ a = 5 ∨ a = 6 ∨ a = 7) a h0
theorem om113 (h0 : a < 8) : a ≤ 16777216 := Nat.le_trans (Nat.le_of_lt h0) (bl rfl)
theorem om115 (h0 : a = 1) : a ≤ 2 := nl fun n0 => far1 a [(1, v0, N 1), (1, S (N 2), v0)] rfl (el h0) n0
theorem om116 (h0 : a = 3) : a ≤ 3 := Nat.le_of_eq h0
theorem om117 (h0 : a = 63) : a ≠ 0 := by (rw [h0]; decide)
theorem om118 (h0 : a = 9) : a - 6 ≤ 16777216 := by (rw [h0]; decide)
theorem om119 (h0 : a > 1) : a - 1 < a := Nat.sub_one_lt_of_lt h0
theorem om120 (h0 : a > 1) : 0 < a - 1 := Nat.zero_lt_sub_of_lt h0
theorem om121 (h0 : a ≠ 0) : (a : Int) ≠ (0 : Int) := (fun n0 => (Nat.lt_or_gt_of_ne h0).elim (fun s1 => farI (.leaf ((a : Nat) : Int)) [(1, .num 0, .var 0), (1, .add (.var 0) (.num 1), .num 0)] rfl (Int.le_of_eq n0.symm) (Int.ofNat_le.mpr s1)) (fun s1 => farI (.leaf ((a : Nat) : Int)) [(1, .var 0, .num 0), (1, .add (.num 0) (.num 1), .var 0)] rfl (Int.le_of_eq n0) (Int.ofNat_le.mpr s1)))
theorem om122 (h0 : a ≤ 1000 * 10 + 10) : a ≤ 100000 := nl fun n0 => far1 a [(1, v0, A (M 1000 (N 10)) (N 10)), (1, S (N 100000), v0)] rfl h0 n0
theorem om123 (h0 : a ≤ 40 * 2 + 2) : a ≤ 300 := nl fun n0 => far1 a [(1, v0, A (M 40 (N 2)) (N 2)), (1, S (N 300), v0)] rfl h0 n0
theorem om124 (h0 : a ≤ 40 * 3 + 3) : a ≤ 100000 := nl fun n0 => far1 a [(1, v0, A (M 40 (N 3)) (N 3)), (1, S (N 100000), v0)] rfl h0 n0
theorem om125 (h0 : a ≤ 4 * 3) : a ≤ 16777216 := Nat.le_trans h0 (bl rfl)
theorem om126 (h0 : a ≤ 10) : a - 1 ≤ 10 := nl fun n0 => far2 a (a - 1) [(1, v0, N 10), (1, S (N 10), v1), (1, v1, v0)] rfl h0 n0 (Nat.sub_le a 1)
theorem om127 (h0 : a ≤ 10) : a ≤ 100 := Nat.le_trans h0 (bl rfl)
theorem om128 (h0 : a ≤ 10) : a ≤ 1000 := Nat.le_trans h0 (bl rfl)
theorem om129 (h0 : a ≤ 10) : a ≤ 100000 := Nat.le_trans h0 (bl rfl)
theorem om130 (h0 : a ≤ 10) : a ≤ 16777216 := Nat.le_trans h0 (bl rfl)
theorem om131 (h0 : a ≤ 10) : a ≤ 20 := Nat.le_trans h0 (bl rfl)
theorem om132 (h0 : a ≤ 10) : a ≤ 300 := Nat.le_trans h0 (bl rfl)
theorem om133 (h0 : a ≤ 100) : a ≤ 200 := Nat.le_trans h0 (bl rfl)
theorem om134 (h0 : a ≤ 1000) : a ≤ 100000 := Nat.le_trans h0 (bl rfl)
theorem om135 (h0 : a ≤ 1000) : a ≤ 16777216 := Nat.le_trans h0 (bl rfl)
theorem om136 (h0 : a ≤ 100000) : a + 2 ≤ 16777216 := nl fun n0 => far1 a [(1, v0, N 100000), (1, S (N 16777216), A v0 (N 2))] rfl h0 n0
theorem om137 (h0 : a ≤ 100000) : a < 2 ^ 62 := Nat.lt_of_le_of_lt h0 (bl rfl)
theorem om138 (h0 : a ≤ 100000) : a ≤ 1000000 := Nat.le_trans h0 (bl rfl)
theorem om139 (h0 : a ≤ 1000000) : a ≤ 16777216 := Nat.le_trans h0 (bl rfl)
theorem om140 (h0 : a ≤ 12) : a ≤ 16777216 := Nat.le_trans h0 (bl rfl)
theorem om141 (h0 : a ≤ 16777216) : (a : Int) < (9223372036854775808 : Int) ∧ (a = 0 ∨ (a : Int) < (9223372036854775808 : Int)) := ⟨Int.not_le.mp fun n0 => farI (.leaf ((a : Nat) : Int)) [(1, .var 0, .num 16777216), (1, .num 9223372036854775808, .var 0)] rfl (Int.ofNat_le.mpr h0) n0, (.inr (Int.not_le.mp fun n0 => farI (.leaf ((a : Nat) : Int)) [(1, .var 0, .num 16777216), (1, .num 9223372036854775808, .var 0)] rfl (Int.ofNat_le.mpr h0) n0))⟩
theorem om142 (h0 : a ≤ 16777216) : (a : Int) < (2 : Int) ^ 63 := Int.not_le.mp fun n0 => farI (.leaf ((a : Nat) : Int)) [(1, .var 0, .num 16777216), (1, .num (((2 : Int) ^ 63)), .var 0)] rfl (Int.ofNat_le.mpr h0) n0
theorem om143 (h0 : a ≤ 20) : a ≤ 40 := Nat.le_trans h0 (bl rfl)
theorem om144 (h0 : a ≤ 200) : Int.natAbs (a : Int) < 2 ^ 64 := by exact Nat.lt_of_le_of_lt h0 (by decide)
theorem om145 (h0 : a ≤ 3) : 1 * a ≤ 2 ^ 24 := nl fun n0 => far1 a [(1, v0, N 3), (1, A (N ((2 ^ 24))) (N 1), M 1 v0)] rfl h0 n0
theorem om146 (h0 : a ≤ 3) : a < 2 ^ 20 := Nat.lt_of_le_of_lt h0 (bl rfl)
theorem om147 (h0 : a ≤ 3) : a ≤ 100 := Nat.le_trans h0 (bl rfl)
theorem om148 (h0 : a ≤ 3) : a ≤ 1000 := Nat.le_trans h0 (bl rfl)
theorem om149 (h0 : a ≤ 3) : a ≤ 13 := Nat.le_trans h0 (bl rfl)
theorem om150 (h0 : a ≤ 3) : a ≤ 16777216 := Nat.le_trans h0 (bl rfl)
theorem om151 (h0 : a ≤ 300) : a ≤ 1000 := Nat.le_trans h0 (bl rfl)
theorem om152 (h0 : a ≤ 300) : a ≤ 640 := Nat.le_trans h0 (bl rfl)
theorem om153 (h0 : a ≤ 32) : a + a ≤ 16777216 := nl fun n0 => far1 a [(2, v0, N 32), (1, S (N 16777216), A v0 v0)] rfl h0 n0
theorem om154 (h0 : a ≤ 32) : a ≤ 16777216 := Nat.le_trans h0 (bl rfl)
theorem om155 (h0 : a ≤ 4) : a + a ≤ 16777216 := nl fun n0 => far1 a [(2, v0, N 4), (1, S (N 16777216), A v0 v0)] rfl h0 n0
theorem om156 (h0 : a ≤ 4) : a ≤ 16777216 := Nat.le_trans h0 (bl rfl)
theorem om157 (h0 : a ≤ 40) : a ≤ 1000 := Nat.le_trans h0 (bl rfl)
theorem om158 (h0 : a ≤ 6) : (a : Int) ≤ (1000000 : Int) := by exact Int.ofNat_le.mpr (Nat.le_trans h0 (by decide))
theorem om159 (h0 : a ≤ 63) : a ≤ 16777216 := Nat.le_trans h0 (bl rfl)
theorem om160 (h0 : a ≤ 64) : Int.natAbs (a : Int) < 2 ^ 64 := by exact Nat.lt_of_le_of_lt h0 (by decide)
theorem om161 (h0 : a ≤ 64) : a ≤ 16777216 := Nat.le_trans h0 (bl rfl)
theorem om162 (h0 : a ≤ 7) : a ≤ 100 := Nat.le_trans h0 (bl rfl)
theorem om163 (h0 : a ≤ 8) : Int.natAbs (a : Int) < 2 ^ 64 := by exact Nat.lt_of_le_of_lt h0 (by decide)
theorem om164 (h0 : ¬((63 : Int) < (a : Int))) : a ≤ 63 := nl fun n0 => farI (.leaf ((a : Nat) : Int)) [(1, .var 0, .num 63), (1, .add (.num 63) (.num 1), .var 0)] rfl (Int.not_lt.mp h0) (Int.ofNat_le.mpr n0)
theorem om165 (h0 : ¬(a < 256)) : (((¬(a = 43)) ∧ ¬(a = 45)) ∧ ¬(a = 46)) ∧ ¬(a = 95) := ⟨⟨⟨(fun n0 => far1 a [(1, N 256, v0), (1, v0, N 43)] rfl (nl h0) (el n0)), (fun n0 => far1 a [(1, N 256, v0), (1, v0, N 45)] rfl (nl h0) (el n0))⟩, (fun n0 => far1 a [(1, N 256, v0), (1, v0, N 46)] rfl (nl h0) (el n0))⟩, (fun n0 => far1 a [(1, N 256, v0), (1, v0, N 95)] rfl (nl h0) (el n0))⟩
theorem om166 : (8 * a : Int) + (8 : Int) = (8 * a + 8 : Int) := by exact rfl
theorem om167 : (8 * a : Int) + (9 : Int) = (8 * a + 9 : Int) := by exact rfl
theorem om168 : (a % 9 : Int) < (2 : Int) ^ 63 := Int.not_le.mp fun n0 => farI (.leaf (((a % 9) : Nat) : Int)) [(1, .num (((2 : Int) ^ 63)), .var 0), (1, .add (.var 0) (.num 1), .num 9)] rfl n0 (Int.ofNat_le.mpr (Nat.mod_lt a (Nat.succ_pos _)))
theorem om169 : (a : Int) * (8 : Int) = (8 * a : Int) := Int.le_antisymm (Int.not_lt.mp fun n0 => farI (.leaf ((a : Nat) : Int)) [(1, .add (.mulL 8 (.var 0)) (.num 1), .mulR (.var 0) 8)] rfl n0) (Int.not_lt.mp fun n0 => farI (.leaf ((a : Nat) : Int)) [(1, .add (.mulR (.var 0) 8) (.num 1), .mulL 8 (.var 0))] rfl n0)
theorem om170 : (a : Int) + (1 : Int) = (a + 1 : Int) := by exact rfl
theorem om171 : (0 : Int) + (a : Int) * (1 : Int) = (a : Int) := Int.le_antisymm (Int.not_lt.mp fun n0 => farI (.leaf ((a : Nat) : Int)) [(1, .add (.var 0) (.num 1), .add (.num 0) (.mulR (.var 0) 1))] rfl n0) (Int.not_lt.mp fun n0 => farI (.leaf ((a : Nat) : Int)) [(1, .add (.add (.num 0) (.mulR (.var 0) 1)) (.num 1), .var 0)] rfl n0)
theorem om173 : (2 : Int) * (a : Int) = (2 * a : Int) := by exact rfl
theorem om174 : 8 * a + 8 = 8 * (a + 1) := rfl
theorem om175 : 8 * a + 8 ≤ 8 * (a + 1) + 1 := Nat.le_add_right _ _
theorem om176 : (8 : Int) * (a : Int) = (8 * a : Int) := by exact rfl
theorem om177 : min (8 * a + 8) (8 * (a + 1) + 1) + (8 * (a + 1) + 1 - (8 * a + 8) + 1) = 8 * (a + 1) + 2 := Nat.le_antisymm (nl fun n0 => (min_or ((8 * a) + 8) ((8 * (a + 1)) + 1)).elim (fun s1 => (min_or ((8 * a) + 8) ((8 * (a + 1)) + 1)).elim (fun s2 => (sub_or ((8 * (a + 1)) + 1) ((8 * a) + 8)).elim (fun s3 => far3 a (min ((8 * a) + 8) ((8 * (a + 1)) + 1)) (((8 * (a + 1)) + 1) - ((8 * a) + 8)) [(1, A (A (M 8 (S v0)) (N 2)) (N 1), A v1 (S v2)), (1, A v2 (A (M 8 v0) (N 8)), A (M 8 (S v0)) (N 1)), (1, v1, A (M 8 v0) (N 8))] rfl n0 s3.2 (Nat.min_le_left ((8 * a) + 8) ((8 * (a + 1)) + 1))) (fun s3 => far1 a [(1, A (M 8 (S v0)) (N 1), A (M 8 v0) (N 8))] rfl s3.1)) (fun s2 => far1 a [(1, A (M 8 (S v0)) (N 1), A (M 8 v0) (N 8))] rfl s2.1)) (fun s1 => far1 a [(1, A (M 8 (S v0)) (N 1), A (M 8 v0) (N 8))] rfl s1.1)) (nl fun n0 => (min_or ((8 * a) + 8) ((8 * (a + 1)) + 1)).elim (fun s1 => far3 (min ((8 * a) + 8) ((8 * (a + 1)) + 1)) (((8 * (a + 1)) + 1) - ((8 * a) + 8)) a [(1, A (A v0 (S v1)) (N 1), A (M 8 (S v2)) (N 2)), (1, A (M 8 v2) (N 8), v0), (1, A (M 8 (S v2)) (N 1), A v1 (A (M 8 v2) (N 8)))] rfl n0 s1.2 (sub_lo ((8 * (a + 1)) + 1) ((8 * a) + 8))) (fun s1 => far1 a [(1, A (M 8 (S v0)) (N 1), A (M 8 v0) (N 8))] rfl s1.1))
theorem om178 : min 200 a - 0 ≤ 200 := nl fun n0 => far2 ((min 200 a) - 0) (min 200 a) [(1, S (N 200), v0), (1, v0, v1), (1, v1, N 200)] rfl n0 (Nat.sub_le (min 200 a) 0) (Nat.min_le_left 200 a)
theorem om180 : (0 : Int) ≤ (a % 9 : Int) := by exact Int.natCast_nonneg _
theorem om181 : (0 : Int) ≤ (a / 2 : Int) := by exact Int.natCast_nonneg _
theorem om182 : (0 : Int) ≤ (4 : Int) + (a : Int) := by exact Int.natCast_nonneg _
theorem om183 : (0 : Int) ≤ (a : Int) := by exact Int.natCast_nonneg _
theorem om184 : 2 + 2 * a = 2 * (a + 1) := Nat.add_comm _ _
theorem om185 : 8 * a ≤ 8 * a + 8 := Nat.le_add_right _ _
theorem om186 : 8 * a ≤ 8 * a + 9 := Nat.le_add_right _ _
theorem om187 : Int.toNat (a % 9 : Int) < 9 := by exact Nat.mod_lt _ (by decide)
theorem om188 : Int.toNat ((a : Int) - (0 : Int)) = a := by exact rfl
theorem om189 : Int.toNat ((4 : Int) + (a : Int)) = 4 + a := by exact rfl
theorem om190 : a % 2 < 2 := Nat.mod_lt _ (bl rfl)
theorem om191 : a + 1 = a + 1 - 0 := rfl
theorem om192 : a + 1 ≠ a + 2 := Nat.ne_add_one (a + 1)
theorem om193 : a + 1 ≠ a := Ne.symm (Nat.ne_add_one a)
theorem om194 : a + 2 ≠ a + 1 := Ne.symm (Nat.ne_add_one (a + 1))
theorem om195 : a + 2 ≠ a := (fun n0 => far1 a [(1, A v0 (N 2), v0)] rfl (el n0))
theorem om196 : a + a = a * 2 := Eq.symm (Nat.mul_two a)
theorem om197 : a - 0 < 2 * a + 3 := nt fun n0 => far2 a (a - 0) [(1, A (M 2 v0) (N 3), v1), (1, v1, v0)] rfl n0 (Nat.sub_le a 0)
theorem om198 : a - 0 ≤ a := Nat.sub_le _ _
theorem om199 : a ≠ a + 1 ∧ a ≠ a + 2 := ⟨(fun n0 => far1 a [(1, S v0, v0)] rfl (eg n0)), (fun n0 => far1 a [(1, A v0 (N 2), v0)] rfl (eg n0))⟩
theorem om200 : min (8 * a + 8) (8 * (a + 1) + 1) = 8 * a + 8 := Nat.min_add_right_self
theorem om201 : min 2 a ≤ 10 := nl fun n0 => far1 (min 2 a) [(1, S (N 10), v0), (1, v0, N 2)] rfl n0 (Nat.min_le_left 2 a)
theorem om202 : min 2 a ≤ 3 := nl fun n0 => far1 (min 2 a) [(1, S (N 3), v0), (1, v0, N 2)] rfl n0 (Nat.min_le_left 2 a)
theorem om203 : min 3 a ≤ 16777216 := nl fun n0 => far1 (min 3 a) [(1, S (N 16777216), v0), (1, v0, N 3)] rfl n0 (Nat.min_le_left 3 a)
theorem om204 : 0 ≤ a + 1 := Nat.zero_le _
theorem om205 : 1 ≤ a + 1 := Nat.le_add_left _ _
theorem om206 : 10 ≤ 7 * (a + 1) + 11 := Nat.le_add_left _ _
theorem om207 : 11 ≤ 7 * (a + 1) + 11 := Nat.le_add_left _ _
theorem om208 : a ≤ 2 * a + 3 := nl fun n0 => far1 a [(1, A (A (M 2 v0) (N 3)) (N 1), v0)] rfl n0
theorem om209 : a ≤ a + 1 := Nat.le_add_right _ _
theorem om210 : a ≤ a + 2 := Nat.le_add_right _ _
theorem om211 : ¬((a : Int) < (0 : Int)) := by exact Int.not_ofNat_neg a
theorem om212 {b : Int} (h0 : (0 : Int) ≤ b ∧ b < (130 : Int)) (h1 : b = (a : Int)) : a < 130 := nt fun n0 => farI (.branch 1 (.leaf b) (.leaf ((a : Nat) : Int))) [(1, .add (.var 0) (.num 1), .num 130), (1, .var 1, .var 0), (1, .num 130, .var 1)] rfl h0.2 (Int.le_of_eq h1.symm) (Int.ofNat_le.mpr n0)
theorem om213 {b : Int} : Int.toNat ((a : Int) - max (0 : Int) (min b (a : Int))) ≤ a + 1 := Int.toNat_le.mpr (Int.le_trans (Int.sub_le_self _ (Int.le_max_left _ _)) (Int.ofNat_le.mpr (Nat.le_succ a)))
theorem om216 (h0 : (a : Int) / (2 : Int) = (b : Int) / (2 : Int)) (h1 : a / 2 ≠ b / 2) : False := h1 (Int.ofNat.inj h0)
theorem om217 (h0 : (a : Int) / (2 : Int) = (b : Int) / (2 : Int)) (h1 : ¬(a / 2 = b / 2)) : False := h1 (Int.ofNat.inj h0)
theorem om218 (h0 : 8 * a + 8 ≤ b) (h1 : b < 8 * a + 8) : False := far2 a b [(1, A (M 8 v0) (N 8), v1), (1, S v1, A (M 8 v0) (N 8))] rfl h0 h1
theorem om219 (h0 : (a + b) / 2 < b) : (a + b) / 2 + 1 ≤ b := h0
theorem om220 (h0 : (a : Int) < (b : Int)) : a < b := by exact Int.ofNat_lt.mp h0
theorem om221 (h0 : (a : Int) = (b : Int)) (h1 : ¬(a = b)) : False := (Nat.lt_or_gt_of_ne h1).elim (fun s0 => farI (.branch 1 (.leaf ((b : Nat) : Int)) (.leaf ((a : Nat) : Int))) [(1, .var 0, .var 1), (1, .add (.var 1) (.num 1), .var 0)] rfl (Int.le_of_eq h0.symm) (Int.ofNat_le.mpr s0)) (fun s0 => farI (.branch 1 (.leaf ((a : Nat) : Int)) (.leaf ((b : Nat) : Int))) [(1, .var 0, .var 1), (1, .add (.var 1) (.num 1), .var 0)] rfl (Int.le_of_eq h0) (Int.ofNat_le.mpr s0))
theorem om222 (h0 : (-(a : Int)) = (-(b : Int))) (h1 : ¬(a = b)) : False := (Nat.lt_or_gt_of_ne h1).elim (fun s0 => farI (.branch 1 (.leaf ((a : Nat) : Int)) (.leaf ((b : Nat) : Int))) [(1, .neg (.var 0), .neg (.var 1)), (1, .add (.var 0) (.num 1), .var 1)] rfl (Int.le_of_eq h0) (Int.ofNat_le.mpr s0)) (fun s0 => farI (.branch 1 (.leaf ((b : Nat) : Int)) (.leaf ((a : Nat) : Int))) [(1, .neg (.var 0), .neg (.var 1)), (1, .add (.var 0) (.num 1), .var 1)] rfl (Int.le_of_eq h0.symm) (Int.ofNat_le.mpr s0))
theorem om223 (h0 : 8 * a ≤ b) (h1 : b < 8 * a) : False := far2 a b [(1, M 8 v0, v1), (1, S v1, M 8 v0)] rfl h0 h1
theorem om224 (h0 : 8 * a ≤ b) : 8 * a + (b - 8 * a) = b := Nat.add_sub_cancel' h0
theorem om225 (h0 : a % 2 = b % 2) (h1 : a / 2 = b / 2) (h2 : a ≠ b) : False := (Nat.lt_or_gt_of_ne h2).elim (fun s0 => far6 (b % 2) (a % 2) (b / 2) (a / 2) a b [(1, v0, v1), (2, v2, v3), (1, S v4, v5), (1, A (M 2 v3) v1, v4), (1, v5, A (M 2 v2) v0)] rfl (eg h0) (eg h1) s0 (mod_lo a 2) (mod_hi b 2)) (fun s0 => far6 (a % 2) (b % 2) (a / 2) (b / 2) b a [(1, v0, v1), (2, v2, v3), (1, S v4, v5), (1, v5, A (M 2 v2) v0), (1, A (M 2 v3) v1, v4)] rfl (el h0) (el h1) s0 (mod_hi a 2) (mod_lo b 2))
theorem om226 (h0 : a * b ≤ 2 ^ 24) : ¬(a * b > (2 ^ 63 - 1) / 8) := (fun n0 => far3 (a * b) (((2 ^ 63) - 1) / 8) ((2 ^ 63) - 1) [(8, v0, N ((2 ^ 24))), (8, S v1, v0), (1, S v2, A (M 8 v1) (N 8)), (1, N ((2 ^ 63)), S v2)] rfl h0 n0 (div_hi ((2 ^ 63) - 1) 8 (Nat.succ_pos _)) (sub_lo (2 ^ 63) 1))
theorem om227 (h0 : a + 0 = b) : ¬(a < b) := (fun n0 => far2 b a [(1, v0, A v1 (N 0)), (1, S v1, v0)] rfl (eg h0) n0)
theorem om228 (h0 : a + 1 < b + 1) : a < b := Nat.lt_of_succ_lt_succ h0
theorem om229 (h0 : a + 1 ≤ b + 1) : a ≤ b := Nat.le_of_lt_succ h0
theorem om230 (h0 : a + 1 ≤ b) : a < b := h0
theorem om231 (h0 : a + 1 ≤ b) : a ≤ b := Nat.le_of_lt h0
theorem om232 (h0 : a + 2 ≤ b) : a ≤ b := Nat.le_of_add_right_le h0
theorem om233 (h0 : a + b ≤ 10) : a ≤ 10 := Nat.le_of_add_right_le h0
theorem om234 (h0 : a - b < 4294967295) : min 4294967295 (Int.toNat ((a : Int) - (b : Int))) = a - b := (Int.toNat_sub a b).symm ▸ Nat.min_eq_right (Nat.le_of_lt h0)
theorem om235 (h0 : a - b = 0) (h1 : b ≤ a) : a = b := Nat.le_antisymm (nl fun n0 => far3 (a - b) b a [(1, v0, N 0), (1, S v1, v2), (1, v2, A v0 v1)] rfl (el h0) n0 (sub_lo a b)) (nl fun n0 => far2 b a [(1, v0, v1), (1, S v1, v0)] rfl h1 n0)
theorem om236 (h0 : a / 2 = b / 2) : (a % 2 : Int) < (b % 2 : Int) ↔ a < b := ⟨fun n0 => nt fun n1 => farI (.branch 3 (.branch 1 (.leaf (((a / 2) : Nat) : Int)) (.branch 2 (.leaf (((b / 2) : Nat) : Int)) (.leaf (((a % 2) : Nat) : Int)))) (.branch 4 (.leaf (((b % 2) : Nat) : Int)) (.branch 5 (.leaf ((b : Nat) : Int)) (.leaf ((a : Nat) : Int))))) [(2, .var 0, .var 1), (1, .add (.var 2) (.num 1), .var 3), (1, .var 4, .var 5), (1, .var 5, .add (.mulL 2 (.var 0)) (.var 2)), (1, .add (.mulL 2 (.var 1)) (.var 3), .var 4)] rfl (Int.ofNat_le.mpr (el h0)) n0 (Int.ofNat_le.mpr n1) (Int.ofNat_le.mpr (mod_hi a 2)) (Int.ofNat_le.mpr (mod_lo b 2)), fun n0 => Int.not_le.mp fun n1 => farI (.branch 3 (.branch 1 (.leaf (((a / 2) : Nat) : Int)) (.branch 2 (.leaf (((a % 2) : Nat) : Int)) (.leaf ((a : Nat) : Int)))) (.branch 4 (.leaf ((b : Nat) : Int)) (.branch 5 (.leaf (((b % 2) : Nat) : Int)) (.leaf (((b / 2) : Nat) : Int))))) [(1, .add (.mulL 2 (.var 0)) (.var 1), .var 2), (1, .add (.var 2) (.num 1), .var 3), (1, .var 4, .var 1), (2, .var 5, .var 0), (1, .var 3, .add (.mulL 2 (.var 5)) (.var 4))] rfl (Int.ofNat_le.mpr (mod_lo a 2)) (Int.ofNat_le.mpr n0) n1 (Int.ofNat_le.mpr (eg h0)) (Int.ofNat_le.mpr (mod_hi b 2))⟩
theorem om237 (h0 : a / 2 = b / 2) : a % 2 < b % 2 ↔ a < b := ⟨fun n0 => nt fun n1 => far6 (a / 2) (b / 2) (a % 2) (b % 2) b a [(2, v0, v1), (1, S v2, v3), (1, v4, v5), (1, v5, A (M 2 v0) v2), (1, A (M 2 v1) v3, v4)] rfl (el h0) n0 n1 (mod_hi a 2) (mod_lo b 2), fun n0 => nt fun n1 => far6 (b / 2) (a / 2) a b (b % 2) (a % 2) [(2, v0, v1), (1, S v2, v3), (1, v4, v5), (1, v3, A (M 2 v0) v4), (1, A (M 2 v1) v5, v2)] rfl (eg h0) n0 n1 (mod_hi b 2) (mod_lo a 2)⟩
theorem om238 (h0 : a ≤ 100 ∧ b ≤ 100) : a + b ≤ 16777216 := nl fun n0 => far2 a b [(1, v0, N 100), (1, v1, N 100), (1, S (N 16777216), A v0 v1)] rfl h0.1 h0.2 n0
theorem om239 (h0 : b - a = 0) (h1 : a ≤ b) : a = b := Nat.le_antisymm (nl fun n0 => far2 a b [(1, v0, v1), (1, S v1, v0)] rfl h1 n0) (nl fun n0 => far3 (b - a) a b [(1, v0, N 0), (1, S v1, v2), (1, v2, A v0 v1)] rfl (el h0) n0 (sub_lo b a))
theorem om240 (h0 : 1 ≤ b) (h1 : a ≤ 1 + (b - 1)) : a - 1 < b := nt fun n0 => (sub_or b 1).elim (fun s1 => (sub_or b 1).elim (fun s2 => (sub_or a 1).elim (fun s3 => far4 (a - 1) a (b - 1) b [(1, S v0, v1), (1, v1, A (N 1) v2), (1, v3, v0), (1, S v2, v3)] rfl s3.2 h1 n0 s1.2) (fun s3 => far2 b (a - 1) [(1, N 1, v0), (1, v1, N 0), (1, v0, v1)] rfl h0 s3.2 n0)) (fun s2 => (sub_or a 1).elim (fun s3 => far4 (a - 1) a (b - 1) b [(1, S v0, v1), (1, v1, A (N 1) v2), (1, v3, v0), (1, S v2, v3)] rfl s3.2 h1 n0 s1.2) (fun s3 => far2 b (a - 1) [(1, N 1, v0), (1, v1, N 0), (1, v0, v1)] rfl h0 s3.2 n0))) (fun s1 => (sub_or b 1).elim (fun s2 => (sub_or a 1).elim (fun s3 => far4 (a - 1) a (b - 1) b [(1, S v0, v1), (1, v1, A (N 1) v2), (1, v3, v0), (1, S v2, v3)] rfl s3.2 h1 n0 s2.2) (fun s3 => far2 b (a - 1) [(1, N 1, v0), (1, v1, N 0), (1, v0, v1)] rfl h0 s3.2 n0)) (fun s2 => (sub_or a 1).elim (fun s3 => far4 b a (b - 1) (a - 1) [(1, N 1, v0), (1, v1, A (N 1) v2), (1, v0, v3), (1, v2, N 0), (1, S v3, v1)] rfl h0 h1 n0 s1.2 s3.2) (fun s3 => far2 b (a - 1) [(1, N 1, v0), (1, v1, N 0), (1, v0, v1)] rfl h0 s3.2 n0)))
theorem om241 (h0 : 1 ≤ b) (h1 : a ≤ 1 + (b - 1)) : a ≤ b := nl fun n0 => (sub_or b 1).elim (fun s1 => far3 a (b - 1) b [(1, v0, A (N 1) v1), (1, S v2, v0), (1, S v1, v2)] rfl h1 n0 s1.2) (fun s1 => far3 b a (b - 1) [(1, N 1, v0), (1, v1, A (N 1) v2), (1, S v0, v1), (1, v2, N 0)] rfl h0 h1 n0 s1.2)
theorem om242 (h0 : 1 ≤ b) (h1 : a ≤ 2 + (b - 2)) (h2 : ¬(1 = b)) : a ≤ b := nl fun n0 => (Nat.lt_or_gt_of_ne h2).elim (fun s1 => (sub_or b 2).elim (fun s2 => far3 a (b - 2) b [(1, v0, A (N 2) v1), (1, S v2, v0), (1, A v1 (N 2), v2)] rfl h1 n0 s2.2) (fun s2 => far3 a (b - 2) b [(1, v0, A (N 2) v1), (1, S v2, v0), (1, S (N 1), v2), (1, v1, N 0)] rfl h1 n0 s1 s2.2)) (fun s1 => far1 b [(1, N 1, v0), (1, S v0, N 1)] rfl h0 s1)
theorem om243 (h0 : 2 ≤ b) (h1 : a = b) : 2 ≤ a := by (subst h1; exact h0)
theorem om244 (h0 : 4 < a) (h1 : a < 4 * (b + 1)) : a - 4 < 4 * b := nt fun n0 => (sub_or a 4).elim (fun s1 => far3 a b (a - 4) [(1, S v0, M 4 (S v1)), (1, M 4 v1, v2), (1, A v2 (N 4), v0)] rfl h1 n0 s1.2) (fun s1 => far1 a [(1, S (N 4), v0), (1, v0, N 4)] rfl h0 s1.1)
theorem om245 (h0 : a < 8 * b + 8) : a - 8 * b < 8 := nt fun n0 => (sub_or a (8 * b)).elim (fun s1 => far3 a b (a - (8 * b)) [(1, S v0, A (M 8 v1) (N 8)), (1, N 8, v2), (1, A v2 (M 8 v1), v0)] rfl h0 n0 s1.2) (fun s1 => far1 (a - (8 * b)) [(1, N 8, v0), (1, v0, N 0)] rfl n0 s1.2)
theorem om246 (h0 : a < 8 * b + 9) (h1 : a ≥ 8 * b + 8) : a = 8 * b + 8 := Nat.eq_of_le_of_lt_succ h1 h0
theorem om247 (h0 : a < b + 1) (h1 : ¬(a = b)) : a < b := Nat.lt_of_le_of_ne (Nat.le_of_lt_succ h0) h1
theorem om248 (h0 : a < 1) (h1 : b < a) : False := far2 a b [(1, S v0, N 1), (1, S v1, v0)] rfl h0 h1
theorem om249 (h0 : a < 2) (h1 : b < 2) : (a = 0 ∨ a = 1) ∧ (b = 0 ∨ b = 1) := ⟨((Decidable.em _).elim .inl (fun n0 => .inr (Nat.le_antisymm (nl fun n1 => far1 a [(1, S v0, N 2), (1, S (N 1), v0)] rfl h0 n1) (nl fun n1 => (Nat.lt_or_gt_of_ne n0).elim (fun s2 => far1 a [(1, S v0, N 0)] rfl s2) (fun s2 => far1 a [(1, S v0, N 1), (1, S (N 0), v0)] rfl n1 s2))))), ((Decidable.em _).elim .inl (fun n0 => .inr (Nat.le_antisymm (nl fun n1 => far1 b [(1, S v0, N 2), (1, S (N 1), v0)] rfl h1 n1) (nl fun n1 => (Nat.lt_or_gt_of_ne n0).elim (fun s2 => far1 b [(1, S v0, N 0)] rfl s2) (fun s2 => far1 b [(1, S v0, N 1), (1, S (N 0), v0)] rfl n1 s2)))))⟩
theorem om250 (h0 : a < 2) (h1 : b = 8 * (a + 1) + 1) : min (8 * a) b + (0 + 1) + min (8 * a + 8 - 8 * a) (b - 8 * a) + (0 + 1) + (b - (8 * a + 8)) ≤ 16777216 := nl fun n0 => far6 a b (min (8 * a) b) (min (((8 * a) + 8) - (8 * a)) (b - (8 * a))) (b - ((8 * a) + 8)) (((8 * a) + 8) - (8 * a)) [(24, S v0, N 2), (1, v1, A (M 8 (S v0)) (N 1)), (1, S (N 16777216), A (A (A (A v2 (S (N 0))) v3) (S (N 0))) v4), (1, v2, M 8 v0), (1, v3, v5), (1, v4, v1), (1, v5, A (M 8 v0) (N 8))] rfl h0 (el h1) n0 (Nat.min_le_left (8 * a) b) (Nat.min_le_left (((8 * a) + 8) - (8 * a)) (b - (8 * a))) (Nat.sub_le b ((8 * a) + 8)) (Nat.sub_le ((8 * a) + 8) (8 * a))
theorem om251 (h0 : a < 2) (h1 : b = 9) : 4 + a < b := nt fun n0 => far2 a b [(1, S v0, N 2), (1, N 9, v1), (1, v1, A (N 4) v0)] rfl h0 (eg h1) n0
theorem om252 (h0 : a < 2) : min (8 * a) b + (0 + 1) + min (8 * a + 8 - 8 * a) (b - 8 * a) + (0 + 1) ≤ 16777216 := nl fun n0 => far4 a (min (8 * a) b) (min (((8 * a) + 8) - (8 * a)) (b - (8 * a))) (((8 * a) + 8) - (8 * a)) [(16, S v0, N 2), (1, S (N 16777216), A (A (A v1 (S (N 0))) v2) (S (N 0))), (1, v1, M 8 v0), (1, v2, v3), (1, v3, A (M 8 v0) (N 8))] rfl h0 n0 (Nat.min_le_left (8 * a) b) (Nat.min_le_left (((8 * a) + 8) - (8 * a)) (b - (8 * a))) (Nat.sub_le ((8 * a) + 8) (8 * a))
theorem om253 (h0 : a < 2) : min (8 * a) b + (0 + 1) + min (8 * a + 8 - 8 * a) (b - 8 * a) ≤ 16777216 := nl fun n0 => far4 a (min (8 * a) b) (min (((8 * a) + 8) - (8 * a)) (b - (8 * a))) (((8 * a) + 8) - (8 * a)) [(16, S v0, N 2), (1, S (N 16777216), A (A v1 (S (N 0))) v2), (1, v1, M 8 v0), (1, v2, v3), (1, v3, A (M 8 v0) (N 8))] rfl h0 n0 (Nat.min_le_left (8 * a) b) (Nat.min_le_left (((8 * a) + 8) - (8 * a)) (b - (8 * a))) (Nat.sub_le ((8 * a) + 8) (8 * a))
theorem om254 (h0 : a < 2) : min (8 * a) b + 1 ≤ 16777216 := nl fun n0 => far2 a (min (8 * a) b) [(8, S v0, N 2), (1, S (N 16777216), S v1), (1, v1, M 8 v0)] rfl h0 n0 (Nat.min_le_left (8 * a) b)
theorem om255 (h0 : a < 3) (h1 : b = 3) : Int.toNat (a : Int) < b := by exact Nat.lt_of_lt_of_eq h0 (id (Eq.symm h1))
theorem om256 (h0 : a < 3) (h1 : b = 9) : 6 + a < b := nt fun n0 => far2 a b [(1, S v0, N 3), (1, N 9, v1), (1, v1, A (N 6) v0)] rfl h0 (eg h1) n0
theorem om257 (h0 : a < 4294967295) : a - b < 4294967295 := Nat.sub_lt_of_lt h0
theorem om258 (h0 : a < 8) : a < 8 * b + 8 - 8 * b := nt fun n0 => far3 a (((8 * b) + 8) - (8 * b)) b [(1, S v0, N 8), (1, v1, v0), (1, A (M 8 v2) (N 8), A v1 (M 8 v2))] rfl h0 n0 (sub_lo ((8 * b) + 8) (8 * b))
theorem om259 (h0 : a < b) (h1 : b = 3) : a < 3 := h1 ▸ h0
theorem om260 (h0 : a < b) (h1 : b ≤ 16777216) : (a : Int) < (2 : Int) ^ 63 := Int.not_le.mp fun n0 => farI (.branch 1 (.leaf ((a : Nat) : Int)) (.leaf ((b : Nat) : Int))) [(1, .add (.var 0) (.num 1), .var 1), (1, .var 1, .num 16777216), (1, .num (((2 : Int) ^ 63)), .var 0)] rfl (Int.ofNat_le.mpr h0) (Int.ofNat_le.mpr h1) n0
theorem om261 (h0 : a < b) (h1 : b ≤ 63) : (a : Int) < (2 : Int) ^ 63 := Int.not_le.mp fun n0 => farI (.branch 1 (.leaf ((a : Nat) : Int)) (.leaf ((b : Nat) : Int))) [(1, .add (.var 0) (.num 1), .var 1), (1, .var 1, .num 63), (1, .num (((2 : Int) ^ 63)), .var 0)] rfl (Int.ofNat_le.mpr h0) (Int.ofNat_le.mpr h1) n0
theorem om262 (h0 : a < b) (h1 : b ≤ a) : False := far2 a b [(1, S v0, v1), (1, v1, v0)] rfl h0 h1
theorem om263 (h0 : a < b) (h1 : ¬(a = b - 1)) : a < b - 1 := nt fun n0 => (Nat.lt_or_gt_of_ne h1).elim (fun s1 => far2 (b - 1) a [(1, v0, v1), (1, S v1, v0)] rfl n0 s1) (fun s1 => far3 a b (b - 1) [(1, S v0, v1), (1, S v2, v0), (1, v1, S v2)] rfl h0 s1 (sub_lo b 1))
theorem om264 (h0 : a < b) : (a + b) / 2 - a < b - a := nt fun n0 => (sub_or b a).elim (fun s1 => (sub_or b a).elim (fun s2 => (sub_or ((a + b) / 2) a).elim (fun s3 => far5 a b (b - a) (((a + b) / 2) - a) ((a + b) / 2) [(1, S v0, v1), (2, v2, v3), (2, A v3 v0, v4), (2, v1, A v2 v0), (1, M 2 v4, A v0 v1)] rfl h0 n0 s3.2 (sub_lo b a) (Nat.mul_div_le (a + b) 2)) (fun s3 => far4 b (b - a) a (((a + b) / 2) - a) [(1, v0, A v1 v2), (1, v1, v3), (1, S v2, v0), (1, v3, N 0)] rfl (sub_lo b a) n0 h0 s3.2)) (fun s2 => far2 a b [(1, S v0, v1), (1, v1, v0)] rfl h0 s2.1)) (fun s1 => far2 a b [(1, S v0, v1), (1, v1, v0)] rfl h0 s1.1)
theorem om265 (h0 : a < b) : (a : Int) < (b : Int) := by exact Int.ofNat_lt.mpr h0
theorem om266 (h0 : a < b) : a + (b - a) = b := Nat.le_antisymm (nl fun n0 => (sub_or b a).elim (fun s1 => far3 b a (b - a) [(1, S v0, A v1 v2), (1, A v2 v1, v0)] rfl n0 s1.2) (fun s1 => far2 a b [(1, S v0, v1), (1, v1, v0)] rfl h0 s1.1)) (nl fun n0 => far3 a (b - a) b [(1, S (A v0 v1), v2), (1, v2, A v1 v0)] rfl n0 (sub_lo b a))
theorem om267 (h0 : a < b) : a + 1 ≤ b := h0
theorem om268 (h0 : a < b) : a - 1 < b := Nat.sub_lt_of_lt h0
theorem om269 (h0 : a < b) : a ≤ b ∧ ¬(b - a = 0) := ⟨nl fun n0 => far2 a b [(1, S v0, v1), (1, S v1, v0)] rfl h0 n0, (fun n0 => far3 a b (b - a) [(1, S v0, v1), (1, v2, N 0), (1, v1, A v2 v0)] rfl h0 (el n0) (sub_lo b a))⟩
theorem om270 (h0 : a < b) : a ≤ b := Nat.le_of_lt h0
theorem om271 (h0 : a < b) : ¬(a = b) := Nat.ne_of_lt h0
theorem om272 (h0 : a < b) : ¬(a ≥ b) := Nat.not_le.mpr h0
theorem om273 (h0 : a = 8 * (b + 1) + 1) (h1 : b < 2) : a ≤ 1000000 := nl fun n0 => far2 a b [(1, v0, A (M 8 (S v1)) (N 1)), (8, S v1, N 2), (1, S (N 1000000), v0)] rfl (el h0) h1 n0
theorem om274 (h0 : a = 8 * (b + 1) + 2) (h1 : b < 2) : a ≤ 1000000 := nl fun n0 => far2 a b [(1, v0, A (M 8 (S v1)) (N 2)), (8, S v1, N 2), (1, S (N 1000000), v0)] rfl (el h0) h1 n0
theorem om275 (h0 : a = 1 + b) (h1 : b ≤ 10) : a ≤ 20 := nl fun n0 => far2 a b [(1, v0, A (N 1) v1), (1, v1, N 10), (1, S (N 20), v0)] rfl (el h0) h1 n0
theorem om276 (h0 : a = 1 + b) (h1 : b ≤ 10) : a ≤ 300 := nl fun n0 => far2 a b [(1, v0, A (N 1) v1), (1, v1, N 10), (1, S (N 300), v0)] rfl (el h0) h1 n0
theorem om277 (h0 : a = b) (h1 : b < 64) : a < 64 := by (subst h0; exact h1)
theorem om278 (h0 : a = b) : a ≤ b + 1 := Nat.le.intro (congrFun (congrArg HAdd.hAdd h0) 1)
theorem om279 (h0 : a = b) : a ≤ b + 2 := Nat.le.intro (congrFun (congrArg HAdd.hAdd h0) 2)
theorem om280 (h0 : a = b) : a ≤ b := Nat.le_of_eq h0
theorem om281 (h0 : a = b) : ¬(a < b) := (fun n0 => far2 b a [(1, v0, v1), (1, S v1, v0)] rfl (eg h0) n0)
theorem om282 (h0 : a ≤ 2 * (2 * b + 3) + 1) (h1 : b ≤ 1000000) : a ≤ 16777216 := nl fun n0 => far2 a b [(1, v0, A (M 2 (A (M 2 v1) (N 3))) (N 1)), (4, v1, N 1000000), (1, S (N 16777216), v0)] rfl h0 h1 n0
theorem om283 (h0 : a ≤ 2 * (2 * b + 3) + 1) : a ≤ 4 * b + 7 := nl fun n0 => far2 a b [(1, v0, A (M 2 (A (M 2 v1) (N 3))) (N 1)), (1, A (A (M 4 v1) (N 7)) (N 1), v0)] rfl h0 n0
theorem om284 (h0 : a ≤ 2 * b + 1) : a + 1 + 1 ≤ 2 * (b + 1) + 1 := nl fun n0 => far2 a b [(1, v0, S (M 2 v1)), (1, A (A (M 2 (S v1)) (N 1)) (N 1), S (S v0))] rfl h0 n0
theorem om285 (h0 : a ≤ 7 * b + 11) : a + 1 + 6 ≤ 7 * (b + 1) + 11 := nl fun n0 => far2 a b [(1, v0, A (M 7 v1) (N 11)), (1, A (A (M 7 (S v1)) (N 11)) (N 1), A (S v0) (N 6))] rfl h0 n0
theorem om286 (h0 : a ≤ 1000 * b) (h1 : b ≤ 10) : a + b * 1 ≤ 16777216 := nl fun n0 => far2 a b [(1, v0, M 1000 v1), (1001, v1, N 10), (1, S (N 16777216), A v0 (R v1 1))] rfl h0 h1 n0
theorem om287 (h0 : a ≤ 1000 * b) (h1 : b ≤ 3) : a + b * 1 ≤ 16777216 := nl fun n0 => far2 a b [(1, v0, M 1000 v1), (1001, v1, N 3), (1, S (N 16777216), A v0 (R v1 1))] rfl h0 h1 n0
theorem om288 (h0 : a ≤ 2 * b) (h1 : b = 3) : a ≤ 6 := by (subst h1; exact h0)
theorem om289 (h0 : a ≤ 200 * b) (h1 : b ≤ 13) : a + b * 1 ≤ 16777216 := nl fun n0 => far2 a b [(1, v0, M 200 v1), (201, v1, N 13), (1, S (N 16777216), A v0 (R v1 1))] rfl h0 h1 n0
theorem om290 (h0 : a ≤ 100) (h1 : b < 8) : a + b + 1 ≤ 16777216 := nl fun n0 => far2 a b [(1, v0, N 100), (1, S v1, N 8), (1, S (N 16777216), S (A v0 v1))] rfl h0 h1 n0
theorem om291 (h0 : a ≤ 100) (h1 : b ≤ 200) : a + b ≤ 16777216 := nl fun n0 => far2 a b [(1, v0, N 100), (1, v1, N 200), (1, S (N 16777216), A v0 v1)] rfl h0 h1 n0
theorem om292 (h0 : a ≤ 2) (h1 : b ≤ 2) : a + b ≤ 16777216 := nl fun n0 => far2 a b [(1, v0, N 2), (1, v1, N 2), (1, S (N 16777216), A v0 v1)] rfl h0 h1 n0
theorem om293 (h0 : a ≤ 2) (h1 : b ≤ 2) : a + b ≤ 4 := Nat.add_le_add h0 h1
theorem om294 (h0 : a ≤ 3) (h1 : b ≤ 3) : a + b ≤ 16777216 := nl fun n0 => far2 a b [(1, v0, N 3), (1, v1, N 3), (1, S (N 16777216), A v0 v1)] rfl h0 h1 n0
theorem om295 (h0 : a ≤ 4) (h1 : b ≤ 3) : a + b ≤ 16777216 := nl fun n0 => far2 a b [(1, v0, N 4), (1, v1, N 3), (1, S (N 16777216), A v0 v1)] rfl h0 h1 n0
theorem om296 (h0 : a ≤ 4) (h1 : b ≤ 3) : a + b ≤ 7 := Nat.add_le_add h0 h1
theorem om297 (h0 : a ≤ 7) (h1 : b ≤ 30) : ¬(a + b > 16777216) := (fun n0 => far2 a b [(1, v0, N 7), (1, v1, N 30), (1, S (N 16777216), A v0 v1)] rfl h0 h1 n0)
theorem om298 (h0 : a ≤ b) (h1 : b < 64) : a ≤ 16777216 := nl fun n0 => far2 a b [(1, v0, v1), (1, S v1, N 64), (1, S (N 16777216), v0)] rfl h0 h1 n0
theorem om299 (h0 : a ≤ b) (h1 : b ≤ 16777216) : (a : Int) < (9223372036854775808 : Int) := Int.not_le.mp fun n0 => farI (.branch 1 (.leaf ((a : Nat) : Int)) (.leaf ((b : Nat) : Int))) [(1, .var 0, .var 1), (1, .var 1, .num 16777216), (1, .num 9223372036854775808, .var 0)] rfl (Int.ofNat_le.mpr h0) (Int.ofNat_le.mpr h1) n0
theorem om300 (h0 : a ≤ b) (h1 : ¬(a < b)) : a = b := Nat.le_antisymm (nl fun n0 => far2 a b [(1, v0, v1), (1, S v1, v0)] rfl h0 n0) (nl fun n0 => far2 b a [(1, v0, v1), (1, S v1, v0)] rfl (nl h1) n0)
theorem om301 (h0 : a ≤ b) : a + (b - a) ≤ b := nl fun n0 => (sub_or b a).elim (fun s1 => far3 b a (b - a) [(1, S v0, A v1 v2), (1, A v2 v1, v0)] rfl n0 s1.2) (fun s1 => far3 a b (b - a) [(1, v0, v1), (1, S v1, A v0 v2), (1, v2, N 0)] rfl h0 n0 s1.2)
theorem om302 (h0 : a ≤ b) : a + 1 ≤ b + 1 := Nat.lt_succ_of_le h0
theorem om303 (h0 : a ≤ b) : a ≤ b + 1 := Nat.le_add_right_of_le h0
theorem om304 (h0 : a ≤ b) : ¬(a > b) := Nat.not_lt_of_le h0
theorem om305 (h0 : b < a) : a + 1 - (b + 1) < a + 1 - b := nt fun n0 => (sub_or (a + 1) b).elim (fun s1 => (sub_or (a + 1) b).elim (fun s2 => (sub_or (a + 1) (b + 1)).elim (fun s3 => far4 a ((a + 1) - b) b ((a + 1) - (b + 1)) [(1, S v0, A v1 v2), (1, v1, v3), (1, A v3 (S v2), S v0)] rfl (sub_lo (a + 1) b) n0 s3.2) (fun s3 => far2 b a [(1, S v0, v1), (1, S v1, S v0)] rfl h0 s3.1)) (fun s2 => far2 b a [(1, S v0, v1), (1, S v1, v0)] rfl h0 s2.1)) (fun s1 => far2 b a [(1, S v0, v1), (1, S v1, v0)] rfl h0 s1.1)
theorem om306 (h0 : b < a) : a - ((b + a) / 2 + 1) < a - b := nt fun n0 => (sub_or a b).elim (fun s1 => (sub_or a b).elim (fun s2 => (sub_or a (((b + a) / 2) + 1)).elim (fun s3 => far5 (a - b) (a - (((b + a) / 2) + 1)) ((b + a) / 2) a b [(2, v0, v1), (2, A v1 (S v2), v3), (1, v3, A v0 v4), (1, S (A v4 v3), A (M 2 v2) (N 2))] rfl n0 s3.2 (sub_lo a b) (div_hi (b + a) 2 (Nat.succ_pos _))) (fun s3 => far4 a (a - b) b (a - (((b + a) / 2) + 1)) [(1, v0, A v1 v2), (1, v1, v3), (1, S v2, v0), (1, v3, N 0)] rfl (sub_lo a b) n0 h0 s3.2)) (fun s2 => far2 b a [(1, S v0, v1), (1, v1, v0)] rfl h0 s2.1)) (fun s1 => far2 b a [(1, S v0, v1), (1, v1, v0)] rfl h0 s1.1)
theorem om307 (h0 : b < a) : a - b = a - b - 1 + 1 := Nat.le_antisymm (nl fun n0 => far2 ((a - b) - 1) (a - b) [(1, S (S v0), v1), (1, v1, S v0)] rfl n0 (sub_lo (a - b) 1)) (nl fun n0 => (sub_or a b).elim (fun s1 => (sub_or a b).elim (fun s2 => (sub_or (a - b) 1).elim (fun s3 => far2 (a - b) ((a - b) - 1) [(1, S v0, S v1), (1, S v1, v0)] rfl n0 s3.2) (fun s3 => far4 b a (a - b) ((a - b) - 1) [(1, S v0, v1), (1, v1, A v2 v0), (1, S v2, S v3), (1, v3, N 0)] rfl h0 (sub_lo a b) n0 s3.2)) (fun s2 => far2 b a [(1, S v0, v1), (1, v1, v0)] rfl h0 s2.1)) (fun s1 => far2 b a [(1, S v0, v1), (1, v1, v0)] rfl h0 s1.1))
theorem om308 (h0 : b < a) : a - b = a - (b + 1) + 1 := Nat.le_antisymm (nl fun n0 => (sub_or a (b + 1)).elim (fun s1 => (sub_or a (b + 1)).elim (fun s2 => (sub_or a b).elim (fun s3 => far4 a (a - (b + 1)) b (a - b) [(1, v0, A v1 (S v2)), (1, S (S v1), v3), (1, A v3 v2, v0)] rfl (sub_lo a (b + 1)) n0 s3.2) (fun s3 => far2 b a [(1, S v0, v1), (1, v1, v0)] rfl h0 s3.1)) (fun s2 => (sub_or a b).elim (fun s3 => far4 a (a - (b + 1)) b (a - b) [(1, v0, A v1 (S v2)), (1, S (S v1), v3), (1, A v3 v2, v0)] rfl (sub_lo a (b + 1)) n0 s3.2) (fun s3 => far2 b a [(1, S v0, v1), (1, v1, v0)] rfl h0 s3.1))) (fun s1 => (sub_or a (b + 1)).elim (fun s2 => (sub_or a b).elim (fun s3 => far4 a (a - (b + 1)) b (a - b) [(1, v0, A v1 (S v2)), (1, S (S v1), v3), (1, A v3 v2, v0)] rfl (sub_lo a (b + 1)) n0 s3.2) (fun s3 => far2 b a [(1, S v0, v1), (1, v1, v0)] rfl h0 s3.1)) (fun s2 => (sub_or a b).elim (fun s3 => far4 a (a - (b + 1)) b (a - b) [(1, v0, A v1 (S v2)), (1, S (S v1), v3), (1, A v3 v2, v0)] rfl (sub_lo a (b + 1)) n0 s3.2) (fun s3 => far2 b a [(1, S v0, v1), (1, v1, v0)] rfl h0 s3.1)))) (nl fun n0 => (sub_or a b).elim (fun s1 => (sub_or a b).elim (fun s2 => (sub_or a (b + 1)).elim (fun s3 => far4 a (a - b) b (a - (b + 1)) [(1, v0, A v1 v2), (1, S v1, S v3), (1, A v3 (S v2), v0)] rfl (sub_lo a b) n0 s3.2) (fun s3 => far4 b a (a - b) (a - (b + 1)) [(1, S v0, v1), (1, v1, A v2 v0), (1, S v2, S v3), (1, v3, N 0)] rfl h0 (sub_lo a b) n0 s3.2)) (fun s2 => far2 b a [(1, S v0, v1), (1, v1, v0)] rfl h0 s2.1)) (fun s1 => far2 b a [(1, S v0, v1), (1, v1, v0)] rfl h0 s1.1))
theorem om309 (h0 : b < a) : ¬((1 : Int) > (a : Int) - (b : Int)) := (fun n0 => farI (.branch 1 (.leaf ((b : Nat) : Int)) (.leaf ((a : Nat) : Int))) [(1, .add (.var 0) (.num 1), .var 1), (1, .add (.sub (.var 1) (.var 0)) (.num 1), .num 1)] rfl (Int.ofNat_le.mpr h0) n0)
theorem om310 (h0 : b = 8 * (a + 1) + 1) : 8 * a + 8 ≤ b := Nat.le.intro (id (Eq.symm h0))
theorem om311 (h0 : b = 8 * (a + 1) + 2) : 8 * a + 9 ≤ b := nl fun n0 => far2 a b [(1, A (M 8 (S v0)) (N 2), v1), (1, S v1, A (M 8 v0) (N 9))] rfl (eg h0) n0
theorem om312 (h0 : b = 8 * a + 8) : 8 * a ≤ b := Nat.le.intro (id (Eq.symm h0))
theorem om313 (h0 : b = 3) : min a b ≤ 16777216 := nl fun n0 => far2 b (min a b) [(1, v0, N 3), (1, S (N 16777216), v1), (1, v1, v0)] rfl (el h0) n0 (Nat.min_le_right a b)
theorem om314 (h0 : b = a) (h1 : b ≤ 1000000) : a < 4294967295 := nt fun n0 => far2 a b [(1, v0, v1), (1, v1, N 1000000), (1, N 4294967295, v0)] rfl (eg h0) h1 n0
theorem om315 (h0 : b = a) : a ≤ b := Nat.le_of_eq h0.symm
theorem om316 (h0 : b ≠ a) (h1 : b ≥ a) : a < b := Nat.lt_of_le_of_ne h1 (id (Ne.symm h0))
theorem om317 (h0 : b ≤ a) (h1 : ¬(b < a)) : a = b := Nat.le_antisymm (nl fun n0 => far2 a b [(1, v0, v1), (1, S v1, v0)] rfl (nl h1) n0) (nl fun n0 => far2 b a [(1, v0, v1), (1, S v1, v0)] rfl h0 n0)
theorem om318 (h0 : b ≤ a) : a - (a - b) = b := Nat.sub_sub_self h0
theorem om319 (h0 : b ≤ a) : a = b + (a - b) := Eq.symm (Nat.add_sub_of_le h0)
theorem om320 (h0 : b ≤ a) : ¬(a < b) := Nat.not_lt_of_le h0
theorem om321 (h0 : b ≥ a) (h1 : ¬(b = a)) : a + 1 ≤ b := nl fun n0 => (Nat.lt_or_gt_of_ne h1).elim (fun s1 => far2 a b [(1, v0, v1), (1, S v1, v0)] rfl h0 s1) (fun s1 => far2 b a [(1, S v0, S v1), (1, S v1, v0)] rfl n0 s1)
theorem om322 (h0 : ¬((1 : Int) > (a : Int) - (b : Int))) : min 4294967295 (Int.toNat ((a : Int) - (b : Int))) = min 4294967295 (Int.toNat ((a : Int) - (b : Int))) - 1 + 1 := (Nat.sub_add_cancel (Nat.le_min.mpr ⟨by decide, (Int.le_toNat (Int.le_trans (by decide) (Int.not_lt.mp h0))).mpr (Int.not_lt.mp h0)⟩)).symm
theorem om323 (h0 : ¬((1 : Int) > (b : Int) - (a : Int))) : a < b := nt fun n0 => farI (.branch 1 (.leaf ((b : Nat) : Int)) (.leaf ((a : Nat) : Int))) [(1, .num 1, .sub (.var 0) (.var 1)), (1, .var 0, .var 1)] rfl (Int.not_lt.mp h0) (Int.ofNat_le.mpr n0)
theorem om324 (h0 : ¬(a / 2 = b / 2)) : (a / 2 : Int) < (b / 2 : Int) ↔ a < b := ⟨fun n0 => nt fun n1 => farI (.branch 2 (.branch 1 (.leaf (((a / 2) : Nat) : Int)) (.leaf (((b / 2) : Nat) : Int))) (.branch 3 (.leaf ((b : Nat) : Int)) (.leaf ((a : Nat) : Int)))) [(2, .add (.var 0) (.num 1), .var 1), (1, .var 2, .var 3), (1, .add (.var 3) (.num 1), .add (.mulL 2 (.var 0)) (.num 2)), (1, .mulL 2 (.var 1), .var 2)] rfl n0 (Int.ofNat_le.mpr n1) (Int.ofNat_le.mpr (div_hi a 2 (Nat.succ_pos _))) (Int.ofNat_le.mpr (Nat.mul_div_le b 2)), fun n0 => Int.not_le.mp fun n1 => (Nat.lt_or_gt_of_ne h0).elim (fun s2 => farI (.branch 1 (.leaf (((b / 2) : Nat) : Int)) (.leaf (((a / 2) : Nat) : Int))) [(1, .var 0, .var 1), (1, .add (.var 1) (.num 1), .var 0)] rfl n1 (Int.ofNat_le.mpr s2)) (fun s2 => farI (.branch 2 (.branch 1 (.leaf ((a : Nat) : Int)) (.leaf ((b : Nat) : Int))) (.branch 3 (.leaf (((a / 2) : Nat) : Int)) (.leaf (((b / 2) : Nat) : Int)))) [(1, .add (.var 0) (.num 1), .var 1), (1, .mulL 2 (.var 2), .var 0), (2, .add (.var 3) (.num 1), .var 2), (1, .add (.var 1) (.num 1), .add (.mulL 2 (.var 3)) (.num 2))] rfl (Int.ofNat_le.mpr n0) (Int.ofNat_le.mpr (Nat.mul_div_le a 2)) (Int.ofNat_le.mpr s2) (Int.ofNat_le.mpr (div_hi b 2 (Nat.succ_pos _))))⟩
theorem om325 (h0 : ¬(a / 2 = b / 2)) : a / 2 < b / 2 ↔ a < b := ⟨fun n0 => nt fun n1 => far4 (a / 2) (b / 2) b a [(2, S v0, v1), (1, v2, v3), (1, S v3, A (M 2 v0) (N 2)), (1, M 2 v1, v2)] rfl n0 n1 (div_hi a 2 (Nat.succ_pos _)) (Nat.mul_div_le b 2), fun n0 => nt fun n1 => (Nat.lt_or_gt_of_ne h0).elim (fun s2 => far2 (b / 2) (a / 2) [(1, v0, v1), (1, S v1, v0)] rfl n1 s2) (fun s2 => far4 a b (b / 2) (a / 2) [(1, S v0, v1), (2, S v2, v3), (1, S v1, A (M 2 v2) (N 2)), (1, M 2 v3, v0)] rfl n0 s2 (div_hi b 2 (Nat.succ_pos _)) (Nat.mul_div_le a 2))⟩
theorem om326 (h0 : ¬(a < b)) (h1 : ¬(a = b)) : ¬(a ≤ b) := (fun n0 => (Nat.lt_or_gt_of_ne h1).elim (fun s1 => far2 b a [(1, v0, v1), (1, S v1, v0)] rfl (nl h0) s1) (fun s1 => far2 a b [(1, v0, v1), (1, S v1, v0)] rfl n0 s1))
theorem om327 (h0 : ¬(a ≥ b)) : (a + b) / 2 < b := nt fun n0 => far3 a b ((a + b) / 2) [(1, S v0, v1), (2, v1, v2), (1, M 2 v2, A v0 v1)] rfl (nt h0) n0 (Nat.mul_div_le (a + b) 2)
theorem om328 (h0 : ¬(a ≥ b)) : a < b := nt h0
theorem om329 (h0 : ¬(a ≥ b)) : a ≤ (a + b) / 2 := nl fun n0 => far3 a b ((a + b) / 2) [(1, S v0, v1), (2, S v2, v0), (1, S (A v0 v1), A (M 2 v2) (N 2))] rfl (nt h0) n0 (div_hi (a + b) 2 (Nat.succ_pos _))
theorem om330 (h0 : ¬(b < a)) : a - b = 0 := Nat.sub_eq_zero_of_le (nl h0)
theorem om331 (h0 : ¬(b < a)) : a < b ∨ a - b = 0 := ((Decidable.em _).elim .inl (fun n0 => .inr (Nat.le_antisymm (nl fun n1 => (sub_or a b).elim (fun s2 => far3 a b (a - b) [(1, v0, v1), (1, S (N 0), v2), (1, A v2 v1, v0)] rfl (nl h0) n1 s2.2) (fun s2 => far1 (a - b) [(1, S (N 0), v0), (1, v0, N 0)] rfl n1 s2.2)) (nl fun n1 => far1 (a - b) [(1, S v0, N 0)] rfl n1))))
theorem om332 (h0 : ¬(b < a)) : a ≤ b := nl h0
theorem om333 : (a + b + 1 : Int) - (1 : Int) = (a + b : Int) := Int.le_antisymm (Int.not_lt.mp fun n0 => farI (.branch 1 (.leaf ((a : Nat) : Int)) (.leaf ((b : Nat) : Int))) [(1, .add (.add (.var 0) (.var 1)) (.num 1), .sub (.add (.add (.var 0) (.var 1)) (.num 1)) (.num 1))] rfl n0) (Int.not_lt.mp fun n0 => farI (.branch 1 (.leaf ((a : Nat) : Int)) (.leaf ((b : Nat) : Int))) [(1, .add (.sub (.add (.add (.var 0) (.var 1)) (.num 1)) (.num 1)) (.num 1), .add (.var 0) (.var 1))] rfl n0)
theorem om334 : (a / 2 : Int) < (b / 2 : Int) ↔ a / 2 < b / 2 := by exact Int.ofNat_lt
theorem om335 : 0 + a - 1 - b = a - 1 - b := Nat.le_antisymm (nl fun n0 => (sub_or (a - 1) b).elim (fun s1 => (sub_or ((0 + a) - 1) b).elim (fun s2 => (sub_or (0 + a) 1).elim (fun s3 => far6 ((a - 1) - b) (((0 + a) - 1) - b) b ((0 + a) - 1) a (a - 1) [(1, S v0, v1), (1, A v1 v2, v3), (1, S v3, A (N 0) v4), (1, v5, A v0 v2), (1, v4, S v5)] rfl n0 s2.2 s3.2 (sub_lo (a - 1) b) (sub_lo a 1)) (fun s3 => far3 ((a - 1) - b) (((0 + a) - 1) - b) ((0 + a) - 1) [(1, S v0, v1), (1, v1, v2), (1, v2, N 0)] rfl n0 (Nat.sub_le ((0 + a) - 1) b) s3.2)) (fun s2 => far2 ((a - 1) - b) (((0 + a) - 1) - b) [(1, S v0, v1), (1, v1, N 0)] rfl n0 s2.2)) (fun s1 => (sub_or ((0 + a) - 1) b).elim (fun s2 => (sub_or (0 + a) 1).elim (fun s3 => far6 ((a - 1) - b) (((0 + a) - 1) - b) b ((0 + a) - 1) a (a - 1) [(1, S v0, v1), (1, A v1 v2, v3), (1, S v3, A (N 0) v4), (1, v5, A v0 v2), (1, v4, S v5)] rfl n0 s2.2 s3.2 (sub_lo (a - 1) b) (sub_lo a 1)) (fun s3 => far3 ((a - 1) - b) (((0 + a) - 1) - b) ((0 + a) - 1) [(1, S v0, v1), (1, v1, v2), (1, v2, N 0)] rfl n0 (Nat.sub_le ((0 + a) - 1) b) s3.2)) (fun s2 => far2 ((a - 1) - b) (((0 + a) - 1) - b) [(1, S v0, v1), (1, v1, N 0)] rfl n0 s2.2))) (nl fun n0 => (sub_or ((0 + a) - 1) b).elim (fun s1 => (sub_or (a - 1) b).elim (fun s2 => (sub_or a 1).elim (fun s3 => far6 (((0 + a) - 1) - b) ((a - 1) - b) b (a - 1) a ((0 + a) - 1) [(1, S v0, v1), (1, A v1 v2, v3), (1, S v3, v4), (1, v5, A v0 v2), (1, A (N 0) v4, S v5)] rfl n0 s2.2 s3.2 (sub_lo ((0 + a) - 1) b) (sub_lo (0 + a) 1)) (fun s3 => far3 (((0 + a) - 1) - b) ((a - 1) - b) (a - 1) [(1, S v0, v1), (1, v1, v2), (1, v2, N 0)] rfl n0 (Nat.sub_le (a - 1) b) s3.2)) (fun s2 => far2 (((0 + a) - 1) - b) ((a - 1) - b) [(1, S v0, v1), (1, v1, N 0)] rfl n0 s2.2)) (fun s1 => (sub_or (a - 1) b).elim (fun s2 => (sub_or a 1).elim (fun s3 => far6 (((0 + a) - 1) - b) ((a - 1) - b) b (a - 1) a ((0 + a) - 1) [(1, S v0, v1), (1, A v1 v2, v3), (1, S v3, v4), (1, v5, A v0 v2), (1, A (N 0) v4, S v5)] rfl n0 s2.2 s3.2 (sub_lo ((0 + a) - 1) b) (sub_lo (0 + a) 1)) (fun s3 => far3 (((0 + a) - 1) - b) ((a - 1) - b) (a - 1) [(1, S v0, v1), (1, v1, v2), (1, v2, N 0)] rfl n0 (Nat.sub_le (a - 1) b) s3.2)) (fun s2 => far2 (((0 + a) - 1) - b) ((a - 1) - b) [(1, S v0, v1), (1, v1, N 0)] rfl n0 s2.2)))
theorem om336 : a + 1 + b + 1 = a + (b + 1) + 1 := Eq.symm (Nat.add_right_comm a (b + 1) 1)
theorem om337 : (a : Int) + (b : Int) = (a + b : Int) := by exact rfl
theorem om338 : a + 1 + b = a + b + 1 := Nat.add_right_comm _ _ _
theorem om339 : a + 1 + b = a + (b + 1) := Nat.add_right_comm _ _ _
theorem om340 : a + b + 1 = a + 1 + b := Nat.add_right_comm _ _ _
theorem om341 : a + b + 1 = a + (b + 1) := Nat.add_assoc _ _ _
theorem om342 : (0 : Int) ≤ ((a + b) / 2 : Int) := by exact Int.natCast_nonneg _
theorem om343 : 8 * a ≤ 8 * a + b := Nat.le_add_right _ _
theorem om345 : a - b ≤ a - b := Nat.le_refl _
theorem om346 : a - b ≤ a := Nat.sub_le _ _
theorem om347 : min (8 * a + 8) b ≤ 8 * a + 8 := Nat.min_le_left (8 * a + 8) b
theorem om348 : min a b ≤ a := Nat.min_le_left a b
theorem om349 : a ≤ a + (b + 1) := Nat.le_add_right _ _
theorem om350 : ¬(a < a ∨ a = a ∧ b < b) := (fun n0 => n0.elim (fun s1 => far1 a [(1, S v0, v0)] rfl s1) (fun s1 => far1 b [(1, S v0, v0)] rfl s1.2))
theorem om351 (h0 : a + 3 * (b + 1) + 100 < c) : a + 3 + 3 * b + 100 < c := nt fun n0 => far3 a b c [(1, A (A (A v0 (M 3 (S v1))) (N 100)) (N 1), v2), (1, v2, A (A (A v0 (N 3)) (M 3 v1)) (N 100))] rfl h0 n0
theorem om352 (h0 : a + 3 * (c + 1) + 100 < b) : a + 1 + 20 < b := nt fun n0 => far3 a c b [(1, A (A (A v0 (M 3 (S v1))) (N 100)) (N 1), v2), (1, v2, A (S v0) (N 20))] rfl h0 n0
theorem om353 (h0 : a + 3 * c + 100 < b) : a + 1 + 1 + 1 + 59 < b := nt fun n0 => far3 a c b [(1, A (A (A v0 (M 3 v1)) (N 100)) (N 1), v2), (1, v2, A (A (S (S v0)) (N 1)) (N 59))] rfl h0 n0
theorem om354 (h0 : a + 3 * c + 100 < b) : a + 1 + 1 < b := nt fun n0 => far3 a c b [(1, A (A (A v0 (M 3 v1)) (N 100)) (N 1), v2), (1, v2, S (S v0))] rfl h0 n0
theorem om355 (h0 : a + 3 * c + 100 < b) : a + 1 + 59 < b := nt fun n0 => far3 a c b [(1, A (A (A v0 (M 3 v1)) (N 100)) (N 1), v2), (1, v2, A (S v0) (N 59))] rfl h0 n0
theorem om356 (h0 : a + 3 * c + 100 < b) : a + 60 < b := nt fun n0 => far3 a c b [(1, A (A (A v0 (M 3 v1)) (N 100)) (N 1), v2), (1, v2, A v0 (N 60))] rfl h0 n0
theorem om357 (h0 : (a + b) / 2 < b) (h1 : b ≤ c) : (a + b) / 2 < c := Nat.lt_of_lt_of_le h0 h1
theorem om358 (h0 : (a + b) / 2 < b) (h1 : b ≤ c) : (a + b) / 2 ≤ c := nl fun n0 => far3 ((a + b) / 2) b c [(1, S v0, v1), (1, v1, v2), (1, S v2, v0)] rfl h0 h1 n0
theorem om359 (h0 : (a + b) / 2 ≤ c) (h1 : ¬(c = (a + b) / 2)) : (a + b) / 2 < c := Nat.lt_of_le_of_ne h0 fun a_1 => h1 (id (Eq.symm a_1))
theorem om360 (h0 : (b + c) / 2 < c) (h1 : c ≤ a) : a ≠ (b + c) / 2 := (fun n0 => far3 ((b + c) / 2) c a [(1, S v0, v1), (1, v1, v2), (1, v2, v0)] rfl h0 h1 (el n0))
theorem om361 (h0 : c + 1 + a ≤ b + 1) : a ≤ b := nl fun n0 => far3 c a b [(1, A (S v0) v1, S v2), (1, S v2, v1)] rfl h0 n0
theorem om362 (h0 : a + (b + 1) < c) : a + 1 + b < c := nt fun n0 => far3 a b c [(1, A (A v0 (S v1)) (N 1), v2), (1, v2, A (S v0) v1)] rfl h0 n0
theorem om363 (h0 : a + (b + 1) = c) : a + 1 + b = c := Nat.le_antisymm (nl fun n0 => far3 a b c [(1, A v0 (S v1), v2), (1, S v2, A (S v0) v1)] rfl (el h0) n0) (nl fun n0 => far3 c a b [(1, v0, A v1 (S v2)), (1, A (A (S v1) v2) (N 1), v0)] rfl (eg h0) n0)
theorem om364 (h0 : a + (b + 1) ≤ c) : a + 1 + b ≤ c := nl fun n0 => far3 a b c [(1, A v0 (S v1), v2), (1, S v2, A (S v0) v1)] rfl h0 n0
theorem om365 (h0 : a + (c + 1) < b) : a < b := Nat.lt_of_add_right_lt h0
theorem om366 (h0 : a + (c + 1) = b) : a < b := nt fun n0 => far3 a c b [(1, A v0 (S v1), v2), (1, v2, v0)] rfl (el h0) n0
theorem om367 (h0 : a + (c + 1) ≤ b) : a - 1 < b := nt fun n0 => far4 a c b (a - 1) [(1, A v0 (S v1), v2), (1, v2, v3), (1, v3, v0)] rfl h0 n0 (Nat.sub_le a 1)
theorem om368 (h0 : a + (c + 1) ≤ b) : a < b := Nat.lt_of_add_right_lt h0
theorem om369 (h0 : a + b < c) : a + b + 1 ≤ c := h0
theorem om370 (h0 : a + c < b) : a < b := Nat.lt_of_add_right_lt h0
theorem om371 (h0 : a + c ≤ b) : a ≤ b := Nat.le_of_add_right_le h0
theorem om372 (h0 : a - b = c + 1) : a - (b + 1) = c := Nat.le_antisymm (nl fun n0 => (sub_or a b).elim (fun s1 => (sub_or a b).elim (fun s2 => (sub_or a (b + 1)).elim (fun s3 => far5 (a - b) c (a - (b + 1)) b a [(1, v0, S v1), (1, A v2 (S v3), v4), (1, S v1, v2), (1, v4, A v0 v3)] rfl (el h0) s3.2 n0 (sub_lo a b)) (fun s3 => far2 (a - (b + 1)) c [(1, v0, N 0), (1, S v1, v0)] rfl s3.2 n0)) (fun s2 => far2 c (a - b) [(1, S v0, v1), (1, v1, N 0)] rfl (eg h0) s2.2)) (fun s1 => far2 c (a - b) [(1, S v0, v1), (1, v1, N 0)] rfl (eg h0) s1.2)) (nl fun n0 => (sub_or a b).elim (fun s1 => far5 c (a - b) (a - (b + 1)) b a [(1, S v0, v1), (1, S v2, v0), (1, A v1 v3, v4), (1, v4, A v2 (S v3))] rfl (eg h0) n0 s1.2 (sub_lo a (b + 1))) (fun s1 => far2 c (a - b) [(1, S v0, v1), (1, v1, N 0)] rfl (eg h0) s1.2))
theorem om373 (h0 : a - b = c) (h1 : b ≤ a) : a = b + c := Nat.le_antisymm (nl fun n0 => far4 (a - b) c b a [(1, v0, v1), (1, S (A v2 v1), v3), (1, v3, A v0 v2)] rfl (el h0) n0 (sub_lo a b)) (nl fun n0 => (sub_or a b).elim (fun s1 => far4 c (a - b) a b [(1, v0, v1), (1, S v2, A v3 v0), (1, A v1 v3, v2)] rfl (eg h0) n0 s1.2) (fun s1 => far4 c (a - b) b a [(1, v0, v1), (1, v2, v3), (1, S v3, A v2 v0), (1, v1, N 0)] rfl (eg h0) h1 n0 s1.2))
theorem om374 (h0 : a - b ≤ c + 1) : a - ((b + a) / 2 + 1) ≤ c := nl fun n0 => (sub_or a b).elim (fun s1 => (sub_or a b).elim (fun s2 => (sub_or a (((b + a) / 2) + 1)).elim (fun s3 => far6 (a - b) c (a - (((b + a) / 2) + 1)) ((b + a) / 2) a b [(1, v0, S v1), (1, S v1, v2), (2, A v2 (S v3), v4), (1, v4, A v0 v5), (1, S (A v5 v4), A (M 2 v3) (N 2))] rfl h0 n0 s3.2 (sub_lo a b) (div_hi (b + a) 2 (Nat.succ_pos _))) (fun s3 => far2 c (a - (((b + a) / 2) + 1)) [(1, S v0, v1), (1, v1, N 0)] rfl n0 s3.2)) (fun s2 => (sub_or a (((b + a) / 2) + 1)).elim (fun s3 => far3 a b ((b + a) / 2) [(1, v0, v1), (1, S (A v1 v0), A (M 2 v2) (N 2)), (2, S v2, v0)] rfl s2.1 (div_hi (b + a) 2 (Nat.succ_pos _)) s3.1) (fun s3 => far2 c (a - (((b + a) / 2) + 1)) [(1, S v0, v1), (1, v1, N 0)] rfl n0 s3.2))) (fun s1 => (sub_or a b).elim (fun s2 => (sub_or a (((b + a) / 2) + 1)).elim (fun s3 => far3 a b ((b + a) / 2) [(1, v0, v1), (1, S (A v1 v0), A (M 2 v2) (N 2)), (2, S v2, v0)] rfl s1.1 (div_hi (b + a) 2 (Nat.succ_pos _)) s3.1) (fun s3 => far2 c (a - (((b + a) / 2) + 1)) [(1, S v0, v1), (1, v1, N 0)] rfl n0 s3.2)) (fun s2 => (sub_or a (((b + a) / 2) + 1)).elim (fun s3 => far3 a b ((b + a) / 2) [(1, v0, v1), (1, S (A v1 v0), A (M 2 v2) (N 2)), (2, S v2, v0)] rfl s1.1 (div_hi (b + a) 2 (Nat.succ_pos _)) s3.1) (fun s3 => far2 c (a - (((b + a) / 2) + 1)) [(1, S v0, v1), (1, v1, N 0)] rfl n0 s3.2)))
theorem om375 (h0 : a - c ≤ 0) (h1 : c ≤ b) : a ≤ b := nl fun n0 => far4 (a - c) c b a [(1, v0, N 0), (1, v1, v2), (1, S v2, v3), (1, v3, A v0 v1)] rfl h0 h1 n0 (sub_lo a c)
theorem om376 (h0 : b + (c + 1) = a) : a - b = c + 1 := Nat.sub_eq_of_eq_add' (id (Eq.symm h0))
theorem om377 (h0 : b + c ≤ a) : ¬(a - b < c) := (fun n0 => far4 b c a (a - b) [(1, A v0 v1, v2), (1, S v3, v1), (1, v2, A v3 v0)] rfl h0 n0 (sub_lo a b))
theorem om378 (h0 : b - a = c + 1) : a < b := Nat.lt_of_sub_eq_succ h0
theorem om379 (h0 : b - a ≤ c + 1) : (a + b) / 2 - a ≤ c := nl fun n0 => (sub_or b a).elim (fun s1 => (sub_or b a).elim (fun s2 => (sub_or ((a + b) / 2) a).elim (fun s3 => far6 (b - a) c (((a + b) / 2) - a) a ((a + b) / 2) b [(1, v0, S v1), (2, S v1, v2), (2, A v2 v3, v4), (1, v5, A v0 v3), (1, M 2 v4, A v3 v5)] rfl h0 n0 s3.2 (sub_lo b a) (Nat.mul_div_le (a + b) 2)) (fun s3 => far2 c (((a + b) / 2) - a) [(1, S v0, v1), (1, v1, N 0)] rfl n0 s3.2)) (fun s2 => (sub_or ((a + b) / 2) a).elim (fun s3 => far5 c (((a + b) / 2) - a) b a ((a + b) / 2) [(2, S v0, v1), (1, v2, v3), (2, A v1 v3, v4), (1, M 2 v4, A v3 v2)] rfl n0 s2.1 s3.2 (Nat.mul_div_le (a + b) 2)) (fun s3 => far2 c (((a + b) / 2) - a) [(1, S v0, v1), (1, v1, N 0)] rfl n0 s3.2))) (fun s1 => (sub_or b a).elim (fun s2 => (sub_or ((a + b) / 2) a).elim (fun s3 => far5 c (((a + b) / 2) - a) b a ((a + b) / 2) [(2, S v0, v1), (1, v2, v3), (2, A v1 v3, v4), (1, M 2 v4, A v3 v2)] rfl n0 s1.1 s3.2 (Nat.mul_div_le (a + b) 2)) (fun s3 => far2 c (((a + b) / 2) - a) [(1, S v0, v1), (1, v1, N 0)] rfl n0 s3.2)) (fun s2 => (sub_or ((a + b) / 2) a).elim (fun s3 => far5 c (((a + b) / 2) - a) b a ((a + b) / 2) [(2, S v0, v1), (1, v2, v3), (2, A v1 v3, v4), (1, M 2 v4, A v3 v2)] rfl n0 s1.1 s3.2 (Nat.mul_div_le (a + b) 2)) (fun s3 => far2 c (((a + b) / 2) - a) [(1, S v0, v1), (1, v1, N 0)] rfl n0 s3.2)))
theorem om380 (h0 : c + (a + 1) ≤ b + 1) : a ≤ b := nl fun n0 => far3 c a b [(1, A v0 (S v1), S v2), (1, S v2, v1)] rfl h0 n0
theorem om381 (h0 : c + 1 ≤ 0) : a ≤ b := absurd h0 (Nat.not_lt_zero _)
theorem om382 (h0 : c + 2 ≤ b) (h1 : a ≤ c + 1) : a + 1 ≤ b := Nat.lt_of_le_of_lt h1 h0
theorem om383 (h0 : c + a < c + b) : a < b := Nat.lt_of_add_lt_add_left h0
theorem om384 (h0 : c + a ≤ b) : a ≤ b - c := Nat.le_sub_of_add_le' h0
theorem om385 (h0 : a < (b + c) / 2 + 1) (h1 : ¬(a = (b + c) / 2)) : a < (b + c) / 2 := Nat.lt_of_le_of_ne (Nat.le_of_lt_succ h0) h1
theorem om386 (h0 : a < 8 * b + 8) (h1 : c = 8 * (b + 1) + 1) : a < min (8 * b + 8) c := nt fun n0 => (min_or ((8 * b) + 8) c).elim (fun s1 => far3 a b (min ((8 * b) + 8) c) [(1, S v0, A (M 8 v1) (N 8)), (1, v2, v0), (1, A (M 8 v1) (N 8), v2)] rfl h0 n0 s1.2) (fun s1 => far2 b c [(1, A (M 8 (S v0)) (N 1), v1), (1, v1, A (M 8 v0) (N 8))] rfl (eg h1) s1.1)
theorem om387 (h0 : a < b + (c + 1)) : a < b + 1 + c := nt fun n0 => far3 a b c [(1, S v0, A v1 (S v2)), (1, A (S v1) v2, v0)] rfl h0 n0
theorem om388 (h0 : a < b + 1) (h1 : c < a) : a - 1 < b := nt fun n0 => (sub_or a 1).elim (fun s1 => far3 a b (a - 1) [(1, S v0, S v1), (1, v1, v2), (1, S v2, v0)] rfl h0 n0 s1.2) (fun s1 => far4 a b c (a - 1) [(1, S v0, S v1), (1, S v2, v0), (1, v1, v3), (1, v3, N 0)] rfl h0 h1 n0 s1.2)
theorem om389 (h0 : a < b + 1) (h1 : c ≤ b) (h2 : ¬(c < a ∧ a ≤ b)) (h3 : ¬(a = c)) : a < b := nt fun n0 => (Decidable.not_and_iff_not_or_not.mp h2).elim (fun s1 => (Nat.lt_or_gt_of_ne h3).elim (fun s2 => far3 c b a [(1, v0, v1), (1, v1, v2), (1, S v2, v0)] rfl h1 n0 s2) (fun s2 => far2 a c [(1, v0, v1), (1, S v1, v0)] rfl (nl s1) s2)) (fun s1 => far2 a b [(1, S v0, S v1), (1, S v1, v0)] rfl h0 (nt s1))
theorem om390 (h0 : a < b + 8) (h1 : c = 8) : a - b < c := nt fun n0 => (sub_or a b).elim (fun s1 => far4 a b c (a - b) [(1, S v0, A v1 (N 8)), (1, N 8, v2), (1, v2, v3), (1, A v3 v1, v0)] rfl h0 (eg h1) n0 s1.2) (fun s1 => far2 c (a - b) [(1, N 8, v0), (1, v0, v1), (1, v1, N 0)] rfl (eg h1) n0 s1.2)
theorem om391 (h0 : a < b + c) (h1 : b ≤ a) : a - b < c := Nat.sub_lt_left_of_lt_add h1 h0
theorem om392 (h0 : a < 4) (h1 : b < 4) (h2 : c < 4) : (16 * a + 4 * b + c) / 4 ^ 2 % 4 = a := (by decide : ∀ a < 4, ∀ b < 4, ∀ c < 4, ((((((16 * a) + (4 * b)) + c) / (4 ^ 2)) % 4) = a)) a h0 b h1 c h2
theorem om393 (h0 : a < b) (h1 : b ≤ c) : (a + b) / 2 < c := nt fun n0 => far4 a b c ((a + b) / 2) [(1, S v0, v1), (2, v1, v2), (2, v2, v3), (1, M 2 v3, A v0 v1)] rfl h0 h1 n0 (Nat.mul_div_le (a + b) 2)
theorem om394 (h0 : a < b) (h1 : b ≤ c) : (a + b) / 2 ≤ c := nl fun n0 => far4 a b c ((a + b) / 2) [(1, S v0, v1), (2, v1, v2), (2, S v2, v3), (1, M 2 v3, A v0 v1)] rfl h0 h1 n0 (Nat.mul_div_le (a + b) 2)
theorem om395 (h0 : a < c) (h1 : b = c) : (a : Int) < (b : Int) := Int.not_le.mp fun n0 => farI (.branch 1 (.leaf ((a : Nat) : Int)) (.branch 2 (.leaf ((c : Nat) : Int)) (.leaf ((b : Nat) : Int)))) [(1, .add (.var 0) (.num 1), .var 1), (1, .var 1, .var 2), (1, .var 2, .var 0)] rfl (Int.ofNat_le.mpr h0) (Int.ofNat_le.mpr (eg h1)) n0
theorem om396 (h0 : a < c) (h1 : b = c) : a < b := by (subst h1; exact h0)
theorem om397 (h0 : a < c) (h1 : c < b) : a < b := Nat.lt_trans h0 h1
theorem om398 (h0 : a < c) (h1 : c = b) : a < b := by (subst h1; exact h0)
theorem om400 (h0 : a = c) (h1 : c ≤ b) : a ≤ b := by (subst h0; exact h1)
theorem om401 (h0 : a ≤ 2) (h1 : b ≤ 2 * c) : a + b ≤ 2 * (c + 1) := nl fun n0 => far3 a b c [(1, v0, N 2), (1, v1, M 2 v2), (1, A (M 2 (S v2)) (N 1), A v0 v1)] rfl h0 h1 n0
theorem om402 (h0 : a ≤ b) (h1 : b ≤ c) (h2 : ¬(a < c)) : a = b := Nat.le_antisymm (nl fun n0 => far2 a b [(1, v0, v1), (1, S v1, v0)] rfl h0 n0) (nl fun n0 => far3 b c a [(1, v0, v1), (1, v1, v2), (1, S v2, v0)] rfl h1 (nl h2) n0)
theorem om403 (h0 : a ≤ c) (h1 : b = c) : min a b = a := Nat.le_antisymm (nl fun n0 => far2 a (min a b) [(1, S v0, v1), (1, v1, v0)] rfl n0 (Nat.min_le_left a b)) (nl fun n0 => (min_or a b).elim (fun s1 => far2 (min a b) a [(1, S v0, v1), (1, v1, v0)] rfl n0 s1.2) (fun s1 => far4 a c b (min a b) [(1, v0, v1), (1, v1, v2), (1, S v3, v0), (1, v2, v3)] rfl h0 (eg h1) n0 s1.2))
theorem om404 (h0 : a ≤ c) (h1 : b = c) : a ≤ b := by (subst h1; exact h0)
theorem om405 (h0 : a ≤ c) (h1 : c < b) : a < b := Nat.lt_of_le_of_lt h0 h1
theorem om406 (h0 : a ≤ c) (h1 : c ≤ b) : a ≤ b := Nat.le_trans h0 h1
theorem om407 (h0 : b < 4) (h1 : c < 4) : (16 * a + 4 * b + c) / 4 ^ 1 % 4 = b := (congrArg (· % 4) (Nat.div_eq_of_lt_le (k := 4 * a + b) (m := 16 * a + 4 * b + c) (n := 4) (nl fun n0 => far3 a b c [(1, A (A (A (M 16 v0) (M 4 v1)) v2) (N 1), R (A (M 4 v0) v1) 4)] rfl n0) (nt fun n0 => far3 c a b [(1, S v0, N 4), (1, R (A (A (M 4 v1) v2) (N 1)) 4, A (A (M 16 v1) (M 4 v2)) v0)] rfl h1 n0))).trans ((Nat.mul_add_mod 4 a b).trans (Nat.mod_eq_of_lt h0))
theorem om408 (h0 : b < 8) (h1 : a = c + b + 1) (h2 : c ≤ 100) : a ≤ 1000000 := nl fun n0 => far3 b a c [(1, S v0, N 8), (1, v1, S (A v2 v0)), (1, v2, N 100), (1, S (N 1000000), v1)] rfl h0 (el h1) h2 n0
theorem om409 (h0 : b < a) (h1 : c < b) : a - 1 - b < a - 1 - c := nt fun n0 => (sub_or (a - 1) c).elim (fun s1 => (sub_or (a - 1) c).elim (fun s2 => (sub_or (a - 1) b).elim (fun s3 => far5 ((a - 1) - b) b (a - 1) ((a - 1) - c) c [(1, A v0 v1, v2), (1, v2, A v3 v4), (1, v3, v0), (1, S v4, v1)] rfl s3.2 (sub_lo (a - 1) c) n0 h1) (fun s3 => far6 b a c ((a - 1) - c) ((a - 1) - b) (a - 1) [(1, S v0, v1), (1, S v2, v0), (1, v3, v4), (1, v4, N 0), (1, v5, A v3 v2), (1, v1, S v5)] rfl h0 h1 n0 s3.2 (sub_lo (a - 1) c) (sub_lo a 1))) (fun s2 => far4 b a c (a - 1) [(1, S v0, v1), (1, S v2, v0), (1, v1, S v3), (1, v3, v2)] rfl h0 h1 (sub_lo a 1) s2.1)) (fun s1 => far4 b a c (a - 1) [(1, S v0, v1), (1, S v2, v0), (1, v3, v2), (1, v1, S v3)] rfl h0 h1 s1.1 (sub_lo a 1))
theorem om410 (h0 : b ≤ 10) (h1 : a = c + b) (h2 : c ≤ 20) : a ≤ 300 := nl fun n0 => far3 b a c [(1, v0, N 10), (1, v1, A v2 v0), (1, v2, N 20), (1, S (N 300), v1)] rfl h0 (el h1) h2 n0
theorem om411 (h0 : b ≤ 10) (h1 : a = c + b) (h2 : c ≤ 20) : a ≤ 40 := nl fun n0 => far3 b a c [(1, v0, N 10), (1, v1, A v2 v0), (1, v2, N 20), (1, S (N 40), v1)] rfl h0 (el h1) h2 n0
theorem om412 (h0 : b ≤ 2) (h1 : a ≤ 2 * c) (h2 : c < 3) : a + b ≤ 16777216 := nl fun n0 => far3 b a c [(1, v0, N 2), (1, v1, M 2 v2), (2, S v2, N 3), (1, S (N 16777216), A v1 v0)] rfl h0 h1 h2 n0
theorem om413 (h0 : b ≤ 4) (h1 : a ≤ 4 * c) (h2 : c < 3) : a + b ≤ 16777216 := nl fun n0 => far3 b a c [(1, v0, N 4), (1, v1, M 4 v2), (4, S v2, N 3), (1, S (N 16777216), A v1 v0)] rfl h0 h1 h2 n0
theorem om414 (h0 : b ≤ c) (h1 : c = 8) : a + b ≤ a + 8 := nl fun n0 => far3 b c a [(1, v0, v1), (1, v1, N 8), (1, A (A v2 (N 8)) (N 1), A v2 v0)] rfl h0 (el h1) n0
theorem om415 (h0 : b ≤ c) (h1 : c = a) : ¬(a < b) := (fun n0 => far3 b c a [(1, v0, v1), (1, v1, v2), (1, S v2, v0)] rfl h0 (el h1) n0)
theorem om416 (h0 : b ≤ c) : a + b ≤ a + c := Nat.add_le_add_left h0 _
theorem om417 (h0 : c < 0) : a < b := absurd h0 (Nat.not_lt_zero _)
theorem om418 (h0 : c < 4) : (16 * a + 4 * b + c) / 4 ^ 0 % 4 = c := (congrArg (· % 4) (Nat.div_one _)).trans ((congrArg (fun x => (x + c) % 4) (show 16 * a + 4 * b = 4 * (4 * a + b) by rw [Nat.mul_add, ← Nat.mul_assoc])).trans ((Nat.mul_add_mod 4 _ c).trans (Nat.mod_eq_of_lt h0)))
theorem om419 (h0 : c < a) (h1 : c = b) : ¬(a = b) := (fun n0 => far3 c a b [(1, S v0, v1), (1, v2, v0), (1, v1, v2)] rfl h0 (eg h1) (el n0))
theorem om420 (h0 : c < a) (h1 : ¬(c < b)) : ¬(a < b) := (fun n0 => far3 c a b [(1, S v0, v1), (1, v2, v0), (1, S v1, v2)] rfl h0 (nl h1) n0)
theorem om421 (h0 : c < a) : a - 1 - b < a := nt fun n0 => (sub_or (a - 1) b).elim (fun s1 => (sub_or (a - 1) b).elim (fun s2 => (sub_or a 1).elim (fun s3 => far3 a ((a - 1) - b) (a - 1) [(1, v0, v1), (1, v1, v2), (1, S v2, v0)] rfl n0 (Nat.sub_le (a - 1) b) s3.2) (fun s3 => far4 c a ((a - 1) - b) (a - 1) [(1, S v0, v1), (1, v1, v2), (1, v3, N 0), (1, v2, v3)] rfl h0 n0 s3.2 (Nat.sub_le (a - 1) b))) (fun s2 => far3 c a ((a - 1) - b) [(1, S v0, v1), (1, v1, v2), (1, v2, N 0)] rfl h0 n0 s2.2)) (fun s1 => far3 c a ((a - 1) - b) [(1, S v0, v1), (1, v2, N 0), (1, v1, v2)] rfl h0 s1.2 n0)
theorem om422 (h0 : c < b) (h1 : c = a) : a ≤ b - 1 := nl fun n0 => far4 c b a (b - 1) [(1, S v0, v1), (1, v2, v0), (1, S v3, v2), (1, v1, S v3)] rfl h0 (eg h1) n0 (sub_lo b 1)
theorem om423 (h0 : c = a + b + 1) : a + b ≤ c := Nat.le.intro (id (Eq.symm h0))
theorem om424 (h0 : c = 2) : 2 * min a 2 + min b c ≤ 16777216 := nl fun n0 => far3 c (min a 2) (min b c) [(1, v0, N 2), (1, S (N 16777216), A (M 2 v1) v2), (2, v1, N 2), (1, v2, v0)] rfl (el h0) n0 (Nat.min_le_right a 2) (Nat.min_le_right b c)
theorem om425 (h0 : c = a) (h1 : ¬(b ≤ c)) : a < b := nt fun n0 => far3 a c b [(1, v0, v1), (1, S v1, v2), (1, v2, v0)] rfl (eg h0) (nt h1) n0
theorem om426 (h0 : c ≤ b) (h1 : c ≥ a) : a ≤ b := Nat.le_trans h1 h0
theorem om427 (h0 : c ≥ 8) : min (8 * a + 8 - 8 * a) b ≤ c := nl fun n0 => (min_or (((8 * a) + 8) - (8 * a)) b).elim (fun s1 => (min_or (((8 * a) + 8) - (8 * a)) b).elim (fun s2 => (sub_or ((8 * a) + 8) (8 * a)).elim (fun s3 => far4 c (min (((8 * a) + 8) - (8 * a)) b) (((8 * a) + 8) - (8 * a)) a [(1, N 8, v0), (1, S v0, v1), (1, v1, v2), (1, A v2 (M 8 v3), A (M 8 v3) (N 8))] rfl h0 n0 (Nat.min_le_left (((8 * a) + 8) - (8 * a)) b) s3.2) (fun s3 => far1 a [(1, A (M 8 v0) (N 8), M 8 v0)] rfl s3.1)) (fun s2 => (sub_or ((8 * a) + 8) (8 * a)).elim (fun s3 => far4 c (min (((8 * a) + 8) - (8 * a)) b) (((8 * a) + 8) - (8 * a)) a [(1, N 8, v0), (1, S v0, v1), (1, v1, v2), (1, A v2 (M 8 v3), A (M 8 v3) (N 8))] rfl h0 n0 (Nat.min_le_left (((8 * a) + 8) - (8 * a)) b) s3.2) (fun s3 => far1 a [(1, A (M 8 v0) (N 8), M 8 v0)] rfl s3.1))) (fun s1 => (min_or (((8 * a) + 8) - (8 * a)) b).elim (fun s2 => (sub_or ((8 * a) + 8) (8 * a)).elim (fun s3 => far4 c (min (((8 * a) + 8) - (8 * a)) b) (((8 * a) + 8) - (8 * a)) a [(1, N 8, v0), (1, S v0, v1), (1, v1, v2), (1, A v2 (M 8 v3), A (M 8 v3) (N 8))] rfl h0 n0 (Nat.min_le_left (((8 * a) + 8) - (8 * a)) b) s3.2) (fun s3 => far1 a [(1, A (M 8 v0) (N 8), M 8 v0)] rfl s3.1)) (fun s2 => (sub_or ((8 * a) + 8) (8 * a)).elim (fun s3 => far4 c (min (((8 * a) + 8) - (8 * a)) b) (((8 * a) + 8) - (8 * a)) a [(1, N 8, v0), (1, S v0, v1), (1, v1, v2), (1, A v2 (M 8 v3), A (M 8 v3) (N 8))] rfl h0 n0 (Nat.min_le_left (((8 * a) + 8) - (8 * a)) b) s3.2) (fun s3 => far1 a [(1, A (M 8 v0) (N 8), M 8 v0)] rfl s3.1)))
theorem om428 : a + (b + (c + 0)) = a + b + c := Eq.symm (Nat.add_assoc a b c)
theorem om429 (h0 : a + 3 * d + 100 < c) (h1 : b ≤ d) : a + 3 * b + 100 < c := nt fun n0 => far4 a d c b [(1, A (A (A v0 (M 3 v1)) (N 100)) (N 1), v2), (3, v3, v1), (1, v2, A (A v0 (M 3 v3)) (N 100))] rfl h0 h1 n0
theorem om430 (h0 : a + 1 ≤ b ∧ b < c ∧ c ≤ a + 1 + d) : a ≤ b ∧ b < c ∧ c ≤ a + (d + 1) := ⟨nl fun n0 => far2 a b [(1, S v0, v1), (1, S v1, v0)] rfl h0.1 n0, ⟨nt fun n0 => far2 b c [(1, S v0, v1), (1, v1, v0)] rfl h0.2.1 n0, nl fun n0 => far3 c a d [(1, v0, A (S v1) v2), (1, A (A v1 (S v2)) (N 1), v0)] rfl h0.2.2 n0⟩⟩
theorem om431 (h0 : (a + b) / 2 < b) (h1 : b ≤ d) (h2 : d < c) : (a + b) / 2 < c := nt fun n0 => far4 ((a + b) / 2) b d c [(1, S v0, v1), (1, v1, v2), (1, S v2, v3), (1, v3, v0)] rfl h0 h1 h2 n0
theorem om432 (h0 : c * d + a = c * d + b) : a = b := Nat.add_left_cancel h0
theorem om433 (h0 : a + 1 = c) (h1 : a = b) : a ≤ b ∧ b < c ∧ c ≤ a + (d + 1) := ⟨nl fun n0 => far2 a b [(1, v0, v1), (1, S v1, v0)] rfl (el h1) n0, ⟨nt fun n0 => far3 a c b [(1, S v0, v1), (1, v2, v0), (1, v1, v2)] rfl (el h0) (eg h1) n0, nl fun n0 => far3 c a d [(1, v0, S v1), (1, A (A v1 (S v2)) (N 1), v0)] rfl (eg h0) n0⟩⟩
theorem om434 (h0 : a + d < c) (h1 : b ≤ d) : a + b < c := nt fun n0 => far4 a d c b [(1, S (A v0 v1), v2), (1, v3, v1), (1, v2, A v0 v3)] rfl h0 h1 n0
theorem om435 (h0 : a - c ≤ d) : min a b - c ≤ d := nl fun n0 => (sub_or a c).elim (fun s1 => (sub_or a c).elim (fun s2 => (sub_or (min a b) c).elim (fun s3 => far6 (a - c) d ((min a b) - c) c (min a b) a [(1, v0, v1), (1, S v1, v2), (1, A v2 v3, v4), (1, v5, A v0 v3), (1, v4, v5)] rfl h0 n0 s3.2 (sub_lo a c) (Nat.min_le_left a b)) (fun s3 => far2 d ((min a b) - c) [(1, S v0, v1), (1, v1, N 0)] rfl n0 s3.2)) (fun s2 => (sub_or (min a b) c).elim (fun s3 => far6 (a - c) d ((min a b) - c) c (min a b) a [(1, v0, v1), (1, S v1, v2), (1, A v2 v3, v4), (1, v5, A v0 v3), (1, v4, v5)] rfl h0 n0 s3.2 (sub_lo a c) (Nat.min_le_left a b)) (fun s3 => far2 d ((min a b) - c) [(1, S v0, v1), (1, v1, N 0)] rfl n0 s3.2))) (fun s1 => (sub_or a c).elim (fun s2 => (sub_or (min a b) c).elim (fun s3 => far6 (a - c) d ((min a b) - c) c (min a b) a [(1, v0, v1), (1, S v1, v2), (1, A v2 v3, v4), (1, v5, A v0 v3), (1, v4, v5)] rfl h0 n0 s3.2 (sub_lo a c) (Nat.min_le_left a b)) (fun s3 => far2 d ((min a b) - c) [(1, S v0, v1), (1, v1, N 0)] rfl n0 s3.2)) (fun s2 => (sub_or (min a b) c).elim (fun s3 => far6 (a - c) d ((min a b) - c) c (min a b) a [(1, v0, v1), (1, S v1, v2), (1, A v2 v3, v4), (1, v5, A v0 v3), (1, v4, v5)] rfl h0 n0 s3.2 (sub_lo a c) (Nat.min_le_left a b)) (fun s3 => far2 d ((min a b) - c) [(1, S v0, v1), (1, v1, N 0)] rfl n0 s3.2)))
theorem om436 (h0 : a < b ∨ a = b ∧ c < d) : a ≤ b := nl fun n0 => h0.elim (fun s1 => far2 b a [(1, S v0, v1), (1, S v1, v0)] rfl n0 s1) (fun s1 => far2 b a [(1, S v0, v1), (1, v1, v0)] rfl n0 (el s1.1))
theorem om437 (h0 : c * b ≤ c * d) (h1 : a ≤ c * b) (h2 : b ≤ d) : a + (b - 1) * 1 ≤ c * d + d := nl fun n0 => far6 (c * b) (c * d) a b d (b - 1) [(1, v0, v1), (1, v2, v0), (1, v3, v4), (1, S (A v1 v4), A v2 (R v5 1)), (1, v5, v3)] rfl h0 h1 h2 n0 (Nat.sub_le b 1)
theorem om438 (h0 : c - a = b + 1 + d) : a + (b + 1) ≤ c := nl fun n0 => (sub_or c a).elim (fun s1 => far5 c a b (c - a) d [(1, S v0, A v1 (S v2)), (1, A v3 v1, v0), (1, A (S v2) v4, v3)] rfl n0 s1.2 (eg h0)) (fun s1 => far3 (c - a) b d [(1, v0, N 0), (1, A (S v1) v2, v0)] rfl s1.2 (eg h0))
theorem om439 (h0 : c ≤ a ∧ a < b ∧ b ≤ c + (d - c)) : a ≤ b := nl fun n0 => far2 a b [(1, S v0, v1), (1, S v1, v0)] rfl h0.2.1 n0
theorem om440 (h0 : c ≤ b ∧ b < a ∧ a ≤ c + (d - c)) : a ≠ b := (fun n0 => far2 b a [(1, S v0, v1), (1, v1, v0)] rfl h0.2.1 (el n0))
theorem om441 (h0 : c ≤ d ∧ d < a ∧ a ≤ c + (b - c)) : a ≤ b := nl fun n0 => (sub_or b c).elim (fun s1 => far4 a c (b - c) b [(1, v0, A v1 v2), (1, S v3, v0), (1, A v2 v1, v3)] rfl h0.2.2 n0 s1.2) (fun s1 => far4 c d a (b - c) [(1, v0, v1), (1, S v1, v2), (1, v2, A v0 v3), (1, v3, N 0)] rfl h0.1 h0.2.1 h0.2.2 s1.2)
theorem om442 (h0 : d + 2 * c = a + b) : (a : Int) + (b : Int) - (2 : Int) * (c : Int) = (d : Int) := Int.le_antisymm (Int.not_lt.mp fun n0 => farI (.branch 2 (.branch 1 (.leaf ((a : Nat) : Int)) (.leaf ((b : Nat) : Int))) (.branch 3 (.leaf ((d : Nat) : Int)) (.leaf ((c : Nat) : Int)))) [(1, .add (.var 0) (.var 1), .add (.var 2) (.mulL 2 (.var 3))), (1, .add (.var 2) (.num 1), .sub (.add (.var 0) (.var 1)) (.mulL 2 (.var 3)))] rfl (Int.ofNat_le.mpr (eg h0)) n0) (Int.not_lt.mp fun n0 => farI (.branch 2 (.branch 1 (.leaf ((d : Nat) : Int)) (.leaf ((c : Nat) : Int))) (.branch 3 (.leaf ((a : Nat) : Int)) (.leaf ((b : Nat) : Int)))) [(1, .add (.var 0) (.mulL 2 (.var 1)), .add (.var 2) (.var 3)), (1, .add (.sub (.add (.var 2) (.var 3)) (.mulL 2 (.var 1))) (.num 1), .var 0)] rfl (Int.ofNat_le.mpr (el h0)) n0)
theorem om443 (h0 : 1000000 ≤ c) (h1 : d = a) (h2 : d ≤ 1000000) : a - b ≤ c := nl fun n0 => far4 c a d (a - b) [(1, N 1000000, v0), (1, v1, v2), (1, v2, N 1000000), (1, S v0, v3), (1, v3, v1)] rfl h0 (eg h1) h2 n0 (Nat.sub_le a b)
theorem om444 (h0 : a < b + c) (h1 : c ≤ d) (h2 : d = 8) : a < b + 8 := nt fun n0 => far4 a b c d [(1, S v0, A v1 v2), (1, v2, v3), (1, v3, N 8), (1, A v1 (N 8), v0)] rfl h0 h1 (el h2) n0
theorem om445 (h0 : a < b) (h1 : c < a ∧ a ≤ d) : a - 1 < b - 1 := nt fun n0 => (sub_or b 1).elim (fun s1 => (sub_or b 1).elim (fun s2 => (sub_or a 1).elim (fun s3 => far4 a b (a - 1) (b - 1) [(1, S v0, v1), (1, S v2, v0), (1, v1, S v3), (1, v3, v2)] rfl h0 s3.2 (sub_lo b 1) n0) (fun s3 => far5 c a b (b - 1) (a - 1) [(1, S v0, v1), (1, S v1, v2), (1, v3, v4), (1, v4, N 0), (1, v2, S v3)] rfl h1.1 h0 n0 s3.2 (sub_lo b 1))) (fun s2 => far3 a b c [(1, S v0, v1), (1, S v2, v0), (1, v1, N 1)] rfl h0 h1.1 s2.1)) (fun s1 => far3 a b c [(1, S v0, v1), (1, S v2, v0), (1, v1, N 1)] rfl h0 h1.1 s1.1)
theorem om446 (h0 : a < b) (h1 : ¬(a = c)) (h2 : c < b ∧ b ≤ d) (h3 : ¬(c < a ∧ a ≤ d)) : a < b - 1 := nt fun n0 => (Nat.lt_or_gt_of_ne h1).elim (fun s1 => far4 c b (b - 1) a [(1, S v0, v1), (1, v2, v3), (1, S v3, v0), (1, v1, S v2)] rfl h2.1 n0 s1 (sub_lo b 1)) (fun s1 => (Decidable.not_and_iff_not_or_not.mp h3).elim (fun s2 => far2 c a [(1, S v0, v1), (1, v1, v0)] rfl s1 (nl s2)) (fun s2 => far3 a b d [(1, S v0, v1), (1, v1, v2), (1, S v2, v0)] rfl h0 h2.2 (nt s2)))
theorem om448 (h0 : a = c) (h1 : c + d ≤ b) : a ≤ b := nl fun n0 => far4 a c d b [(1, v0, v1), (1, A v1 v2, v3), (1, S v3, v0)] rfl (el h0) h1 n0
theorem om449 (h0 : a = c) (h1 : b = d) (h2 : c = d) : a = b := Nat.le_antisymm (nl fun n0 => far4 a c d b [(1, v0, v1), (1, v2, v3), (1, v1, v2), (1, S v3, v0)] rfl (el h0) (eg h1) (el h2) n0) (nl fun n0 => far4 c a b d [(1, v0, v1), (1, v2, v3), (1, v3, v0), (1, S v1, v2)] rfl (eg h0) (el h1) (eg h2) n0)
theorem om450 (h0 : a ≤ b) (h1 : (b + c) / 2 < d) (h2 : d ≤ c) : a ≤ (b + c) / 2 := nl fun n0 => far5 a b ((b + c) / 2) d c [(1, v0, v1), (1, S v2, v3), (1, v3, v4), (1, S v2, v0), (1, S (A v1 v4), A (M 2 v2) (N 2))] rfl h0 h1 h2 n0 (div_hi (b + c) 2 (Nat.succ_pos _))
theorem om451 (h0 : a ≤ b) (h1 : a ≤ d) (h2 : d ≤ c) : a ≤ (b + c) / 2 + 1 := nl fun n0 => far5 a b d c ((b + c) / 2) [(1, v0, v1), (1, v0, v2), (1, v2, v3), (2, S (S v4), v0), (1, S (A v1 v3), A (M 2 v4) (N 2))] rfl h0 h1 h2 n0 (div_hi (b + c) 2 (Nat.succ_pos _))
theorem om452 (h0 : a ≤ b) (h1 : a ≤ d) (h2 : d ≤ c) : a ≤ (b + c) / 2 := nl fun n0 => far5 a b d c ((b + c) / 2) [(1, v0, v1), (1, v0, v2), (1, v2, v3), (2, S v4, v0), (1, S (A v1 v3), A (M 2 v4) (N 2))] rfl h0 h1 h2 n0 (div_hi (b + c) 2 (Nat.succ_pos _))
theorem om453 (h0 : a ≤ c) (h1 : c < d) (h2 : d ≤ b) : a + 1 ≤ b + 1 := nl fun n0 => far4 a c d b [(1, v0, v1), (1, S v1, v2), (1, v2, v3), (1, S (S v3), S v0)] rfl h0 h1 h2 n0
theorem om454 (h0 : a ≤ c) (h1 : c < d) (h2 : d ≤ b) : a ≤ b := nl fun n0 => far4 a c d b [(1, v0, v1), (1, S v1, v2), (1, v2, v3), (1, S v3, v0)] rfl h0 h1 h2 n0
theorem om455 (h0 : b < c + 1) (h1 : a < d ∧ d ≤ c) (h2 : d < b) : a < b ∧ b ≤ c := ⟨nt fun n0 => far3 a d b [(1, S v0, v1), (1, S v1, v2), (1, v2, v0)] rfl h1.1 h2 n0, nl fun n0 => far2 b c [(1, S v0, S v1), (1, S v1, v0)] rfl h0 n0⟩
theorem om456 (h0 : b < c + 1) (h1 : d < b) (h2 : d = a) : a < b ∧ b ≤ c := ⟨nt fun n0 => far3 d b a [(1, S v0, v1), (1, v2, v0), (1, v1, v2)] rfl h1 (eg h2) n0, nl fun n0 => far2 b c [(1, S v0, S v1), (1, S v1, v0)] rfl h0 n0⟩
theorem om457 (h0 : b < d) (h1 : d = a) : ¬(a < b ∧ b ≤ c) := (fun n0 => far3 b d a [(1, S v0, v1), (1, v1, v2), (1, S v2, v0)] rfl h0 (el h1) n0.1)
theorem om458 (h0 : b = c + d) : (8 * a + b : Int) - (8 * a + c : Int) = (d : Int) := Int.le_antisymm (Int.not_lt.mp fun n0 => farI (.branch 2 (.branch 1 (.leaf ((b : Nat) : Int)) (.leaf ((c : Nat) : Int))) (.branch 3 (.leaf ((d : Nat) : Int)) (.leaf ((a : Nat) : Int)))) [(1, .var 0, .add (.var 1) (.var 2)), (1, .add (.var 2) (.num 1), .sub (.add (.mulL 8 (.var 3)) (.var 0)) (.add (.mulL 8 (.var 3)) (.var 1)))] rfl (Int.ofNat_le.mpr (el h0)) n0) (Int.not_lt.mp fun n0 => farI (.branch 2 (.branch 1 (.leaf ((c : Nat) : Int)) (.leaf ((d : Nat) : Int))) (.branch 3 (.leaf ((b : Nat) : Int)) (.leaf ((a : Nat) : Int)))) [(1, .add (.var 0) (.var 1), .var 2), (1, .add (.sub (.add (.mulL 8 (.var 3)) (.var 2)) (.add (.mulL 8 (.var 3)) (.var 0))) (.num 1), .var 1)] rfl (Int.ofNat_le.mpr (eg h0)) n0)
theorem om459 (h0 : b = c) (h1 : a + (d + 1) = c) : a < b := nt fun n0 => far4 c b a d [(1, v0, v1), (1, A v2 (S v3), v0), (1, v1, v2)] rfl (eg h0) (el h1) n0
theorem om460 (h0 : b ≤ 100000) (h1 : c ≤ 4 * b + 7) (h2 : a ≤ 2 * min d c) : a + 2 ≤ 16777216 := nl fun n0 => far4 b c a (min d c) [(8, v0, N 100000), (2, v1, A (M 4 v0) (N 7)), (1, v2, M 2 v3), (1, S (N 16777216), A v2 (N 2)), (2, v3, v1)] rfl h0 h1 h2 n0 (Nat.min_le_right d c)
theorem om461 (h0 : b ≤ 1000000) (h1 : b = c) (h2 : a ≤ 7 * (c - d) + 11) : a < 2 ^ 64 := nt fun n0 => far4 b c a (c - d) [(7, v0, N 1000000), (7, v1, v0), (1, v2, A (M 7 v3) (N 11)), (1, N ((2 ^ 64)), v2), (7, v3, v1)] rfl h0 (eg h1) h2 n0 (Nat.sub_le c d)
theorem om462 (h0 : b ≤ a) (h1 : a < b + d) (h2 : d ≤ c) : a - b < c := nt fun n0 => (sub_or a b).elim (fun s1 => far5 a b d c (a - b) [(1, S v0, A v1 v2), (1, v2, v3), (1, v3, v4), (1, A v4 v1, v0)] rfl h1 h2 n0 s1.2) (fun s1 => far5 b a d c (a - b) [(1, v0, v1), (1, S v1, A v0 v2), (1, v2, v3), (1, v3, v4), (1, v4, N 0)] rfl h0 h1 h2 n0 s1.2)
theorem om463 (h0 : c < d) (h1 : ¬(b < a)) : a < b ∨ a = b ∧ c < d := ((Decidable.em _).elim .inl (fun n0 => .inr (⟨Nat.le_antisymm (nl fun n1 => far2 a b [(1, v0, v1), (1, S v1, v0)] rfl (nl h1) n1) (nl fun n1 => far2 b a [(1, v0, v1), (1, S v1, v0)] rfl (nl n0) n1), nt fun n1 => far2 c d [(1, S v0, v1), (1, v1, v0)] rfl h0 n1⟩)))
theorem om465 (h0 : c = d) : (-(a : Int)) < (-(b : Int)) ↔ c < d ∨ c = d ∧ b < a := ⟨fun n0 => (.inr (⟨Nat.le_antisymm (nl fun n1 => farI (.branch 1 (.leaf ((c : Nat) : Int)) (.leaf ((d : Nat) : Int))) [(1, .var 0, .var 1), (1, .add (.var 1) (.num 1), .var 0)] rfl (Int.ofNat_le.mpr (el h0)) (Int.ofNat_le.mpr n1)) (nl fun n1 => farI (.branch 1 (.leaf ((d : Nat) : Int)) (.leaf ((c : Nat) : Int))) [(1, .var 0, .var 1), (1, .add (.var 1) (.num 1), .var 0)] rfl (Int.ofNat_le.mpr (eg h0)) (Int.ofNat_le.mpr n1)), nt fun n1 => farI (.branch 1 (.leaf ((a : Nat) : Int)) (.leaf ((b : Nat) : Int))) [(1, .add (.neg (.var 0)) (.num 1), .neg (.var 1)), (1, .var 0, .var 1)] rfl n0 (Int.ofNat_le.mpr n1)⟩)), fun n0 => Int.not_le.mp fun n1 => n0.elim (fun s2 => farI (.branch 1 (.leaf ((d : Nat) : Int)) (.leaf ((c : Nat) : Int))) [(1, .var 0, .var 1), (1, .add (.var 1) (.num 1), .var 0)] rfl (Int.ofNat_le.mpr (eg h0)) (Int.ofNat_le.mpr s2)) (fun s2 => farI (.branch 1 (.leaf ((b : Nat) : Int)) (.leaf ((a : Nat) : Int))) [(1, .neg (.var 0), .neg (.var 1)), (1, .add (.var 0) (.num 1), .var 1)] rfl n1 (Int.ofNat_le.mpr s2.2))⟩
theorem om466 (h0 : ¬(a = b)) : a < b ↔ a < b ∨ a = b ∧ c < d := ⟨fun n0 => (.inl (nt fun n1 => far2 a b [(1, S v0, v1), (1, v1, v0)] rfl n0 n1)), fun n0 => nt fun n1 => (Nat.lt_or_gt_of_ne h0).elim (fun s2 => far2 b a [(1, v0, v1), (1, S v1, v0)] rfl n1 s2) (fun s2 => n0.elim (fun s3 => far2 b a [(1, v0, v1), (1, S v1, v0)] rfl n1 s3) (fun s3 => far2 b a [(1, S v0, v1), (1, v1, v0)] rfl s2 (el s3.1)))⟩
theorem om467 (h0 : a * b + a * 1 ≤ a * d) (h1 : c < a) : a * b + c < a * d + e := nt fun n0 => far5 (a * b) a (a * d) c e [(1, A v0 (R v1 1), v2), (1, S v3, v1), (1, A v2 v4, A v0 v3)] rfl h0 h1 n0
theorem om468 (h0 : c * a + c * 1 ≤ c * b) (h1 : d < c) (h2 : c * a + d = c * b + e) : a = b := Nat.le_antisymm (nl fun n0 => far5 (c * a) c (c * b) e d [(1, A v0 (R v1 1), v2), (1, A v2 v3, A v0 v4), (1, S v4, v1)] rfl h0 (eg h2) h1) (nl fun n0 => far5 (c * a) c (c * b) e d [(1, A v0 (R v1 1), v2), (1, A v2 v3, A v0 v4), (1, S v4, v1)] rfl h0 (eg h2) h1)
theorem om469 (h0 : c * b + c * 1 ≤ c * a) (h1 : d < c) (h2 : c * a + e = c * b + d) : a = b := Nat.le_antisymm (nl fun n0 => far5 (c * b) c (c * a) d e [(1, A v0 (R v1 1), v2), (1, S v3, v1), (1, A v2 v4, A v0 v3)] rfl h0 h1 (el h2)) (nl fun n0 => far5 (c * b) c (c * a) d e [(1, A v0 (R v1 1), v2), (1, S v3, v1), (1, A v2 v4, A v0 v3)] rfl h0 h1 (el h2))
theorem om470 (h0 : a - d < c + 1) (h1 : d ≤ e ∧ e < b ∧ b ≤ d + (a - d)) : a - b < c := nt fun n0 => (sub_or a d).elim (fun s1 => (sub_or a d).elim (fun s2 => (sub_or a b).elim (fun s3 => far7 (a - d) c d e b (a - b) a [(1, S v0, S v1), (1, v2, v3), (1, S v3, v4), (1, v1, v5), (1, A v5 v4, v6), (1, v6, A v0 v2)] rfl h0 h1.1 h1.2.1 n0 s3.2 (sub_lo a d)) (fun s3 => far6 (a - d) c d e b (a - b) [(1, S v0, S v1), (1, v2, v3), (1, S v3, v4), (1, v4, A v2 v0), (1, v1, v5), (1, v5, N 0)] rfl h0 h1.1 h1.2.1 h1.2.2 n0 s3.2)) (fun s2 => far4 (a - d) d e b [(1, v0, N 0), (1, v1, v2), (1, S v2, v3), (1, v3, A v1 v0)] rfl s2.2 h1.1 h1.2.1 h1.2.2)) (fun s1 => far4 d e b (a - d) [(1, v0, v1), (1, S v1, v2), (1, v2, A v0 v3), (1, v3, N 0)] rfl h1.1 h1.2.1 h1.2.2 s1.2)
theorem om471 (h0 : b + d ≤ a) (h1 : a < b + e) (h2 : c = e) : a - b < c := nt fun n0 => (sub_or a b).elim (fun s1 => far5 a b e c (a - b) [(1, S v0, A v1 v2), (1, v2, v3), (1, v3, v4), (1, A v4 v1, v0)] rfl h1 (eg h2) n0 s1.2) (fun s1 => far6 b d a e c (a - b) [(1, A v0 v1, v2), (1, S v2, A v0 v3), (1, v3, v4), (1, v4, v5), (1, v5, N 0)] rfl h0 h1 (eg h2) n0 s1.2)
theorem om472 (h0 : a = d) (h1 : d + e ≤ c) (h2 : b = e) : a + b ≤ c + 1 := nl fun n0 => far5 a d e c b [(1, v0, v1), (1, A v1 v2, v3), (1, v4, v2), (1, S (S v3), A v0 v4)] rfl (el h0) h1 (el h2) n0
theorem om473 (h0 : a = d) (h1 : d + e ≤ c) (h2 : b = e) : a + b ≤ c := nl fun n0 => far5 a d e c b [(1, v0, v1), (1, A v1 v2, v3), (1, v4, v2), (1, S v3, A v0 v4)] rfl (el h0) h1 (el h2) n0
theorem om474 (h0 : a ≤ c) (h1 : b ≤ d) (h2 : c ≤ d) (h3 : d ≤ e) (h4 : e ≤ 1000000) : ((a + b) / 2 : Int) < (2 : Int) ^ 63 := Int.not_le.mp fun n0 => farI (.branch 3 (.branch 1 (.leaf ((a : Nat) : Int)) (.branch 2 (.leaf ((c : Nat) : Int)) (.leaf ((b : Nat) : Int)))) (.branch 4 (.leaf ((d : Nat) : Int)) (.branch 5 (.leaf ((e : Nat) : Int)) (.leaf ((((a + b) / 2) : Nat) : Int))))) [(1, .var 0, .var 1), (1, .var 2, .var 3), (1, .var 1, .var 3), (2, .var 3, .var 4), (2, .var 4, .num 1000000), (2, .num (((2 : Int) ^ 63)), .var 5), (1, .mulL 2 (.var 5), .add (.var 0) (.var 2))] rfl (Int.ofNat_le.mpr h0) (Int.ofNat_le.mpr h1) (Int.ofNat_le.mpr h2) (Int.ofNat_le.mpr h3) (Int.ofNat_le.mpr h4) n0 (Int.ofNat_le.mpr (Nat.mul_div_le (a + b) 2))
theorem om475 (h0 : c < b) (h1 : d ≤ c) (h2 : (e + d) / 2 < d) (h3 : a < (e + d) / 2 + 1) : a < b := nt fun n0 => far5 c b d ((e + d) / 2) a [(1, S v0, v1), (1, v2, v0), (1, S v3, v2), (1, S v4, S v3), (1, v1, v4)] rfl h0 h1 h2 h3 n0
theorem om476 (h0 : ¬(c < a)) (h1 : c < b ∨ c = b ∧ d < e) : a ≤ b := nl fun n0 => h1.elim (fun s1 => far3 a c b [(1, v0, v1), (1, S v2, v0), (1, S v1, v2)] rfl (nl h0) n0 s1) (fun s1 => far3 a c b [(1, v0, v1), (1, S v2, v0), (1, v1, v2)] rfl (nl h0) n0 (el s1.1))
theorem om477 (h0 : 1000000 ≤ c) (h1 : d ≤ 1000000) (h2 : d = e) (h3 : b ≤ a ∧ a < f ∧ f ≤ b + (e - b)) : a - b ≤ c := nl fun n0 => (sub_or e b).elim (fun s1 => far8 c d e a f b (e - b) (a - b) [(1, N 1000000, v0), (1, v1, N 1000000), (1, v2, v1), (1, S v3, v4), (1, v4, A v5 v6), (1, S v0, v7), (1, A v6 v5, v2), (1, v7, v3)] rfl h0 h1 (eg h2) h3.2.1 h3.2.2 n0 s1.2 (Nat.sub_le a b)) (fun s1 => far4 (e - b) b a f [(1, v0, N 0), (1, v1, v2), (1, S v2, v3), (1, v3, A v1 v0)] rfl s1.2 h3.1 h3.2.1 h3.2.2)
theorem om478 (h0 : 1000000 ≤ c) (h1 : d ≤ 1000000) (h2 : d = e) (h3 : f ≤ b ∧ b < a ∧ a ≤ f + (e - f)) : a - b ≤ c := nl fun n0 => (sub_or e f).elim (fun s1 => far7 c d e a f (e - f) (a - b) [(1, N 1000000, v0), (1, v1, N 1000000), (1, v2, v1), (1, v3, A v4 v5), (1, S v0, v6), (1, A v5 v4, v2), (1, v6, v3)] rfl h0 h1 (eg h2) h3.2.2 n0 s1.2 (Nat.sub_le a b)) (fun s1 => far4 (e - f) f b a [(1, v0, N 0), (1, v1, v2), (1, S v2, v3), (1, v3, A v1 v0)] rfl s1.2 h3.1 h3.2.1 h3.2.2)
theorem om479 (h0 : a = d) (h1 : d + e ≤ c) (h2 : b = f) (h3 : f = e) : a + b ≤ c := nl fun n0 => far6 a d e c b f [(1, v0, v1), (1, A v1 v2, v3), (1, v4, v5), (1, v5, v2), (1, S v3, A v0 v4)] rfl (el h0) h1 (el h2) (el h3) n0
theorem om480 (h0 : b < 4) (h1 : c < 4) (h2 : e < 4) (h3 : f < 4) : 4 * (4 * (4 * 0 + a) + b) + c = 4 * (4 * (4 * 0 + d) + e) + f ↔ a = d ∧ b = e ∧ c = f := ⟨fun n => ⟨Nat.add_left_cancel (dig4 h0 h2 (dig4 h1 h3 n).1).1, (dig4 h0 h2 (dig4 h1 h3 n).1).2, (dig4 h1 h3 n).2⟩, fun n => by rw [n.1, n.2.1, n.2.2]⟩
theorem om481 (h0 : c < d) (h1 : ¬(e < a)) (h2 : e < b ∨ e = b ∧ c < f) : a < b ∨ a = b ∧ c < d := ((Decidable.em _).elim .inl (fun n0 => .inr (⟨Nat.le_antisymm (nl fun n1 => h2.elim (fun s2 => far3 a e b [(1, v0, v1), (1, v2, v0), (1, S v1, v2)] rfl (nl h1) (nl n0) s2) (fun s2 => far3 a e b [(1, v0, v1), (1, S v2, v0), (1, v1, v2)] rfl (nl h1) n1 (el s2.1))) (nl fun n1 => far2 b a [(1, v0, v1), (1, S v1, v0)] rfl (nl n0) n1), nt fun n1 => far2 c d [(1, S v0, v1), (1, v1, v0)] rfl h0 n1⟩)))
theorem om482 {f : Prop} (h0 : a = d) (h1 : b = e) (h2 : d + e ≤ c ∧ f) : a + b ≤ c := nl fun n0 => far5 a d b e c [(1, v0, v1), (1, v2, v3), (1, A v1 v3, v4), (1, S v4, A v0 v2)] rfl (el h0) (el h1) h2.1 n0
theorem om483 {d : Prop} (h0 : a = c) (h1 : c ≤ b ∧ d) : a ≤ b := nl fun n0 => far3 a c b [(1, v0, v1), (1, v1, v2), (1, S v2, v0)] rfl (el h0) h1.1 n0
theorem om484 {d : Prop} {f : Prop} (h0 : d ∧ e = 0 ∧ b + 1 ≤ a ∧ a ≤ b + 1 + c ∧ f) : a ≤ b + (c + 1) := nl fun n0 => far3 a b c [(1, v0, A (S v1) v2), (1, A (A v1 (S v2)) (N 1), v0)] rfl h0.2.2.2.1 n0
theorem om485 {d : Prop} {e : Prop} (h0 : a + 1 ≤ b ∧ b ≤ a + 1 + c ∧ d ∧ (b < a + 1 + c → e)) : a ≤ b := nl fun n0 => far2 a b [(1, S v0, v1), (1, S v1, v0)] rfl h0.1 n0
theorem om486 {d : Prop} {e : Prop} (h0 : b + 1 ≤ a ∧ a ≤ b + 1 + c ∧ d ∧ (a < b + 1 + c → e)) : a ≤ b + (c + 1) := nl fun n0 => far3 a b c [(1, v0, A (S v1) v2), (1, A (A v1 (S v2)) (N 1), v0)] rfl h0.2.1 n0
theorem om487 {d : Prop} {e : Prop} (h0 : 1 ≤ b) (h1 : b ≤ a ∧ a ≤ b + (c - b) ∧ d ∧ (a < b + (c - b) → e)) : 1 ≤ a := nl fun n0 => far2 b a [(1, N 1, v0), (1, v0, v1), (1, S v1, N 1)] rfl h0 h1.1 n0
theorem om488 {d : Prop} {e : Prop} (h0 : c ≤ b) (h1 : c ≤ a ∧ a ≤ c + (b - c) ∧ d ∧ (a < c + (b - c) → e)) : a ≤ b := nl fun n0 => (sub_or b c).elim (fun s1 => far4 a c (b - c) b [(1, v0, A v1 v2), (1, S v3, v0), (1, A v2 v1, v3)] rfl h1.2.1 n0 s1.2) (fun s1 => far4 c b a (b - c) [(1, v0, v1), (1, v2, A v0 v3), (1, S v1, v2), (1, v3, N 0)] rfl h0 h1.2.1 n0 s1.2)
theorem om489 {c : Prop} (h0 : (a : Int) = (b : Int) ∧ c) : a = b := Nat.le_antisymm (nl fun n0 => farI (.branch 1 (.leaf ((a : Nat) : Int)) (.leaf ((b : Nat) : Int))) [(1, .var 0, .var 1), (1, .add (.var 1) (.num 1), .var 0)] rfl (Int.le_of_eq h0.1) (Int.ofNat_le.mpr n0)) (nl fun n0 => farI (.branch 1 (.leaf ((b : Nat) : Int)) (.leaf ((a : Nat) : Int))) [(1, .var 0, .var 1), (1, .add (.var 1) (.num 1), .var 0)] rfl (Int.le_of_eq h0.1.symm) (Int.ofNat_le.mpr n0))
theorem om490 {c : Prop} (h0 : a + 0 = b) : ¬(a < b ∧ c) := (fun n0 => far2 b a [(1, v0, A v1 (N 0)), (1, S v1, v0)] rfl (eg h0) n0.1)
theorem om491 {c : Prop} {f : Prop} (h0 : c ∧ d = 0 ∧ a + 1 ≤ b ∧ b ≤ a + 1 + e ∧ f) : a ≤ b := nl fun n0 => far2 a b [(1, S v0, v1), (1, S v1, v0)] rfl h0.2.2.1 n0
theorem om492 {a : Prop} (h0 : a ∧ b ≤ c ∧ c - b < 0) : False := far1 (c - b) [(1, S v0, N 0)] rfl h0.2.2
theorem om493 {a : Prop} {b : Prop} (h0 : c + 1 ≤ 0) : a ∧ b := absurd h0 (Nat.not_lt_zero _)
theorem om494 {a : Prop} {b : Prop} (h0 : c + (d + 1) ≤ 0) : a ∧ b := absurd h0 (Nat.not_lt_zero _)
theorem om214 (h0 : (a : Int) / (2 : Int) = (b : Int) / (2 : Int) ∧ (a : Int) % (2 : Int) = (b : Int) % (2 : Int)) (h1 : a ≠ b) : False := om225 (Int.ofNat.inj h0.2) (Int.ofNat.inj h0.1) h1
theorem om215 (h0 : (a : Int) % (2 : Int) = (b : Int) % (2 : Int)) (h1 : a / 2 = b / 2) (h2 : a ≠ b) : False := om225 (Int.ofNat.inj h0) h1 h2
theorem omA1 {a b c d e : Nat} (h0 : a * b + a * 1 ≤ a * d) (h1 : c < a) (h2 : a * d + e < a * b + c) : False := far5 (a * b) a (a * d) c e [(1, A v0 (R v1 1), v2), (1, S v3, v1), (1, S (A v2 v4), A v0 v3)] rfl h0 h1 h2
theorem omA2 {a b c x y z : Nat} (h0 : a < b ∨ a = b ∧ y < x) (h1 : b < c ∨ b = c ∧ z < y) : a < c ∨ a = c ∧ z < x := ((Decidable.em _).elim .inl (fun n0 => .inr (⟨Nat.le_antisymm (Nat.le_of_not_lt fun n1 => h0.elim (fun s2 => h1.elim (fun s3 => far3 c a b [(1, v0, v1), (1, S v1, v2), (1, S v2, v0)] rfl (Nat.le_of_not_lt n0) s2 s3) (fun s3 => far3 c a b [(1, v0, v1), (1, S v1, v2), (1, v2, v0)] rfl (Nat.le_of_not_lt n0) s2 (Nat.le_of_eq s3.1))) (fun s2 => h1.elim (fun s3 => far3 c a b [(1, v0, v1), (1, v1, v2), (1, S v2, v0)] rfl (Nat.le_of_not_lt n0) (Nat.le_of_eq s2.1) s3) (fun s3 => far3 c a b [(1, S v0, v1), (1, v1, v2), (1, v2, v0)] rfl n1 (Nat.le_of_eq s2.1) (Nat.le_of_eq s3.1)))) (Nat.le_of_not_lt fun n1 => far2 c a [(1, v0, v1), (1, S v1, v0)] rfl (Nat.le_of_not_lt n0) n1), Nat.lt_of_not_le fun n1 => h0.elim (fun s2 => h1.elim (fun s3 => far3 c a b [(1, v0, v1), (1, S v1, v2), (1, S v2, v0)] rfl (Nat.le_of_not_lt n0) s2 s3) (fun s3 => far3 c a b [(1, v0, v1), (1, S v1, v2), (1, v2, v0)] rfl (Nat.le_of_not_lt n0) s2 (Nat.le_of_eq s3.1))) (fun s2 => h1.elim (fun s3 => far3 c a b [(1, v0, v1), (1, v1, v2), (1, S v2, v0)] rfl (Nat.le_of_not_lt n0) (Nat.le_of_eq s2.1) s3) (fun s3 => far3 x z y [(1, v0, v1), (1, S v2, v0), (1, S v1, v2)] rfl n1 s2.2 s3.2))⟩)))
theorem omA3 {a b x y : Nat} (h0 : a < b ∨ a = b ∧ y < x) (h1 : b < a ∨ b = a ∧ x < y) : False := h0.elim (fun s0 => h1.elim (fun s1 => far2 a b [(1, S v0, v1), (1, S v1, v0)] rfl s0 s1) (fun s1 => far2 a b [(1, S v0, v1), (1, v1, v0)] rfl s0 (Nat.le_of_eq s1.1))) (fun s0 => h1.elim (fun s1 => far2 a b [(1, v0, v1), (1, S v1, v0)] rfl (Nat.le_of_eq s0.1) s1) (fun s1 => far2 y x [(1, S v0, v1), (1, S v1, v0)] rfl s0.2 s1.2))
theorem omA4 {p q e k n : Nat} (h0 : p = q) (h1 : p + k = e) (h2 : 1 ≤ k) (h3 : k ≤ n) : p ≤ q ∧ q < e ∧ e ≤ p + n := ⟨Nat.le_of_not_lt fun n0 => far2 p q [(1, v0, v1), (1, S v1, v0)] rfl (Nat.le_of_eq h0) n0, ⟨Nat.lt_of_not_le fun n0 => far4 q p k e [(1, v0, v1), (1, A v1 v2, v3), (1, N 1, v2), (1, v3, v0)] rfl (Nat.le_of_eq h0.symm) (Nat.le_of_eq h1) h2 n0, Nat.le_of_not_lt fun n0 => far4 e p k n [(1, v0, A v1 v2), (1, v2, v3), (1, S (A v1 v3), v0)] rfl (Nat.le_of_eq h1.symm) h3 n0⟩⟩
theorem omA5 {a b : Nat} (h0 : a ≤ b) (h1 : b ≤ 200) : a ≤ 16777216 := Nat.le_of_not_lt fun n0 => far2 a b [(1, v0, v1), (1, v1, N 200), (1, S (N 16777216), v0)] rfl h0 h1 n0
theorem omA6 {a b : Nat} (h0 : a ≤ b + 1) (h1 : b ≤ 4 * 3) : a ≤ 13 := Nat.le_of_not_lt fun n0 => far2 a b [(1, v0, S v1), (1, v1, M 4 (N 3)), (1, S (N 13), v0)] rfl h0 h1 n0
theorem omA7 {d s l : Nat} (h0 : s ≤ 2 * l) (h1 : d < 3) : d + s ≤ 2 * (l + 1) := Nat.le_of_not_lt fun n0 => far3 s l d [(1, v0, M 2 v1), (1, S v2, N 3), (1, A (M 2 (S v1)) (N 1), A v2 v0)] rfl h0 h1 n0
theorem omA8 {a b : Nat} (h0 : a ≤ 10 * b + 2) (h1 : b ≤ 300) : a ≤ 16777216 := Nat.le_of_not_lt fun n0 => far2 a b [(1, v0, A (M 10 v1) (N 2)), (10, v1, N 300), (1, S (N 16777216), v0)] rfl h0 h1 n0
theorem omA9 {a b : Nat} (h0 : a ≤ b + 1) (h1 : b ≤ 4 * 3) : a ≤ 16777216 := Nat.le_of_not_lt fun n0 => far2 a b [(1, v0, S v1), (1, v1, M 4 (N 3)), (1, S (N 16777216), v0)] rfl h0 h1 n0
end Mine
end
section
open PySem PySem.W PyProof.Rows
namespace Mine
inductive V where
  | none
  | bool (b : Bool)
  | int (i : Int)
  | str (s : Str)
  | list (xs : List V)
  | glob (v : Value)
noncomputable abbrev GM := Addr → Option Obj
noncomputable def GM.le (G G' : GM) : Prop := ∀ a o, G a = some o → G' a = some o
theorem GM.le.refl (G : GM) : G.le G := fun _ _ e => e
theorem GM.le.trans {G G' G'' : GM} (x : G.le G') (y : G'.le G'') : G.le G'' := fun a o e => y a o (x a o e)
noncomputable def lobj (vs : Array Value) (n : Nat) : Obj := { cls := .type "list", data := .seq vs n }
mutual
inductive Rep (G : GM) : Value → V → Prop
  | none : Rep G .none .none
  | bool (b : Bool) : Rep G (.bool b) (.bool b)
  | int (i : Int) (t : Tok) : Rep G (.int i t) (.int i)
  | str (s : Str) (t : Tok) : Rep G (.str s t) (.str s)
  | glob (v : Value) : Rep G v (.glob v)
  | list {a : Addr} {vs : Array Value} {n : Nat} {xs : List V} : G a = some (lobj vs n) → Reps G vs.toList xs → Rep G (.ref a) (.list xs)
inductive Reps (G : GM) : List Value → List V → Prop
  | nil : Reps G [] []
  | cons {v : Value} {x : V} {vs : List Value} {xs : List V} : Rep G v x → Reps G vs xs → Reps G (v :: vs) (x :: xs)
end
mutual
theorem Rep.mono {G G' : GM} (hG : G.le G') : ∀ {v : Value} {x : V}, Rep G v x → Rep G' v x
  | _, _, .none => .none
  | _, _, .bool b => .bool b
  | _, _, .int i t => .int i t
  | _, _, .str s t => .str s t
  | _, _, .glob v => .glob v
  | _, _, .list h r => .list (hG _ _ h) (Reps.mono hG r)
theorem Reps.mono {G G' : GM} (hG : G.le G') : ∀ {vs : List Value} {xs : List V}, Reps G vs xs → Reps G' vs xs
  | _, _, .nil => .nil
  | _, _, .cons h r => .cons (Rep.mono hG h) (Reps.mono hG r)
end
theorem Reps.length {G : GM} : ∀ {vs : List Value} {xs : List V}, Reps G vs xs → vs.length = xs.length
  | _, _, .nil => rfl
  | _, _, .cons _ r => congrArg (· + 1) (Reps.length r)
theorem Reps.get {G : GM} : ∀ {vs : List Value} {xs : List V} {i : Nat} {x : V}, Reps G vs xs → xs[i]? = some x → ∃ v, vs[i]? = some v ∧ Rep G v x
  | _, _, 0, _, .cons h _, e => ⟨_, rfl, by cases e; exact h⟩
  | _, _, i + 1, _, .cons _ r, e => Reps.get (i := i) r (by simpa using e)
theorem Reps.append {G : GM} {vs ws : List Value} {xs ys : List V} : Reps G vs xs → Reps G ws ys → Reps G (vs ++ ws) (xs ++ ys)
  | .nil, k => k
  | .cons h r, k => .cons h (Reps.append r k)
theorem Reps.snoc {G : GM} {vs : List Value} {xs : List V} {v : Value} {x : V} (h : Reps G vs xs) (k : Rep G v x) : Reps G (vs ++ [v]) (xs ++ [x]) := h.append (.cons k .nil)
theorem Reps.drop {G : GM} : ∀ (n : Nat) {vs : List Value} {xs : List V}, Reps G vs xs → Reps G (vs.drop n) (xs.drop n)
  | 0, _, _, h => h
  | _ + 1, _, _, .nil => .nil
  | n + 1, _, _, .cons _ r => Reps.drop n r
theorem Reps.take {G : GM} : ∀ (n : Nat) {vs : List Value} {xs : List V}, Reps G vs xs → Reps G (vs.take n) (xs.take n)
  | 0, _, _, _ => .nil
  | _ + 1, _, _, .nil => .nil
  | n + 1, _, _, .cons h r => .cons h (Reps.take n r)
structure Wd where
  prog : Program
  w : World
  os : OsState
  H0 : Heap
noncomputable def FF (H0 h : Heap) (l : List Env) : Prop :=
  ∀ env ∈ l, env.scope.kind ≠ .module ∧ ∃ L o es n, env.frame = some L ∧ H0.get? L = none ∧ h.get? L = some o ∧ o.data = .dict es n
noncomputable def fsOf (A : Around) : List Addr := (A.frames.getD []).filterMap (·.frame)
noncomputable def KeepF (fs : List Addr) (ex : Addr → Prop) (h h' : GM) : Prop :=
  ∀ b o, h b = some o → ∃ o', h' b = some o' ∧ (¬ ex b → (b ∉ fs → o' = o) ∧ ∃ sl, o' = { o with slots := sl })
theorem KeepF.trans {fs ex h h' h''} (x : KeepF fs ex h h') (y : KeepF fs ex h' h'') : KeepF fs ex h h'' := fun b o e => by
  obtain ⟨o', e', p⟩ := x b o e
  obtain ⟨o'', e'', q⟩ := y b o' e'
  refine ⟨o'', e'', fun hx => ?_⟩
  obtain ⟨p1, sl, rfl⟩ := p hx
  obtain ⟨q1, sl', rfl⟩ := q hx
  exact ⟨fun hm => (q1 hm).trans (p1 hm), sl', rfl⟩
theorem KeepF.of_keeps {fs ex} {h h' : GM} (k : ∀ b o, h b = some o → h' b = some o) : KeepF fs ex h h' := fun b o e => ⟨o, k b o e, fun _ => ⟨fun _ => rfl, o.slots, rfl⟩⟩
structure Fx where
  env : Env
  A : Around
  h₀ : GM
  G₀ : GM
  ex : Addr → Prop
  own : Bool
  pin : List (Str × Addr)
noncomputable def Fx.fs (c : Fx) : List Addr := fsOf c.A
structure AOk (k : Nat) (A : Around) : Prop where
  hand : A.handled = none
  depth : A.depth + k < recursionLimit
  units : A.units + 3 * k + 100 < cLine
  frames : ∃ l, A.frames = some l
inductive Slot where
  | val (v : V)
  | own (xs : List V)
noncomputable abbrev Rho := List (Str × Slot)
structure Gh where
  G : GM
  adr : Str → Addr
  m : Str → Option Value
  X : GM
noncomputable def Gh.le (g g' : Gh) : Prop := g.G.le g'.G ∧ g'.X = g.X
theorem Gh.le.of {g : Gh} {G' : GM} (h : g.G.le G') : g.le { g with G := G' } := ⟨h, rfl⟩
theorem Gh.le.refl (g : Gh) : g.le g := ⟨.refl _, rfl⟩
theorem Gh.le.trans {g g' g'' : Gh} (x : g.le g') (y : g'.le g'') : g.le g'' := ⟨x.1.trans y.1, y.2.trans x.2⟩
noncomputable def VarAt (c : Fx) (g : Gh) (h : Heap) (x : Str) (v : Value) : Prop :=
  (c.env.kindOf x = some .local ∧ g.m x = some v) ∨
  ((c.env.kindOf x = some .cell ∨ c.env.kindOf x = some .free) ∧ ∃ a, c.env.cells.lookup x = some a ∧ h.IsCell a (some v))
noncomputable def SlotOk (W : Wd) (c : Fx) (g : Gh) (h : Heap) (x : Str) : Slot → Prop
  | .val v => ∃ val, VarAt c g h x val ∧ Rep g.G val v
  | .own xs => VarAt c g h x (.ref (g.adr x)) ∧ (∃ vs n, h.get? (g.adr x) = some (lobj vs n) ∧ Reps g.G vs.toList xs) ∧ g.G (g.adr x) = none ∧ W.H0.get? (g.adr x) = none ∧
      (c.h₀ (g.adr x) = none ∨ (c.ex (g.adr x) ∧ (c.pin.lookup x).isSome = true))
structure Sim (W : Wd) (c : Fx) (ρ : Rho) (g : Gh) (s : Shared) : Prop where
  gens : s.gens = #[]
  os : s.os = W.os
  base : ∀ b o, W.H0.get? b = some o → s.heap.get? b = some o
  keep : KeepF c.fs c.ex c.h₀ s.heap.get?
  fr : ∀ b o, g.G b = some o → s.heap.get? b = some o
  gin : c.G₀.le g.G
  gnew : ∀ b o, g.G b = some o → c.G₀ b = some o ∨ c.h₀ b = none
  glist : ∀ b o, g.G b = some o → ∃ vs n, o = lobj vs n
  frames : FF W.H0 s.heap (c.A.frames.getD [])
  ns : s.heap.Ns c.env.locals g.m
  loc0 : c.h₀ c.env.locals = none
  locH : W.H0.get? c.env.locals = none
  cells : ∀ x a, c.env.cells.lookup x = some a → ∃ v, s.heap.IsCell a v
  cells0 : c.own = true → ∀ x a, c.env.cells.lookup x = some a → c.h₀ a = none ∧ W.H0.get? a = none ∧ ∀ y, c.env.cells.lookup y = some a → y = x
  slot : ∀ x sl, ρ.lookup x = some sl → SlotOk W c g s.heap x sl
  apart : ∀ x y xs ys, ρ.lookup x = some (.own xs) → ρ.lookup y = some (.own ys) → g.adr x = g.adr y → x = y
  pin : ∀ x a xs, c.pin.lookup x = some a → ρ.lookup x = some (.own xs) → g.adr x = a
  xp : ∀ b o, g.X b = some o → s.heap.get? b = some o
  xk : ∀ b o, g.X b = some o → ∃ vs, o.data = .fields vs
end Mine
end
section
open PySem PySem.W PyProof.Rows
namespace Mine
theorem Ns_of_slots {h h' : Heap} {a : Addr} {m : Str → Option Value} (hn : h.Ns a m) (k : ∀ o, h.get? a = some o → ∃ sl, h'.get? a = some { o with slots := sl }) : h'.Ns a m := by
  obtain ⟨o, es, ep, ho, hd, r⟩ := hn
  obtain ⟨sl, e⟩ := k o ho
  exact ⟨_, es, ep, e, hd, r⟩
theorem KeepF.slots {fs ex h h'} (k : KeepF fs ex h h') {b o} (hx : ¬ ex b) (e : h b = some o) : ∃ sl, h' b = some { o with slots := sl } := by
  obtain ⟨o', e', p⟩ := k b o e
  obtain ⟨_, sl, rfl⟩ := p hx
  exact ⟨sl, e'⟩
theorem KeepF.exact {fs ex h h'} (k : KeepF fs ex h h') {b o} (hx : ¬ ex b) (hm : b ∉ fs) (e : h b = some o) : h' b = some o := by
  obtain ⟨o', e', p⟩ := k b o e
  obtain ⟨q, _⟩ := p hx
  rw [e', q hm]
theorem KeepF.none {fs ex h h'} (k : KeepF fs ex h h') {b} (e : h' b = none) : h b = none := by
  cases q : h b with
  | none => rfl
  | some o => obtain ⟨o', e', _⟩ := k b o q; rw [e] at e'; cases e'
theorem Heap.IsCell.of_slots {h h' : Heap} {a : Addr} {v : Option Value} (x : h.IsCell a v) (k : ∀ o, h.get? a = some o → ∃ sl, h'.get? a = some { o with slots := sl }) : h'.IsCell a v := by
  obtain ⟨o, ho, hd⟩ := x
  obtain ⟨sl, e⟩ := k o ho
  exact ⟨_, e, hd⟩
theorem FF.of_keep {H0 h h' : Heap} {l : List Env} {fs} (F : FF H0 h l) (k : KeepF fs (fun _ => False) h.get? h'.get?) : FF H0 h' l := fun env he => by
  obtain ⟨hk, L, o, es, n, hf, h0, ho, hd⟩ := F env he
  obtain ⟨sl, e⟩ := k.slots (fun x => x) ho
  exact ⟨hk, L, _, es, n, hf, h0, e, hd⟩
theorem FF.mem {H0 h : Heap} {A : Around} {b : Addr} (F : FF H0 h (A.frames.getD [])) (hm : b ∈ fsOf A) : H0.get? b = none ∧ ∃ o es n, h.get? b = some o ∧ o.data = .dict es n := by
  obtain ⟨env, he, hf⟩ := List.mem_filterMap.mp hm
  obtain ⟨_, L, o, es, n, hf', h0, ho, hd⟩ := F env he
  rw [hf'] at hf; cases hf
  exact ⟨h0, o, es, n, ho, hd⟩
theorem not_fs_of_lobj {H0 h : Heap} {A : Around} {b : Addr} {vs n} (F : FF H0 h (A.frames.getD [])) (e : h.get? b = some (lobj vs n)) : b ∉ fsOf A := fun hm => by
  obtain ⟨_, o, es, k, ho, hd⟩ := F.mem hm
  rw [e] at ho; cases ho; cases hd
theorem base_of_keep {W : Wd} {h h' : Heap} {A : Around} (F : FF W.H0 h (A.frames.getD [])) (b0 : ∀ b o, W.H0.get? b = some o → h.get? b = some o) (k : KeepF (fsOf A) (fun _ => False) h.get? h'.get?) :
    ∀ b o, W.H0.get? b = some o → h'.get? b = some o := fun b o e => by
  refine k.exact (fun x => x) (fun hm => ?_) (b0 b o e)
  rw [(F.mem hm).1] at e; cases e
section
variable {W : Wd} {c : Fx} {ρ : Rho} {g : Gh} {s s' : Shared}
theorem VarAt.mono {h h' : Heap} {x : Str} {v : Value} (p : VarAt c g h x v) (k : KeepF c.fs (fun _ => False) h.get? h'.get?) (G' : GM) : VarAt c { g with G := G' } h' x v := by
  rcases p with p | ⟨p, a, q, r⟩
  · exact .inl p
  · exact .inr ⟨p, a, q, Heap.IsCell.of_slots r fun o e => k.slots (fun x => x) e⟩
theorem Sim.after (S : Sim W c ρ g s) {G' : GM} (hg : s'.gens = #[]) (hos : s'.os = W.os) (hk : KeepF c.fs (fun _ => False) s.heap.get? s'.heap.get?) (hG : g.G.le G')
    (hnew : ∀ b o, G' b = some o → g.G b = some o ∨ s.heap.get? b = none) (hfr : ∀ b o, G' b = some o → s'.heap.get? b = some o) (hl : ∀ b o, G' b = some o → ∃ vs n, o = lobj vs n) :
    Sim W c ρ { g with G := G' } s' where
  gens := hg
  os := hos
  base := base_of_keep S.frames S.base hk
  keep := S.keep.trans fun b o e => let ⟨o', e', p⟩ := hk b o e; ⟨o', e', fun _ => p fun x => x⟩
  fr := hfr
  gin := S.gin.trans hG
  gnew := fun b o e => by
    rcases hnew b o e with q | q
    · exact S.gnew b o q
    · exact .inr (S.keep.none q)
  glist := hl
  frames := S.frames.of_keep hk
  ns := Ns_of_slots S.ns fun o e => hk.slots (fun x => x) e
  loc0 := S.loc0
  locH := S.locH
  cells := fun x a e => let ⟨v, q⟩ := S.cells x a e; ⟨v, Heap.IsCell.of_slots q fun o e => hk.slots (fun x => x) e⟩
  cells0 := S.cells0
  slot := fun x sl e => by
    have q := S.slot x sl e
    cases sl with
    | val v => obtain ⟨val, q1, q2⟩ := q; exact ⟨val, q1.mono hk G', q2.mono hG⟩
    | own xs =>
      obtain ⟨q1, ⟨vs, n, q2, q3⟩, q4, q5, q6⟩ := q
      refine ⟨q1.mono hk G', ⟨vs, n, hk.exact (fun x => x) (not_fs_of_lobj S.frames q2) q2, q3.mono hG⟩, ?_, q5, q6⟩
      show G' (g.adr x) = none
      cases e' : G' (g.adr x) with
      | none => rfl
      | some o =>
        rcases hnew _ _ e' with z | z
        · rw [q4] at z; cases z
        · rw [q2] at z; cases z
  apart := S.apart
  pin := S.pin
  xp := fun b o e => hk.exact (fun x => x) (fun hm => by
    obtain ⟨_, o', _, _, ho', hd'⟩ := S.frames.mem hm
    obtain ⟨vs, hd⟩ := S.xk b o e
    rw [S.xp b o e] at ho'; cases ho'; rw [hd] at hd'; cases hd') (S.xp b o e)
  xk := S.xk
theorem Sim.keeps (S : Sim W c ρ g s) {h' : Heap} {tk : Nat} {dr : Drawn} (k : ∀ b o, s.heap.get? b = some o → h'.get? b = some o) : Sim W c ρ g { s with heap := h', toks := tk, drawn := dr } :=
  S.after (G' := g.G) (s' := { s with heap := h', toks := tk, drawn := dr }) S.gens S.os (.of_keeps k) (.refl _) (fun _ _ e => .inl e) (fun b o e => k b o (S.fr b o e)) S.glist
theorem Sim.tok (S : Sim W c ρ g s) (tk : Nat) : Sim W c ρ g { s with toks := tk } := S.keeps (h' := s.heap) (dr := s.drawn) fun _ _ e => e
noncomputable def addG (G : GM) (a : Addr) (o : Obj) : GM := fun b => if b = a then some o else G b
theorem addG_le {G : GM} {a : Addr} {o : Obj} (h : G a = none) : G.le (addG G a o) := fun b o' e => by
  unfold addG
  split
  · rename_i q; subst q; rw [h] at e; cases e
  · exact e
theorem addG_cases {G : GM} {a b : Addr} {o o' : Obj} (h : addG G a o b = some o') : (b = a ∧ o' = o) ∨ G b = some o' := by
  unfold addG at h
  by_cases q : b = a
  · rw [if_pos q] at h; cases h; exact .inl ⟨q, rfl⟩
  · rw [if_neg q] at h; exact .inr h
theorem addG_self {G : GM} {a : Addr} {o : Obj} : addG G a o a = some o := by simp [addG]
structure Fresh (W : Wd) (c : Fx) (g : Gh) (h : Heap) (a : Addr) : Prop where
  g : g.G a = none
  H : W.H0.get? a = none
  h0 : c.h₀ a = none
theorem Sim.freezeNew (S : Sim W c ρ g s) {a : Addr} {vs n} (F : Fresh W c g s.heap a) (e : s.heap.get? a = some (lobj vs n)) (hadr : ∀ x xs, ρ.lookup x = some (.own xs) → g.adr x ≠ a) :
    Sim W c ρ { g with G := addG g.G a (lobj vs n) } s where
  gens := S.gens
  os := S.os
  base := S.base
  keep := S.keep
  fr := fun b o q => by
    rcases addG_cases q with ⟨z, rfl⟩ | q
    · rw [z]; exact e
    · exact S.fr b o q
  gin := S.gin.trans (addG_le F.g)
  gnew := fun b o q => by
    rcases addG_cases q with ⟨z, rfl⟩ | q
    · subst z; exact .inr F.h0
    · exact S.gnew b o q
  glist := fun b o q => by
    rcases addG_cases q with ⟨z, rfl⟩ | q
    · exact ⟨_, _, rfl⟩
    · exact S.glist b o q
  frames := S.frames
  ns := S.ns
  loc0 := S.loc0
  locH := S.locH
  cells := S.cells
  cells0 := S.cells0
  slot := fun x sl q => by
    have r := S.slot x sl q
    cases sl with
    | val v => obtain ⟨val, q1, q2⟩ := r; exact ⟨val, q1, q2.mono (addG_le F.g)⟩
    | own xs =>
      obtain ⟨q1, ⟨vs', n', q2, q3⟩, q4, q5, q6⟩ := r
      refine ⟨q1, ⟨vs', n', q2, q3.mono (addG_le F.g)⟩, ?_, q5, q6⟩
      show addG g.G a (lobj vs n) (g.adr x) = none
      unfold addG
      rw [if_neg (hadr x xs q)]; exact q4
  apart := S.apart
  pin := S.pin
  xp := S.xp
  xk := S.xk
end
section
variable (W : Wd) (c : Fx)
noncomputable def EV (ρ : Rho) (e : Expr) (Q : V → Prop) : Prop :=
  ∀ (g : Gh) (s : Shared) (Qc : Value → Shared → Prop) (E : Value → Shared → Prop), Sim W c ρ g s →
    (∀ v val G' s', Q v → g.G.le G' → Sim W c ρ { g with G := G' } s' → Rep G' val v → Qc val s') → wpAny (model W.prog W.w) c.A (eval e c.env) Qc E s
noncomputable def EVF (ρ : Rho) (e : Expr) (Q : List V → Prop) : Prop :=
  ∀ (g : Gh) (s : Shared) (Qc : Value → Shared → Prop) (E : Value → Shared → Prop), Sim W c ρ g s →
    (∀ xs a vs n G' s', Q xs → g.G.le G' → Sim W c ρ { g with G := G' } s' → s'.heap.get? a = some (lobj vs n) → Reps G' vs.toList xs → Fresh W c { g with G := G' } s'.heap a →
      (∀ x ys, ρ.lookup x = some (.own ys) → g.adr x ≠ a) → Qc (.ref a) s') → wpAny (model W.prog W.w) c.A (eval e c.env) Qc E s
noncomputable def OV (ρ : Rho) (vs : List V) (t : List Value → Sem Value) (Q : V → Prop) : Prop :=
  ∀ (g : Gh) (s : Shared) (vals : List Value) (Qc : Value → Shared → Prop) (E : Value → Shared → Prop), Sim W c ρ g s → Reps g.G vals vs →
    (∀ v val G' s', Q v → g.G.le G' → Sim W c ρ { g with G := G' } s' → Rep G' val v → Qc val s') → wpAny (model W.prog W.w) c.A (t vals) Qc E s
noncomputable def ET (ρ : Rho) (e : Expr) (Q : Bool → Prop) : Prop :=
  ∀ (g : Gh) (s : Shared) (Qc : Bool → Shared → Prop) (E : Value → Shared → Prop), Sim W c ρ g s →
    (∀ b G' s', Q b → g.G.le G' → Sim W c ρ { g with G := G' } s' → Qc b s') → wpAny (model W.prog W.w) c.A (isTrue e c.env (eval e c.env)) Qc E s
noncomputable def EX (ρ : Rho) (st : Stmt) (Qn : Rho → Prop) (Qr : V → Rho → Prop) : Prop :=
  ∀ (g : Gh) (s : Shared) (Qc : Flow → Shared → Prop) (E : Value → Shared → Prop), Sim W c ρ g s →
    (∀ ρ' g' s', Qn ρ' → g.le g' → Sim W c ρ' g' s' → Qc .next s') → (∀ v val ρ' g' s', Qr v ρ' → g.le g' → Sim W c ρ' g' s' → Rep g'.G val v → Qc (.ret val) s') →
    wpAny (model W.prog W.w) c.A (exec st c.env) Qc E s
noncomputable def EXS (ρ : Rho) (st : List Stmt) (Qn : Rho → Prop) (Qr : V → Rho → Prop) : Prop :=
  ∀ (g : Gh) (s : Shared) (Qc : Flow → Shared → Prop) (E : Value → Shared → Prop), Sim W c ρ g s →
    (∀ ρ' g' s', Qn ρ' → g.le g' → Sim W c ρ' g' s' → Qc .next s') → (∀ v val ρ' g' s', Qr v ρ' → g.le g' → Sim W c ρ' g' s' → Rep g'.G val v → Qc (.ret val) s') →
    wpAny (model W.prog W.w) c.A (execs st c.env) Qc E s
end
section
variable {W : Wd} {c : Fx} {ρ : Rho}
theorem EV.mono {e : Expr} {Q Q' : V → Prop} (h : EV W c ρ e Q) (k : ∀ v, Q v → Q' v) : EV W c ρ e Q' := fun g s Qc E S hq =>
  h g s Qc E S fun v val G' s' q => hq v val G' s' (k v q)
theorem EX.mono {st} {Qn Qn' : Rho → Prop} {Qr Qr' : V → Rho → Prop} (h : EX W c ρ st Qn Qr) (k : ∀ r, Qn r → Qn' r) (k' : ∀ v r, Qr v r → Qr' v r) : EX W c ρ st Qn' Qr' := fun g s Qc E S hn hr =>
  h g s Qc E S (fun ρ' g' s' q => hn ρ' g' s' (k _ q)) fun v val ρ' g' s' q => hr v val ρ' g' s' (k' _ _ q)
theorem EXS.mono {st} {Qn Qn' : Rho → Prop} {Qr Qr' : V → Rho → Prop} (h : EXS W c ρ st Qn Qr) (k : ∀ r, Qn r → Qn' r) (k' : ∀ v r, Qr v r → Qr' v r) : EXS W c ρ st Qn' Qr' := fun g s Qc E S hn hr =>
  h g s Qc E S (fun ρ' g' s' q => hn ρ' g' s' (k _ q)) fun v val ρ' g' s' q => hr v val ρ' g' s' (k' _ _ q)
theorem EV.of_fresh {e : Expr} {Q : V → Prop} (h : EVF W c ρ e fun xs => Q (.list xs)) : EV W c ρ e Q := fun g s Qc E S hq => by
  refine h g s Qc E S fun xs a vs n G' s' q hG S' ha hr hF hadr => ?_
  have S'' := S'.freezeNew hF ha hadr
  exact hq (.list xs) (.ref a) _ s' q (hG.trans (addG_le hF.g)) S'' (.list addG_self (hr.mono (addG_le hF.g)))
theorem EV_int {i : Int} {k pos} {Q : V → Prop} (h : Q (.int i)) : EV W c ρ (.Constant (.int i) k pos) Q := fun g s Qc E S hq =>
  wpAny_Constant_int (hq (.int i) _ g.G _ h (.refl _) (S.tok _) (.int _ _))
theorem EV_str {i : Str} {k pos} {Q : V → Prop} (h : Q (.str i)) : EV W c ρ (.Constant (.str i) k pos) Q := fun g s Qc E S hq =>
  wpAny_Constant_str (hq (.str i) _ g.G _ h (.refl _) (S.tok _) (.str _ _))
theorem EV_none {k pos} {Q : V → Prop} (h : Q .none) : EV W c ρ (.Constant .none k pos) Q := fun g s Qc E S hq =>
  wpAny_Constant_none (hq .none _ g.G _ h (.refl _) S .none)
theorem EV_bool {b : Bool} {k pos} {Q : V → Prop} (h : Q (.bool b)) : EV W c ρ (.Constant (.bool b) k pos) Q := fun g s Qc E S hq =>
  wpAny_Constant_bool (hq (.bool b) _ g.G _ h (.refl _) S (.bool _))
theorem EV_BinOp {l : Expr} {op} {r : Expr} {pos} {Q : V → Prop} (h : EV W c ρ l fun a => EV W c ρ r fun b => OV W c ρ [a, b] (fun l => binaryOp op (l.getD 0 .none) (l.getD 1 .none)) Q) :
    EV W c ρ (.BinOp l op r pos) Q := fun g s Qc E S hq => by
  refine wpAny_BinOp (h g s _ E S fun a va G1 s1 h1 hG1 S1 r1 => ?_)
  refine h1 _ s1 _ E S1 fun b vb G2 s2 h2 hG2 S2 r2 => ?_
  exact h2 _ s2 [va, vb] Qc E S2 (.cons (r1.mono hG2) (.cons r2 .nil)) fun v val G3 s3 h3 hG3 => hq v val G3 s3 h3 (hG1.trans (hG2.trans hG3))
theorem EV_Compare {l : Expr} {op} {r : Expr} {pos} {Q : V → Prop} (hm : behindInMarks op r = false) (h : EV W c ρ l fun a => EV W c ρ r fun b => OV W c ρ [a, b] (fun l => compareOp op (l.getD 0 .none) (l.getD 1 .none)) Q) :
    EV W c ρ (.Compare l [op] [r] pos) Q := fun g s Qc E S hq => by
  refine wpAny_Compare1 (h g s _ E S fun a va G1 s1 h1 hG1 S1 r1 => ?_) hm
  refine h1 _ s1 _ E S1 fun b vb G2 s2 h2 hG2 S2 r2 => ?_
  exact h2 _ s2 [va, vb] Qc E S2 (.cons (r1.mono hG2) (.cons r2 .nil)) fun v val G3 s3 h3 hG3 => hq v val G3 s3 h3 (hG1.trans (hG2.trans hG3))
theorem EV_UnaryOp {op x pos} {Q : V → Prop} (h : EV W c ρ x fun a => OV W c ρ [a] (fun l => unaryOp op (l.getD 0 .none)) Q) : EV W c ρ (.UnaryOp op x pos) Q := fun g s Qc E S hq => by
  refine wpAny_UnaryOp (h g s _ E S fun a va G1 s1 h1 hG1 S1 r1 => ?_)
  exact h1 _ s1 [va] Qc E S1 (.cons r1 .nil) fun v val G3 s3 h3 hG3 => hq v val G3 s3 h3 (hG1.trans hG3)
theorem EXS_nil {Qn Qr} (h : Qn ρ) : EXS W c ρ [] Qn Qr := fun g s Qc E S hn _ => wpAny_execs_nil (hn ρ g s h (.refl _) S)
theorem EXS_cons {st rest Qn Qr} (h : EX W c ρ st (fun ρ' => EXS W c ρ' rest Qn Qr) Qr) : EXS W c ρ (st :: rest) Qn Qr := fun g s Qc E S hn hr =>
  wpAny_execs_cons (h g s _ E S (fun ρ' g' s' q hG S' => q g' s' Qc E S' (fun ρ'' g'' s'' q' hG' => hn ρ'' g'' s'' q' (hG.trans hG')) fun v val ρ'' g'' s'' q' hG' => hr v val ρ'' g'' s'' q' (hG.trans hG'))
    fun v val ρ' g' s' q hG S' r => hr v val ρ' g' s' q hG S' r)
theorem EX_If {test body orelse pos Qn Qr} (h : ET W c ρ test fun b => if b then EXS W c ρ body Qn Qr else EXS W c ρ orelse Qn Qr) : EX W c ρ (.If test body orelse pos) Qn Qr := fun g s Qc E S hn hr => by
  refine wpAny_If (h g s _ E S fun b G' s' q hG S' => ?_)
  cases b
  · exact q _ s' Qc E S' (fun ρ'' g'' s'' q' hG' => hn ρ'' g'' s'' q' ((Gh.le.of hG).trans hG')) fun v val ρ'' g'' s'' q' hG' => hr v val ρ'' g'' s'' q' ((Gh.le.of hG).trans hG')
  · exact q _ s' Qc E S' (fun ρ'' g'' s'' q' hG' => hn ρ'' g'' s'' q' ((Gh.le.of hG).trans hG')) fun v val ρ'' g'' s'' q' hG' => hr v val ρ'' g'' s'' q' ((Gh.le.of hG).trans hG')
theorem EX_Return {e pos Qn Qr} (h : EV W c ρ e fun v => Qr v ρ) : EX W c ρ (.Return (some e) pos) Qn Qr := fun g s Qc E S hn hr =>
  wpAny_Return_some (h g s _ E S fun v val G' s' q hG S' r => hr v val ρ { g with G := G' } s' q ⟨hG, rfl⟩ S' r)
theorem ET_And {x y pos Q} (h : ET W c ρ x fun b => if b then ET W c ρ y fun b' => Q b' else Q false) : ET W c ρ (.BoolOp .And [x, y] pos) Q := fun g s Qc E S hq => by
  refine wpAny_isTrue_BoolOp (wpAny_allTrue_And_cons (h g s _ E S fun b G' s' q hG S' => ?_))
  cases b
  · exact hq _ G' s' q hG S'
  · refine wpAny_allTrue_And_cons (q _ s' _ E S' fun b' G'' s'' q' hG' S'' => ?_)
    cases b'
    · exact hq _ G'' s'' q' (hG.trans hG') S''
    · exact wpAny_allTrue_And_nil (hq _ G'' s'' q' (hG.trans hG') S'')
noncomputable def TV (W : Wd) (c : Fx) (ρ : Rho) (v : V) (Q : Bool → Prop) : Prop :=
  ∀ (g : Gh) (s : Shared) (val : Value) (Qc : Bool → Shared → Prop) (E : Value → Shared → Prop), Sim W c ρ g s → Rep g.G val v →
    (∀ b s', Q b → Sim W c ρ g s' → Qc b s') → wpAny (model W.prog W.w) c.A (truthy val) Qc E s
theorem TV_bool {b Q} (h : Q b) : TV W c ρ (.bool b) Q := fun g s val Qc E S r hq => by
  cases r
  exact wpAny_truthy_bool (hq _ _ h S)
theorem ET_Compare {l : Expr} {op} {r : Expr} {pos} {Q : Bool → Prop} (hm : behindInMarks op r = false) (h : EV W c ρ l fun a => EV W c ρ r fun b => OV W c ρ [a, b] (fun l => compareOp op (l.getD 0 .none) (l.getD 1 .none)) fun v => TV W c ρ v Q) :
    ET W c ρ (.Compare l [op] [r] pos) Q := fun g s Qc E S hq => by
  refine wpAny_isTrue_Compare1 (h g s _ E S fun a va G1 s1 h1 hG1 S1 r1 => ?_) hm
  refine h1 _ s1 _ E S1 fun b vb G2 s2 h2 hG2 S2 r2 => ?_
  refine h2 _ s2 [va, vb] _ E S2 (.cons (r1.mono hG2) (.cons r2 .nil)) fun v val G3 s3 h3 hG3 S3 r3 => ?_
  exact h3 _ s3 val Qc E S3 r3 fun b' s' q S' => hq b' G3 s' q (hG1.trans (hG2.trans hG3)) S'
theorem ET_value {e : Expr} {Q} (he : ∀ whole, isTrue e c.env whole = (do let v ← whole; standAt e.pos; holding [v] (truthy v))) (h : EV W c ρ e fun v => TV W c ρ v Q) : ET W c ρ e Q := fun g s Qc E S hq => by
  refine wpAny_isTrue_value (h g s _ E S fun v val G3 s3 h3 hG3 S3 r3 => ?_) (he _)
  exact h3 _ s3 val Qc E S3 r3 fun b' s' q S' => hq b' G3 s' q hG3 S'
end
end Mine
end
section
open PySem PySem.W PyProof.Rows
namespace Mine
structure FK (c : Fx) : Prop where
  kind : c.env.scope.kind = .function
  glob : c.env.globals = mainGlobals
  blt : c.env.builtins = builtinsNs
  top : c.own = true → ∃ outer L, c.A.frames = some (c.env :: outer) ∧ c.env.frame = some L
structure FOk (k : Nat) (c : Fx) : Prop extends AOk k c.A, FK c
noncomputable def Glo (W : Wd) (x : Str) (v : Value) : Prop :=
  ∃ mg mb, W.H0.Ns mainGlobals mg ∧ W.H0.Ns builtinsNs mb ∧ (mg x = some v ∨ (mg x = none ∧ mb x = some v))
section
variable {W : Wd} {c : Fx} {ρ : Rho} {k : Nat}
theorem wp_load {g : Gh} {s : Shared} {x : Str} {val : Value} {Q : Value → Shared → Prop} {E : Value → Shared → Prop} (F : FK c) (S : Sim W c ρ g s) (h : VarAt c g s.heap x val)
    (hq : Q val s) (hc : (x == ("__classdict__" : Str)) = false) : wpAny (model W.prog W.w) c.A (loadName c.env x) Q E s := by
  rcases h with ⟨hl, hv⟩ | ⟨hl | hl, a, ha, hv⟩
  · exact wpAny_loadName_local F.kind hl S.ns hv hq
  · exact wpAny_loadName_cell F.kind hl ha hv hq
  · exact wpAny_loadName_free F.kind hl ha hv hq hc
theorem EV_Name {x : Str} {pos} {v : V} {Q : V → Prop} (F : FK c) (hx : ρ.lookup x = some (.val v)) (hq : Q v) (hd : (x == ("__debug__" : Str)) = false := by kernel_rfl)
    (hc : (x == ("__classdict__" : Str)) = false := by kernel_rfl) : EV W c ρ (.Name x pos) Q := fun g s Qc E S h => by
  obtain ⟨val, hv, hr⟩ := S.slot x _ hx
  exact wpAny_Name (wp_load F S hv (h v val g.G s hq (.refl _) S hr) hc) hd
theorem wp_global {env : Env} {g : Gh} {s : Shared} {x : Str} {v : Value} {Q : Value → Shared → Prop} {E : Value → Shared → Prop} (F : FK c) (S : Sim W c ρ g s) (h : Glo W x v)
    (hk : c.env.kindOf x = some .globalImplicit) (hq : Q v s) : wpAny (model W.prog W.w) c.A (loadName c.env x) Q E s := by
  obtain ⟨mg, mb, h1, h2, h3⟩ := h
  have e : loadName c.env x = loadGlobal c.env x := by
    unfold loadName
    simp only [Env.blockKind, F.kind, hk, ScopeKind.isAnnotationScope, Bool.false_and, Bool.false_eq_true, if_false]
  rw [e]
  rcases h3 with h3 | ⟨h3, h4⟩
  · exact Calls.loadGlobal_global (by rw [F.glob]; exact h1.keeps S.base) h3 hq
  · exact Calls.loadGlobal_builtin (by rw [F.glob]; exact h1.keeps S.base) h3 (by rw [F.blt]; exact h2.keeps S.base) h4 hq
theorem EV_Glo {x : Str} {pos} {v : Value} {u : V} {Q : V → Prop} (F : FK c) (hx : Glo W x v) (hk : c.env.kindOf x = some .globalImplicit) (hr : ∀ G, Rep G v u) (hq : Q u)
    (hd : (x == ("__debug__" : Str)) = false := by kernel_rfl) : EV W c ρ (.Name x pos) Q := fun g s Qc E S h =>
  wpAny_Name (wp_global (env := c.env) F S hx hk (h u v g.G s hq (.refl _) S (hr _))) hd
noncomputable def EVL (W : Wd) (c : Fx) (ρ : Rho) (es : List Expr) (Q : List V → Prop) : Prop :=
  ∀ (g : Gh) (s : Shared) (pos : Pos) (Qc : List Value → Shared → Prop) (E : Value → Shared → Prop), Sim W c ρ g s →
    (∀ xs vals G' s', Q xs → g.G.le G' → Sim W c ρ { g with G := G' } s' → Reps G' vals xs → Qc vals s') → wpAny (model W.prog W.w) c.A (spliced (backTo pos (starEach es c.env))) Qc E s
theorem EVL_nil {Q : List V → Prop} (h : Q []) : EVL W c ρ [] Q := fun g s pos Qc E S hq => wpAny_items_nil (hq [] [] g.G s h (.refl _) S .nil)
theorem EVL_cons {e : Expr} {rest : List Expr} {Q : List V → Prop} (h : EV W c ρ e fun x => EVL W c ρ rest fun xs => Q (x :: xs)) (he : starEach (e :: rest) c.env = (false, eval e c.env) :: starEach rest c.env := by rfl) :
    EVL W c ρ (e :: rest) Q := fun g s pos Qc E S hq => by
  refine wpAny_items_cons (h g s _ E S fun x val G1 s1 h1 hG1 S1 r1 => ?_) he
  exact h1 _ s1 pos _ E S1 fun xs vals G2 s2 h2 hG2 S2 r2 => hq (x :: xs) (val :: vals) G2 s2 h2 (hG1.trans hG2) S2 (.cons (r1.mono hG2) r2)
noncomputable def EVK (W : Wd) (c : Fx) (ρ : Rho) (ks : List Keyword) (Q : List V → Prop) : Prop :=
  ∀ (g : Gh) (s : Shared) (pos : Pos) (Qc : List Value → Shared → Prop) (E : Value → Shared → Prop), Sim W c ρ g s →
    (∀ xs vals G' s', Q xs → g.G.le G' → Sim W c ρ { g with G := G' } s' → Reps G' vals xs → Qc vals s') → wpAny (model W.prog W.w) c.A (evalAll ((backToKw pos (keywordEach ks c.env)).map (·.2))) Qc E s
theorem EVK_nil {Q : List V → Prop} (h : Q []) : EVK W c ρ [] Q := fun g s pos Qc E S hq => kwAll_nil (hq [] [] g.G s h (.refl _) S .nil)
theorem EVK_one {n : Str} {e : Expr} {p : Pos} {Q : List V → Prop} (h : EV W c ρ e fun x => Q [x]) : EVK W c ρ [⟨some n, e, p⟩] Q := fun g s pos Qc E S hq => by
  refine kwAll_cons (h g s _ E S fun x val G1 s1 h1 hG1 S1 r1 => kwAll_nil ?_)
  exact hq [x] [val] G1 s1 h1 hG1 S1 (.cons r1 .nil)
noncomputable def CV (W : Wd) (c : Fx) (ρ : Rho) (f : Value) (args : List V) (kw : List (Str × V)) (Q : V → Prop) : Prop :=
  ∀ (g : Gh) (s : Shared) (vals kvals : List Value) (Qc : Value → Shared → Prop) (E : Value → Shared → Prop), Sim W c ρ g s → Reps g.G vals args → Reps g.G kvals (kw.map (·.2)) →
    (∀ v val G' s', Q v → g.G.le G' → Sim W c ρ { g with G := G' } s' → Rep G' val v → Qc val s') → wpAny (model W.prog W.w) c.A (call f vals ((kw.map (·.1)).zip kvals)) Qc E s
noncomputable def IsFn (W : Wd) (f : Value) : Prop := (∃ a o fd, f = .ref a ∧ W.H0.get? a = some o ∧ o.data = .func fd) ∨ (∃ id, f = .builtin id) ∨ ∃ T, f = .type T
theorem keeps_fn {W : Wd} {f : Value} {M : Model} (hf : IsFn W f) (h : Heap) (hb : ∀ b o, W.H0.get? b = some o → h.get? b = some o) :
    ∃ k, (k = Keeper.frame ∨ k = Keeper.machine ∨ k = Keeper.boundFrame) ∧ Looks M h (keeperOf f) k := by
  rcases hf with ⟨a, o, fd, rfl, ho, hd⟩ | ⟨id, rfl⟩ | ⟨T, rfl⟩
  · obtain ⟨cl, dd, dt, sl⟩ := o
    cases hd
    exact ⟨.frame, .inl rfl, (Looks.ld (part := none) (hb _ _ ho)).andThen .now⟩
  · exact ⟨.machine, .inr (.inl rfl), Looks.of_pure rfl⟩
  · exact ⟨.machine, .inr (.inl rfl), Looks.of_pure rfl⟩
theorem wp_callWith {W : Wd} {c : Fx} {ρ : Rho} {pos : Pos} {f : Value} {first : List Value} {args : List Expr} {kws : List Keyword} {names : List Str} {Q : List V → List V → Prop} {g : Gh} {s : Shared} {Qc : Value → Shared → Prop} {E : Value → Shared → Prop} (hf : IsFn W f) (S : Sim W c ρ g s)
    (hplain : ((backTo pos (starEach args c.env)).any (·.1) || (backToKw pos (keywordEach kws c.env)).any (·.1.isNone)) = false)
    (hall : (backToKw pos (keywordEach kws c.env)).all (·.1.isSome) = true) (hnames : (backToKw pos (keywordEach kws c.env)).filterMap (·.1) = names)
    (h : EVL W c ρ args fun xs => EVK W c ρ kws fun ys => Q xs ys)
    (hq : ∀ xs ys vals kvals G' s', Q xs ys → g.G.le G' → Sim W c ρ { g with G := G' } s' → Reps G' vals xs → Reps G' kvals ys → wpAny (model W.prog W.w) c.A (call f (first ++ vals) (names.zip kvals)) Qc E s')
    (he : ∀ e r, args = e :: r → starEach (e :: r) c.env = (false, eval e c.env) :: starEach r c.env := by (intro e r h; cases h; rfl)) :
    wpAny (model W.prog W.w) c.A (callWith pos f first (backTo pos (starEach args c.env)) (backToKw pos (keywordEach kws c.env))) Qc E s := by
  refine callWith_of (P := fun h => ∀ b o, W.H0.get? b = some o → h.get? b = some o) hplain (keeps_fn hf) ?_
  have key := h g s pos (fun vals s' => wpAny (model W.prog W.w) c.A (evalAll ((backToKw pos (keywordEach kws c.env)).map (·.2))) (fun ks s₂ =>
      (∀ b o, W.H0.get? b = some o → s₂.heap.get? b = some o) ∧ wpAny (model W.prog W.w) c.A (call f (first ++ vals) (names.zip ks)) Qc E s₂) E s') E S
    fun xs vals G1 s1 h1 hG1 S1 r1 => h1 _ s1 pos _ E S1 fun ys ks G2 s2 h2 hG2 S2 r2 => ⟨S2.base, hq xs ys vals ks G2 s2 h2 (hG1.trans hG2) S2 (r1.mono hG2) r2⟩
  cases args with
  | nil =>
    refine evalArgs_kw2_nil hall ?_
    rw [hnames]
    exact fun Γ p hΓ => (key Γ p hΓ : wpAny _ _ _ _ _ _) Γ p hΓ
  | cons e r =>
    refine evalArgs_kw2 hall ?_ (he e r rfl)
    rw [hnames]
    exact key
theorem EV_Call {W : Wd} {c : Fx} {ρ : Rho} {k : Nat} {x : Str} {p pos : Pos} {f : Value} {args : List Expr} {kws : List Keyword} {names : List Str} {Q : V → Prop} (F : FOk k c) (hx : Glo W x f) (hk : c.env.kindOf x = some .globalImplicit) (hf : IsFn W f)
    (h : EVL W c ρ args fun xs => EVK W c ρ kws fun ys => names.length = ys.length ∧ CV W c ρ f xs (names.zip ys) Q)
    (hd : (x == ("__debug__" : Str)) = false := by kernel_rfl)
    (hplain : ((backTo pos (starEach args c.env)).any (·.1) || (backToKw pos (keywordEach kws c.env)).any (·.1.isNone)) = false := by rfl)
    (hall : (backToKw pos (keywordEach kws c.env)).all (·.1.isSome) = true := by rfl) (hnames : (backToKw pos (keywordEach kws c.env)).filterMap (·.1) = names := by rfl)
    (he : ∀ e r, args = e :: r → starEach (e :: r) c.env = (false, eval e c.env) :: starEach r c.env := by (intro e r h; cases h; rfl)) :
    EV W c ρ (.Call (.Name x p) args kws pos) Q := fun g s Qc E S hq => by
  refine wpAny_Call_Name_kw (wpAny_Name (wp_global (env := c.env) F.toFK S hx hk ?_) hd)
  refine wp_callWith hf S hplain hall hnames h (fun xs ys vals kvals G' s' q hG S' r r' => ?_) he
  obtain ⟨hl, q⟩ := q
  have e1 : (names.zip ys).map (·.1) = names := by rw [List.map_fst_zip]; exact om280 hl
  have e2 : (names.zip ys).map (·.2) = ys := by rw [List.map_snd_zip]; exact om315 hl
  have := q _ s' vals kvals Qc E S' r (by rw [e2]; exact r') fun v val G'' s'' qq hG'' => hq v val G'' s'' qq (hG.trans hG'')
  rw [e1] at this
  exact this
end
end Mine
end
section
open PySem PySem.W PyProof.Rows
namespace Mine
structure At (W : Wd) (A : Around) (G : GM) (s : Shared) : Prop where
  gens : s.gens = #[]
  os : s.os = W.os
  base : ∀ b o, W.H0.get? b = some o → s.heap.get? b = some o
  frames : FF W.H0 s.heap (A.frames.getD [])
  fr : ∀ b o, G b = some o → s.heap.get? b = some o
  glist : ∀ b o, G b = some o → ∃ vs n, o = lobj vs n
structure Aft (W : Wd) (A : Around) (ex : Addr → Prop) (G : GM) (s : Shared) (G' : GM) (s' : Shared) : Prop extends At W A G' s' where
  keep : KeepF (fsOf A) ex s.heap.get? s'.heap.get?
  le : G.le G'
  new : ∀ b o, G' b = some o → G b = some o ∨ s.heap.get? b = none
noncomputable def FN (W : Wd) (k : Nat) (f : Value) (args : List V) (kw : List (Str × V)) (Q : V → Prop) : Prop :=
  ∀ (A : Around) (G : GM) (s : Shared) (vals kvals : List Value) (Qc : Value → Shared → Prop) (E : Value → Shared → Prop), AOk k A → At W A G s → Reps G vals args → Reps G kvals (kw.map (·.2)) →
    (∀ v val G' s', Q v → Aft W A (fun _ => False) G s G' s' → Rep G' val v → Qc val s') → wpAny (model W.prog W.w) A (call f vals ((kw.map (·.1)).zip kvals)) Qc E s
noncomputable def FNm (W : Wd) (k : Nat) (f : Value) (xs : List V) (args : List V) (kw : List (Str × V)) (Q : V → List V → Prop) : Prop :=
  ∀ (A : Around) (G : GM) (s : Shared) (a : Addr) (vs : Array Value) (n : Nat) (vals kvals : List Value) (Qc : Value → Shared → Prop) (E : Value → Shared → Prop), AOk k A → At W A G s →
    s.heap.get? a = some (lobj vs n) → Reps G vs.toList xs → G a = none → W.H0.get? a = none → Reps G vals args → Reps G kvals (kw.map (·.2)) →
    (∀ v ys val G' s' vs' n', Q v ys → Aft W A (fun b => b = a) G s G' s' → Rep G' val v → s'.heap.get? a = some (lobj vs' n') → Reps G' vs'.toList ys → G' a = none → Qc val s') →
      wpAny (model W.prog W.w) A (call f (.ref a :: vals) ((kw.map (·.1)).zip kvals)) Qc E s
theorem FN.mono {W k f args kw} {Q Q' : V → Prop} (h : FN W k f args kw Q) (hq : ∀ v, Q v → Q' v) : FN W k f args kw Q' := fun A G s vals kvals Qc E a b c d e => h A G s vals kvals Qc E a b c d fun v val G' s' q => e v val G' s' (hq v q)
theorem AOk.le {k k' : Nat} {A : Around} (h : AOk k A) (hk : k' ≤ k) : AOk k' A := ⟨h.hand, by have := h.depth; exact om434 this hk, by have := h.units; exact om429 this hk, h.frames⟩
theorem Sim.at {W c ρ g s} (S : Sim W c ρ g s) : At W c.A g.G s := ⟨S.gens, S.os, S.base, S.frames, S.fr, S.glist⟩
theorem Sim.aft {W c ρ g s G' s'} (S : Sim W c ρ g s) (a : Aft W c.A (fun _ => False) g.G s G' s') : Sim W c ρ { g with G := G' } s' :=
  S.after a.gens a.os a.keep a.le a.new a.fr a.glist
theorem CV_of_FN {W c ρ k k' f args kw} {Q : V → Prop} (F : FOk k' c) (h : FN W k f args kw Q) (hk : k ≤ k') : CV W c ρ f args kw Q := fun g s vals kvals Qc E S r r' hq =>
  h c.A g.G s vals kvals Qc E (F.toAOk.le hk) S.at r r' fun v val G' s' q a rr => hq v val G' s' q a.le (S.aft a) rr
noncomputable def Binds (W : Wd) (fd : FuncData) (args : Args) (bv : List (Str × Value)) : Prop :=
  ∀ (M : Model) (A : Around) (E : Value → Shared → Prop) (Q : List (Str × Value) → Shared → Prop) (s : Shared), A.units + 20 < cLine → (∀ b o, W.H0.get? b = some o → s.heap.get? b = some o) → (∀ tk, Q bv { s with toks := tk }) → wpAny M A (bindArgs fd args) Q E s
@[reducible] noncomputable def fx (name : Str) (scope : Scope) (L a : Addr) (cd : Value) (A : Around) (h₀ : GM) (G₀ : GM) (ex : Addr → Prop) (pin : List (Str × Addr)) : Fx :=
  ⟨envOfC name scope L a cd, A, h₀, G₀, ex, true, pin⟩
structure FnAt (W : Wd) (a : Addr) (fd : FuncData) (name : Str) (scope : Scope) (body : List Stmt) : Prop where
  there : ∃ o, W.H0.get? a = some o ∧ o.data = .func fd
  code : W.H0.CodeRec fd.code fd.qualname
  body : fd.body = .stmts body
  scope : fd.scope = scope
  qual : fd.qualname = name
  globals : fd.globals = mainGlobals
  builtins : fd.builtins = builtinsNs
  closure : fd.closure = []
theorem FnAt.isFn {W a fd name scope body} (X : FnAt W a fd name scope body) : IsFn W (.ref a) := let ⟨o, h, d⟩ := X.there; .inl ⟨a, o, fd, rfl, h, d⟩
theorem lookup_rev_map {α β : Type} (f : α → β) : ∀ (l : List (Str × α)) (x : Str), (l.map fun p => (p.1, f p.2)).lookup x = (l.lookup x).map f
  | [], _ => rfl
  | (y, v) :: r, x => by
    simp only [List.map_cons, List.lookup_cons]
    cases x == y
    · exact lookup_rev_map f r x
    · rfl
theorem bindL_get (kf : Str → Option NameKind) : ∀ (bv : List (Str × Value)) (m : Str → Option Value) (x : Str), (bv.map (·.1)).Nodup → kf x = some .local → bindL kf bv m x = (bv.lookup x).or (m x)
  | [], m, x, _, _ => rfl
  | (y, v) :: r, m, x, hn, hk => by
    simp only [List.map_cons, List.nodup_cons] at hn
    unfold bindL
    rw [bindL_get kf r _ x hn.2 hk, List.lookup_cons]
    by_cases e : x = y
    · subst e
      have : r.lookup x = none := by
        cases q : r.lookup x with
        | none => rfl
        | some w => exact absurd (List.mem_map.mpr ⟨_, mem_of_lookup q, rfl⟩) hn.1
      rw [this, if_pos hk]; simp
    · have e' : (x == y) = false := by simpa using e
      rw [e']
      congr 1
      split
      · exact if_neg e
      · rfl
theorem bindC_get (kf : Str → Option NameKind) : ∀ (bv : List (Str × Value)) (m : Str → Option Value) (x : Str), (bv.map (·.1)).Nodup → kf x ≠ some .local → bindC kf bv m x = (bv.lookup x).or (m x)
  | [], m, x, _, _ => rfl
  | (y, v) :: r, m, x, hn, hk => by
    simp only [List.map_cons, List.nodup_cons] at hn
    unfold bindC
    rw [bindC_get kf r _ x hn.2 hk, List.lookup_cons]
    by_cases e : x = y
    · subst e
      have : r.lookup x = none := by
        cases q : r.lookup x with
        | none => rfl
        | some w => exact absurd (List.mem_map.mpr ⟨_, mem_of_lookup q, rfl⟩) hn.1
      rw [this, if_neg hk]; simp
    · have e' : (x == y) = false := by simpa using e
      rw [e']
      congr 1
      split
      · rfl
      · exact if_neg e
theorem reps_lookup {G : GM} : ∀ {bv : List (Str × Value)} {ρ₀ : List (Str × V)} {x : Str} {v : V}, bv.map (·.1) = ρ₀.map (·.1) → Reps G (bv.map (·.2)) (ρ₀.map (·.2)) → ρ₀.lookup x = some v → ∃ val, bv.lookup x = some val ∧ Rep G val v
  | [], [], _, _, _, _, h => by cases h
  | (y, a) :: r, (z, b) :: r', x, v, hn, hr, h => by
    simp only [List.map_cons, List.cons.injEq] at hn hr
    obtain ⟨rfl, hn⟩ := hn
    cases hr with
    | cons h1 h2 =>
      simp only [List.lookup_cons] at h ⊢
      cases e : x == y with
      | true => rw [e] at h; cases h; exact ⟨a, rfl, h1⟩
      | false => rw [e] at h; exact reps_lookup hn h2 h
theorem wp_enterP {W : Wd} {k : Nat} {a : Addr} {fd : FuncData} {name : Str} {scope : Scope} {body : List Stmt} (X : FnAt W a fd name scope body) (hlim : W.H0.NoLimit)
    {A : Around} {G : GM} {s : Shared} {vals : List Value} {kw : List (Str × Value)} {bv : List (Str × Value)} {ρ₀ : List (Str × V)} {C : Env → Shared → Prop} {E : Value → Shared → Prop} {ex : Addr → Prop} {pin : List (Str × Addr)} (hA : AOk (k + 1) A) (h0 : At W A G s)
    (hb : Binds W fd ⟨vals, kw⟩ bv) (hn : bv.map (·.1) = ρ₀.map (·.1)) (hr : Reps G (bv.map (·.2)) (ρ₀.map (·.2))) (hnd : (ρ₀.map (·.1)).Nodup)
    (hkind : ∀ x ∈ ρ₀.map (·.1), scope.names.lookup x = some .local ∨ (scope.names.lookup x = some .cell ∧ ∀ n, ((cellsFrom n scope.names []).lookup x).isSome = true))
    (h : ∀ L cd g s₁, FOk k (fx name scope L a cd (A.deeper (envOfC name scope L a cd)) s.heap.get? G ex pin) → Sim W (fx name scope L a cd (A.deeper (envOfC name scope L a cd)) s.heap.get? G ex pin) (ρ₀.map fun p => (p.1, .val p.2)) g s₁ → g.G = G → L ∉ fsOf A →
      s.heap.get? L = none → fsOf (A.deeper (envOfC name scope L a cd)) = L :: fsOf A → (∀ b o, s.heap.get? b = some o → s₁.heap.get? b = some o) →
      C (envOfC name scope L a cd) s₁)
    (hk : scope.kind = .function := by rfl) :
    wpAny (model W.prog W.w) A.in1 (bindArgs fd ⟨vals, kw⟩) (fun binds s₁ => wpAny (model W.prog W.w) A.in1 (newFunctionEnv fd.scope fd.globals fd.closure binds (fd.qualname ++ ".<locals>.") (some a) fd.code none fd.builtins)
      (fun env s₂ => s₂.heap.NoLimit ∧ C env s₂) E s₁) E s := by
  obtain ⟨⟨o, ho, hd⟩, hcode, hbody, hscope, hqual, hglob, hblt, hclo⟩ := X
  subst hscope
  refine hb _ _ _ _ _ (by have := hA.units; show A.units + 1 + 20 < cLine; exact om352 this) h0.base fun tk => ?_
  rw [hclo]
  obtain ⟨l, hl⟩ := hA.frames
  refine wpAny_newFunctionEnv_cells hk (fun x hx => ?_) fun env he s' x => ?_
  · have hx' : x.1 ∈ ρ₀.map (·.1) := hn ▸ List.mem_map.mpr ⟨x, hx, rfl⟩
    rcases hkind _ hx' with q | ⟨q, q'⟩
    · exact .inl q
    · exact .inr ⟨q, q' _⟩
  subst he
  have e2 : newEnv fd.scope s.heap.objs.size fd.globals (cellsFrom (s.heap.objs.size + 1) fd.scope.names []) (fd.qualname ++ ".<locals>.") (some a) fd.code none fd.builtins = envOfC name fd.scope s.heap.objs.size a fd.code := by
    rw [hglob, hblt, hqual]; rfl
  have e1 : ({ s with toks := tk } : Shared).heap = s.heap := rfl
  rw [e1] at x ⊢
  rw [e2] at x ⊢
  refine ⟨(hlim.keeps h0.base).keeps x.toInCall.keep, ?_⟩
  have hLnone : s.heap.get? s.heap.objs.size = none := Heap.get?_none_of_le (Nat.le_refl _)
  have hLfs : s.heap.objs.size ∉ fsOf A := fun hm => by
    obtain ⟨_, o', _, _, ho', _⟩ := h0.frames.mem hm
    rw [hLnone] at ho'; cases ho'
  have hH : W.H0.get? s.heap.objs.size = none := by
    cases q : W.H0.get? s.heap.objs.size with
    | none => rfl
    | some o' => have := h0.base _ _ q; rw [hLnone] at this; cases this
  have hfs : fsOf (A.deeper (envOfC name fd.scope s.heap.objs.size a fd.code)) = s.heap.objs.size :: fsOf A := by
    simp only [fsOf, Around.deeper, hl]; rfl
  refine h s.heap.objs.size fd.code ⟨G, fun _ => 0, bindL (envOfC name fd.scope s.heap.objs.size a fd.code).kindOf bv fun _ => none, fun _ => none⟩ s' ?_ ?_ rfl hLfs hLnone hfs x.toInCall.keep
  · exact ⟨⟨hA.hand, by have := hA.depth; show A.depth + 1 + k < _; exact om362 this, by have := hA.units; show A.units + 3 + 3 * k + 100 < cLine; exact om351 this, ⟨_, by simp [Around.deeper, hl]; rfl⟩⟩, hk, rfl, rfl, fun _ => ⟨l, _, by show A.frames.map _ = _; rw [hl]; rfl, rfl⟩⟩
  obtain ⟨h₁, tk', rfl, hkeep⟩ := x.done
  have hkeep : ∀ b o, s.heap.get? b = some o → h₁.get? b = some o := hkeep
  have hcellNew : ∀ y b, (cellsFrom (s.heap.objs.size + 1) fd.scope.names []).lookup y = some b → s.heap.get? b = none := fun y b e => by
    have := x.above y b (mem_of_lookup e)
    exact Heap.get?_none_of_le (by have h : s.heap.objs.size < b := this; exact om270 h)
  exact {
    gens := h0.gens
    os := h0.os
    base := fun b o e => hkeep b o (h0.base b o e)
    keep := .of_keeps hkeep
    fr := fun b o e => hkeep b o (h0.fr b o e)
    gin := .refl _
    gnew := fun b o e => .inl e
    glist := h0.glist
    frames := by
      intro env henv
      simp only [Around.deeper, hl, Option.map_some, Option.getD_some, List.mem_cons] at henv
      rcases henv with rfl | henv
      · obtain ⟨oL, es, ep, hoL, hdL, _⟩ := x.toInCall.ns
        exact ⟨by rw [show (envOfC name fd.scope s.heap.objs.size a fd.code).scope.kind = fd.scope.kind from rfl, hk]; decide, s.heap.objs.size, oL, es, ep, rfl, hH, hoL, hdL⟩
      · obtain ⟨q1, L, oo, es, nn, q2, q3, q4, q5⟩ := h0.frames env (by rw [hl]; exact henv)
        exact ⟨q1, L, oo, es, nn, q2, q3, hkeep _ _ q4, q5⟩
    ns := x.toInCall.ns
    loc0 := hLnone
    locH := hH
    cells := fun y b e => ⟨_, x.cell y b e⟩
    cells0 := fun _ y b e => by
      refine ⟨hcellNew y b e, ?_, fun z e' => name_of_addr x.apart (mem_of_lookup e') (mem_of_lookup e)⟩
      cases q : W.H0.get? b with
      | none => rfl
      | some o' => have := h0.base _ _ q; rw [hcellNew y b e] at this; cases this
    slot := fun y sl e => by
      rw [lookup_rev_map Slot.val] at e
      cases hv : ρ₀.lookup y with
      | none => rw [hv] at e; cases e
      | some v =>
        rw [hv] at e; cases e
        obtain ⟨val, hb1, hb2⟩ := reps_lookup hn hr hv
        refine ⟨val, ?_, hb2⟩
        have hm : y ∈ ρ₀.map (·.1) := List.mem_map.mpr ⟨_, mem_of_lookup hv, rfl⟩
        rcases hkind y hm with q | ⟨q, q'⟩
        · refine .inl ⟨q, ?_⟩
          show bindL _ bv _ y = some val
          rw [bindL_get _ _ _ _ (hn ▸ hnd) q, hb1]; rfl
        · obtain ⟨b, hb'⟩ := Option.isSome_iff_exists.mp (q' (s.heap.objs.size + 1))
          refine .inr ⟨.inl q, b, hb', ?_⟩
          have := x.cell y b hb'
          rw [bindC_get _ _ _ _ (hn ▸ hnd) (by rw [show (envOfC name fd.scope s.heap.objs.size a fd.code).kindOf y = fd.scope.names.lookup y from rfl, q]; decide), hb1] at this
          exact this
    apart := fun y z xs ys e => by
      rw [lookup_rev_map Slot.val] at e
      cases hv : ρ₀.lookup y <;> rw [hv] at e <;> cases e
    pin := fun y b xs _ e => by
      rw [lookup_rev_map Slot.val] at e
      cases hv : ρ₀.lookup y <;> rw [hv] at e <;> cases e
    xp := fun _ _ e => by cases e
    xk := fun _ _ e => by cases e }
theorem wp_enter {W : Wd} {k : Nat} {a : Addr} {fd : FuncData} {name : Str} {scope : Scope} {body : List Stmt} (X : FnAt W a fd name scope body) (hlim : W.H0.NoLimit)
    {A : Around} {G : GM} {s : Shared} {vals : List Value} {kw : List (Str × Value)} {bv : List (Str × Value)} {ρ₀ : List (Str × V)} {R : Result → Shared → Prop} {ex : Addr → Prop} {pin : List (Str × Addr)} (hA : AOk (k + 1) A) (h0 : At W A G s)
    (hb : Binds W fd ⟨vals, kw⟩ bv) (hn : bv.map (·.1) = ρ₀.map (·.1)) (hr : Reps G (bv.map (·.2)) (ρ₀.map (·.2))) (hnd : (ρ₀.map (·.1)).Nodup)
    (hkind : ∀ x ∈ ρ₀.map (·.1), scope.names.lookup x = some .local ∨ (scope.names.lookup x = some .cell ∧ ∀ n, ((cellsFrom n scope.names []).lookup x).isSome = true))
    (h : ∀ L cd g s₁, FOk k (fx name scope L a cd (A.deeper (envOfC name scope L a cd)) s.heap.get? G ex pin) → Sim W (fx name scope L a cd (A.deeper (envOfC name scope L a cd)) s.heap.get? G ex pin) (ρ₀.map fun p => (p.1, .val p.2)) g s₁ → g.G = G → L ∉ fsOf A →
      s.heap.get? L = none → fsOf (A.deeper (envOfC name scope L a cd)) = L :: fsOf A → (∀ b o, s.heap.get? b = some o → s₁.heap.get? b = some o) →
      wpAny (model W.prog W.w) (A.deeper (envOfC name scope L a cd)) (execs body (envOfC name scope L a cd)) (fun f s' => R (.ok (.ret (match f with | .ret v => v | _ => .none))) s')
        (fun e s' => wpAny (model W.prog W.w) (A.deeper (envOfC name scope L a cd)) (leaving (envOfC name scope L a cd) e) (fun _ s'' => R (.error e) s'') (fun e' s'' => R (.error e') s'') s') s₁)
    (hco : scope.isCoroutine = false := by rfl) (hgen : scope.isGenerator = false := by rfl) (hk : scope.kind = .function := by rfl) :
    codeAny (model W.prog W.w) A (.call (.ref a) ⟨vals, kw⟩) R s := by
  obtain ⟨o, ho, hd⟩ := X.there
  refine codeAny_call_function (by have := hA.depth; exact om365 this) (h0.base _ _ ho) hd (by rw [X.scope]; exact hco) (by rw [X.scope]; exact hgen) X.body (X.code.keeps h0.base) ?_
  exact wp_enterP (C := fun env s₂ => codeAny (model W.prog W.w) A (.func body env) R s₂) X hlim hA h0 hb hn hr hnd hkind (fun L cd g s₁ F S a1 a2 a3 a4 a5 => codeAny_func (h L cd g s₁ F S a1 a2 a3 a4 a5)) hk
theorem FN_intro {W : Wd} {k : Nat} {a : Addr} {fd : FuncData} {name : Str} {scope : Scope} {body : List Stmt} {args : List V} {kw : List (Str × V)} {ρ₀ : List (Str × V)} {Q : V → Prop} (X : FnAt W a fd name scope body) (hlim : W.H0.NoLimit)
    (hb : ∀ G vals kvals, Reps G vals args → Reps G kvals (kw.map (·.2)) → ∃ bv, Binds W fd ⟨vals, (kw.map (·.1)).zip kvals⟩ bv ∧ bv.map (·.1) = ρ₀.map (·.1) ∧ Reps G (bv.map (·.2)) (ρ₀.map (·.2)))
    (hnd : (ρ₀.map (·.1)).Nodup) (hkind : ∀ x ∈ ρ₀.map (·.1), scope.names.lookup x = some .local ∨ (scope.names.lookup x = some .cell ∧ ∀ n, ((cellsFrom n scope.names []).lookup x).isSome = true))
    (h : ∀ L cd A h₀ G, FOk k (fx name scope L a cd A h₀ G (fun _ => False) []) → EXS W (fx name scope L a cd A h₀ G (fun _ => False) []) (ρ₀.map fun p => (p.1, .val p.2)) body (fun _ => Q .none) fun v _ => Q v)
    (hco : scope.isCoroutine = false := by rfl) (hgen : scope.isGenerator = false := by rfl) (hk : scope.kind = .function := by rfl) :
    FN W (k + 1) (.ref a) args kw Q := fun A G s vals kvals Qc E hA h0 r r' hq => by
  obtain ⟨bv, hb1, hb2, hb3⟩ := hb G vals kvals r r'
  refine wpAny_call (wp_enter (ex := fun _ => False) (pin := []) X hlim hA h0 hb1 hb2 hb3 hnd hkind (fun L cd g s₁ F S hg hL hL0 hfs hk1 => ?_) hco hgen hk)
  have fin : ∀ {v val ρ' g' s'}, Q v → g.le g' → Sim W (fx name scope L a cd (A.deeper (envOfC name scope L a cd)) s.heap.get? G (fun _ => False) []) ρ' g' s' → Rep g'.G val v → Qc val s' := fun {v val ρ' g' s'} q hG S' rr => by
    refine hq v val g'.G s' q ⟨⟨S'.gens, S'.os, S'.base, ?_, S'.fr, S'.glist⟩, ?_, S'.gin, S'.gnew⟩ rr
    · intro env henv
      obtain ⟨l, hl⟩ := hA.frames
      exact S'.frames env (by simp only [Around.deeper, hl, Option.map_some, Option.getD_some]; rw [hl] at henv; exact List.mem_cons_of_mem _ henv)
    · intro b o e
      obtain ⟨o', e', p⟩ := S'.keep b o e
      refine ⟨o', e', fun hx => ?_⟩
      obtain ⟨p1, p2⟩ := p hx
      refine ⟨fun hm => p1 fun hm' => ?_, p2⟩
      rw [show Fx.fs (fx name scope L a cd (A.deeper (envOfC name scope L a cd)) s.heap.get? G (fun _ => False) []) = fsOf (A.deeper (envOfC name scope L a cd)) from rfl, hfs] at hm'
      rcases List.mem_cons.mp hm' with rfl | hm'
      · rw [hL0] at e; cases e
      · exact hm hm'
  refine h L cd _ _ G F g s₁ _ _ S (fun ρ' g' s' q hG S' => ?_) fun v val ρ' g' s' q hG S' rr => ?_
  · exact fin q hG S' .none
  · exact fin q hG S' rr
theorem FNm_intro {W : Wd} {k : Nat} {a : Addr} {fd : FuncData} {name : Str} {scope : Scope} {body : List Stmt} {xs : List V} {args : List V} {kw : List (Str × V)} {x0 : Str} {ρ₀ : List (Str × V)} {Q : V → List V → Prop} (X : FnAt W a fd name scope body) (hlim : W.H0.NoLimit)
    (hb : ∀ G l vals kvals, Reps G vals args → Reps G kvals (kw.map (·.2)) → ∃ bv, Binds W fd ⟨.ref l :: vals, (kw.map (·.1)).zip kvals⟩ ((x0, .ref l) :: bv) ∧ bv.map (·.1) = ρ₀.map (·.1) ∧ Reps G (bv.map (·.2)) (ρ₀.map (·.2)))
    (hnd : (x0 :: ρ₀.map (·.1)).Nodup) (hkind : ∀ x ∈ x0 :: ρ₀.map (·.1), scope.names.lookup x = some .local ∨ (scope.names.lookup x = some .cell ∧ ∀ n, ((cellsFrom n scope.names []).lookup x).isSome = true))
    (h : ∀ L cd A h₀ G ex l, FOk k (fx name scope L a cd A h₀ G ex [(x0, l)]) → EXS W (fx name scope L a cd A h₀ G ex [(x0, l)]) ((x0, .own xs) :: ρ₀.map fun p => (p.1, .val p.2)) body (fun ρ => ∃ ys, ρ.lookup x0 = some (.own ys) ∧ Q .none ys) fun v ρ => ∃ ys, ρ.lookup x0 = some (.own ys) ∧ Q v ys)
    (hco : scope.isCoroutine = false := by rfl) (hgen : scope.isGenerator = false := by rfl) (hk : scope.kind = .function := by rfl) :
    FNm W (k + 1) (.ref a) xs args kw Q := fun A G s l vs n vals kvals Qc E hA h0 hl hlr hlG hlH r r' hq => by
  obtain ⟨bv, hb1, hb2, hb3⟩ := hb G l vals kvals r r'
  refine wpAny_call (wp_enter (ex := fun b => b = l) (pin := [(x0, l)]) (ρ₀ := (x0, .glob (.ref l)) :: ρ₀) X hlim hA h0 hb1 (by simp [hb2]) (.cons (.glob _) hb3) hnd hkind (fun L cd g s₁ F S hg hL hL0 hfs hk1 => ?_) hco hgen hk)
  have hlL : l ∉ L :: fsOf A := fun hm => by
    rcases List.mem_cons.mp hm with rfl | hm
    · rw [hL0] at hl; cases hl
    · exact not_fs_of_lobj h0.frames hl hm
  have fin : ∀ {v val ρ' g' s'}, (∃ ys, ρ'.lookup x0 = some (.own ys) ∧ Q v ys) → g.le g' → Sim W (fx name scope L a cd (A.deeper (envOfC name scope L a cd)) s.heap.get? G (fun b => b = l) [(x0, l)]) ρ' g' s' → Rep g'.G val v → Qc val s' := fun {v val ρ' g' s'} q hG S' rr => by
    obtain ⟨ys, hy, q⟩ := q
    obtain ⟨q1, ⟨vs', n', q2, q3⟩, q4, q5, q6⟩ := S'.slot _ _ hy
    have hadr : g'.adr x0 = l := S'.pin x0 l ys (by simp) hy
    rw [hadr] at q2 q4
    refine hq v ys val g'.G s' vs' n' q ⟨⟨S'.gens, S'.os, S'.base, ?_, S'.fr, S'.glist⟩, ?_, S'.gin, S'.gnew⟩ rr q2 q3 q4
    · intro env henv
      obtain ⟨lf, hlf⟩ := hA.frames
      exact S'.frames env (by simp only [Around.deeper, hlf, Option.map_some, Option.getD_some]; rw [hlf] at henv; exact List.mem_cons_of_mem _ henv)
    · intro b o e
      obtain ⟨o', e', p⟩ := S'.keep b o e
      refine ⟨o', e', fun hx => ?_⟩
      obtain ⟨p1, p2⟩ := p hx
      refine ⟨fun hm => p1 fun hm' => ?_, p2⟩
      rw [show Fx.fs (fx name scope L a cd (A.deeper (envOfC name scope L a cd)) s.heap.get? G (fun b => b = l) [(x0, l)]) = fsOf (A.deeper (envOfC name scope L a cd)) from rfl, hfs] at hm'
      rcases List.mem_cons.mp hm' with rfl | hm'
      · rw [hL0] at e; cases e
      · exact hm hm'
  have S2 : Sim W (fx name scope L a cd (A.deeper (envOfC name scope L a cd)) s.heap.get? G (fun b => b = l) [(x0, l)]) ((x0, .own xs) :: ρ₀.map fun p => (p.1, .val p.2)) { g with adr := fun _ => l } s₁ := {
    gens := S.gens, os := S.os, base := S.base, keep := S.keep, fr := S.fr, gin := S.gin, gnew := S.gnew, glist := S.glist, frames := S.frames, ns := S.ns, loc0 := S.loc0, locH := S.locH, cells := S.cells, cells0 := S.cells0, xp := S.xp, xk := S.xk
    slot := fun x sl e => by
      rw [List.lookup_cons] at e
      cases hx : x == x0 with
      | true =>
        rw [hx] at e; cases e
        obtain rfl := beq_iff_eq.mp hx
        obtain ⟨val, q1, q2⟩ := S.slot x (.val (.glob (.ref l))) (by simp)
        cases q2
        exact ⟨q1, ⟨vs, n, hk1 _ _ hl, by rw [hg]; exact hlr⟩, by rw [hg]; exact hlG, hlH, .inr ⟨rfl, by simp⟩⟩
      | false =>
        rw [hx] at e
        have z := S.slot x sl (by rw [List.map_cons, List.lookup_cons, hx]; exact e)
        rw [lookup_rev_map Slot.val] at e
        cases hv : ρ₀.lookup x with
        | none => rw [hv] at e; cases e
        | some v => rw [hv] at e; cases e; exact z
    apart := fun x y xs' ys' e e' _ => by
      have one : ∀ z zs, ((x0, Slot.own xs) :: ρ₀.map fun p => (p.1, Slot.val p.2)).lookup z = some (.own zs) → z = x0 := fun z zs e => by
        rw [List.lookup_cons] at e
        cases hx : z == x0 with
        | true => exact beq_iff_eq.mp hx
        | false =>
          rw [hx] at e
          dsimp only at e
          rw [lookup_rev_map Slot.val] at e
          cases hv : ρ₀.lookup z <;> rw [hv] at e <;> cases e
      rw [one x xs' e, one y ys' e']
    pin := fun x b xs' e _ => by
      rw [List.lookup_cons] at e
      cases hx : x == x0 with
      | true => rw [hx] at e; cases e; rfl
      | false => rw [hx] at e; cases e }
  refine h L cd _ _ G _ l F _ s₁ _ _ S2 (fun ρ' g' s' q hG S' => ?_) fun v val ρ' g' s' q hG S' rr => ?_
  · exact fin q hG S' .none
  · exact fin q hG S' rr
end Mine
end
section
open PySem PySem.W PyProof.Rows
namespace Mine
noncomputable def Rho.del (ρ : Rho) (x : Str) : Rho := ρ.filter fun p => !(p.1 == x)
theorem del_self (ρ : Rho) (x : Str) : (Rho.del ρ x).lookup x = none := by
  induction ρ with
  | nil => rfl
  | cons p r ih =>
    obtain ⟨y, v⟩ := p
    unfold Rho.del at ih ⊢
    rw [List.filter_cons]
    cases e : y == x with
    | true => simpa using ih
    | false =>
      have e' : (x == y) = false := by
        cases q : x == y with
        | false => rfl
        | true => rw [beq_iff_eq.mp q] at e; simp at e
      simp only [Bool.not_false, if_true, List.lookup_cons, e']
      exact ih
theorem del_other (ρ : Rho) {x y : Str} (h : y ≠ x) : (Rho.del ρ x).lookup y = ρ.lookup y := by
  induction ρ with
  | nil => rfl
  | cons p r ih =>
    obtain ⟨z, v⟩ := p
    unfold Rho.del at ih ⊢
    rw [List.filter_cons]
    cases e : z == x with
    | true =>
      have e' : (y == z) = false := by
        cases q : y == z with
        | false => rfl
        | true => exact absurd ((beq_iff_eq.mp q).trans (beq_iff_eq.mp e)) h
      simp only [Bool.not_true, Bool.false_eq_true, if_false, List.lookup_cons, e']
      exact ih
    | false =>
      simp only [Bool.not_false, if_true, List.lookup_cons]
      rw [ih]
theorem del_some {ρ : Rho} {x y : Str} {sl : Slot} (h : (Rho.del ρ x).lookup y = some sl) : y ≠ x ∧ ρ.lookup y = some sl := by
  by_cases e : y = x
  · subst e; rw [del_self] at h; cases h
  · rw [del_other ρ e] at h; exact ⟨e, h⟩
section
variable {W : Wd} {c : Fx} {ρ ρ' : Rho} {g : Gh} {s : Shared}
theorem Sim.sub (S : Sim W c ρ g s) (h : ∀ x sl, ρ'.lookup x = some sl → ρ.lookup x = some sl) : Sim W c ρ' g s :=
  { S with slot := fun x sl e => S.slot x sl (h x sl e), apart := fun x y xs ys e e' => S.apart x y xs ys (h _ _ e) (h _ _ e'), pin := fun x a xs p e => S.pin x a xs p (h _ _ e) }
theorem Sim.del (S : Sim W c ρ g s) (x : Str) : Sim W c (ρ.del x) g s := S.sub fun _ _ e => (del_some e).2
theorem Sim.put (S : Sim W c (ρ.del x) g s) {sl : Slot} (h : SlotOk W c g s.heap x sl) (ha : ∀ xs, sl = .own xs → ∀ y ys, (ρ.del x).lookup y = some (.own ys) → g.adr y ≠ g.adr x)
    (hp : ∀ xs a, sl = .own xs → c.pin.lookup x = some a → g.adr x = a) : Sim W c ((x, sl) :: ρ) g s :=
  { S with
    slot := fun y sl' e => by
      rw [List.lookup_cons] at e
      cases q : y == x with
      | true => rw [q] at e; cases e; rw [beq_iff_eq.mp q]; exact h
      | false =>
        rw [q] at e
        exact S.slot y sl' (by rw [del_other ρ (fun z => by rw [z] at q; simp at q)]; exact e)
    apart := fun y z ys zs e e' he => by
      rw [List.lookup_cons] at e e'
      cases q : y == x <;> cases q' : z == x <;> rw [q] at e <;> rw [q'] at e'
      · have hy : y ≠ x := fun z => by rw [z] at q; simp at q
        have hz : z ≠ x := fun z => by rw [z] at q'; simp at q'
        exact S.apart y z ys zs (by rw [del_other ρ hy]; exact e) (by rw [del_other ρ hz]; exact e') he
      · have hy : y ≠ x := fun z => by rw [z] at q; simp at q
        cases e'
        rw [beq_iff_eq.mp q'] at he
        exact absurd he (ha zs rfl y ys (by rw [del_other ρ hy]; exact e))
      · have hz : z ≠ x := fun z => by rw [z] at q'; simp at q'
        cases e
        rw [beq_iff_eq.mp q] at he
        exact absurd he.symm (ha ys rfl z zs (by rw [del_other ρ hz]; exact e'))
      · rw [beq_iff_eq.mp q, beq_iff_eq.mp q']
    pin := fun y a ys p e => by
      rw [List.lookup_cons] at e
      cases q : y == x with
      | true => rw [q] at e; cases e; rw [beq_iff_eq.mp q] at p ⊢; exact hp ys a rfl p
      | false =>
        rw [q] at e
        exact S.pin y a ys p (by rw [del_other ρ (fun z => by rw [z] at q; simp at q)]; exact e) }
theorem Sim.putVal (S : Sim W c (ρ.del x) g s) {v : V} {val : Value} (h : VarAt c g s.heap x val) (hr : Rep g.G val v) : Sim W c ((x, .val v) :: ρ) g s :=
  S.put ⟨val, h, hr⟩ (fun _ e => by cases e) fun _ _ e => by cases e
noncomputable def Storable (c : Fx) (x : Str) : Prop := c.env.kindOf x = some .local ∨ (c.env.kindOf x = some .cell ∧ c.own = true ∧ ∃ a, c.env.cells.lookup x = some a)
theorem wp_store {x : Str} {val : Value} {Q : Unit → Shared → Prop} {E : Value → Shared → Prop} (F : FK c) (S : Sim W c ρ g s) (hk : Storable c x)
    (h : ∀ g' s', g'.G = g.G → g'.X = g.X → g'.adr = g.adr → Sim W c (ρ.del x) g' s' → VarAt c g' s'.heap x val → (∀ b o, b ≠ c.env.locals → (∀ y, c.env.cells.lookup y ≠ some b) → s.heap.get? b = some o → s'.heap.get? b = some o) → Q () s') :
    wpAny (model W.prog W.w) c.A (storeName c.env x val) Q E s := by
  obtain ⟨oL, es, ep, hoL, hdL, _⟩ := id S.ns
  rcases hk with hl | ⟨hl, hown, a, ha⟩
  · refine wpAny_storeName_local hl S.ns (fun h' hn hs => ?_) (by rw [F.kind]; rfl)
    have hne : ∀ b o, b ≠ c.env.locals → s.heap.get? b = some o → h'.get? b = some o := fun b o q e => (hs.2 b q).trans e
    have hlob : ∀ b vs n, s.heap.get? b = some (lobj vs n) → b ≠ c.env.locals := fun b vs n e q => by
      rw [q, hoL] at e; cases e; cases hdL
    have hcellne : ∀ b v, s.heap.IsCell b v → b ≠ c.env.locals := fun b v ⟨o, ho, hd⟩ q => by
      rw [q, hoL] at ho; cases ho; rw [hdL] at hd; cases hd
    refine h { g with m := fun y => if y = x then some val else g.m y } _ rfl rfl rfl ?_ (.inl ⟨hl, by simp⟩) fun b o hb _ e => hne b o hb e
    have S0 := S.del x
    exact {
      gens := S.gens, os := S.os
      base := fun b o e => hne b o (fun q => by rw [q, S.locH] at e; cases e) (S.base b o e)
      keep := fun b o e => by
        obtain ⟨o', e', p⟩ := S.keep b o e
        exact ⟨o', hne b o' (fun q => by rw [q, S.loc0] at e; cases e) e', p⟩
      fr := fun b o e => by
        obtain ⟨vs, n, rfl⟩ := S.glist b o e
        exact hne b _ (hlob b vs n (S.fr b _ e)) (S.fr b _ e)
      gin := S.gin, gnew := S.gnew, glist := S.glist
      frames := fun env he => by
        obtain ⟨q1, L, o, es', n', q2, q3, q4, q5⟩ := S.frames env he
        by_cases q : L = c.env.locals
        · obtain ⟨o', es'', ep'', w1, w2, _⟩ := hn
          exact ⟨q1, L, o', es'', ep'', q2, q3, by rw [q]; exact w1, w2⟩
        · exact ⟨q1, L, o, es', n', q2, q3, hne _ _ q q4, q5⟩
      ns := hn
      loc0 := S.loc0, locH := S.locH
      cells := fun y b e => let ⟨v, q⟩ := S.cells y b e; ⟨v, let ⟨o, ho, hd⟩ := q; ⟨o, hne b o (hcellne b v q) ho, hd⟩⟩
      cells0 := S.cells0
      slot := fun y sl e => by
        have hyx := (del_some e).1
        have z := S0.slot y sl e
        have var : ∀ w, VarAt c g s.heap y w → VarAt c { g with m := fun y => if y = x then some val else g.m y } h' y w := fun w q => by
          rcases q with ⟨q1, q2⟩ | ⟨q1, b, q2, q3⟩
          · exact .inl ⟨q1, by show (if y = x then some val else g.m y) = _; rw [if_neg hyx]; exact q2⟩
          · exact .inr ⟨q1, b, q2, let ⟨o, ho, hd⟩ := q3; ⟨o, hne b o (hcellne b _ q3) ho, hd⟩⟩
        cases sl with
        | val v => obtain ⟨w, q1, q2⟩ := z; exact ⟨w, var w q1, q2⟩
        | own xs => obtain ⟨q1, ⟨vs, n, q2, q3⟩, q4⟩ := z; exact ⟨var _ q1, ⟨vs, n, hne _ _ (hlob _ vs n q2) q2, q3⟩, q4⟩
      apart := S0.apart
      pin := S0.pin
      xp := fun b o e => hne b o (fun q => by
        obtain ⟨vs, hd⟩ := S.xk b o e
        have := S.xp b o e
        rw [q, hoL] at this; cases this; rw [hdL] at hd; cases hd) (S.xp b o e)
      xk := S.xk }
  · obtain ⟨v₀, hv⟩ := S.cells x a ha
    obtain ⟨c1, c2, c3⟩ := S.cells0 hown x a ha
    refine wpAny_storeName_cell F.kind hl ha hv fun h' hc hs => ?_
    obtain ⟨oc, hoc, hdc⟩ := hv
    have hne : ∀ b o, b ≠ a → s.heap.get? b = some o → h'.get? b = some o := fun b o q e => (hs.2 b q).trans e
    have hlob : ∀ b vs n, s.heap.get? b = some (lobj vs n) → b ≠ a := fun b vs n e q => by
      rw [q, hoc] at e; cases e; cases hdc
    have hLa : c.env.locals ≠ a := fun q => by rw [q, hoc] at hoL; cases hoL; rw [hdc] at hdL; cases hdL
    refine h g _ rfl rfl rfl ?_ (.inr ⟨.inl hl, a, ha, hc⟩) fun b o _ hb e => hne b o (fun q => hb x (q ▸ ha)) e
    have S0 := S.del x
    exact {
      gens := S.gens, os := S.os
      base := fun b o e => hne b o (fun q => by rw [q, c2] at e; cases e) (S.base b o e)
      keep := fun b o e => by
        obtain ⟨o', e', p⟩ := S.keep b o e
        exact ⟨o', hne b o' (fun q => by rw [q, c1] at e; cases e) e', p⟩
      fr := fun b o e => by
        obtain ⟨vs, n, rfl⟩ := S.glist b o e
        exact hne b _ (hlob b vs n (S.fr b _ e)) (S.fr b _ e)
      gin := S.gin, gnew := S.gnew, glist := S.glist
      frames := fun env he => by
        obtain ⟨q1, L, o, es', n', q2, q3, q4, q5⟩ := S.frames env he
        exact ⟨q1, L, o, es', n', q2, q3, hne _ _ (fun q => by rw [q, hoc] at q4; cases q4; rw [hdc] at q5; cases q5) q4, q5⟩
      ns := S.ns.sameBut hs hLa
      loc0 := S.loc0, locH := S.locH
      cells := fun y b e => by
        by_cases q : b = a
        · exact ⟨_, q ▸ hc⟩
        · obtain ⟨v, o, ho, hd⟩ := S.cells y b e
          exact ⟨v, o, hne b o q ho, hd⟩
      cells0 := S.cells0
      slot := fun y sl e => by
        have hyx := (del_some e).1
        have z := S0.slot y sl e
        have var : ∀ w, VarAt c g s.heap y w → VarAt c g h' y w := fun w q => by
          rcases q with ⟨q1, q2⟩ | ⟨q1, b, q2, q3⟩
          · exact .inl ⟨q1, q2⟩
          · obtain ⟨o, ho, hd⟩ := q3
            exact .inr ⟨q1, b, q2, o, hne b o (fun q => hyx (c3 y (q ▸ q2))) ho, hd⟩
        cases sl with
        | val v => obtain ⟨w, q1, q2⟩ := z; exact ⟨w, var w q1, q2⟩
        | own xs => obtain ⟨q1, ⟨vs, n, q2, q3⟩, q4⟩ := z; exact ⟨var _ q1, ⟨vs, n, hne _ _ (hlob _ vs n q2) q2, q3⟩, q4⟩
      apart := S0.apart
      pin := S0.pin
      xp := fun b o e => hne b o (fun q => by
        obtain ⟨vs, hd⟩ := S.xk b o e
        have := S.xp b o e
        rw [q, hoc] at this; cases this; rw [hdc] at hd; cases hd) (S.xp b o e)
      xk := S.xk }
theorem wp_storeVal {x : Str} {val : Value} {v : V} {Q : Unit → Shared → Prop} {E : Value → Shared → Prop} (F : FK c) (S : Sim W c ρ g s) (hk : Storable c x) (hr : Rep g.G val v)
    (h : ∀ g' s', g'.G = g.G → g'.X = g.X → g'.adr = g.adr → Sim W c ((x, .val v) :: ρ) g' s' → Q () s') : wpAny (model W.prog W.w) c.A (storeName c.env x val) Q E s :=
  wp_store F S hk fun g' s' hG hX hadr S' hv _ => h g' s' hG hX hadr (S'.putVal hv (by rw [hG]; exact hr))
theorem Sim.adrs (S : Sim W c ρ g s) (f : Str → Addr) (h : ∀ x xs, ρ.lookup x = some (.own xs) → f x = g.adr x) : Sim W c ρ { g with adr := f } s :=
  { S with
    slot := fun x sl e => by
      have z := S.slot x sl e
      cases sl with
      | val v => exact z
      | own xs => obtain ⟨q1, q2, q3, q4, q5⟩ := z; have := h x xs e; exact ⟨by show VarAt c _ s.heap x (.ref (f x)); rw [this]; exact q1, by show ∃ vs n, s.heap.get? (f x) = _ ∧ _; rw [this]; exact q2, by show g.G (f x) = none; rw [this]; exact q3, by show W.H0.get? (f x) = none; rw [this]; exact q4, by show c.h₀ (f x) = none ∨ (c.ex (f x) ∧ _); rw [this]; exact q5⟩
    apart := fun x y xs ys e e' he => S.apart x y xs ys e e' (by have h1 := h x xs e; have h2 := h y ys e'; show g.adr x = g.adr y; rw [← h1, ← h2]; exact he)
    pin := fun x a xs p e => by show f x = a; rw [h x xs e]; exact S.pin x a xs p e }
theorem wp_storeOwn {k : Nat} {x : Str} {a : Addr} {vs : Array Value} {n : Nat} {xs : List V} {Q : Unit → Shared → Prop} {E : Value → Shared → Prop} (F : FOk k c) (S : Sim W c ρ g s) (hk : Storable c x) (hl : s.heap.get? a = some (lobj vs n)) (hr : Reps g.G vs.toList xs)
    (hf : Fresh W c g s.heap a) (hadr : ∀ y ys, ρ.lookup y = some (.own ys) → g.adr y ≠ a) (hp : c.pin.lookup x = none)
    (h : ∀ g' s', g'.G = g.G → g'.X = g.X → Sim W c ((x, .own xs) :: ρ) g' s' → Q () s') : wpAny (model W.prog W.w) c.A (storeName c.env x (.ref a)) Q E s :=
  wp_store F.toFK S hk fun g' s' hG hX hadr' S' hv hlob => by
    refine h { g' with adr := fun y => if y = x then a else g'.adr y } s' hG hX ?_
    have S'' := S'.adrs (fun y => if y = x then a else g'.adr y) fun y ys e => if_neg (del_some e).1
    refine S''.put ?_ (fun xs' e y ys he => ?_) fun xs' b e p => by rw [hp] at p; cases p
    · refine ⟨?_, ⟨vs, n, ?_, ?_⟩, ?_, ?_, ?_⟩ <;> dsimp only <;> (try rw [if_pos rfl])
      · exact hv
      · refine hlob _ _ (fun q => ?_) (fun y e => ?_) hl
        · obtain ⟨oL, es, ep, hoL, hdL, _⟩ := S.ns
          rw [← q, hl] at hoL; cases hoL; cases hdL
        · obtain ⟨v, o, ho, hd⟩ := S.cells y a e
          rw [hl] at ho; cases ho; cases hd
      · rw [hG]; exact hr
      · rw [hG]; exact hf.g
      · exact hf.H
      · exact .inl hf.h0
    · obtain ⟨hyx, he⟩ := del_some he
      show (if y = x then a else g'.adr y) ≠ (if x = x then a else g'.adr x)
      rw [if_neg hyx, if_pos rfl, hadr']
      exact hadr y ys he
end
section
variable {W : Wd} {c : Fx} {ρ : Rho} {k : Nat}
theorem EX_Assign {x : Str} {px pos : Pos} {e : Expr} {Qn : Rho → Prop} {Qr : V → Rho → Prop} (F : FK c) (hk : Storable c x) (h : EV W c ρ e fun v => Qn ((x, .val v) :: ρ))
    (hs : swapsWith e (some (.Name x px)) pos.line c.env = pure false := by rfl) : EX W c ρ (.Assign [.Name x px] e pos) Qn Qr := fun g s Qc E S hn hr => by
  refine wpAny_Assign_Name (h g s _ E S fun v val G' s' q hG S' r => ?_) hs
  exact wp_storeVal F S' hk r fun g' s'' hG' hX _ S'' => hn _ g' s'' q ⟨hG' ▸ hG, hX⟩ S''
theorem EX_AssignOwn {x : Str} {px pos : Pos} {e : Expr} {Qn : Rho → Prop} {Qr : V → Rho → Prop} (F : FOk k c) (hk : Storable c x) (hp : c.pin.lookup x = none) (h : EVF W c ρ e fun xs => Qn ((x, .own xs) :: ρ))
    (hs : swapsWith e (some (.Name x px)) pos.line c.env = pure false := by rfl) : EX W c ρ (.Assign [.Name x px] e pos) Qn Qr := fun g s Qc E S hn hr => by
  refine wpAny_Assign_Name (h g s _ E S fun xs a vs n G' s' q hG S' hl r hf hadr => ?_) hs
  exact wp_storeOwn F S' hk hl r hf hadr hp fun g' s'' hG' hX S'' => hn _ g' s'' q ⟨hG' ▸ hG, hX⟩ S''
theorem Sim.freeze {x : Str} {xs : List V} {g : Gh} {s : Shared} (S : Sim W c ρ g s) (hx : ρ.lookup x = some (.own xs)) (hp : c.pin.lookup x = none) :
    ∃ G', g.G.le G' ∧ Sim W c ((x, .val (.list xs)) :: ρ) { g with G := G' } s := by
  obtain ⟨q1, ⟨vs, n, q2, q3⟩, q4, q5, q6⟩ := S.slot x _ hx
  have h0 : c.h₀ (g.adr x) = none := by
    rcases q6 with q | ⟨_, q⟩
    · exact q
    · rw [hp] at q; cases q
  have S1 := (S.del x).freezeNew (a := g.adr x) (vs := vs) (n := n) ⟨q4, q5, h0⟩ q2 fun y ys e he => (del_some e).1 (S.apart y x ys xs (del_some e).2 hx he)
  exact ⟨_, addG_le q4, S1.putVal (g := { g with G := addG g.G (g.adr x) (lobj vs n) }) q1 (.list addG_self (q3.mono (addG_le q4)))⟩
theorem EXS_freeze {x : Str} {xs : List V} {st : List Stmt} {Qn : Rho → Prop} {Qr : V → Rho → Prop} (hx : ρ.lookup x = some (.own xs)) (hp : c.pin.lookup x = none) (h : EXS W c ((x, .val (.list xs)) :: ρ) st Qn Qr) : EXS W c ρ st Qn Qr :=
  fun g s Qc E S hn hr => by
    obtain ⟨G', hG, S'⟩ := S.freeze hx hp
    exact h _ s Qc E S' (fun ρ' g' s' q hG' => hn ρ' g' s' q ((Gh.le.of hG).trans hG')) fun v val ρ' g' s' q hG' => hr v val ρ' g' s' q ((Gh.le.of hG).trans hG')
theorem EXS_sub {ρ' : Rho} {st : List Stmt} {Qn : Rho → Prop} {Qr : V → Rho → Prop} (hs : ∀ x sl, ρ'.lookup x = some sl → ρ.lookup x = some sl) (h : EXS W c ρ' st Qn Qr) : EXS W c ρ st Qn Qr :=
  fun g s Qc E S => h g s Qc E (S.sub hs)
theorem fresh_new {g : Gh} {s : Shared} (S : Sim W c ρ g s) {a : Addr} (hn : s.heap.get? a = none) {h' : Heap} : Fresh W c g h' a ∧ ∀ x ys, ρ.lookup x = some (.own ys) → g.adr x ≠ a := by
  refine ⟨⟨?_, ?_, S.keep.none hn⟩, fun x ys e q => ?_⟩
  · cases e : g.G a with
    | none => rfl
    | some o => have := S.fr a o e; rw [hn] at this; cases this
  · cases e : W.H0.get? a with
    | none => rfl
    | some o => have := S.base a o e; rw [hn] at this; cases this
  · obtain ⟨_, ⟨vs, n, q2, _⟩, _⟩ := S.slot x _ e
    rw [q, hn] at q2; cases q2
theorem EVF_List {es : List Expr} {pos : Pos} {Q : List V → Prop} (h : EVL W c ρ es fun xs => xs.length ≤ sizeLine ∧ Q xs) : EVF W c ρ (.List es pos) Q := fun g s Qc E S hq => by
  refine wpAny_List (h g s pos _ E S fun xs vals G1 s1 h1 hG1 S1 r1 => ⟨by rw [r1.length]; exact h1.1, ?_⟩)
  have hn : s1.heap.get? s1.heap.objs.size = none := Heap.get?_none_of_le (Nat.le_refl _)
  obtain ⟨f1, f2⟩ := fresh_new S1 hn (h' := s1.heap.push (lobj vals.toArray 0))
  refine hq xs _ vals.toArray 0 G1 _ h1.2 hG1 (S1.keeps (tk := s1.toks) (dr := s1.drawn) fun b o e => Heap.get?_push_of_some _ e) (Heap.get?_push_size _ rfl) r1 f1 f2
end
end Mine
end
section
open PySem PySem.W PyProof.Rows
namespace Mine
section
variable {W : Wd} {c : Fx} {ρ : Rho} {k : Nat}
theorem OV_add_int {i j : Int} {Q : V → Prop} (h : Q (.int (i + j))) : OV W c ρ [.int i, .int j] (fun l => binaryOp .Add (l.getD 0 .none) (l.getD 1 .none)) Q := fun g s vals Qc E S r hq => by
  cases r with | cons r1 r => cases r1; cases r with | cons r2 r => cases r2; cases r; exact add_int (hq _ _ _ _ h (.refl _) (S.tok _) (.int _ _))
theorem OV_sub_int {i j : Int} {Q : V → Prop} (h : Q (.int (i - j))) : OV W c ρ [.int i, .int j] (fun l => binaryOp .Sub (l.getD 0 .none) (l.getD 1 .none)) Q := fun g s vals Qc E S r hq => by
  cases r with | cons r1 r => cases r1; cases r with | cons r2 r => cases r2; cases r; exact sub_int (hq _ _ _ _ h (.refl _) (S.tok _) (.int _ _))
theorem OV_mul_int {i j : Int} {Q : V → Prop} (hm : IntMulOk i j) (h : Q (.int (i * j))) : OV W c ρ [.int i, .int j] (fun l => binaryOp .Mult (l.getD 0 .none) (l.getD 1 .none)) Q := fun g s vals Qc E S r hq => by
  cases r with | cons r1 r => cases r1; cases r with | cons r2 r => cases r2; cases r; exact mul_int (hq _ _ _ _ h (.refl _) (S.tok _) (.int _ _)) hm
theorem OV_fdiv_int {i j : Int} {Q : V → Prop} (hj : j ≠ 0) (hp : Builtin.divisionGoesByPylong i j = false) (h : Q (.int (i.fdiv j))) : OV W c ρ [.int i, .int j] (fun l => binaryOp .FloorDiv (l.getD 0 .none) (l.getD 1 .none)) Q := fun g s vals Qc E S r hq => by
  cases r with | cons r1 r => cases r1; cases r with | cons r2 r => cases r2; cases r; exact floordiv_int hj (hq _ _ _ _ h (.refl _) (S.tok _) (.int _ _)) (.inl hp)
theorem OV_mod_int {i j : Int} {Q : V → Prop} (hj : j ≠ 0) (h : Q (.int (i.fmod j))) : OV W c ρ [.int i, .int j] (fun l => binaryOp .Mod (l.getD 0 .none) (l.getD 1 .none)) Q := fun g s vals Qc E S r hq => by
  cases r with | cons r1 r => cases r1; cases r with | cons r2 r => cases r2; cases r; exact mod_int' hj (hq _ _ _ _ h (.refl _) (S.tok _) (.int _ _))
theorem OV_and_int {i j : Int} {Q : V → Prop} (h : Q (.int (Builtin.bitAnd i j))) : OV W c ρ [.int i, .int j] (fun l => binaryOp .BitAnd (l.getD 0 .none) (l.getD 1 .none)) Q := fun g s vals Qc E S r hq => by
  cases r with | cons r1 r => cases r1; cases r with | cons r2 r => cases r2; cases r; exact and_int (hq _ _ _ _ h (.refl _) (S.tok _) (.int _ _))
theorem OV_xor_int {i j : Int} {Q : V → Prop} (h : Q (.int (Builtin.bitXor i j))) : OV W c ρ [.int i, .int j] (fun l => binaryOp .BitXor (l.getD 0 .none) (l.getD 1 .none)) Q := fun g s vals Qc E S r hq => by
  cases r with | cons r1 r => cases r1; cases r with | cons r2 r => cases r2; cases r; exact xor_int (hq _ _ _ _ h (.refl _) (S.tok _) (.int _ _))
theorem OV_shr_int {i j : Int} {Q : V → Prop} (hj : 0 ≤ j) (h : Q (.int (i.fdiv (2 ^ j.toNat)))) : OV W c ρ [.int i, .int j] (fun l => binaryOp .RShift (l.getD 0 .none) (l.getD 1 .none)) Q := fun g s vals Qc E S r hq => by
  cases r with | cons r1 r => cases r1; cases r with | cons r2 r => cases r2; cases r; exact rshift_int hj (hq _ _ _ _ h (.refl _) (S.tok _) (.int _ _))
theorem OV_pow_int {i j : Int} {Q : V → Prop} (hj : 0 ≤ j) (hj2 : j ≤ 1000000) (ha : i.natAbs < 2 ^ 64) (h : Q (.int (i ^ j.toNat))) : OV W c ρ [.int i, .int j] (fun l => binaryOp .Pow (l.getD 0 .none) (l.getD 1 .none)) Q := fun g s vals Qc E S r hq => by
  cases r with | cons r1 r => cases r1; cases r with | cons r2 r => cases r2; cases r; exact pow_int_small hj hj2 ha (hq _ _ _ _ h (.refl _) (S.tok _) (.int _ _))
theorem OV_neg_int {i : Int} {Q : V → Prop} (h : Q (.int (-i))) : OV W c ρ [.int i] (fun l => unaryOp .USub (l.getD 0 .none)) Q := fun g s vals Qc E S r hq => by
  cases r with | cons r1 r => cases r1; cases r; exact neg_int (hq _ _ _ _ h (.refl _) (S.tok _) (.int _ _))
theorem OV_add_str {x y : Str} {Q : V → Prop} (hz : x.length + y.length ≤ sizeLine) (h : Q (.str (x ++ y))) : OV W c ρ [.str x, .str y] (fun l => binaryOp .Add (l.getD 0 .none) (l.getD 1 .none)) Q := fun g s vals Qc E S r hq => by
  cases r with | cons r1 r => cases r1; cases r with | cons r2 r => cases r2; cases r; exact add_str (fun t' tk => hq _ _ _ _ h (.refl _) (S.tok _) (.str _ _)) hz
theorem OV_mul_str {x : Str} {n : Int} {Q : V → Prop} (hz : MulOk x n) (h : Q (.str (Txt.mul x n))) : OV W c ρ [.str x, .int n] (fun l => binaryOp .Mult (l.getD 0 .none) (l.getD 1 .none)) Q := fun g s vals Qc E S r hq => by
  cases r with | cons r1 r => cases r1; cases r with | cons r2 r => cases r2; cases r; exact SB.mul hz (fun t' tk => hq _ _ _ _ h (.refl _) (S.tok _) (.str _ _))
theorem OV_eq_int {i j : Int} {Q : V → Prop} (h : Q (.bool (i == j))) : OV W c ρ [.int i, .int j] (fun l => compareOp .Eq (l.getD 0 .none) (l.getD 1 .none)) Q := fun g s vals Qc E S r hq => by
  cases r with | cons r1 r => cases r1; cases r with | cons r2 r => cases r2; cases r; exact eq_int (hq _ _ _ _ h (.refl _) S (.bool _))
theorem OV_ne_int {i j : Int} {Q : V → Prop} (h : Q (.bool (i != j))) : OV W c ρ [.int i, .int j] (fun l => compareOp .NotEq (l.getD 0 .none) (l.getD 1 .none)) Q := fun g s vals Qc E S r hq => by
  cases r with | cons r1 r => cases r1; cases r with | cons r2 r => cases r2; cases r; exact ne_int (hq _ _ _ _ h (.refl _) S (.bool _))
theorem OV_lt_int {i j : Int} {Q : V → Prop} (h : Q (.bool (decide (i < j)))) : OV W c ρ [.int i, .int j] (fun l => compareOp .Lt (l.getD 0 .none) (l.getD 1 .none)) Q := fun g s vals Qc E S r hq => by
  cases r with | cons r1 r => cases r1; cases r with | cons r2 r => cases r2; cases r; exact lt_int (hq _ _ _ _ h (.refl _) S (.bool _))
theorem OV_eq_str {i j : Str} {Q : V → Prop} (h : Q (.bool (i == j))) : OV W c ρ [.str i, .str j] (fun l => compareOp .Eq (l.getD 0 .none) (l.getD 1 .none)) Q := fun g s vals Qc E S r hq => by
  cases r with | cons r1 r => cases r1; cases r with | cons r2 r => cases r2; cases r; exact eq_str (hq _ _ _ _ h (.refl _) S (.bool _))
theorem OV_is_none_none {Q : V → Prop} (h : Q (.bool true)) : OV W c ρ [.none, .none] (fun l => compareOp .Is (l.getD 0 .none) (l.getD 1 .none)) Q := fun g s vals Qc E S r hq => by
  cases r with | cons r1 r => cases r1; cases r with | cons r2 r => cases r2; cases r; exact is_none (hq _ _ _ _ h (.refl _) S (.bool _))
theorem OV_is_none_int {i : Int} {Q : V → Prop} (h : Q (.bool false)) : OV W c ρ [.int i, .none] (fun l => compareOp .Is (l.getD 0 .none) (l.getD 1 .none)) Q := fun g s vals Qc E S r hq => by
  cases r with | cons r1 r => cases r1; cases r with | cons r2 r => cases r2; cases r; exact is_none (hq _ _ _ _ h (.refl _) S (.bool _))
theorem OV_is_none_ref {a : Addr} {Q : V → Prop} (h : Q (.bool false)) : OV W c ρ [.glob (.ref a), .none] (fun l => compareOp .Is (l.getD 0 .none) (l.getD 1 .none)) Q := fun g s vals Qc E S r hq => by
  cases r with | cons r1 r => cases r1; cases r with | cons r2 r => cases r2; cases r; exact is_none (hq _ _ _ _ h (.refl _) S (.bool _))
theorem OV_isNot_none {Q : V → Prop} (h : Q (.bool false)) : OV W c ρ [.none, .none] (fun l => compareOp .IsNot (l.getD 0 .none) (l.getD 1 .none)) Q := fun g s vals Qc E S r hq => by
  cases r with | cons r1 r => cases r1; cases r with | cons r2 r => cases r2; cases r; exact isNot_none (hq _ _ _ _ h (.refl _) S (.bool _))
noncomputable def EVP (W : Wd) (c : Fx) (ρ : Rho) (e : Expr) (Q : List V → Prop) : Prop :=
  ∀ (g : Gh) (s : Shared) (Qc : Value → Shared → Prop) (E : Value → Shared → Prop), Sim W c ρ g s →
    (∀ xs a G' s', Q xs → g.G.le G' → Sim W c ρ { g with G := G' } s' →
      (∀ G'' s'', GM.le G' G'' → Sim W c ρ { g with G := G'' } s'' → ∃ vs n, s''.heap.get? a = some (lobj vs n) ∧ Reps G'' vs.toList xs) → Qc (.ref a) s') → wpAny (model W.prog W.w) c.A (eval e c.env) Qc E s
theorem EVP_of {e : Expr} {Q : List V → Prop} (h : EV W c ρ e fun v => ∃ xs, v = .list xs ∧ Q xs) : EVP W c ρ e Q := fun g s Qc E S hq =>
  h g s Qc E S fun v val G' s' q hG S' r => by
    obtain ⟨xs, rfl, q⟩ := q
    cases r with
    | list ha hr => exact hq xs _ G' s' q hG S' fun G'' s'' hG' S'' => ⟨_, _, S''.fr _ _ (hG' _ _ ha), hr.mono hG'⟩
theorem EVP_own {x : Str} {pos} {xs : List V} {Q : List V → Prop} (F : FOk k c) (hx : ρ.lookup x = some (.own xs)) (hq : Q xs) (hd : (x == ("__debug__" : Str)) = false := by kernel_rfl)
    (hc : (x == ("__classdict__" : Str)) = false := by kernel_rfl) : EVP W c ρ (.Name x pos) Q := fun g s Qc E S h => by
  obtain ⟨hv, _⟩ := S.slot x _ hx
  exact wpAny_Name (wp_load F.toFK S hv (h xs _ g.G s hq (.refl _) S fun G'' s'' _ S'' => by obtain ⟨_, h1, _⟩ := S''.slot x _ hx; exact h1) hc) hd
theorem isList_lobj {h : Heap} {a : Addr} {vs : Array Value} {n : Nat} (e : h.get? a = some (lobj vs n)) : h.IsList a vs := ⟨_, e, rfl, n, rfl⟩
theorem EV_Item {b i : Expr} {pos : Pos} {Q : V → Prop} (h : EVP W c ρ b fun xs => EV W c ρ i fun v => ∃ j : Int, v = .int j ∧ 0 ≤ j ∧ j < 2 ^ 63 ∧ ∃ x, xs[j.toNat]? = some x ∧ Q x)
    (hs : ∀ o t j, subscripted i false (.ref o) (.int j t) = operate [.ref o, .int j t] (getItem (.ref o) (.int j t)) := by intro _ _ _; rfl) : EV W c ρ (.Subscript b i pos) Q := fun g s Qc E S hq => by
  refine Subscript_ (h g s _ E S fun xs a G1 s1 h1 hG1 S1 p1 => ?_)
  refine h1 _ s1 _ E S1 fun v val G2 s2 h2 hG2 S2 r2 => ?_
  obtain ⟨j, rfl, j0, j1, x, hx, q⟩ := h2
  obtain ⟨vs, n, ha, hr⟩ := p1 G2 s2 hG2 S2
  obtain ⟨w, hw, hrw⟩ := hr.get hx
  cases r2
  refine tail_any (isList_lobj ha).typeIs slot_list_getitem.lookup (wpAny_getItem_list (isList_lobj ha) j0 j1 (by simpa using hw) (hq x w G2 s2 q (hG1.trans hG2) S2 hrw)) (hs _ _ _)
theorem EV_len {x : Str} {p pos : Pos} {b : Expr} {Q : V → Prop} (F : FOk k c) (hx : Glo W x (.builtin "len")) (hk : c.env.kindOf x = some .globalImplicit)
    (h : EVP W c ρ b fun xs => xs.length ≤ sizeLine ∧ Q (.int xs.length)) (hd : (x == ("__debug__" : Str)) = false := by kernel_rfl) (he : starEach [b] c.env = [(false, eval b c.env)] := by rfl) : EV W c ρ (.Call (.Name x p) [b] [] pos) Q := fun g s Qc E S hq => by
  refine wpAny_Call_Name_kw (wpAny_Name (wp_global (env := c.env) F.toFK S hx hk ?_) hd)
  show wpAny _ _ (callWith pos (.builtin "len") [] (backTo pos (starEach [b] c.env)) []) _ _ _
  refine callWith_builtin1 (args_cons (h g s _ E S fun xs a G1 s1 h1 hG1 S1 p1 => args_nil ?_) he) he
  obtain ⟨vs, n, ha, hr⟩ := p1 G1 s1 (.refl _) S1
  have hsz : vs.size = xs.length := by rw [← hr.length, Array.length_toList]
  refine Calls.call_len_list (isList_lobj ha) (by rw [hsz]; have := h1.1; rw [sizeLine_eq] at this; exact om142 this) ?_
  rw [hsz]
  exact hq (.int xs.length) _ G1 _ h1.2 hG1 (S1.tok _) (.int _ _)
noncomputable def vslice {α : Type} (xs : List α) (lo hi st : Option Int) : List α := (sliceRange (sliceBounds lo hi st xs.length).1 (sliceBounds lo hi st xs.length).2.1 (sliceBounds lo hi st xs.length).2.2).filterMap (xs[·]?)
theorem reps_pick {G : GM} {vs : Array Value} {xs : List V} (h : Reps G vs.toList xs) : ∀ l : List Nat, Reps G (l.filterMap (vs[·]?)) (l.filterMap (xs[·]?))
  | [] => .nil
  | i :: r => by
    rw [List.filterMap_cons, List.filterMap_cons]
    cases hx : xs[i]? with
    | some x =>
      obtain ⟨w, hw, hr⟩ := h.get hx
      have : vs[i]? = some w := by simpa using hw
      rw [this]
      exact .cons hr (reps_pick h r)
    | none =>
      have : vs[i]? = none := by
        have hl := h.length
        rw [List.getElem?_eq_none_iff] at hx
        rw [Array.getElem?_eq_none_iff, ← Array.length_toList]; exact om400 hl hx
      rw [this]
      exact reps_pick h r
theorem reps_slice {G : GM} {vs : Array Value} {xs : List V} (h : Reps G vs.toList xs) (lo hi st : Option Int) : Reps G (slicePick vs lo hi st).toList (vslice xs lo hi st) := by
  have hl : vs.size = xs.length := by rw [← h.length, Array.length_toList]
  unfold slicePick vslice
  rw [hl]
  exact reps_pick h _
noncomputable def EVB (W : Wd) (c : Fx) (ρ : Rho) : Option Expr → (Option Int → Prop) → Prop
  | none, Q => Q none
  | some e, Q => EV W c ρ e fun v => ∃ i, v = .int i ∧ Q (some i)
theorem wp_part {e : Option Expr} {Q : Option Int → Prop} {g : Gh} {s : Shared} {Qc : Value → Shared → Prop} {E : Value → Shared → Prop} (S : Sim W c ρ g s) (h : EVB W c ρ e Q)
    (hq : ∀ i val G' s', Q i → g.G.le G' → Sim W c ρ { g with G := G' } s' → IsPart val i → Qc val s') : wpAny (model W.prog W.w) c.A (valueOrNone (evalOpt e c.env)) Qc E s := by
  cases e with
  | none => exact wpAny_pure (hq none .none g.G s h (.refl _) S .none)
  | some e =>
    refine h g s Qc E S fun v val G' s' q hG S' r => ?_
    obtain ⟨i, rfl, q⟩ := q
    cases r
    exact hq (some i) _ G' s' q hG S' (.int _ _)
theorem EVF_Slice {b : Expr} {lo hi st : Option Expr} {p pos : Pos} {Q : List V → Prop} (h : EVP W c ρ b fun xs => EVB W c ρ lo fun l => EVB W c ρ hi fun u => EVB W c ρ st fun t => t ≠ some 0 ∧ xs.length ≤ sizeLine ∧ Q (vslice xs l u t))
    (hs : ∀ o t, ∃ ops, subscripted (.Slice lo hi st p) false (.ref o) (.ref t) = operate ops (getItem (.ref o) (.ref t))) : EVF W c ρ (.Subscript b (.Slice lo hi st p) pos) Q := fun g s Qc E S hq => by
  refine Subscript_ (h g s _ E S fun xs a G1 s1 h1 hG1 S1 p1 => ?_)
  rw [arm_eval_Slice]
  refine wpAny_bind (wp_part S1 h1 fun l vl G2 s2 h2 hG2 S2 r2 => ?_)
  refine wpAny_bind (wpAny_holding (wp_part S2 h2 fun u vu G3 s3 h3 hG3 S3 r3 => ?_))
  refine wpAny_bind (wpAny_holding (wp_part S3 h3 fun t vt G4 s4 h4 hG4 S4 r4 => ?_))
  obtain ⟨ht, hsz, q⟩ := h4
  unfold newFields
  refine wpAny_newObj_type ?_ (by show _ ≤ _; rw [sizeLine_eq]; exact Nat.le_of_ble_eq_true rfl)
  obtain ⟨vs, n, ha, hr⟩ := p1 G4 s4 ((hG2.trans hG3).trans hG4) S4
  obtain ⟨ops, ho⟩ := hs a s4.heap.objs.size
  have ha' := Heap.get?_push_of_some (h := s4.heap) { cls := .type "slice", data := .fields #[vl, vu, vt] } ha
  have hsz' : vs.size = xs.length := by rw [← hr.length, Array.length_toList]
  refine tail_any (Heap.IsList.typeIs (s := { s4 with heap := s4.heap.push { cls := .type "slice", data := .fields #[vl, vu, vt] } }) (isList_lobj ha')) slot_list_getitem.lookup
    (wpAny_getItem_list_slice (isList_lobj ha') (Heap.IsSliceOf.new ..) r2 r3 r4 ht ?_ (by exact om400 hsz' hsz)) ho
  have hn : s4.heap.get? (s4.heap.push { cls := .type "slice", data := .fields #[vl, vu, vt] }).objs.size = none := Heap.get?_none_of_le (by rw [Heap.size_push]; exact om209)
  obtain ⟨f1, f2⟩ := fresh_new S4 hn (h' := (s4.heap.push { cls := .type "slice", data := .fields #[vl, vu, vt] }).push (lobj (slicePick vs l u t) 0))
  exact hq _ _ (slicePick vs l u t) 0 G4 _ q (((hG1.trans hG2).trans hG3).trans hG4) (S4.keeps (tk := s4.toks) (dr := s4.drawn) fun b o e => Heap.get?_push_of_some _ (Heap.get?_push_of_some _ e)) (Heap.get?_push_size _ rfl) (reps_slice hr l u t) f1 f2
end
end Mine
end
section
open PySem PySem.W PyProof.Rows
namespace Mine
section
variable {W : Wd} {c : Fx} {ρ : Rho} {k : Nat}
theorem Reps.one {G : GM} {vals : List Value} {a : V} (h : Reps G vals [a]) : ∃ v, vals = [v] ∧ Rep G v a := by
  cases h with | cons r h => cases h; exact ⟨_, rfl, r⟩
theorem Reps.two {G : GM} {vals : List Value} {a b : V} (h : Reps G vals [a, b]) : ∃ v w, vals = [v, w] ∧ Rep G v a ∧ Rep G w b := by
  cases h with | cons r h => obtain ⟨w, rfl, r'⟩ := h.one; exact ⟨_, w, rfl, r, r'⟩
theorem Sim.setOwn {g : Gh} {s : Shared} {x : Str} {xs ys : List V} {h' : Heap} {tk : Nat} {vs : Array Value} {n : Nat} (S : Sim W c ρ g s) (hx : ρ.lookup x = some (.own xs)) (hk : ∀ b o, b ≠ g.adr x → s.heap.get? b = some o → h'.get? b = some o)
    (he : h'.get? (g.adr x) = some (lobj vs n)) (hr : Reps g.G vs.toList ys) : Sim W c ((x, .own ys) :: ρ) g { s with heap := h', toks := tk } := by
  obtain ⟨q1, ⟨vs0, n0, q2, q3⟩, q4, q5, q6⟩ := S.slot x _ hx
  have var : ∀ y w, VarAt c g s.heap y w → VarAt c g h' y w := fun y w q => by
    rcases q with q | ⟨q1, a, q7, o, ho, hd⟩
    · exact .inl q
    · exact .inr ⟨q1, a, q7, o, hk a o (fun z => by rw [z, q2] at ho; cases ho; cases hd) ho, hd⟩
  obtain ⟨oL, es, ep, hoL, hdL, hrL⟩ := id S.ns
  have hL : c.env.locals ≠ g.adr x := fun z => by rw [z, q2] at hoL; cases hoL; cases hdL
  have S0 := S.del x
  have base : Sim W c (ρ.del x) g { s with heap := h', toks := tk } := {
    gens := S.gens, os := S.os
    base := fun b o e => hk b o (fun z => by rw [z, q5] at e; cases e) (S.base b o e)
    keep := fun b o e => by
      by_cases z : b = g.adr x
      · subst z
        refine ⟨_, he, fun hx => ?_⟩
        rcases q6 with q6 | ⟨q6, _⟩
        · rw [q6] at e; cases e
        · exact absurd q6 hx
      · obtain ⟨o', e', p⟩ := S.keep b o e
        exact ⟨o', hk b o' z e', p⟩
    fr := fun b o e => hk b o (fun z => by rw [z, q4] at e; cases e) (S.fr b o e)
    gin := S.gin, gnew := S.gnew, glist := S.glist
    frames := fun env henv => by
      obtain ⟨w1, L, o, es', n', w2, w3, w4, w5⟩ := S.frames env henv
      exact ⟨w1, L, o, es', n', w2, w3, hk L o (fun z => by rw [z, q2] at w4; cases w4; cases w5) w4, w5⟩
    ns := ⟨oL, es, ep, hk _ _ hL hoL, hdL, hrL⟩
    loc0 := S.loc0, locH := S.locH
    cells := fun y b e => by
      obtain ⟨v, o, ho, hd⟩ := S.cells y b e
      exact ⟨v, o, hk b o (fun z => by rw [z, q2] at ho; cases ho; cases hd) ho, hd⟩
    cells0 := S.cells0
    slot := fun y sl e => by
      have hy := del_some e
      have z := S0.slot y sl e
      cases sl with
      | val v => obtain ⟨w, w1, w2⟩ := z; exact ⟨w, var _ _ w1, w2⟩
      | own zs =>
        obtain ⟨w1, ⟨vs', n', w2, w3⟩, w4⟩ := z
        exact ⟨var _ _ w1, ⟨vs', n', hk _ _ (fun z => hy.1 (S.apart y x zs xs hy.2 hx z)) w2, w3⟩, w4⟩
    apart := S0.apart
    pin := S0.pin
    xp := fun b o e => hk b o (fun z => by
      obtain ⟨vs, hd⟩ := S.xk b o e
      have := S.xp b o e
      rw [z, q2] at this; cases this; cases hd) (S.xp b o e)
    xk := S.xk }
  refine base.put ⟨var _ _ q1, ⟨vs, n, he, hr⟩, q4, q5, q6⟩ (fun zs e y ws hy => ?_) fun zs a e p => S.pin x a xs p hx
  have hy' := del_some hy
  exact fun z => hy'.1 (S.apart y x ws xs hy'.2 hx z)
theorem mapSeq_lobj (f : Array Value → Array Value) (vs : Array Value) (n : Nat) : ∃ m, Obj.mapSeq f (lobj vs n) = lobj (f vs) m := ⟨_, rfl⟩
theorem update_lobj {h : Heap} {a : Addr} {vs n} (f : Array Value → Array Value) (e : h.get? a = some (lobj vs n)) : ∃ m, (h.update a (Obj.mapSeq f)).get? a = some (lobj (f vs) m) := by
  obtain ⟨m, hm⟩ := mapSeq_lobj f vs n
  exact ⟨m, by rw [Heap.get?_update_self _ e (by rw [hm]; rfl), hm]⟩
theorem update_other {h : Heap} {a : Addr} (f : Obj → Obj) : ∀ b o, b ≠ a → h.get? b = some o → (h.update a f).get? b = some o := fun b o hb e => (Heap.get?_update_other h f (Ne.symm hb)).trans e
theorem EX_own {x name : Str} {id : String} {p0 p1 p2 p3 : Pos} {xs : List V} {args : List Expr} {Q : List V → Prop} {Qn : Rho → Prop} {Qr : V → Rho → Prop} (F : FOk k c) (hx : ρ.lookup x = some (.own xs)) (slot : PySem.Slot "list" name id) (hty : typeOf (.builtin id) = pure (.type "method_descriptor"))
    (h : EVL W c ρ args Q)
    (hc : ∀ g s vals vs n ys (Qc : Value → Shared → Prop) E, Sim W c ρ g s → s.heap.get? (g.adr x) = some (lobj vs n) → Reps g.G vs.toList xs → Q ys → Reps g.G vals ys →
      (∀ s' v, (∃ zs vs' n' h' tk, s' = { s with heap := h', toks := tk } ∧ (∀ b o, b ≠ g.adr x → s.heap.get? b = some o → h'.get? b = some o) ∧ h'.get? (g.adr x) = some (lobj vs' n') ∧ Reps g.G vs'.toList zs ∧ Qn ((x, .own zs) :: ρ)) → Qc v s') → wpAny (model W.prog W.w) c.A (call (.builtin id) (.ref (g.adr x) :: vals)) Qc E s)
    (hbase : attributeBase (.Name x p0) name c.env (eval (.Name x p0) c.env) = eval (.Name x p0) c.env := by rfl)
    (hfew : ((backTo p2 (starEach args c.env)).all (fun x => !x.1) && (backToKw p2 (keywordEach [] c.env)).all (fun x => x.1.isSome) && decide (args.length + ([] : List Keyword).length + (if ([] : List Keyword).isEmpty then 0 else 1) < 30)) = true := by rfl)
    (hplain : ((backTo p2 (starEach args c.env)).any (·.1) || (backToKw p2 (keywordEach [] c.env)).any (·.1.isNone)) = false := by rfl)
    (hline : (p1.endLine == p2.line) = true := by rfl) (hi : interactive c.env = false := by rfl) (hd : (x == ("__debug__" : Str)) = false := by kernel_rfl) (hcd : (x == ("__classdict__" : Str)) = false := by kernel_rfl)
    (he : ∀ e r, args = e :: r → starEach (e :: r) c.env = (false, eval e c.env) :: starEach r c.env := by (intro e r h; cases h; rfl)) :
    EX W c ρ (.Expr (.Call (.Attribute (.Name x p0) name p1) args [] p2) p3) Qn Qr := fun g s Qc E S hn hr => by
  obtain ⟨hv, ⟨vs, n, hl, hrep⟩, _⟩ := S.slot x _ hx
  refine wpAny_Expr_any (wpAny_Call_method hbase hfew hline PySem.F.plainAttrs_list slot hty (wpAny_Name (wp_load F.toFK S hv ?_ hcd) hd)) hi rfl
  refine ⟨(isList_lobj hl).typeIs, fun a e => ⟨lobj vs n, by cases e; exact hl, rfl⟩, ?_⟩
  have key := wp_callWith (f := .builtin id) (first := [.ref (g.adr x)]) (pos := p2) (kws := []) (names := []) (Q := fun ys _ => Q ys) (Qc := fun _ => Qc Flow.next) (E := E) (.inr (.inl ⟨id, rfl⟩)) S hplain rfl rfl
    (fun g s pos Qc E S hq => h g s pos Qc E S fun xs vals G' s' q => hq xs vals G' s' (EVK_nil q)) (fun ys zs vals kvals G' s' q hG S' r r' => ?_) he
  · exact key
  · obtain ⟨_, ⟨vs', n', hl', hrep'⟩, _⟩ := S'.slot x _ hx
    refine hc { g with G := G' } s' vals vs' n' ys _ E S' hl' hrep' q r fun s'' v hs => ?_
    obtain ⟨zs, vs2, n2, h2, tk, rfl, hk2, he2, hr2, q2⟩ := hs
    exact hn _ { g with G := G' } _ q2 ⟨hG, rfl⟩ (S'.setOwn hx hk2 he2 hr2)
theorem EX_append {x : Str} {p0 p1 p2 p3 : Pos} {xs : List V} {e : Expr} {Qn : Rho → Prop} {Qr : V → Rho → Prop} (F : FOk k c) (hx : ρ.lookup x = some (.own xs)) (hsz : xs.length ≤ sizeLine)
    (h : EV W c ρ e fun v => Qn ((x, .own (xs ++ [v])) :: ρ))
    (hbase : attributeBase (.Name x p0) "append" c.env (eval (.Name x p0) c.env) = eval (.Name x p0) c.env := by rfl)
    (hfew : ((backTo p2 (starEach [e] c.env)).all (fun x => !x.1) && (backToKw p2 (keywordEach [] c.env)).all (fun x => x.1.isSome) && decide ([e].length + ([] : List Keyword).length + (if ([] : List Keyword).isEmpty then 0 else 1) < 30)) = true := by rfl)
    (hplain : ((backTo p2 (starEach [e] c.env)).any (·.1) || (backToKw p2 (keywordEach [] c.env)).any (·.1.isNone)) = false := by rfl)
    (hline : (p1.endLine == p2.line) = true := by rfl) (hi : interactive c.env = false := by rfl) (hd : (x == ("__debug__" : Str)) = false := by kernel_rfl) (hcd : (x == ("__classdict__" : Str)) = false := by kernel_rfl)
    (he : starEach [e] c.env = [(false, eval e c.env)] := by rfl) :
    EX W c ρ (.Expr (.Call (.Attribute (.Name x p0) "append" p1) [e] [] p2) p3) Qn Qr := by
  refine EX_own F hx PySem.F.slot_list_append PySem.F.type_list_append (Q := fun ys => ∃ v, ys = [v] ∧ Qn ((x, .own (xs ++ [v])) :: ρ)) (EVL_cons (h.mono fun v q => EVL_nil ⟨v, rfl, q⟩) he) ?_ hbase hfew hplain hline hi hd hcd (by intro e r h; cases h; exact he)
  rintro g s vals vs n ys Qc E S hl hr ⟨v, rfl, q⟩ rv hq
  cases rv with
  | cons r1 r =>
    cases r
    have hvs : vs.size = xs.length := by rw [← hr.length, Array.length_toList]
    refine call_meets PySem.F.slot_list_append (isList_lobj hl).typeIs PySem.F.entry_list_append (PySem.F.args_list_append_2 _ _) (AutoListH.list_append_list_val_0 _ vs n _ (by exact om400 hvs hsz)) ⟨hl, ?_⟩
    obtain ⟨m, hm⟩ := update_lobj (fun z => z.push _) hl
    exact hq _ _ ⟨xs ++ [v], _, m, _, s.toks, rfl, update_other _, hm, by simpa using hr.snoc r1, q⟩
theorem EX_insert {x : Str} {p0 p1 p2 p3 : Pos} {xs : List V} {i e : Expr} {Qn : Rho → Prop} {Qr : V → Rho → Prop} (F : FOk k c) (hx : ρ.lookup x = some (.own xs)) (hsz : xs.length ≤ sizeLine)
    (h : EV W c ρ i fun j => ∃ m : Nat, j = .int m ∧ m ≤ xs.length ∧ EV W c ρ e fun v => Qn ((x, .own (xs.take m ++ v :: xs.drop m)) :: ρ))
    (hbase : attributeBase (.Name x p0) "insert" c.env (eval (.Name x p0) c.env) = eval (.Name x p0) c.env := by rfl)
    (hfew : ((backTo p2 (starEach [i, e] c.env)).all (fun x => !x.1) && (backToKw p2 (keywordEach [] c.env)).all (fun x => x.1.isSome) && decide ([i, e].length + ([] : List Keyword).length + (if ([] : List Keyword).isEmpty then 0 else 1) < 30)) = true := by rfl)
    (hplain : ((backTo p2 (starEach [i, e] c.env)).any (·.1) || (backToKw p2 (keywordEach [] c.env)).any (·.1.isNone)) = false := by rfl)
    (hline : (p1.endLine == p2.line) = true := by rfl) (hi : interactive c.env = false := by rfl) (hd : (x == ("__debug__" : Str)) = false := by kernel_rfl) (hcd : (x == ("__classdict__" : Str)) = false := by kernel_rfl)
    (he1 : starEach [i, e] c.env = (false, eval i c.env) :: starEach [e] c.env := by rfl) (he : starEach [e] c.env = [(false, eval e c.env)] := by rfl) :
    EX W c ρ (.Expr (.Call (.Attribute (.Name x p0) "insert" p1) [i, e] [] p2) p3) Qn Qr := by
  refine EX_own F hx PySem.F.slot_list_insert PySem.F.type_list_insert (Q := fun ys => ∃ (m : Nat) (v : V), ys = [.int m, v] ∧ m ≤ xs.length ∧ Qn ((x, .own (xs.take m ++ v :: xs.drop m)) :: ρ))
    (EVL_cons (h.mono fun j ⟨m, hj, hm, q⟩ => EVL_cons (q.mono fun v q => EVL_nil ⟨m, v, by rw [hj], hm, q⟩) he) he1) ?_ hbase hfew hplain hline hi hd hcd (by intro e r h; cases h; exact he1)
  rintro g s vals vs n ys Qc E S hl hr ⟨m, v, rfl, hm, q⟩ rv hq
  obtain ⟨w1, w2, rfl, r1, r2⟩ := rv.two
  cases r1
  rename_i t
  have hvs : vs.size = xs.length := by rw [← hr.length, Array.length_toList]
  have hfit : ¬(!Builtin.List.listFitsIndex (m : Int)) = true := by
    rw [sizeLine_eq] at hsz
    simp [Builtin.List.listFitsIndex]; exact om299 hm hsz
  have hz : vs.size ≤ sizeLine := by exact om400 hvs hsz
  have hmi : ((m : Int)).toNat = m := Int.toNat_natCast m
  have hm0 : ¬ ((m : Int) < 0) := by exact om211
  generalize (m : Int) = mi at hfit hmi hm0 ⊢
  have M := AutoListH.list_insert_list_int_val_1 (g.adr x) vs n mi t w2 hfit hz
  refine call_meets PySem.F.slot_list_insert (isList_lobj hl).typeIs PySem.F.entry_list_insert (PySem.F.args_list_insert_3 _ _ _) M ⟨hl, ?_⟩
  obtain ⟨m', hm'⟩ := update_lobj (fun ws => have k := if mi < 0 then (mi + (ws.size : Int)).toNat else min mi.toNat ws.size; (ws.extract 0 k).push w2 ++ ws.extract k) hl
  refine hq _ _ ⟨_, _, m', _, s.toks, rfl, update_other _, hm', ?_, q⟩
  have e1 : (if mi < 0 then (mi + (vs.size : Int)).toNat else min mi.toNat vs.size) = m := by
    rw [if_neg hm0, hmi]; exact om403 hm hvs
  dsimp only
  rw [e1]
  have e2 : ((vs.extract 0 m).push w2 ++ vs.extract m).toList = vs.toList.take m ++ w2 :: vs.toList.drop m := by
    rw [Array.toList_append, Array.toList_push, Array.toList_extract, Array.toList_extract, List.extract, List.extract]
    have : (vs.toList.drop m).take (vs.size - m) = vs.toList.drop m := List.take_of_length_le (by rw [List.length_drop, Array.length_toList]; exact om345)
    rw [this]; simp
  rw [e2]
  exact (hr.take m).append (.cons r2 (hr.drop m))
end
end Mine
end
section
open PySem PySem.W PyProof.Rows
namespace Mine
section
variable {W : Wd} {c : Fx} {ρ : Rho} {k : Nat}
theorem EX_ownG {x name : Str} {id : String} {p0 p1 p2 p3 : Pos} {xs : List V} {args : List Expr} {Qn : Rho → Prop} {Qr : V → Rho → Prop} (F : FOk k c) (hx : ρ.lookup x = some (.own xs)) (slot : PySem.Slot "list" name id) (hty : typeOf (.builtin id) = pure (.type "method_descriptor"))
    (hc : ∀ g s (Qc : Value → Shared → Prop) E, Sim W c ρ g s →
      (∀ v s' G' zs, g.G.le G' → Sim W c ((x, .own zs) :: ρ) { g with G := G' } s' → Qn ((x, .own zs) :: ρ) → Qc v s') → wpAny (model W.prog W.w) c.A (callWith p2 (.builtin id) [.ref (g.adr x)] (backTo p2 (starEach args c.env)) []) Qc E s)
    (hbase : attributeBase (.Name x p0) name c.env (eval (.Name x p0) c.env) = eval (.Name x p0) c.env := by rfl)
    (hfew : ((backTo p2 (starEach args c.env)).all (fun x => !x.1) && (backToKw p2 (keywordEach [] c.env)).all (fun x => x.1.isSome) && decide (args.length + ([] : List Keyword).length + (if ([] : List Keyword).isEmpty then 0 else 1) < 30)) = true := by rfl)
    (hline : (p1.endLine == p2.line) = true := by rfl) (hi : interactive c.env = false := by rfl) (hd : (x == ("__debug__" : Str)) = false := by kernel_rfl) (hcd : (x == ("__classdict__" : Str)) = false := by kernel_rfl) :
    EX W c ρ (.Expr (.Call (.Attribute (.Name x p0) name p1) args [] p2) p3) Qn Qr := fun g s Qc E S hn hr => by
  obtain ⟨hv, ⟨vs, n, hl, hrep⟩, _⟩ := S.slot x _ hx
  refine wpAny_Expr_any (wpAny_Call_method hbase hfew hline PySem.F.plainAttrs_list slot hty (wpAny_Name (wp_load F.toFK S hv ?_ hcd) hd)) hi rfl
  exact ⟨(isList_lobj hl).typeIs, fun a e => ⟨lobj vs n, by cases e; exact hl, rfl⟩, hc g s _ E S fun v s' G' zs hG S' q => hn _ { g with G := G' } s' q ⟨hG, rfl⟩ S'⟩
theorem listTooLong_small {n : Nat} (h : n ≤ sizeLine) : Builtin.List.listTooLong n = false := by
  unfold Builtin.List.listTooLong
  exact decide_eq_false (by exact om304 h)
theorem EX_extend_tup {x : Str} {p0 p1 p2 p3 p4 : Pos} {kk : Nat} {xs : List V} {es : List Expr} {Qn : Rho → Prop} {Qr : V → Rho → Prop} (F : FOk k c) (hx : ρ.lookup x = some (.own xs))
    (h : EVL W c ρ es fun ys => ys.length ≤ sizeLine ∧ xs.length + ys.length ≤ sizeLine ∧ Qn ((x, .own (xs ++ ys)) :: ρ))
    (hbase : attributeBase (.Name x p0) "extend" c.env (eval (.Name x p0) c.env) = eval (.Name x p0) c.env := by rfl)
    (hfew : ((backTo p2 (starEach [.Tuple es kk p4] c.env)).all (fun x => !x.1) && (backToKw p2 (keywordEach [] c.env)).all (fun x => x.1.isSome) && decide ([Expr.Tuple es kk p4].length + ([] : List Keyword).length + (if ([] : List Keyword).isEmpty then 0 else 1) < 30)) = true := by rfl)
    (hline : (p1.endLine == p2.line) = true := by rfl) (hi : interactive c.env = false := by rfl) (hd : (x == ("__debug__" : Str)) = false := by kernel_rfl) (hcd : (x == ("__classdict__" : Str)) = false := by kernel_rfl) :
    EX W c ρ (.Expr (.Call (.Attribute (.Name x p0) "extend" p1) [.Tuple es kk p4] [] p2) p3) Qn Qr := by
  refine EX_ownG F hx PySem.F.slot_list_extend PySem.F.type_list_extend ?_ hbase hfew hline hi hd hcd
  intro g s Qc E S hq
  refine Calls.callWith_builtin rfl (Calls.evalArgs_plain (args_cons (wpAny_Tuple (h g s p4 _ E S fun ys vals G1 s1 h1 hG1 S1 r1 => ⟨by rw [r1.length]; exact h1.1, args_nil ?_⟩))))
  obtain ⟨_, ⟨vs, n, hl, hrep⟩, _⟩ := S1.slot x _ hx
  have hvs : vs.size = xs.length := by rw [← hrep.length, Array.length_toList]
  have hvl : vals.length = ys.length := r1.length
  obtain ⟨h11, h12, h13⟩ := h1
  have hz : vs.size + vals.toArray.size ≤ sizeLine := by
    have : vals.toArray.size = vals.length := List.size_toArray ..
    exact om479 hvs h12 this hvl
  have ha : (s1.heap.push { cls := .type "tuple", data := .seq vals.toArray }).get? (g.adr x) = some (lobj vs n) := Heap.get?_push_of_some _ hl
  have hb : (s1.heap.push { cls := .type "tuple", data := .seq vals.toArray }).get? s1.heap.objs.size = some { cls := .type "tuple", dict := none, data := .seq vals.toArray 0, slots := #[] } := Heap.get?_push_size _ rfl
  refine call_meets PySem.F.slot_list_extend (Heap.IsList.typeIs (s := { s1 with heap := s1.heap.push { cls := .type "tuple", data := .seq vals.toArray } }) (isList_lobj ha)) PySem.F.entry_list_extend (PySem.F.args_list_extend_2 _ _)
    (AutoSeq1.list_extend_list_tuple_0 (g.adr x) vs n s1.heap.objs.size vals.toArray 0 (by rw [listTooLong_small hz]; simp) (by exact om448 hvs h12) (Nat.le_succ_of_le hz)) ⟨ha, hb, ?_⟩
  obtain ⟨m, hm⟩ := update_lobj (fun z => z ++ vals.toArray) ha
  have S2 : Sim W c ρ { g with G := G1 } { s1 with heap := s1.heap.push { cls := .type "tuple", data := .seq vals.toArray }, toks := s1.toks } := S1.keeps (dr := s1.drawn) fun b o e => Heap.get?_push_of_some _ e
  exact hq _ _ G1 (xs ++ ys) hG1 (S2.setOwn hx (update_other _) hm (by simpa using hrep.append r1)) h13
theorem EX_extend_list {x : Str} {p0 p1 p2 p3 : Pos} {xs : List V} {e : Expr} {Qn : Rho → Prop} {Qr : V → Rho → Prop} (F : FOk k c) (hx : ρ.lookup x = some (.own xs))
    (h : EV W c ρ e fun v => ∃ ys, v = .list ys ∧ xs.length + ys.length ≤ sizeLine ∧ Qn ((x, .own (xs ++ ys)) :: ρ))
    (hbase : attributeBase (.Name x p0) "extend" c.env (eval (.Name x p0) c.env) = eval (.Name x p0) c.env := by rfl)
    (hfew : ((backTo p2 (starEach [e] c.env)).all (fun x => !x.1) && (backToKw p2 (keywordEach [] c.env)).all (fun x => x.1.isSome) && decide ([e].length + ([] : List Keyword).length + (if ([] : List Keyword).isEmpty then 0 else 1) < 30)) = true := by rfl)
    (hline : (p1.endLine == p2.line) = true := by rfl) (hi : interactive c.env = false := by rfl) (hd : (x == ("__debug__" : Str)) = false := by kernel_rfl) (hcd : (x == ("__classdict__" : Str)) = false := by kernel_rfl)
    (he : starEach [e] c.env = [(false, eval e c.env)] := by rfl) :
    EX W c ρ (.Expr (.Call (.Attribute (.Name x p0) "extend" p1) [e] [] p2) p3) Qn Qr := by
  refine EX_ownG F hx PySem.F.slot_list_extend PySem.F.type_list_extend ?_ hbase hfew hline hi hd hcd
  intro g s Qc E S hq
  rw [he]
  refine Calls.callWith_builtin rfl (Calls.evalArgs_plain (Calls.spliced_cons ?_))
  show wpAny _ _ (eval e c.env) _ _ _
  refine h g s _ E S fun v val G1 s1 h1 hG1 S1 r1 => Calls.spliced_nil ?_
  obtain ⟨ys, rfl, h12, h13⟩ := h1
  cases r1 with
  | @list b ws nb _ hb hr =>
    obtain ⟨_, ⟨vs, n, hl, hrep⟩, hG, _⟩ := S1.slot x _ hx
    have hvs : vs.size = xs.length := by rw [← hrep.length, Array.length_toList]
    have hws : ws.size = ys.length := by rw [← hr.length, Array.length_toList]
    have hb' := S1.fr _ _ hb
    refine call_meets PySem.F.slot_list_extend (isList_lobj hl).typeIs PySem.F.entry_list_extend (PySem.F.args_list_extend_2 _ _)
      (AutoSeq1.list_extend_list_list_0 (g.adr x) vs n b ws nb (by rw [listTooLong_small (by exact om473 hvs h12 hws)]; simp) (by exact om448 hvs h12) (by exact om472 hvs h12 hws)) ⟨hl, hb', ?_⟩
    obtain ⟨m, hm⟩ := update_lobj (fun z => z ++ ws) hl
    exact hq _ _ G1 (xs ++ ys) hG1 (S1.setOwn hx (update_other _) hm (by simpa using hrep.append hr)) h13
theorem EX_setItem {x : Str} {p0 p1 p2 : Pos} {xs : List V} {i e : Expr} {Qn : Rho → Prop} {Qr : V → Rho → Prop} (F : FOk k c) (hx : ρ.lookup x = some (.own xs))
    (h : EV W c ρ e fun v => EV W c ρ i fun j => ∃ m : Nat, j = .int m ∧ m < xs.length ∧ xs.length ≤ sizeLine ∧ Qn ((x, .own (xs.set m v)) :: ρ))
    (hs : swapsWith e (some ((Expr.Name x p0).Subscript i p1)) p2.line c.env = pure false := by rfl) (hd : (x == ("__debug__" : Str)) = false := by kernel_rfl) (hcd : (x == ("__classdict__" : Str)) = false := by kernel_rfl) :
    EX W c ρ (.Assign [.Subscript (.Name x p0) i p1] e p2) Qn Qr := fun g s Qc E S hn hr => by
  refine wpAny_Assign_Subscript (h g s _ E S fun v val G1 s1 h1 hG1 S1 r1 => ?_) hs
  obtain ⟨hv, _⟩ := S1.slot x _ hx
  refine wpAny_Name (wp_load F.toFK S1 hv ?_ hcd) hd
  refine h1 _ s1 _ E S1 fun j jal G2 s2 h2 hG2 S2 r2 => ?_
  obtain ⟨m, rfl, hm, hsz, q⟩ := h2
  cases r2
  obtain ⟨_, ⟨vs, n, hl, hrep⟩, _⟩ := S2.slot x _ hx
  have hvs : vs.size = xs.length := by rw [← hrep.length, Array.length_toList]
  refine ki_setAt hl (Int.natCast_nonneg m) (by rw [sizeLine_eq] at hsz; exact om260 hm hsz) (by exact om395 hm hvs) ?_
  rw [Int.toNat_natCast]
  obtain ⟨m', hm'⟩ := update_lobj (fun z => z.setIfInBounds m val) hl
  refine hn _ { g with G := G2 } _ q ⟨hG1.trans hG2, rfl⟩ (S2.setOwn (tk := s2.toks) hx (update_other _) hm' ?_)
  have : (vs.setIfInBounds m val).toList = vs.toList.set m val := by simp
  rw [this]
  have set : ∀ {vs : List Value} {xs : List V} (m : Nat), Reps G2 vs xs → Rep G2 val v → Reps G2 (vs.set m val) (xs.set m v) := by
    intro vs xs
    induction vs generalizing xs with
    | nil => intro m h _; cases h; exact .nil
    | cons a r ih =>
      intro m h hv
      cases h with
      | cons h1 h2 =>
        cases m with
        | zero => exact .cons hv h2
        | succ m => exact .cons h1 (ih m h2 hv)
  exact set m hrep (r1.mono hG2)
end
end Mine
end
section
open PySem PySem.W PyProof.Rows
namespace Mine
structure ItOk (W : Wd) (A : Around) (I : Addr) (dep G : GM) (xs : List V) (P : Nat → Value → Prop) (St : Nat → Heap → Prop) : Prop where
  walks : ∃ fp, Walks W.prog W.w A I fp [I] xs.length P St ∧ ∀ b ∈ fp, b = I ∨ ∃ o, dep b = some o
  rep : ∀ i v x, P i v → xs[i]? = some x → Rep G v x
  fields : ∀ i h, St i h → ∃ o vs, h.get? I = some o ∧ o.data = .fields vs ∧ (o.cls = .type "list_iterator" ∨ o.cls = .type "range_iterator")
section
variable {W : Wd} {c : Fx} {ρ : Rho} {k : Nat}
theorem Sim.newAt {g : Gh} {s : Shared} (S : Sim W c ρ g s) {a : Addr} (hn : s.heap.get? a = none) : c.h₀ a = none ∧ W.H0.get? a = none ∧ g.X a = none := by
  refine ⟨S.keep.none hn, ?_, ?_⟩
  · cases e : W.H0.get? a with
    | none => rfl
    | some o => have := S.base a o e; rw [hn] at this; cases this
  · cases e : g.X a with
    | none => rfl
    | some o => have := S.xp a o e; rw [hn] at this; cases this
theorem Sim.other {g : Gh} {s : Shared} (S : Sim W c ρ g s) {I : Addr} {h' : Heap} {tk : Nat} (hI : ∃ o vs, s.heap.get? I = some o ∧ o.data = .fields vs) (hn : c.h₀ I = none ∧ W.H0.get? I = none ∧ g.X I = none)
    (hk : ∀ b o, b ≠ I → s.heap.get? b = some o → h'.get? b = some o) : Sim W c ρ g { s with heap := h', toks := tk } := by
  obtain ⟨oI, ws, hoI, hdI⟩ := hI
  obtain ⟨n1, n2, n3⟩ := hn
  have nl : ∀ b vs n, s.heap.get? b = some (lobj vs n) → b ≠ I := fun b vs n e q => by rw [q, hoI] at e; cases e; cases hdI
  have nc : ∀ b v, s.heap.IsCell b v → b ≠ I := fun b v ⟨o, ho, hd⟩ q => by rw [q, hoI] at ho; cases ho; rw [hdI] at hd; cases hd
  have cellk : ∀ b v, s.heap.IsCell b v → h'.IsCell b v := fun b v x => let ⟨o, ho, hd⟩ := x; ⟨o, hk b o (nc b v x) ho, hd⟩
  have var : ∀ y w, VarAt c g s.heap y w → VarAt c g h' y w := fun y w q => by
    rcases q with q | ⟨q1, a, q2, q3⟩
    · exact .inl q
    · exact .inr ⟨q1, a, q2, cellk _ _ q3⟩
  obtain ⟨oL, es, ep, hoL, hdL, hrL⟩ := id S.ns
  exact {
    gens := S.gens, os := S.os
    base := fun b o e => hk b o (fun q => by rw [q, n2] at e; cases e) (S.base b o e)
    keep := fun b o e => by
      obtain ⟨o', e', p⟩ := S.keep b o e
      exact ⟨o', hk b o' (fun q => by rw [q, n1] at e; cases e) e', p⟩
    fr := fun b o e => by
      obtain ⟨vs, n, rfl⟩ := S.glist b o e
      exact hk b _ (nl b vs n (S.fr b _ e)) (S.fr b _ e)
    gin := S.gin, gnew := S.gnew, glist := S.glist
    frames := fun env henv => by
      obtain ⟨w1, L, o, es', n', w2, w3, w4, w5⟩ := S.frames env henv
      exact ⟨w1, L, o, es', n', w2, w3, hk L o (fun q => by rw [q, hoI] at w4; cases w4; rw [hdI] at w5; cases w5) w4, w5⟩
    ns := ⟨oL, es, ep, hk _ _ (fun q => by rw [q, hoI] at hoL; cases hoL; rw [hdI] at hdL; cases hdL) hoL, hdL, hrL⟩
    loc0 := S.loc0, locH := S.locH
    cells := fun y b e => let ⟨v, q⟩ := S.cells y b e; ⟨v, cellk _ _ q⟩
    cells0 := S.cells0
    slot := fun y sl e => by
      have z := S.slot y sl e
      cases sl with
      | val v => obtain ⟨w, w1, w2⟩ := z; exact ⟨w, var _ _ w1, w2⟩
      | own zs => obtain ⟨w1, ⟨vs', n', w2, w3⟩, w4⟩ := z; exact ⟨var _ _ w1, ⟨vs', n', hk _ _ (nl _ _ _ w2) w2, w3⟩, w4⟩
    apart := S.apart
    pin := S.pin
    xp := fun b o e => hk b o (fun q => by rw [q, n3] at e; cases e) (S.xp b o e)
    xk := S.xk }
noncomputable def addX (X : GM) (a : Addr) (o : Obj) : GM := fun b => if b = a then some o else X b
theorem Sim.withX {g : Gh} {s : Shared} (S : Sim W c ρ g s) {I : Addr} {o : Obj} {vs : Array Value} (ho : s.heap.get? I = some o) (hd : o.data = .fields vs) : Sim W c ρ { g with X := addX g.X I o } s :=
  { S with
    slot := fun y sl e => S.slot y sl e
    xp := fun b o' e => by
      have e : (if b = I then some o else g.X b) = some o' := e
      by_cases q : b = I
      · rw [if_pos q] at e; cases e; rw [q]; exact ho
      · rw [if_neg q] at e; exact S.xp b o' e
    xk := fun b o' e => by
      have e : (if b = I then some o else g.X b) = some o' := e
      by_cases q : b = I
      · rw [if_pos q] at e; cases e; exact ⟨vs, hd⟩
      · rw [if_neg q] at e; exact S.xk b o' e }
theorem Sim.lessX {g : Gh} {s : Shared} (S : Sim W c ρ g s) {X : GM} (h : X.le g.X) : Sim W c ρ { g with X := X } s :=
  { S with slot := fun y sl e => S.slot y sl e, xp := fun b o e => S.xp b o (h b o e), xk := fun b o e => S.xk b o (h b o e) }
noncomputable def EVI (W : Wd) (c : Fx) (ρ : Rho) (fz : Prop) (e : Expr) (Q : List V → Prop) : Prop :=
  ∀ (g : Gh) (s : Shared) (Qc : Value → Shared → Prop) (E : Value → Shared → Prop), Sim W c ρ g s →
    (∀ xs I dep G' s' P St, Q xs → g.G.le G' → Sim W c ρ { g with G := G' } s' → ItOk W c.A I dep G' xs P St → St 0 s'.heap → (∀ b o, dep b = some o → s'.heap.get? b = some o) → (fz → GM.le dep G') → (c.h₀ I = none ∧ W.H0.get? I = none ∧ g.X I = none) →
      (∀ b o, dep b = some o → ∃ vs n, o = lobj vs n) → Qc (.ref I) s') → wpAny (model W.prog W.w) c.A (eval e c.env) (fun v s₁ => wpAny (model W.prog W.w) c.A (pyIter v) Qc E s₁) E s
theorem itOk_list {A : Around} (hh : A.handled = none) {I a : Addr} {vs : Array Value} {n : Nat} {xs : List V} {G : GM} (hne : a ≠ I) (hr : Reps G vs.toList xs) :
    ItOk W A I (fun b => if b = a then some (lobj vs n) else none) G xs (fun i v => vs[i]? = some v) (fun i h => h.IsListIter I a i ∧ h.IsList a vs) := by
  have hsz : vs.size = xs.length := by rw [← hr.length, Array.length_toList]
  refine ⟨⟨[I, a], ?_, fun b hb => ?_⟩, fun i v x hv hx => ?_, fun i h st => ?_⟩
  · rw [← hsz]; exact Walks.list hh I a hne vs
  · rcases List.mem_cons.mp hb with rfl | hb
    · exact .inl rfl
    · rcases List.mem_cons.mp hb with rfl | hb
      · exact .inr ⟨lobj vs n, by simp⟩
      · cases hb
  · obtain ⟨w, hw, hr'⟩ := hr.get hx
    have : vs[i]? = some w := by simpa using hw
    rw [hv] at this; cases this; exact hr'
  · obtain ⟨⟨o, ho, hc, hd⟩, _⟩ := st
    exact ⟨o, _, ho, hd, .inl hc⟩
theorem EVI_gen {fz : Prop} {e : Expr} {Q : List V → Prop} (F : FOk k c)
    (h : ∀ (g : Gh) (s : Shared) (Qc : Value → Shared → Prop) (E : Value → Shared → Prop), Sim W c ρ g s → (∀ xs a vs n G' s', Q xs → g.G.le G' → Sim W c ρ { g with G := G' } s' → s'.heap.get? a = some (lobj vs n) → Reps G' vs.toList xs →
      (fz → G' a = some (lobj vs n)) → Qc (.ref a) s') → wpAny (model W.prog W.w) c.A (eval e c.env) Qc E s) : EVI W c ρ fz e Q := fun g s Qc E S hq => by
  refine h g s _ E S fun xs a vs n G' s' q hG S' ha hr hf => ?_
  refine wpAny_pyIter_list (isList_lobj ha) ?_
  have hne : a ≠ s'.heap.objs.size := Nat.ne_of_lt (Heap.lt_size ha)
  refine hq xs _ _ G' _ _ _ q hG (S'.keeps (tk := s'.toks) (dr := s'.drawn) fun b o e => Heap.get?_push_of_some _ e) (itOk_list F.hand hne hr (n := n)) ⟨⟨_, Heap.get?_push_size _ rfl, rfl, rfl⟩, (isList_lobj ha).push _⟩ ?_ ?_ ?_ ?_
  · intro b o e
    by_cases hb : b = a
    · subst hb; simp at e; subst e; exact Heap.get?_push_of_some _ ha
    · simp [hb] at e
  · intro hz b o e
    by_cases hb : b = a
    · subst hb; simp at e; subst e; exact hf hz
    · simp [hb] at e
  · exact S'.newAt (Heap.get?_none_of_le (Nat.le_refl _))
  · intro b o e
    by_cases hb : b = a
    · subst hb; simp at e; exact ⟨vs, n, e.symm⟩
    · simp [hb] at e
theorem EVI_of {e : Expr} {Q : List V → Prop} (F : FOk k c) (h : EV W c ρ e fun v => ∃ xs, v = .list xs ∧ Q xs) : EVI W c ρ True e Q :=
  EVI_gen F fun g s Qc E S hq => h g s Qc E S fun v val G' s' q hG S' r => by
    obtain ⟨xs, rfl, q⟩ := q
    cases r with
    | list ha hr => exact hq xs _ _ _ G' s' q hG S' (S'.fr _ _ ha) hr fun _ => ha
theorem EVI_own {x : Str} {pos} {xs : List V} {Q : List V → Prop} (F : FOk k c) (hx : ρ.lookup x = some (.own xs)) (hq : Q xs) (hd : (x == ("__debug__" : Str)) = false := by kernel_rfl)
    (hc : (x == ("__classdict__" : Str)) = false := by kernel_rfl) : EVI W c ρ False (.Name x pos) Q :=
  EVI_gen F fun g s Qc E S h => by
    obtain ⟨hv, ⟨vs, n, hl, hr⟩, _⟩ := S.slot x _ hx
    exact wpAny_Name (wp_load F.toFK S hv (h xs _ vs n g.G s hq (.refl _) S hl hr fun z => z.elim) hc) hd
theorem EVI_range {x : Str} {p pos : Pos} {b : Expr} {Q : List V → Prop} (F : FOk k c) (hx : Glo W x (.type "range")) (hk : c.env.kindOf x = some .globalImplicit)
    (h : EV W c ρ b fun v => ∃ n : Nat, v = .int n ∧ n ≤ sizeLine ∧ Q ((List.range n).map fun (i : Nat) => V.int (i : Int))) (hd : (x == ("__debug__" : Str)) = false := by kernel_rfl) (he : starEach [b] c.env = [(false, eval b c.env)] := by rfl) :
    EVI W c ρ True (.Call (.Name x p) [b] [] pos) Q := fun g s Qc E S hq => by
  refine wpAny_Call_Name_kw (wpAny_Name (wp_global (env := c.env) F.toFK S hx hk ?_) hd)
  show wpAny _ _ (callWith pos (.type "range") [] (backTo pos (starEach [b] c.env)) []) _ _ _
  rw [he]
  refine PySem.callWith_type rfl (Calls.evalArgs_plain (Calls.spliced_cons ?_))
  show wpAny _ _ (eval b c.env) _ _ _
  refine h g s _ E S fun v val G1 s1 h1 hG1 S1 r1 => Calls.spliced_nil ?_
  obtain ⟨n, rfl, hn, q⟩ := h1
  cases r1
  rename_i t
  refine call_range_1 ?_
  have hsm : Builtin.Range.small 0 (n : Int) 1 = true := by
    rw [sizeLine_eq] at hn
    unfold Builtin.Range.small
    rw [rangeSize_nat]
    simp [Builtin.Range.rangeFitsLong]
    exact om141 hn
  refine wpAny_pyIter_range (IsRange.new ..) hsm ?_
  have e0 : ((s1.heap.push { cls := .type "range", data := .fields #[.int 0 s1.toks, .int (n : Int) t, .int 1 (s1.toks + 1)] }).get? (s1.heap.objs.size + 1)) = none := Heap.get?_none_of_le (by rw [Heap.size_push]; exact Nat.le_refl _)
  have e1 : s1.heap.get? (s1.heap.objs.size + 1) = none := Heap.get?_none_of_le (Nat.le_succ _)
  have e2 : (s1.heap.push { cls := .type "range", data := .fields #[.int 0 s1.toks, .int (n : Int) t, .int 1 (s1.toks + 1)] }).objs.size = s1.heap.objs.size + 1 := Heap.size_push ..
  have hlen : ((List.range n).map fun (i : Nat) => V.int (i : Int)).length = n := by simp
  rw [e2]
  refine hq _ (s1.heap.objs.size + 1) (fun _ => none) G1 _ _ (fun i h => IsRangeIter h (s1.heap.objs.size + 1) (0 + (i : Nat) * 1) ((n : Int) - (i : Nat)) 1) q hG1 (S1.keeps (dr := s1.drawn) fun b o e => Heap.get?_push_of_some _ (Heap.get?_push_of_some _ e))
    ⟨⟨_, by rw [hlen]; exact Walks.range F.hand _ 0 1 n, fun b hb => .inl (by simpa using hb)⟩, fun i v x hv hx => ?_, fun i h st => ⟨_, _, st, rfl, .inr rfl⟩⟩ ?_ (fun _ _ e => by cases e) (fun _ _ _ e => by cases e) (S1.newAt e1) (fun _ _ e => by cases e)
  · obtain ⟨t', rfl⟩ := hv
    rw [List.getElem?_map] at hx
    by_cases hi : i < n
    · rw [List.getElem?_range hi] at hx
      simp at hx; subst hx
      have : (0 + (i : Int) * 1) = (i : Int) := by exact om171
      rw [this]; exact .int _ _
    · rw [List.getElem?_eq_none (by simpa using hi)] at hx; cases hx
  · show IsRangeIter _ _ _ _ _
    rw [rangeSize_nat]
    have e3 : ((n : Int) - 0).toNat = n := by exact om188
    rw [e3]
    have := Heap.get?_push_size (s1.heap.push { cls := .type "range", data := .fields #[.int 0 s1.toks, .int (n : Int) t, .int 1 (s1.toks + 1)] }) (o := { cls := .type "range_iterator", data := .fields #[rawInt 0, rawInt (n : Int), rawInt 1] }) rfl
    rw [e2] at this
    simpa using this
end
end Mine
end
section
open PySem PySem.W PyProof.Rows
namespace Mine
section
variable {W : Wd} {c : Fx} {ρ : Rho} {k : Nat}
noncomputable def ASG (W : Wd) (c : Fx) (ρ : Rho) (t : Expr) (v : V) (Q : Rho → Prop) : Prop :=
  ∀ (g : Gh) (s : Shared) (val : Value) (Qc : Unit → Shared → Prop) (E : Value → Shared → Prop), Sim W c ρ g s → Rep g.G val v → (∀ ρ' g' s', Q ρ' → g.le g' → Sim W c ρ' g' s' → Qc () s') → wpAny (model W.prog W.w) c.A (assign t c.env val) Qc E s
theorem ASG_Name {x : Str} {pos} {v : V} {Q : Rho → Prop} (F : FOk k c) (hk : Storable c x) (h : Q ((x, .val v) :: ρ)) : ASG W c ρ (.Name x pos) v Q := fun g s val Qc E S r hq =>
  wpAny_assign_Name (wp_storeVal F.toFK S hk r fun g' s' hG hX _ S' => hq _ g' s' h ⟨by rw [hG]; exact .refl _, hX⟩ S')
noncomputable def ASGs (W : Wd) (c : Fx) : Rho → List Expr → List V → (Rho → Prop) → Prop
  | ρ, [], [], Q => Q ρ
  | ρ, t :: ts, x :: xs, Q => ASG W c ρ t x fun ρ' => ASGs W c ρ' ts xs Q
  | _, _, _, _ => False
theorem wp_assigns : ∀ {ts : List Expr} {xs : List V} {ρ : Rho} {Q : Rho → Prop} {g : Gh} {s : Shared} {vals : List Value} {Qc : Unit → Shared → Prop} {E : Value → Shared → Prop}, ASGs W c ρ ts xs Q → Sim W c ρ g s → Reps g.G vals xs →
    (∀ ρ' g' s', Q ρ' → g.le g' → Sim W c ρ' g' s' → Qc () s') → wpAny (model W.prog W.w) c.A (assignInOrder (ts.map fun t => assign t c.env) vals) Qc E s
  | [], [], ρ, Q, g, s, vals, Qc, E, h, S, r, hq => by
    cases r
    exact wpAny_pure (hq ρ g s h (.refl _) S)
  | t :: ts, x :: xs, ρ, Q, g, s, vals, Qc, E, h, S, r, hq => by
    cases r with
    | @cons v _ vs _ r1 r2 =>
      show wpAny _ _ (holding vs (assign t c.env v) >>= fun _ => assignInOrder (ts.map fun t => assign t c.env) vs) _ _ _
      refine wpAny_bind (wpAny_holding (h g s v _ E S r1 fun ρ' g' s' q hG S' => ?_))
      exact wp_assigns q S' (r2.mono hG.1) fun ρ'' g'' s'' q' hG' => hq ρ'' g'' s'' q' (hG.trans hG')
  | [], _ :: _, _, _, _, _, _, _, _, h, _, _, _ => h.elim
  | _ :: _, [], _, _, _, _, _, _, _, h, _, _, _ => h.elim
theorem ASG_Tuple {ts : List Expr} {kk : Nat} {pos : Pos} {xs : List V} {Q : Rho → Prop} (F : FOk k c) (hl : ts.length = xs.length) (h : ASGs W c ρ ts xs Q)
    (he : (assignEach ts c.env).map (·.2) = ts.map fun t => assign t c.env := by rfl) (hst : (assignEach ts c.env).findIdx? (·.1) = none := by rfl) : ASG W c ρ (.Tuple ts kk pos) (.list xs) Q := fun g s val Qc E S r hq => by
  cases r with
  | @list a vs n _ ha hr =>
    have hvs : vs.size = xs.length := by rw [← hr.length, Array.length_toList]
    rw [PySem.arm_assign_Tuple]
    refine wpAny_bind (wpAny_standAt ?_)
    unfold unpack
    have hlen : (assignEach ts c.env).length = vs.size := by
      have := congrArg List.length he
      simp only [List.length_map] at this
      exact om449 this hvs hl
    rw [hlen, hst, he]
    refine wpAny_bind (wpAny_holding (kun_itemsOf F.hand (isList_lobj (S.fr _ _ ha)) fun h' hk => ?_))
    have S' : Sim W c ρ g { s with heap := h' } := S.keeps (tk := s.toks) (dr := s.drawn) fun b o e => hk b o (Nat.ne_of_lt (Heap.lt_size e)) e
    exact wp_assigns h S' hr hq
theorem EX_AssignTuple {ts : List Expr} {kk : Nat} {tp pos : Pos} {e : Expr} {Qn : Rho → Prop} {Qr : V → Rho → Prop} (F : FOk k c) (h : EV W c ρ e fun v => ASG W c ρ (.Tuple ts kk tp) v Qn)
    (hs1 : swapsWithSole [.Tuple ts kk tp] e pos.line c.env = pure false := by rfl) (hs2 : swappedStores [.Tuple ts kk tp] e c.env = pure none := by rfl) : EX W c ρ (.Assign [.Tuple ts kk tp] e pos) Qn Qr := fun g s Qc E S hn hr => by
  refine Assign_Tuple (h g s _ E S fun v val G' s' q hG S' r => ?_) hs1 hs2
  exact q _ s' val _ E S' r fun ρ' g' s'' q' hG' S'' => hn ρ' g' s'' q' ((Gh.le.of hG).trans hG') S''
theorem wp_letTuple {prog : Program} {w : World} {A : Around} {target : Expr} {I : Addr} {v : Value} {o : Obj} {ws : Array Value} {Q : Unit → Shared → Prop} {E : Value → Shared → Prop} {s : Shared} (ho : s.heap.get? I = some o) (hd : o.data = .fields ws)
    (hc : o.cls = .type "list_iterator" ∨ o.cls = .type "range_iterator") (hq : Q () s) : wpAny (model prog w) A (letOwnedTupleGo target (.ref I) v) Q E s := by
  unfold letOwnedTupleGo
  cases target <;> first | exact wpAny_pure hq | (cases v <;> first | exact wpAny_pure hq | (refine wpAny_bind (wpAny_load ho ?_); rw [hd]; rcases hc with hc | hc <;> rw [hc] <;> dsimp only <;> split <;> first | exact wpAny_pure hq | (rename_i x; exact absurd (Bool.and_eq_true_iff.mp x).1 (by decide))))
theorem EX_For {target iter : Expr} {body : List Stmt} {pos : Pos} {Qn : Rho → Prop} {Qr : V → Rho → Prop} (F : FOk k c)
    (h : EVI W c ρ True iter fun xs => ∃ J : Nat → Rho → Prop, J 0 ρ ∧ (∀ i x ρ', xs[i]? = some x → J i ρ' → ASG W c ρ' target x fun ρ'' => EXS W c ρ'' body (J (i + 1)) Qr) ∧ ∀ ρ', J xs.length ρ' → Qn ρ')
    (hs : ∀ x, foldedSetIterable iter c.env x = pure x := by intro _; rfl) : EX W c ρ (.For target iter body [] pos) Qn Qr := fun g s Qc E S hn hr => by
  refine wpAny_For (h g s _ E S fun xs I dep G1 s1 P St q hG1 S1 it st0 hdep hfz hI hlob => ?_) hs
  obtain ⟨J, j0, jt, jn⟩ := q
  obtain ⟨fp, Wk, hfp⟩ := it.walks
  have hdG : GM.le dep G1 := hfz trivial
  refine codeAny_forLoop_any (fun n s' => ∃ i ρ' g', n = xs.length + 1 - i ∧ i ≤ xs.length ∧ J i ρ' ∧ ({ g with G := G1 } : Gh).le g' ∧ Sim W c ρ' g' s' ∧ St i s'.heap) ?_ (xs.length + 1) ⟨0, ρ, { g with G := G1 }, by exact om191, Nat.zero_le _, j0, .refl _, S1, st0⟩
  rintro n s' ⟨i, ρ', g', rfl, hi, hj, hle, S', hst⟩
  by_cases hlt : i < xs.length
  · obtain ⟨x, hx⟩ : ∃ x, xs[i]? = some x := ⟨xs[i], by simp [hlt]⟩
    obtain ⟨o0, ws0, ho0, hd0, _⟩ := it.fields _ _ hst
    refine Wk.item i s' _ _ hlt hst fun v h2 tk hv hst2 hk2 => ?_
    have hk2 : ∀ b o, b ≠ I → s'.heap.get? b = some o → h2.get? b = some o := fun b o hb e => hk2 b o (by simpa using hb) e
    have S2 : Sim W c ρ' g' { s' with heap := h2, toks := tk } := S'.other ⟨o0, ws0, ho0, hd0⟩ ⟨hI.1, hI.2.1, by rw [hle.2]; exact hI.2.2⟩ hk2
    obtain ⟨o2, ws2, ho2, hd2, hc2⟩ := it.fields _ _ hst2
    refine wp_letTuple (s := { s' with heap := h2, toks := tk }) ho2 hd2 hc2 ?_
    have S3 := S2.withX ho2 hd2
    have hr3 : Rep g'.G v x := (it.rep i v x hv hx).mono hle.1
    refine jt i x ρ' hx hj _ _ v _ _ S3 hr3 fun ρ'' g'' s'' q'' hG'' S'' => ?_
    refine q'' g'' s'' _ _ S'' (fun ρ3 g3 s3 q3 hG3 S4 => ?_) fun rv val ρ3 g3 s3 q3 hG3 S4 r4 => ?_
    · have hX3 : g3.X = addX g'.X I o2 := (hG''.trans hG3).2
      have hI3 : s3.heap.get? I = some o2 := S4.xp I o2 (by rw [hX3]; simp [addX])
      have hXle : g'.X.le g3.X := fun b o e => by
        rw [hX3]
        have : (if b = I then some o2 else g'.X b) = some o := by
          rw [if_neg]; exact e
          intro q; rw [q, hle.2] at e; rw [hI.2.2] at e; cases e
        exact this
      refine ⟨xs.length + 1 - (i + 1), by exact om305 hlt, i + 1, ρ3, { g3 with X := g'.X }, rfl, hlt, q3, ?_, S4.lessX hXle, ?_⟩
      · exact ⟨(hle.1.trans hG''.1).trans hG3.1, hle.2⟩
      · refine Wk.frame (i + 1) h2 s3.heap hst2 fun b hb o e => ?_
        rcases hfp b hb with rfl | ⟨od, hod⟩
        · rw [ho2] at e; cases e; exact hI3
        · have h5 := S2.fr b od (hle.1 _ _ (hdG _ _ hod))
          have h5 : h2.get? b = some od := h5
          rw [h5] at e; cases e
          exact S4.fr b _ (hG3.1 _ _ (hG''.1 _ _ (hle.1 _ _ (hdG _ _ hod))))
    · refine hr rv val ρ3 { g3 with X := g'.X } s3 q3 ⟨((hG1.trans hle.1).trans hG''.1).trans hG3.1, hle.2⟩ (S4.lessX fun b o e => ?_) r4
      have hX3 : g3.X = addX g'.X I o2 := (hG''.trans hG3).2
      rw [hX3]
      have : (if b = I then some o2 else g'.X b) = some o := by
        rw [if_neg]; exact e
        intro q; rw [q, hle.2] at e; rw [hI.2.2] at e; cases e
      exact this
  · have hin : i = xs.length := by exact om300 hi hlt
    subst hin
    obtain ⟨o0, ws0, ho0, hd0, _⟩ := it.fields _ _ hst
    refine Wk.done s' _ _ hst fun h2 tk hk2 => wpAny_execs_nil ?_
    have S2 : Sim W c ρ' g' { s' with heap := h2, toks := tk } := S'.other ⟨o0, ws0, ho0, hd0⟩ ⟨hI.1, hI.2.1, by rw [hle.2]; exact hI.2.2⟩ fun b o hb e => hk2 b o (by simpa using hb) e
    exact hn ρ' g' _ (jn ρ' hj) ((Gh.le.of hG1).trans hle) S2
end
end Mine
end
section
open PySem PySem.W PyProof.Rows
namespace Mine
structure Apart (W : Wd) (c : Fx) (ρ : Rho) (g : Gh) (b : Addr) : Prop where
  H : W.H0.get? b = none
  h0 : c.h₀ b = none
  L : b ≠ c.env.locals
  cell : ∀ y, c.env.cells.lookup y ≠ some b
  own : ∀ x xs, ρ.lookup x = some (.own xs) → g.adr x ≠ b
  fs : b ∉ c.fs
  X : g.X b = none
section
variable {W : Wd} {c : Fx} {ρ : Rho} {k : Nat}
theorem Sim.apartNew {g : Gh} {s : Shared} (S : Sim W c ρ g s) {b : Addr} (hn : s.heap.get? b = none) : Apart W c ρ g b := by
  obtain ⟨n1, n2, n3⟩ := S.newAt hn
  refine ⟨n2, n1, fun q => ?_, fun y e => ?_, fun x xs e q => ?_, fun hm => ?_, n3⟩
  · obtain ⟨o, _, _, ho, _⟩ := S.ns; rw [← q, hn] at ho; cases ho
  · obtain ⟨v, o, ho, _⟩ := S.cells y b e; rw [hn] at ho; cases ho
  · obtain ⟨_, ⟨vs, n, q2, _⟩, _⟩ := S.slot x _ e; rw [q, hn] at q2; cases q2
  · obtain ⟨_, o, _, _, ho, _⟩ := S.frames.mem hm; rw [hn] at ho; cases ho
theorem Apart.G {g : Gh} {b : Addr} (a : Apart W c ρ g b) (G' : GM) : Apart W c ρ { g with G := G' } b := ⟨a.H, a.h0, a.L, a.cell, a.own, a.fs, a.X⟩
theorem Sim.step {g : Gh} {s s' : Shared} (S : Sim W c ρ g s) {G' : GM} {Z : Addr → Prop} (hZ : ∀ b, Z b → Apart W c ρ g b) (hg : s'.gens = #[]) (hos : s'.os = W.os)
    (hk : ∀ b o, ¬ Z b → s.heap.get? b = some o → (b ∉ c.fs → s'.heap.get? b = some o) ∧ ∃ sl, s'.heap.get? b = some { o with slots := sl }) (hG : g.G.le G')
    (hnew : ∀ b o, G' b = some o → g.G b = some o ∨ s.heap.get? b = none ∨ Z b) (hfr : ∀ b o, G' b = some o → s'.heap.get? b = some o) (hl : ∀ b o, G' b = some o → ∃ vs n, o = lobj vs n) :
    Sim W c ρ { g with G := G' } s' := by
  have hkx : ∀ b o, ¬ Z b → b ∉ c.fs → s.heap.get? b = some o → s'.heap.get? b = some o := fun b o z hm e => (hk b o z e).1 hm
  have cellk : ∀ y a v, c.env.cells.lookup y = some a → s.heap.IsCell a v → s'.heap.IsCell a v := fun y a v e x => by
    obtain ⟨o, ho, hd⟩ := x
    obtain ⟨_, sl, h2⟩ := hk a o (fun z => (hZ a z).cell y e) ho
    exact ⟨_, h2, hd⟩
  have var : ∀ y w, VarAt c g s.heap y w → VarAt c { g with G := G' } s'.heap y w := fun y w q => by
    rcases q with q | ⟨q1, a, q2, q3⟩
    · exact .inl q
    · exact .inr ⟨q1, a, q2, cellk y a _ q2 q3⟩
  obtain ⟨oL, es, ep, hoL, hdL, hrL⟩ := id S.ns
  exact {
    gens := hg, os := hos
    base := fun b o e => hkx b o (fun z => by rw [(hZ b z).H] at e; cases e) (fun hm => by rw [(S.frames.mem hm).1] at e; cases e) (S.base b o e)
    keep := fun b o e => by
      obtain ⟨o', e', p⟩ := S.keep b o e
      obtain ⟨h1, sl, h2⟩ := hk b o' (fun z => by rw [(hZ b z).h0] at e; cases e) e'
      refine ⟨_, h2, fun hx => ?_⟩
      obtain ⟨p1, sl', rfl⟩ := p hx
      refine ⟨fun hm => ?_, sl, rfl⟩
      have := h1 hm
      rw [h2] at this
      exact (Option.some.inj this).trans (p1 hm)
    fr := hfr
    gin := S.gin.trans hG
    gnew := fun b o e => by
      rcases hnew b o e with q | q | q
      · exact S.gnew b o q
      · exact .inr (S.keep.none q)
      · exact .inr (hZ b q).h0
    glist := hl
    frames := fun env henv => by
      obtain ⟨w1, L, o, es', n', w2, w3, w4, w5⟩ := S.frames env henv
      have hm : L ∈ c.fs := List.mem_filterMap.mpr ⟨env, henv, w2⟩
      obtain ⟨_, sl, h2⟩ := hk L o (fun z => (hZ L z).fs hm) w4
      exact ⟨w1, L, _, es', n', w2, w3, h2, w5⟩
    ns := Ns_of_slots S.ns fun o e => (hk _ o (fun z => (hZ _ z).L rfl) e).2
    loc0 := S.loc0, locH := S.locH
    cells := fun y b e => let ⟨v, q⟩ := S.cells y b e; ⟨v, cellk y b v e q⟩
    cells0 := S.cells0
    slot := fun y sl e => by
      have z := S.slot y sl e
      cases sl with
      | val v => obtain ⟨w, w1, w2⟩ := z; exact ⟨w, var _ _ w1, w2.mono hG⟩
      | own zs =>
        obtain ⟨w1, ⟨vs', n', w2, w3⟩, w4, w5⟩ := z
        have hz : ¬ Z (g.adr y) := fun z => (hZ _ z).own y zs e rfl
        refine ⟨var _ _ w1, ⟨vs', n', hkx _ _ hz (not_fs_of_lobj S.frames w2) w2, w3.mono hG⟩, ?_, w5⟩
        show G' (g.adr y) = none
        cases e' : G' (g.adr y) with
        | none => rfl
        | some o =>
          rcases hnew _ _ e' with q | q | q
          · rw [w4] at q; cases q
          · rw [w2] at q; cases q
          · exact absurd q hz
    apart := S.apart
    pin := S.pin
    xp := fun b o e => hkx b o (fun z => by rw [(hZ b z).X] at e; cases e) (fun hm => by
      obtain ⟨_, o', _, _, ho', hd'⟩ := S.frames.mem hm
      obtain ⟨vs, hd⟩ := S.xk b o e
      rw [S.xp b o e] at ho'; cases ho'; rw [hd] at hd'; cases hd') (S.xp b o e)
    xk := S.xk }
theorem Sim.one {g : Gh} {s : Shared} (S : Sim W c ρ g s) {I : Addr} (a : Apart W c ρ g I) {h' : Heap} {tk : Nat} (hG : g.G I = none) (hk : ∀ b o, b ≠ I → s.heap.get? b = some o → h'.get? b = some o) :
    Sim W c ρ g { s with heap := h', toks := tk } :=
  S.step (G' := g.G) (Z := fun b => b = I) (s' := { s with heap := h', toks := tk }) (fun b z => z ▸ a) S.gens S.os (fun b o z e => ⟨fun _ => hk b o z e, o.slots, hk b o z e⟩) (.refl _) (fun _ _ e => .inl e)
    (fun b o e => hk b o (fun q => by rw [q, hG] at e; cases e) (S.fr b o e)) S.glist
@[reducible] noncomputable def compEnvK (scope : Scope) (cells : List (Str × Addr)) (C : Addr) (env : Env) : Env :=
  { scope := relabel scope env, locals := C, globals := env.globals, cells := cells, qual := env.qual, func := none, code := env.code, frame := env.frame, builtins := env.builtins }
@[reducible] noncomputable def compFx (c : Fx) (scope : Scope) (cells : List (Str × Addr)) (C : Addr) (h₀ G₀ : GM) : Fx := ⟨compEnvK scope cells C c.env, c.A, h₀, G₀, fun _ => False, false, []⟩
theorem wp_newCompEnv {s : Shared} {A : Around} {M : Model} {scope : Scope} {globals : Addr} {cl : List (Str × Addr)} {qual : Str} {env : Env} {Q : Env → Shared → Prop} {E : Value → Shared → Prop}
    (hq : Q { scope, locals := s.heap.objs.size, globals, cells := cellsFrom (s.heap.objs.size + 1) scope.names cl, qual, func := none, code := env.code, frame := env.frame, builtins := env.builtins } { s with heap := pushCells (s.heap.push { cls := .type "dict", data := .dict #[] }) scope.names }) :
    wpAny M A (newFunctionEnv scope globals cl [] qual none .none (some env)) Q E s := by
  simp only [newFunctionEnv, Option.isSome_some, if_true]
  refine wpAny_bind (wpAny_alloc ?_)
  refine wpAny_bind (wpAny_layCells _ (fun name kind cells => by cases hkc : kind == NameKind.cell <;> simp [hkc]) _ _ _ _ ?_)
  rw [show ({ s with heap := s.heap.push { cls := .type "dict", data := .dict #[] } } : Shared).heap.objs.size = s.heap.objs.size + 1 from Heap.size_push ..]
  exact wpAny_bind (wpAny_pure (wpAny_pure hq))
end
end Mine
end
section
open PySem PySem.W PyProof.Rows
namespace Mine
section
variable {W : Wd} {c : Fx} {ρ : Rho} {k : Nat}
theorem Sim.apartFields {g : Gh} {s : Shared} (S : Sim W c ρ g s) {I : Addr} {o : Obj} {vs : Array Value} (ho : s.heap.get? I = some o) (hd : o.data = .fields vs) (hn : c.h₀ I = none ∧ W.H0.get? I = none ∧ g.X I = none) : Apart W c ρ g I := by
  refine ⟨hn.2.1, hn.1, fun q => ?_, fun y e => ?_, fun x xs e q => ?_, fun hm => ?_, hn.2.2⟩
  · obtain ⟨o', _, _, ho', hd', _⟩ := S.ns; rw [← q, ho] at ho'; cases ho'; rw [hd] at hd'; cases hd'
  · obtain ⟨v, o', ho', hd'⟩ := S.cells y I e; rw [ho] at ho'; cases ho'; rw [hd] at hd'; cases hd'
  · obtain ⟨_, ⟨vs, n, q2, _⟩, _⟩ := S.slot x _ e; rw [q, ho] at q2; cases q2; cases hd
  · obtain ⟨_, o', _, _, ho', hd'⟩ := S.frames.mem hm; rw [ho] at ho'; cases ho'; rw [hd] at hd'; cases hd'
noncomputable def ETs (W : Wd) (c : Fx) (ρ : Rho) : List Expr → (Bool → Prop) → Prop
  | [], Q => Q true
  | [t], Q => ET W c ρ t Q
  | _, _ => False
theorem wp_tests {ifs : List Expr} {Q : Bool → Prop} {g : Gh} {s : Shared} {Qc : Bool → Shared → Prop} {E : Value → Shared → Prop} (h : ETs W c ρ ifs Q) (S : Sim W c ρ g s) (hq : ∀ b G' s', Q b → g.G.le G' → Sim W c ρ { g with G := G' } s' → Qc b s') :
    wpAny (model W.prog W.w) c.A (forIn ifs true fun t r => if r = true then do let ok ← isTrue t c.env (eval t c.env); pure (ForInStep.yield ok) else pure (ForInStep.yield r)) Qc E s := by
  match ifs, h with
  | [], h => exact wpAny_tests_nil (hq true g.G s h (.refl _) S)
  | [t], h => exact wpAny_tests_one (h g s _ E S hq)
noncomputable def LoopVar (c : Fx) (scope : Scope) (cl : List (Str × Addr)) (x : Str) : Prop :=
  ((relabel scope c.env).names.lookup x = some .local ∧ (∀ n, cellsFrom n scope.names cl = cl) ∧ ∀ h, pushCells h scope.names = h) ∨
  ((relabel scope c.env).names.lookup x = some .cell ∧ (∀ n, cellsFrom n scope.names cl = (x, n) :: cl) ∧ ∀ h, pushCells h scope.names = h.push { cls := .type "cell", data := .cell none })
noncomputable def FreeVars (c : Fx) (ρ : Rho) (scope : Scope) (cl : List (Str × Addr)) (x : Str) (fv : List (Str × V)) : Prop :=
  ∀ n v, fv.lookup n = some v → n ≠ x → ρ.lookup n = some (.val v) ∧ (c.env.kindOf n = some .cell ∨ c.env.kindOf n = some .free) ∧ cl.lookup n = c.env.cells.lookup n ∧
    ((relabel scope c.env).names.lookup n = some .cell ∨ (relabel scope c.env).names.lookup n = some .free)
theorem comp_core {g : Gh} {s₂ : Shared} {elt iter : Expr} {x : Str} {px pos : Pos} {ifs : List Expr} {scope : Scope} {cl : List (Str × Addr)} {I : Addr} {dep : GM} {xs : List V} {P : Nat → Value → Prop} {St : Nat → Heap → Prop} {fv : List (Str × V)} {J : Nat → List V → Prop}
    {RR : Value → Addr → Result → Shared → Prop} {E : Value → Shared → Prop} (F : FOk k c) (S2 : Sim W c ρ g s₂) (it : ItOk W c.A I dep g.G xs P St) (st0 : St 0 s₂.heap) (hdep : ∀ b o, dep b = some o → s₂.heap.get? b = some o) (hdl : ∀ b o, dep b = some o → ∃ vs n, o = lobj vs n)
    (hI : c.h₀ I = none ∧ W.H0.get? I = none ∧ g.X I = none) (hsz : xs.length ≤ sizeLine) (hkind : scope.kind = .function) (hclc : ∀ n a, cl.lookup n = some a → ∃ y, c.env.cells.lookup y = some a) (hvar : LoopVar c scope cl x) (hfv : FreeVars c ρ scope cl x fv) (j0 : J 0 [])
    (hJ : ∀ i v ys C h₀ G₀, xs[i]? = some v → J i ys → FOk k (compFx c scope (cellsFrom (C + 1) scope.names cl) C h₀ G₀) →
      ETs W (compFx c scope (cellsFrom (C + 1) scope.names cl) C h₀ G₀) ((x, .val v) :: fv.map fun p => (p.1, .val p.2)) ifs fun b => if b then EV W (compFx c scope (cellsFrom (C + 1) scope.names cl) C h₀ G₀) ((x, .val v) :: fv.map fun p => (p.1, .val p.2)) elt (fun w => J (i + 1) (ys ++ [w])) else J (i + 1) ys)
    (hRR : ∀ D C s' G' ys vs n mC, J xs.length ys → g.G.le G' → Sim W c ρ { g with G := G' } s' → s'.heap.get? D = some (lobj vs n) → Reps G' vs.toList ys → Fresh W c { g with G := G' } s'.heap D → (∀ y zs, ρ.lookup y = some (.own zs) → g.adr y ≠ D) →
      s'.heap.Ns C mC → Apart W c ρ g C → C ≠ D → RR (.ref D) C (.ok .next) s') :
    wpAny (model W.prog W.w) c.A (newList []) (fun acc s₃ => wpAny (model W.prog W.w) c.A (newFunctionEnv scope c.env.globals cl [] c.env.qual none .none (some c.env)) (fun cenv s₄ =>
      codeAny (model W.prog W.w) c.A (.compStart (.ListComp elt [⟨.Name x px, iter, ifs, 0⟩] scope pos) 0 (.ref I) acc { cenv with scope := relabel scope c.env }) (RR acc cenv.locals) s₄) E s₃) E s₂ := by
  obtain ⟨fp, Wk, hfp⟩ := it.walks
  refine wpAny_newObj_type ?_ (Nat.zero_le _)
  refine wp_newCompEnv ?_
  have hD0 : s₂.heap.get? s₂.heap.objs.size = none := Heap.get?_none_of_le (Nat.le_refl _)
  generalize hD : s₂.heap.objs.size = D at hD0 ⊢
  have eC : (s₂.heap.push { cls := .type "list", data := .seq ([] : List Value).toArray }).objs.size = D + 1 := by rw [Heap.size_push, hD]
  dsimp only
  rw [eC]
  have hC0 : s₂.heap.get? (D + 1) = none := Heap.get?_none_of_le (by exact om278 hD)
  have hcc0 : s₂.heap.get? (D + 2) = none := Heap.get?_none_of_le (by exact om279 hD)
  generalize hH : pushCells ((s₂.heap.push { cls := .type "list", data := .seq ([] : List Value).toArray }).push { cls := .type "dict", data := .dict #[] }) scope.names = H
  have kp : ∀ b o, ((s₂.heap.push { cls := .type "list", data := .seq ([] : List Value).toArray }).push { cls := .type "dict", data := .dict #[] }).get? b = some o → H.get? b = some o := fun b o e => hH ▸ pushCells_keeps _ _ b o e
  have old : ∀ b o, s₂.heap.get? b = some o → H.get? b = some o := fun b o e => kp b o (Heap.get?_push_of_some _ (Heap.get?_push_of_some _ e))
  have eD : H.get? D = some (lobj #[] 0) := kp _ _ (Heap.get?_push_of_some _ (hD ▸ Heap.get?_push_size _ rfl))
  have nC : H.Ns (D + 1) fun _ => none := by
    have := Heap.Ns.new (s₂.heap.push { cls := .type "list", data := .seq ([] : List Value).toArray }) (.type "dict")
    rw [eC] at this
    exact this.keeps kp
  have S3 : Sim W c ρ g { s₂ with heap := H } := S2.keeps (tk := s₂.toks) (dr := s₂.drawn) old
  have aD : Apart W c ρ g D := S2.apartNew hD0
  have aC : Apart W c ρ g (D + 1) := S2.apartNew hC0
  have acc0 : Apart W c ρ g (D + 2) := S2.apartNew hcc0
  obtain ⟨oI, wI, hoI, hdI, _⟩ := it.fields _ _ st0
  have aI : Apart W c ρ g I := S2.apartFields hoI hdI hI
  have hID : I ≠ D := fun q => by rw [q, hD0] at hoI; cases hoI
  have hIC : I ≠ D + 1 := fun q => by rw [q, hC0] at hoI; cases hoI
  have hIcc : I ≠ D + 2 := fun q => by rw [q, hcc0] at hoI; cases hoI
  have ccell : (relabel scope c.env).names.lookup x = some .cell → (∀ n, cellsFrom n scope.names cl = (x, n) :: cl) → (∀ h, pushCells h scope.names = h.push { cls := .type "cell", data := .cell none }) → H.IsCell (D + 2) none := fun _ _ hp => by
    rw [hp] at hH
    have e2 : ((s₂.heap.push { cls := .type "list", data := .seq ([] : List Value).toArray }).push { cls := .type "dict", data := .dict #[] }).objs.size = D + 2 := by rw [Heap.size_push, eC]
    exact ⟨_, by rw [← hH, ← e2]; exact Heap.get?_push_size _ rfl, rfl⟩
  have F' : ∀ h₀ G₀, FOk k (compFx c scope (cellsFrom (D + 1 + 1) scope.names cl) (D + 1) h₀ G₀) := fun h₀ G₀ => ⟨F.toAOk, hkind, F.glob, F.blt, fun e => by cases e⟩
  have start : ∀ s₄ : Shared, s₄ = { s₂ with heap := H } → codeAny (model W.prog W.w) c.A (.compLoop (.ListComp elt [⟨.Name x px, iter, ifs, 0⟩] scope pos) 0 (.ref I) (.ref D) (compEnvK scope (cellsFrom (D + 1 + 1) scope.names cl) (D + 1) c.env)) (RR (.ref D) (D + 1)) s₄ := by
    rintro s₄ rfl
    refine codeAny_compLoop_tests (fun n s' => ∃ i ys vs nn G' mC, n = xs.length + 1 - i ∧ i ≤ xs.length ∧ ys.length ≤ i ∧ J i ys ∧ g.G.le G' ∧ Sim W c ρ { g with G := G' } s' ∧ St i s'.heap ∧ s'.heap.get? D = some (lobj vs nn) ∧ Reps G' vs.toList ys ∧ G' D = none ∧ s'.heap.Ns (D + 1) mC ∧
        (∀ b o, dep b = some o → s'.heap.get? b = some o) ∧ ((relabel scope c.env).names.lookup x = some .cell → ∃ v, s'.heap.IsCell (D + 2) v)) ?_ (xs.length + 1)
      ⟨0, [], #[], 0, g.G, _, by exact om191, Nat.zero_le _, Nat.le_refl _, j0, .refl _, S3, Wk.frame 0 _ _ st0 fun b hb o e => old b o e, eD, .nil, ?_, nC, fun b o e => old b o (hdep b o e), fun hx => ?_⟩
    · rintro n s' ⟨i, ys, vs, nn, G', mC, rfl, hi, hyi, hj, hGG, S', hst, hDl, hrep, hGD, hnC, hdp, hcl⟩
      by_cases hlt : i < xs.length
      · obtain ⟨v, hv⟩ : ∃ v, xs[i]? = some v := ⟨xs[i], by simp [hlt]⟩
        obtain ⟨o0, ws0, ho0, hd0, _⟩ := it.fields _ _ hst
        have hGI : G' I = none := by
          cases e : G' I with
          | none => rfl
          | some o => obtain ⟨_, _, rfl⟩ := S'.glist I o e; have := S'.fr I _ e; rw [ho0] at this; cases this; cases hd0
        refine Wk.item i s' _ _ hlt hst fun val h2 tk hval hst2 hk2 => ?_
        have hk2 : ∀ b o, b ≠ I → s'.heap.get? b = some o → h2.get? b = some o := fun b o hb e => hk2 b o (by simpa using hb) e
        have Sa : Sim W c ρ { g with G := G' } { s' with heap := h2, toks := tk } := S'.one (aI.G G') hGI hk2
        have hrv : Rep G' val v := (it.rep i val v hval hv).mono hGG
        have nC2 : h2.Ns (D + 1) mC := by obtain ⟨o, es, ep, ho, r⟩ := hnC; exact ⟨o, es, ep, hk2 _ _ (Ne.symm hIC) ho, r⟩
        have D2 : h2.get? D = some (lobj vs nn) := hk2 _ _ (Ne.symm hID) hDl
        have dp2 : ∀ b o, dep b = some o → h2.get? b = some o := fun b o e => hk2 b o (fun q => by
          obtain ⟨_, _, rfl⟩ := hdl b o e; have := hdp b _ e; rw [q, ho0] at this; cases this; cases hd0) (hdp b o e)
        have hGC : ∀ (a : Addr), (∀ o', h2.get? a = some o' → ∀ ws m, o' ≠ lobj ws m) → G' a = none := fun a hh => by
          cases e : G' a with
          | none => rfl
          | some o => obtain ⟨ws, m, rfl⟩ := S'.glist a o e; exact absurd rfl (hh _ (Sa.fr a _ e) ws m)
        have hGC1 : G' (D + 1) = none := hGC _ fun o' ho' ws m q => by
          obtain ⟨o, es, ep, ho, hd, _⟩ := nC2; rw [ho] at ho'; cases ho'; rw [q] at hd; cases hd
        have stored : ∀ {Qc : Unit → Shared → Prop} {E' : Value → Shared → Prop}, (∀ h3 tk3 m3, Sim W c ρ { g with G := G' } { s' with heap := h3, toks := tk3 } → h3.Ns (D + 1) m3 →
              VarAt (compFx c scope (cellsFrom (D + 1 + 1) scope.names cl) (D + 1) (fun b => if b = D + 1 then none else h3.get? b) G') ⟨G', fun _ => 0, m3, fun _ => none⟩ h3 x val →
              ((relabel scope c.env).names.lookup x = some .cell → ∃ v, h3.IsCell (D + 2) v) → (∀ b o, b ≠ D + 1 → b ≠ D + 2 → h2.get? b = some o → h3.get? b = some o) → Qc () { s' with heap := h3, toks := tk3 }) →
            wpAny (model W.prog W.w) c.A (assign (.Name x px) (compEnvK scope (cellsFrom (D + 1 + 1) scope.names cl) (D + 1) c.env) val) Qc E' { s' with heap := h2, toks := tk } := fun hq => by
          refine wpAny_assign_Name ?_
          rcases hvar with ⟨v1, v2, v3⟩ | ⟨v1, v2, v3⟩
          · refine wpAny_storeName_local (env := compEnvK scope (cellsFrom (D + 1 + 1) scope.names cl) (D + 1) c.env) v1 nC2 (fun h3 hn3 hs3 => ?_) (by show (scope.kind == .class || (scope.kind == .module && _)) = false; rw [hkind]; rfl)
            exact hq h3 _ _ (Sa.one (aC.G G') hGC1 fun b o hb e => hs3.extBut b o hb e) hn3 (.inl ⟨v1, by simp⟩) (fun e => by rw [v1] at e; cases e) fun b o hb _ e => hs3.extBut b o hb e
          · obtain ⟨v₀, hv₀⟩ := hcl v1
            have hv2 : h2.IsCell (D + 2) v₀ := let ⟨o, ho, hd⟩ := hv₀; ⟨o, hk2 _ _ (Ne.symm hIcc) ho, hd⟩
            have hlk : (cellsFrom (D + 1 + 1) scope.names cl).lookup x = some (D + 2) := by rw [v2]; simp
            refine wpAny_storeName_cell (env := compEnvK scope (cellsFrom (D + 1 + 1) scope.names cl) (D + 1) c.env) hkind v1 hlk hv2 fun h3 hc3 hs3 => ?_
            have hG2 : G' (D + 2) = none := hGC _ fun o' ho' ws m q => by
              obtain ⟨o, ho, hd⟩ := hv2; rw [ho] at ho'; cases ho'; rw [q] at hd; cases hd
            have hne : D + 1 ≠ D + 2 := by exact om192
            refine hq h3 _ mC (Sa.one (acc0.G G') hG2 fun b o hb e => hs3.extBut b o hb e) (nC2.sameBut hs3 hne) (.inr ⟨.inl v1, D + 2, hlk, hc3⟩) (fun _ => ⟨_, hc3⟩) fun b o _ hb e => hs3.extBut b o hb e
        refine stored fun h3 tk3 m3 Sb nC3 hvx hc3 hk3 => ?_
        have oDne : D ≠ D + 1 ∧ D ≠ D + 2 := by exact om199
        have D3 : h3.get? D = some (lobj vs nn) := hk3 _ _ oDne.1 oDne.2 D2
        obtain ⟨o2, ws2, ho2, hd2, _⟩ := it.fields _ _ hst2
        have I3 : h3.get? I = some o2 := hk3 _ _ hIC hIcc ho2
        have dpne : ∀ b o, dep b = some o → b ≠ D + 1 ∧ b ≠ D + 2 := fun b o e => ⟨fun q => (by have := hdep b o e; rw [q, hC0] at this; cases this), fun q => (by have := hdep b o e; rw [q, hcc0] at this; cases this)⟩
        have dp3 : ∀ b o, dep b = some o → h3.get? b = some o := fun b o e => hk3 b o (dpne b o e).1 (dpne b o e).2 (dp2 b o e)
        have st3 : St (i + 1) h3 := Wk.frame (i + 1) h2 h3 hst2 fun b hb o e => by
          rcases hfp b hb with rfl | ⟨od, hod⟩
          · rw [ho2] at e; cases e; exact I3
          · rw [dp2 b od hod] at e; cases e; exact dp3 b _ hod
        let h₀ : GM := fun b => if b = D + 1 then none else h3.get? b
        let c' : Fx := compFx c scope (cellsFrom (D + 1 + 1) scope.names cl) (D + 1) h₀ G'
        have Sc : Sim W c' ((x, .val v) :: fv.map fun p => (p.1, .val p.2)) ⟨G', fun _ => 0, m3, fun _ => none⟩ { s' with heap := h3, toks := tk3 } := {
          gens := Sb.gens, os := Sb.os, base := Sb.base
          keep := .of_keeps fun b o e => by
            have e : (if b = D + 1 then none else h3.get? b) = some o := e
            by_cases q : b = D + 1
            · rw [if_pos q] at e; cases e
            · rw [if_neg q] at e; exact e
          fr := Sb.fr, gin := .refl _, gnew := fun b o e => .inl e, glist := Sb.glist
          frames := Sb.frames
          ns := nC3
          loc0 := if_pos rfl
          locH := aC.H
          cells := fun y b e => by
            have e : (cellsFrom (D + 1 + 1) scope.names cl).lookup y = some b := e
            have par : cl.lookup y = some b → ∃ v, h3.IsCell b v := fun e => by
              obtain ⟨z, hz⟩ := hclc y b e
              exact Sb.cells z b hz
            rcases hvar with ⟨v1, v2, v3⟩ | ⟨v1, v2, v3⟩
            · rw [v2] at e; exact par e
            · rw [v2, List.lookup_cons] at e
              cases q : y == x with
              | true => rw [q] at e; cases e; exact hc3 v1
              | false => rw [q] at e; exact par e
          cells0 := fun e => by cases e
          slot := fun y sl e => by
            rw [List.lookup_cons] at e
            cases q : y == x with
            | true => rw [q] at e; cases e; obtain rfl := beq_iff_eq.mp q; exact ⟨val, hvx, hrv⟩
            | false =>
              rw [q] at e
              dsimp only at e
              rw [lookup_rev_map Slot.val] at e
              have hyx : y ≠ x := fun z => by rw [z] at q; simp at q
              cases hvv : fv.lookup y with
              | none => rw [hvv] at e; cases e
              | some w =>
                rw [hvv] at e; cases e
                obtain ⟨f1, f2, f3, f4⟩ := hfv y w hvv hyx
                obtain ⟨wv, w1, w2⟩ := Sb.slot y _ f1
                refine ⟨wv, ?_, w2⟩
                rcases w1 with ⟨w1, _⟩ | ⟨w1, a, w3, w4⟩
                · rcases f2 with f2 | f2 <;> rw [f2] at w1 <;> cases w1
                · refine .inr ⟨f4, a, ?_, w4⟩
                  show (cellsFrom (D + 1 + 1) scope.names cl).lookup y = some a
                  rcases hvar with ⟨v1, v2, v3⟩ | ⟨v1, v2, v3⟩
                  · rw [v2, f3]; exact w3
                  · rw [v2, List.lookup_cons, q, f3]; exact w3
          apart := fun y z ys zs e => by
            rw [List.lookup_cons] at e
            cases q : y == x with
            | true => rw [q] at e; cases e
            | false =>
              rw [q] at e; dsimp only at e; rw [lookup_rev_map Slot.val] at e
              cases hvv : fv.lookup y <;> rw [hvv] at e <;> cases e
          pin := fun y a zs e => by cases e
          xp := fun _ _ e => by cases e
          xk := fun _ _ e => by cases e }
        have back : ∀ G'' s'', G'.le G'' → Sim W c' ((x, .val v) :: fv.map fun p => (p.1, .val p.2)) ⟨G'', fun _ => 0, m3, fun _ => none⟩ s'' → Sim W c ρ { g with G := G'' } s'' ∧ St (i + 1) s''.heap ∧ s''.heap.get? D = some (lobj vs nn) ∧ G'' D = none ∧ s''.heap.Ns (D + 1) m3 ∧
            (∀ b o, dep b = some o → s''.heap.get? b = some o) ∧ ((relabel scope c.env).names.lookup x = some .cell → ∃ v, s''.heap.IsCell (D + 2) v) := fun G'' s'' hG'' Sd => by
          have ex : ∀ b o, b ≠ D + 1 → b ∉ c.fs → h3.get? b = some o → s''.heap.get? b = some o := fun b o hb hm e => Sd.keep.exact (fun x => x) hm (by show (if b = D + 1 then none else h3.get? b) = some o; rw [if_neg hb]; exact e)
          have sl : ∀ b o, b ≠ D + 1 → h3.get? b = some o → ∃ sl, s''.heap.get? b = some { o with slots := sl } := fun b o hb e => Sd.keep.slots (fun x => x) (by show (if b = D + 1 then none else h3.get? b) = some o; rw [if_neg hb]; exact e)
          have nofs : ∀ b o, h3.get? b = some o → (∀ es n, o.data ≠ .dict es n) → b ∉ c.fs := fun b o e hd hm => by
            obtain ⟨_, o', es, n, ho', hd'⟩ := Sb.frames.mem hm
            have ho' : h3.get? b = some o' := ho'
            rw [e] at ho'; cases ho'; exact hd _ _ hd'
          have D4 : s''.heap.get? D = some (lobj vs nn) := ex D _ oDne.1 (nofs D _ D3 fun _ _ q => by cases q) D3
          have hGD' : G'' D = none := by
            cases e : G'' D with
            | none => rfl
            | some o =>
              rcases Sd.gnew D o e with q | q
              · have q : G' D = some o := q
                rw [hGD] at q; cases q
              · have q : (if D = D + 1 then none else h3.get? D) = none := q
                rw [if_neg oDne.1, D3] at q; cases q
          have dp4 : ∀ b o, dep b = some o → s''.heap.get? b = some o := fun b o e => by
            refine ex b o (dpne b o e).1 (nofs b o (dp3 b o e) fun es n q => ?_) (dp3 b o e)
            obtain ⟨_, _, rfl⟩ := hdl b o e; cases q
          have I4 : s''.heap.get? I = some o2 := ex I _ hIC (nofs I _ I3 fun _ _ q => by rw [hd2] at q; cases q) I3
          refine ⟨?_, ?_, D4, hGD', Sd.ns, dp4, fun hx => ?_⟩
          · refine Sb.step (G' := G'') (Z := fun b => b = D + 1) (s' := s'') (fun b z => z ▸ (aC.G G')) Sd.gens Sd.os (fun b o z e => ⟨fun hm => ex b o z hm e, sl b o z e⟩) hG'' (fun b o e => ?_) Sd.fr Sd.glist
            rcases Sd.gnew b o e with q | q
            · exact .inl q
            · have q : (if b = D + 1 then none else h3.get? b) = none := q
              by_cases z : b = D + 1
              · exact .inr (.inr z)
              · rw [if_neg z] at q; exact .inr (.inl q)
          · refine Wk.frame (i + 1) h3 s''.heap st3 fun b hb o e => ?_
            rcases hfp b hb with rfl | ⟨od, hod⟩
            · rw [I3] at e; cases e; exact I4
            · rw [dp3 b od hod] at e; cases e; exact dp4 b _ hod
          · obtain ⟨w, o, ho, hd⟩ := hc3 hx
            obtain ⟨sl', e'⟩ := sl (D + 2) o (by exact om194) ho
            exact ⟨w, _, e', hd⟩
        refine wp_tests (c := c') (hJ i v ys (D + 1) h₀ G' hv hj (F' h₀ G')) Sc fun b G1 s4 hb hG1 S4 => ?_
        cases b with
        | false =>
          simp only [Bool.false_eq_true, if_false] at hb ⊢
          obtain ⟨b1, b2, b3, b4, b5, b6, b7⟩ := back G1 s4 hG1 S4
          exact ⟨xs.length + 1 - (i + 1), by exact om305 hlt, i + 1, ys, vs, nn, G1, m3, rfl, hlt, by exact om303 hyi, hb, hGG.trans hG1, b1, b2, b3, hrep.mono hG1, b4, b5, b6, b7⟩
        | true =>
          simp only [if_true] at hb ⊢
          refine hb _ s4 _ _ S4 fun w wal G2 s5 hw hG2 S5 rw' => ?_
          obtain ⟨b1, b2, b3, b4, b5, b6, b7⟩ := back G2 s5 (hG1.trans hG2) S5
          have hvs : vs.size = ys.length := by rw [← hrep.length, Array.length_toList]
          have hz : vs.size ≤ sizeLine := by rw [hvs]; exact om454 hyi hlt hsz
          refine call_meets PySem.F.slot_list_append (isList_lobj b3).typeIs PySem.F.entry_list_append (PySem.F.args_list_append_2 _ _) (AutoListH.list_append_list_val_0 D vs nn wal hz) ⟨b3, ?_⟩
          obtain ⟨mm, hm⟩ := update_lobj (fun z => z.push wal) b3
          have oth : ∀ b o, b ≠ D → s5.heap.get? b = some o → (s5.heap.update D (Obj.mapSeq fun z => z.push wal)).get? b = some o := update_other _
          obtain ⟨oI5, wI5, hoI5, hdI5, _⟩ := it.fields _ _ b2
          refine ⟨xs.length + 1 - (i + 1), by exact om305 hlt, i + 1, ys ++ [w], vs.push wal, mm, G2, m3, rfl, hlt, by rw [List.length_append]; simp; exact hyi, hw, (hGG.trans hG1).trans hG2, b1.one (tk := s5.toks) (aD.G G2) b4 oth, ?_, hm, ?_, b4, ?_, ?_, ?_⟩
          · refine Wk.frame (i + 1) s5.heap _ b2 fun b hb o e => oth b o (fun q => ?_) e
            rcases hfp b hb with rfl | ⟨od, hod⟩
            · exact hID q
            · have := hdep b od hod; rw [q, hD0] at this; cases this
          · simpa using (hrep.mono (hG1.trans hG2)).snoc rw'
          · obtain ⟨o, es, ep, ho, r⟩ := b5; exact ⟨o, es, ep, oth _ _ (by exact om193) ho, r⟩
          · exact fun b o e => oth b o (fun q => by have := hdep b o e; rw [q, hD0] at this; cases this) (b6 b o e)
          · intro hx; obtain ⟨w, o, ho, hd⟩ := b7 hx; exact ⟨w, o, oth _ _ (by exact om195) ho, hd⟩
      · have hin : i = xs.length := by exact om300 hi hlt
        subst hin
        obtain ⟨o0, ws0, ho0, hd0, _⟩ := it.fields _ _ hst
        have hGI : G' I = none := by
          cases e : G' I with
          | none => rfl
          | some o => obtain ⟨_, _, rfl⟩ := S'.glist I o e; have := S'.fr I _ e; rw [ho0] at this; cases this; cases hd0
        refine Wk.done s' _ _ hst fun h2 tk hk2 => ?_
        have hk2 : ∀ b o, b ≠ I → s'.heap.get? b = some o → h2.get? b = some o := fun b o hb e => hk2 b o (by simpa using hb) e
        have Sa : Sim W c ρ { g with G := G' } { s' with heap := h2, toks := tk } := S'.one (aI.G G') hGI hk2
        refine hRR D (D + 1) _ G' ys vs nn mC hj hGG Sa (hk2 _ _ (Ne.symm hID) hDl) hrep ⟨hGD, aD.H, aD.h0⟩ aD.own ?_ aC (Nat.succ_ne_self D)
        obtain ⟨o, es, ep, ho, r⟩ := hnC; exact ⟨o, es, ep, hk2 _ _ (Ne.symm hIC) ho, r⟩
    · cases e : g.G D with
      | none => rfl
      | some o => have := S2.fr D o e; rw [hD0] at this; cases this
    · rcases hvar with ⟨v1, _⟩ | ⟨v1, v2, v3⟩
      · rw [hx] at v1; cases v1
      · exact ⟨_, ccell v1 v2 v3⟩
  refine codeAny_compStart_list (start _ rfl) (Wk.self 0 _ _ _ (Wk.frame 0 _ _ st0 fun b hb o e => old b o e) (start _ rfl))
end
end Mine
end
section
open PySem PySem.W PyProof.Rows
namespace Mine
section
variable {W : Wd} {c : Fx} {ρ : Rho} {k : Nat}
noncomputable def CompJ (W : Wd) (c : Fx) (k : Nat) (scope : Scope) (cl : List (Str × Addr)) (x : Str) (fv : List (Str × V)) (ifs : List Expr) (elt : Expr) (Q : List V → Prop) (xs : List V) : Prop :=
  xs.length ≤ sizeLine ∧ ∃ J : Nat → List V → Prop, J 0 [] ∧ (∀ i v ys C h₀ G₀, xs[i]? = some v → J i ys → FOk k (compFx c scope (cellsFrom (C + 1) scope.names cl) C h₀ G₀) →
      ETs W (compFx c scope (cellsFrom (C + 1) scope.names cl) C h₀ G₀) ((x, .val v) :: fv.map fun p => (p.1, .val p.2)) ifs fun b => if b then EV W (compFx c scope (cellsFrom (C + 1) scope.names cl) C h₀ G₀) ((x, .val v) :: fv.map fun p => (p.1, .val p.2)) elt (fun w => J (i + 1) (ys ++ [w])) else J (i + 1) ys) ∧
    ∀ ys, J xs.length ys → Q ys
theorem G_none_of_ns {g : Gh} {s : Shared} {G' : GM} (S : Sim W c ρ { g with G := G' } s) {C : Addr} {m : Str → Option Value} (hn : s.heap.Ns C m) : G' C = none := by
  cases e : G' C with
  | none => rfl
  | some o =>
    obtain ⟨_, _, rfl⟩ := S.glist C o e
    obtain ⟨o', es, ep, ho, hd, _⟩ := hn
    have := S.fr C _ e
    rw [ho] at this; cases this; cases hd
theorem EVF_ListComp {fz : Prop} {elt iter : Expr} {x : Str} {px pos : Pos} {ifs : List Expr} {scope : Scope} {cl : List (Str × Addr)} {fv : List (Str × V)} {Q : List V → Prop} (F : FOk k c)
    (hclos : closureFor scope c.env = pure cl) (hkind : scope.kind = .function) (hnames : ∀ y ∈ scope.names, y.2 = .local → scope.names.lookup y.1 = some .local) (hclc : ∀ n a, cl.lookup n = some a → ∃ y, c.env.cells.lookup y = some a)
    (hvar : LoopVar c scope cl x) (hfv : FreeVars c ρ scope cl x fv) (h : EVI W c ρ fz iter (CompJ W c k scope cl x fv ifs elt Q)) (hs : ∀ x, foldedSetIterable iter c.env x = pure x := by intro _; rfl) :
    EVF W c ρ (.ListComp elt [⟨.Name x px, iter, ifs, 0⟩] scope pos) Q := fun g s Qc E S hq => by
  rw [eval_ListComp]
  refine wpAny_comprehension_free (use := none) rfl hs hclos hkind hnames (h g s _ E S fun xs I dep G' s' P St q hG S' it st0 hdep hfz hI hdl => ?_)
  obtain ⟨hsz, J, j0, jt, jn⟩ := q
  refine comp_core (RR := fun acc C => compPost (model W.prog W.w) c.A E none Qc acc C) (g := { g with G := G' }) F S' it st0 hdep hdl hI hsz hkind hclc hvar hfv j0 jt ?_
  intro D C s'' G'' ys vs n mC hj hG'' S'' hD hr hf hadr hnC aC hCD
  refine ⟨mC, hnC, fun h' hs' => ?_⟩
  have hGC : G'' C = none := G_none_of_ns S'' hnC
  have S3 : Sim W c ρ { g with G := G'' } { s'' with heap := h' } := S''.one (tk := s''.toks) (aC.G G'') hGC fun b o hb e => hs'.extBut b o hb e
  exact hq ys D vs n G'' _ (jn ys hj) (hG.trans hG'') S3 (hs'.extBut _ _ (Ne.symm hCD) hD) hr ⟨hf.g, hf.H, hf.h0⟩ hadr
theorem EX_AssignComp {fz : Prop} {elt iter : Expr} {x y : Str} {px py pos spos : Pos} {ifs : List Expr} {scope : Scope} {cl : List (Str × Addr)} {fv : List (Str × V)} {Qn : Rho → Prop} {Qr : V → Rho → Prop} (F : FOk k c)
    (hy : c.env.kindOf y = some .local) (hclos : closureFor scope c.env = pure cl) (hkind : scope.kind = .function) (hnames : ∀ y ∈ scope.names, y.2 = .local → scope.names.lookup y.1 = some .local) (hclc : ∀ n a, cl.lookup n = some a → ∃ y, c.env.cells.lookup y = some a)
    (hvar : LoopVar c scope cl x) (hfv : FreeVars c ρ scope cl x fv) (h : EVI W c ρ fz iter (CompJ W c k scope cl x fv ifs elt fun ys => Qn ((y, .val (.list ys)) :: ρ)))
    (hsw : swapsWith (.ListComp elt [⟨.Name x px, iter, ifs, 0⟩] scope pos) (some (.Name y py)) spos.line c.env = pure true) (hs : ∀ x, foldedSetIterable iter c.env x = pure x := by intro _; rfl) :
    EX W c ρ (.Assign [.Name y py] (.ListComp elt [⟨.Name x px, iter, ifs, 0⟩] scope pos) spos) Qn Qr := fun g s Qc E S hn hr => by
  rw [exec_Assign_Name_used _ _ _ _ hsw]
  refine wpAny_bind (wpAny_standAt (wpAny_bind ?_))
  show wpAny _ c.A (do let _ ← comprehension (.ListComp elt [⟨.Name x px, iter, ifs, 0⟩] scope pos) scope c.env _ (newList []) false (eval iter c.env) (some (assign (.Name y py) c.env))) _ _ s
  refine wpAny_bind (wpAny_mono (wpAny_comprehension_free (use := some (assign (.Name y py) c.env)) (Q := fun _ s' => Qc .next s') rfl hs hclos hkind hnames
    (h g s _ E S fun xs I dep G' s' P St q hG S' it st0 hdep hfz hI hdl => ?_)) (fun _ s' hq => wpAny_pure (wpAny_pure hq)) fun _ _ e => e)
  obtain ⟨hsz, J, j0, jt, jn⟩ := q
  refine comp_core (RR := fun acc C => compPost (model W.prog W.w) c.A E (some (assign (.Name y py) c.env)) (fun _ s' => Qc .next s') acc C) (g := { g with G := G' }) F S' it st0 hdep hdl hI hsz hkind hclc hvar hfv j0 jt ?_
  intro D C s'' G'' ys vs n mC hj hG'' S'' hD hr' hf hadr hnC aC hCD
  show wpAny _ c.A (assign (.Name y py) c.env (.ref D)) _ _ _
  have S3 := S''.freezeNew hf hD hadr
  have rD : Rep (addG G'' D (lobj vs n)) (.ref D) (.list ys) := .list addG_self (hr'.mono (addG_le hf.g))
  refine wpAny_assign_Name (wp_store F.toFK S3 (.inl hy) fun g4 s4 hG4 hX4 hadr4 S4 hv4 hk4 => ?_)
  have nC4 : s4.heap.Ns C mC := by obtain ⟨o, es, ep, ho, r⟩ := hnC; exact ⟨o, es, ep, hk4 _ _ aC.L aC.cell ho, r⟩
  refine ⟨mC, nC4, fun h' hs' => ?_⟩
  have S5 : Sim W c ((y, .val (.list ys)) :: ρ) g4 s4 := S4.putVal hv4 (by rw [hG4]; exact rD)
  have hG4' : g4.G = addG G'' D (lobj vs n) := hG4
  have aC4 : Apart W c ((y, .val (.list ys)) :: ρ) g4 C := ⟨aC.H, aC.h0, aC.L, aC.cell, fun z zs e => by
    rw [List.lookup_cons] at e
    cases q : z == y with
    | true => rw [q] at e; cases e
    | false => rw [q] at e; rw [hadr4]; exact aC.own z zs e, aC.fs, by rw [hX4]; exact aC.X⟩
  have S6 : Sim W c ((y, .val (.list ys)) :: ρ) g4 { s4 with heap := h' } := S5.one (tk := s4.toks) aC4 (G_none_of_ns (g := g4) (G' := g4.G) S5 nC4) fun b o hb e => hs'.extBut b o hb e
  exact hn _ g4 _ (jn ys hj) ⟨by rw [hG4']; exact (hG.trans hG'').trans (addG_le hf.g), hX4⟩ S6
end
end Mine
end
section
open PySem PySem.W PyProof.Rows PySem.SeqAt PySem.MeetsSeq3
namespace Mine
noncomputable def dv : Nat → V → Bool
  | _, .int _ => true
  | _, .str _ => true
  | n + 1, .list xs => xs.all (dv n)
  | _, _ => false
theorem dv_list {n : Nat} {xs : List V} (h : dv n (.list xs) = true) : ∃ m, n = m + 1 ∧ ∀ x ∈ xs, dv m x = true := by
  cases n with
  | zero => cases h
  | succ m => exact ⟨m, rfl, by simpa [dv, List.all_eq_true] using h⟩
section
open Classical in
noncomputable def veq (a b : V) : Bool := decide (a = b)
open Classical in
theorem veq_true {a b : V} (h : a = b) : veq a b = true := by unfold veq; exact decide_eq_true h
open Classical in
theorem veq_false {a b : V} (h : a ≠ b) : veq a b = false := by unfold veq; exact decide_eq_false h
open Classical in
theorem veq_iff {a b : V} : veq a b = true ↔ a = b := by unfold veq; exact decide_eq_true_iff
theorem getD_at {xs : List V} {i : Nat} (h : i < xs.length) : xs.getD i .none = xs[i] := by
  rw [List.getD_eq_getElem?_getD, List.getElem?_eq_getElem h]; rfl
theorem dv_shape {n : Nat} {x : V} (h : dv n x = true) : (∃ i, x = .int i) ∨ (∃ t, x = .str t) ∨ ∃ m xs, n = m + 1 ∧ x = .list xs ∧ ∀ y ∈ xs, dv m y = true := by
  cases x with
  | int i => exact .inl ⟨i, rfl⟩
  | str t => exact .inr (.inl ⟨t, rfl⟩)
  | list xs => obtain ⟨m, e, h⟩ := dv_list h; exact .inr (.inr ⟨m, xs, e, rfl, h⟩)
  | none => cases n <;> cases h
  | bool => cases n <;> cases h
  | glob => cases n <;> cases h
theorem rep_int {G : GM} {a : Value} {i : Int} (r : Rep G a (.int i)) : ∃ t, a = .int i t := by cases r; exact ⟨_, rfl⟩
theorem rep_str {G : GM} {a : Value} {i : Str} (r : Rep G a (.str i)) : ∃ t, a = .str i t := by cases r; exact ⟨_, rfl⟩
theorem rep_lst {G : GM} {a : Value} {xs : List V} (r : Rep G a (.list xs)) : ∃ l vs m, a = .ref l ∧ G l = some (lobj vs m) ∧ Reps G vs.toList xs := by
  cases r with | list h hr => exact ⟨_, _, _, rfl, h, hr⟩
theorem reps_unique {G : GM} {P : V → Prop} (ih : ∀ v x y, Rep G v x → Rep G v y → P x → P y → x = y) (vs : List Value) : ∀ {xs ys : List V}, Reps G vs xs → Reps G vs ys → (∀ x ∈ xs, P x) → (∀ y ∈ ys, P y) → xs = ys := by
  induction vs with
  | nil => intro xs ys a b _ _; cases a; cases b; rfl
  | cons v vs ih' =>
    intro xs ys a b hx hy
    cases a with | cons a1 a2 => cases b with | cons b1 b2 =>
      rw [ih _ _ _ a1 b1 (hx _ (List.mem_cons_self ..)) (hy _ (List.mem_cons_self ..)), ih' a2 b2 (fun x h => hx x (List.mem_cons_of_mem _ h)) (fun x h => hy x (List.mem_cons_of_mem _ h))]
theorem rep_unique (n : Nat) : ∀ {G : GM} {v : Value} {x y : V}, Rep G v x → Rep G v y → dv n x = true → dv n y = true → x = y := by
  induction n with
  | zero =>
    intro G v x y r r' h h'
    obtain ⟨i, rfl⟩ | ⟨i, rfl⟩ | ⟨_, _, e, _⟩ := dv_shape h
    · obtain ⟨t, rfl⟩ := rep_int r
      obtain ⟨j, rfl⟩ | ⟨j, rfl⟩ | ⟨_, _, e, _⟩ := dv_shape h'
      · obtain ⟨u, e⟩ := rep_int r'; cases e; rfl
      · obtain ⟨u, e⟩ := rep_str r'; cases e
      · cases e
    · obtain ⟨t, rfl⟩ := rep_str r
      obtain ⟨j, rfl⟩ | ⟨j, rfl⟩ | ⟨_, _, e, _⟩ := dv_shape h'
      · obtain ⟨u, e⟩ := rep_int r'; cases e
      · obtain ⟨u, e⟩ := rep_str r'; cases e; rfl
      · cases e
    · cases e
  | succ n ih =>
    intro G v x y r r' h h'
    obtain ⟨i, rfl⟩ | ⟨i, rfl⟩ | ⟨m, xs, e, rfl, hx⟩ := dv_shape h
    · obtain ⟨t, rfl⟩ := rep_int r
      obtain ⟨j, rfl⟩ | ⟨j, rfl⟩ | ⟨_, _, _, rfl, _⟩ := dv_shape h'
      · obtain ⟨u, e⟩ := rep_int r'; cases e; rfl
      · obtain ⟨u, e⟩ := rep_str r'; cases e
      · obtain ⟨_, _, _, e, _⟩ := rep_lst r'; cases e
    · obtain ⟨t, rfl⟩ := rep_str r
      obtain ⟨j, rfl⟩ | ⟨j, rfl⟩ | ⟨_, _, _, rfl, _⟩ := dv_shape h'
      · obtain ⟨u, e⟩ := rep_int r'; cases e
      · obtain ⟨u, e⟩ := rep_str r'; cases e; rfl
      · obtain ⟨_, _, _, e, _⟩ := rep_lst r'; cases e
    · cases e
      obtain ⟨l, vs, k, rfl, ha, hr⟩ := rep_lst r
      obtain ⟨j, rfl⟩ | ⟨j, rfl⟩ | ⟨m', ys, e, rfl, hy⟩ := dv_shape h'
      · obtain ⟨u, e⟩ := rep_int r'; cases e
      · obtain ⟨u, e⟩ := rep_str r'; cases e
      · cases e
        obtain ⟨_, _, _, e, hb, hr'⟩ := rep_lst r'
        cases e; rw [ha] at hb; cases hb
        rw [reps_unique (fun _ _ _ => ih) _ hr hr' hx hy]
theorem all_range_eq {xs ys : List V} (hl : xs.length = ys.length) : (List.range xs.length).all (fun j => veq (xs.getD j .none) (ys.getD j .none)) = veq (.list xs) (.list ys) := by
  rw [Bool.eq_iff_iff, List.all_eq_true, veq_iff]
  constructor
  · intro h
    congr 1
    apply List.ext_getElem hl
    intro i h1 h2
    have := veq_iff.mp (h i (List.mem_range.mpr h1))
    rwa [getD_at h1, getD_at h2] at this
  · intro h
    cases h
    intro i _
    exact veq_true rfl
theorem reps_at {G : GM} {vs : Array Value} {xs : List V} (h : Reps G vs.toList xs) {j : Nat} (hj : j < vs.size) : Rep G vs[j] (xs.getD j .none) := by
  have hl := h.length
  rw [Array.length_toList] at hl
  have hx : xs[j]? = some xs[j] := List.getElem?_eq_getElem (by exact om398 hj hl)
  obtain ⟨v, hv, hr⟩ := h.get hx
  have : vs[j] = v := by
    have := hv
    rw [List.getElem?_eq_getElem (by simpa using hj)] at this
    simpa using this
  rw [this, getD_at (by exact om398 hj hl)]; exact hr
theorem veq_int0 (i j : Int) : veq (.int i) (.int j) = (i == j) := by rw [Bool.eq_iff_iff, veq_iff, beq_iff_eq]; exact ⟨fun e => by cases e; rfl, fun e => by rw [e]⟩
theorem veq_str0 (i j : Str) : veq (.str i) (.str j) = (i == j) := by rw [Bool.eq_iff_iff, veq_iff, beq_iff_eq]; exact ⟨fun e => by cases e; rfl, fun e => by rw [e]⟩
theorem rc_len {G : GM} {vs ws : Array Value} {xs ys : List V} (hr : Reps G vs.toList xs) (hr' : Reps G ws.toList ys) (hsz : ¬vs.size = ws.size) : veq (.list xs) (.list ys) = false :=
  veq_false fun e => by
    cases e
    exact hsz (by rw [← Array.length_toList, ← Array.length_toList, hr.length, hr'.length])
theorem rc_all {G : GM} {vs ws : Array Value} {xs ys : List V} (hr : Reps G vs.toList xs) (hr' : Reps G ws.toList ys) (hsz : vs.size = ws.size) : (List.range vs.size).all (fun j => veq (xs.getD j .none) (ys.getD j .none)) = veq (.list xs) (.list ys) := by
  rw [← Array.length_toList, hr.length]
  exact all_range_eq (by rw [← hr.length, ← hr'.length, Array.length_toList, Array.length_toList, hsz])
theorem rc_elem {n : Nat} {A : Around} {s : Shared} {G : GM} (ih : ∀ {A : Around} {s : Shared} {G : GM} {a b : Value} {x y : V}, (∀ q o, G q = some o → s.heap.get? q = some o) → Rep G a x → Rep G b y → dv n x = true → dv n y = true → A.units + n < cLine → EqAt A s a b (veq x y))
    {vs ws : Array Value} {xs ys : List V} (hG : ∀ q o, G q = some o → s.heap.get? q = some o) (hr : Reps G vs.toList xs) (hr' : Reps G ws.toList ys) (hx : ∀ x ∈ xs, dv n x = true) (hy : ∀ y ∈ ys, dv n y = true) (hu : A.units + n < cLine) (j : Nat) (h1 : j < vs.size) (h2 : j < ws.size) : EqAt A s vs[j] ws[j] (veq (xs.getD j .none) (ys.getD j .none)) := by
  have n1 : vs.size = xs.length := by rw [← hr.length, Array.length_toList]
  have n2 : ws.size = ys.length := by rw [← hr'.length, Array.length_toList]
  refine ih hG (reps_at hr h1) (reps_at hr' h2) ?_ ?_ hu
  · rw [getD_at (n1 ▸ h1)]; exact hx _ (List.getElem_mem _)
  · rw [getD_at (n2 ▸ h2)]; exact hy _ (List.getElem_mem _)
theorem rc_at {n : Nat} {A : Around} {s : Shared} {G : GM} (ih : ∀ {A : Around} {s : Shared} {G : GM} {a b : Value} {x y : V}, (∀ q o, G q = some o → s.heap.get? q = some o) → Rep G a x → Rep G b y → dv n x = true → dv n y = true → A.units + n < cLine → EqAt A s a b (veq x y))
    {l l' : Addr} {vs ws : Array Value} {k k' : Nat} {xs ys : List V} (hG : ∀ q o, G q = some o → s.heap.get? q = some o) (ha : G l = some (lobj vs k)) (hb : G l' = some (lobj ws k')) (hr : Reps G vs.toList xs) (hr' : Reps G ws.toList ys) (hx : ∀ x ∈ xs, dv n x = true) (hy : ∀ y ∈ ys, dv n y = true) (hu : A.units + (n + 1) < cLine) : RcAt A s (.ref l) (.ref l') (veq (.list xs) (.list ys)) := by
  by_cases hsz : vs.size = ws.size
  · rw [← rc_all hr hr' hsz]
    exact RcAt.lists (isList_lobj (hG _ _ ha)) (isList_lobj (hG _ _ hb)) hsz (om365 hu) (rc_elem ih hG hr hr' hx hy (om362 hu))
  · rw [rc_len hr hr' hsz]
    exact RcAt.lists_lengths (isList_lobj (hG _ _ ha)) (isList_lobj (hG _ _ hb)) (by simpa using hsz) (om365 hu)
theorem eqAt_rep (n : Nat) : ∀ {A : Around} {s : Shared} {G : GM} {a b : Value} {x y : V}, (∀ q o, G q = some o → s.heap.get? q = some o) → Rep G a x → Rep G b y → dv n x = true → dv n y = true → A.units + n < cLine → EqAt A s a b (veq x y) := by
  induction n with
  | zero =>
    intro A s G a b x y hG ra rb hx hy hu
    obtain ⟨i, rfl⟩ | ⟨i, rfl⟩ | ⟨_, _, e, _⟩ := dv_shape hx
    · obtain ⟨t, rfl⟩ := rep_int ra
      obtain ⟨j, rfl⟩ | ⟨j, rfl⟩ | ⟨_, _, e, _⟩ := dv_shape hy
      · obtain ⟨u, rfl⟩ := rep_int rb; rw [veq_int0]; exact EqAt.int_int i t j u
      · obtain ⟨u, rfl⟩ := rep_str rb; rw [veq_false (fun e => V.noConfusion e)]; exact EqAt.int_str i t j u
      · cases e
    · obtain ⟨t, rfl⟩ := rep_str ra
      obtain ⟨j, rfl⟩ | ⟨j, rfl⟩ | ⟨_, _, e, _⟩ := dv_shape hy
      · obtain ⟨u, rfl⟩ := rep_int rb; rw [veq_false (fun e => V.noConfusion e)]; exact EqAt.str_int i t j u
      · obtain ⟨u, rfl⟩ := rep_str rb; rw [veq_str0]; exact EqAt.str_str i t j u
      · cases e
    · cases e
  | succ n ih =>
    intro A s G a b x y hG ra rb hx hy hu
    have hv := @rep_unique (n + 1) G a x y ra
    have hu0 : A.units < cLine := om370 hu
    obtain ⟨i, rfl⟩ | ⟨i, rfl⟩ | ⟨_, xs, e, rfl, hx'⟩ := dv_shape hx
    · obtain ⟨t, rfl⟩ := rep_int ra
      obtain ⟨j, rfl⟩ | ⟨j, rfl⟩ | ⟨_, _, e, rfl, _⟩ := dv_shape hy
      · obtain ⟨u, rfl⟩ := rep_int rb; rw [veq_int0]; exact EqAt.int_int i t j u
      · obtain ⟨u, rfl⟩ := rep_str rb; rw [veq_false (fun e => V.noConfusion e)]; exact EqAt.int_str i t j u
      · obtain ⟨l, vs, k, rfl, hb, _⟩ := rep_lst rb; rw [veq_false (fun e => V.noConfusion e)]; exact EqAt.int_list i t (isList_lobj (hG _ _ hb)) hu0
    · obtain ⟨t, rfl⟩ := rep_str ra
      obtain ⟨j, rfl⟩ | ⟨j, rfl⟩ | ⟨_, _, e, rfl, _⟩ := dv_shape hy
      · obtain ⟨u, rfl⟩ := rep_int rb; rw [veq_false (fun e => V.noConfusion e)]; exact EqAt.str_int i t j u
      · obtain ⟨u, rfl⟩ := rep_str rb; rw [veq_str0]; exact EqAt.str_str i t j u
      · obtain ⟨l, vs, k, rfl, hb, _⟩ := rep_lst rb; rw [veq_false (fun e => V.noConfusion e)]; exact EqAt.str_list i t (isList_lobj (hG _ _ hb)) hu0
    · cases e
      obtain ⟨l, vs, k, rfl, ha, hr⟩ := rep_lst ra
      obtain ⟨j, rfl⟩ | ⟨j, rfl⟩ | ⟨_, ys, e, rfl, hy'⟩ := dv_shape hy
      · obtain ⟨u, rfl⟩ := rep_int rb; rw [veq_false (fun e => V.noConfusion e)]; exact EqAt.list_int j u (isList_lobj (hG _ _ ha)) hu0
      · obtain ⟨u, rfl⟩ := rep_str rb; rw [veq_false (fun e => V.noConfusion e)]; exact EqAt.list_str j u (isList_lobj (hG _ _ ha)) hu0
      · cases e
        obtain ⟨l', ws, k', rfl, hb, hr'⟩ := rep_lst rb
        by_cases hll : l = l'
        · subst hll
          rw [veq_true (hv rb hx hy)]
          exact EqAt.same _
        · exact EqAt.of_refs hll (rc_at ih hG ha hb hr hr' hx' hy' hu)
theorem rcAt_rep (n : Nat) {A : Around} {s : Shared} {G : GM} {a b : Addr} {xs ys : List V} (hG : ∀ q o, G q = some o → s.heap.get? q = some o) (ra : Rep G (.ref a) (.list xs)) (rb : Rep G (.ref b) (.list ys)) (hx : dv n (.list xs) = true) (hy : dv n (.list ys) = true) (hu : A.units + n < cLine) : RcAt A s (.ref a) (.ref b) (veq (.list xs) (.list ys)) := by
  obtain ⟨m, rfl, hx'⟩ := dv_list hx
  obtain ⟨m', e, hy'⟩ := dv_list hy
  cases e
  obtain ⟨l, vs, k, e, ha, hr⟩ := rep_lst ra
  cases e
  obtain ⟨l', ws, k', e, hb, hr'⟩ := rep_lst rb
  cases e
  exact rc_at (eqAt_rep m) hG ha hb hr hr' hx' hy' hu
theorem rcNeAt_rep (n : Nat) {A : Around} {s : Shared} {G : GM} {a b : Addr} {xs ys : List V} (hG : ∀ q o, G q = some o → s.heap.get? q = some o) (ra : Rep G (.ref a) (.list xs)) (rb : Rep G (.ref b) (.list ys)) (hx : dv n (.list xs) = true) (hy : dv n (.list ys) = true) (hu : A.units + n < cLine) : RcNeAt A s (.ref a) (.ref b) (!veq (.list xs) (.list ys)) := by
  obtain ⟨m, rfl, hx'⟩ := dv_list hx
  obtain ⟨m', e, hy'⟩ := dv_list hy
  cases e
  obtain ⟨l, vs, k, e, ha, hr⟩ := rep_lst ra
  cases e
  obtain ⟨l', ws, k', e, hb, hr'⟩ := rep_lst rb
  cases e
  by_cases hsz : vs.size = ws.size
  · rw [← rc_all hr hr' hsz]
    exact RcNeAt.lists (isList_lobj (hG _ _ ha)) (isList_lobj (hG _ _ hb)) hsz (om365 hu) (rc_elem (eqAt_rep m) hG hr hr' hx' hy' (om362 hu))
  · rw [rc_len hr hr' hsz]
    exact RcNeAt.lists_lengths (isList_lobj (hG _ _ ha)) (isList_lobj (hG _ _ hb)) (by simpa using hsz) (om365 hu)
end
inductive LtV : V → V → Bool → Prop
  | int (i j : Int) : LtV (.int i) (.int j) (decide (i < j))
  | str (x y : Str) : LtV (.str x) (.str y) (decide (x.cps.toList < y.cps.toList))
  | nn : LtV (.list []) (.list []) false
  | nc (y ys) : LtV (.list []) (.list (y :: ys)) true
  | cn (x xs) : LtV (.list (x :: xs)) (.list []) false
  | eq (x xs ys r) : LtV (.list xs) (.list ys) r → LtV (.list (x :: xs)) (.list (x :: ys)) r
  | ne (x y xs ys r) : x ≠ y → LtV x y r → LtV (.list (x :: xs)) (.list (y :: ys)) r
noncomputable def LtAt (A : Around) (s : Shared) (y x : Value) (b : Bool) : Prop :=
  ∀ (prog : Program) (w : World) (E : Value → Shared → Prop) (Q : Value → Shared → Prop), Q (.bool b) s → wpAny (model prog w) A (richCompare .Lt y x) Q E s
inductive LtR (A : Around) (s : Shared) : List Value → List Value → Bool → Prop
  | nn : LtR A s [] [] false
  | nc (y ys) : LtR A s [] (y :: ys) true
  | cn (x xs) : LtR A s (x :: xs) [] false
  | eq (x y xs ys r) : EqAt A s x y true → LtR A s xs ys r → LtR A s (x :: xs) (y :: ys) r
  | ne (x y xs ys r) : EqAt A s x y false → LtAt A s x y r → LtR A s (x :: xs) (y :: ys) r
open AutoSeq1 (wpAny_loadPart') in
theorem lt_loop (l b : Addr) (items items2 : Array Value) (n n2 : Nat) (k : Nat) :
    ∀ (i : Nat) (r : Bool), items.size - i = k → i ≤ items.size → i ≤ items2.size → Meets (Builtin.«list.__eq__.loop» ⟨[.ref l, .ref b, rawInt i, rawInt 0], []⟩)
      (fun A R s => s.heap.get? l = some { cls := .type "list", dict := none, data := .seq items n, slots := #[] } ∧ s.heap.get? b = some { cls := .type "list", dict := none, data := .seq items2 n2, slots := #[] } ∧
        LtR A.in1 s (items.toList.drop i) (items2.toList.drop i) r ∧
        R (.ok (.ret (.bool r))) s) := by
  induction k with
  | zero =>
    intro i r hk hle hle2 prog w A R s h
    obtain ⟨hp, g, d, tk, os⟩ := s; obtain ⟨hl, hb, hlt, h⟩ := h
    have hi : i = items.size := by exact om239 hk hle
    wp_walk using wpAny_loadPart' hl, wpAny_loadPart' hb
    have hi1 : items[((i : Nat) : Int).toNat]? = none := by simp; exact om315 hi
    rw [hi1]
    have e1 : items.toList.drop i = [] := by simp; exact om315 hi
    rw [e1] at hlt
    have hr : r = decide (items.size < items2.size) := by
      cases q : items2.toList.drop i with
      | nil =>
        rw [q] at hlt; cases hlt
        have : items2.size ≤ i := by simpa using q
        symm; exact decide_eq_false (by exact om415 this hi)
      | cons y ys =>
        rw [q] at hlt; cases hlt
        have : ¬ items2.toList.length ≤ i := fun z => by rw [List.drop_of_length_le z] at q; cases q
        rw [Array.length_toList] at this
        symm; exact decide_eq_true (by exact om425 hi this)
    wp_walk using wpAny_loadPart' hl, wpAny_loadPart' hb
    show R (.ok (.ret (.bool (decide (items.size < items2.size))))) _
    rw [← hr]; exact h
  | succ k ih =>
    intro i r hk hle hle2 prog w A R s h
    obtain ⟨hp, g, d, tk, os⟩ := s; obtain ⟨hl, hb, hltr, h⟩ := h
    wp_walk using wpAny_loadPart' hl, wpAny_loadPart' hb
    have hlt : i < items.size := by exact om378 hk
    have hi1 : items[((i : Nat) : Int).toNat]? = some items[i] := by simp [hlt]
    have d1 : items.toList.drop i = items[i] :: items.toList.drop (i + 1) := by rw [List.drop_eq_getElem_cons (by simpa using hlt)]; simp
    rw [d1] at hltr
    have hc : ((i : Int) + 1) = ((i + 1 : Nat) : Int) := by push_cast; rfl
    by_cases hlt2 : i < items2.size
    · have hi2 : items2[((i : Nat) : Int).toNat]? = some items2[i] := by simp [hlt2]
      have d2 : items2.toList.drop i = items2[i] :: items2.toList.drop (i + 1) := by rw [List.drop_eq_getElem_cons (by simpa using hlt2)]; simp
      rw [d2] at hltr
      rw [hi1, hi2]
      cases hltr with
      | eq _ _ _ _ _ he hrest =>
        refine wpAny_bind (he prog w _ _ ?_)
        wp_walk
        rw [hc]
        exact ⟨plainId_quiet plain_eq_loop _, codeAny_builtin entry_eq_loop (by
          rw [Around.under_plainId plain_eq_loop _]
          exact ih (i + 1) r (by exact om372 hk) (by exact om267 hlt) (by exact om267 hlt2) prog w A R _ ⟨hl, hb, hrest, h⟩)⟩
      | ne _ _ _ _ _ he hl2 =>
        refine wpAny_bind (he prog w _ _ ?_)
        wp_walk using wpAny_loadPart' hl, wpAny_loadPart' hb
        rw [hi1, hi2]
        refine wpAny_bind (hl2 prog w _ _ ?_)
        wp_walk
        exact h
    · have hi2 : items2[((i : Nat) : Int).toNat]? = none := by simp; exact om332 hlt2
      have d2 : items2.toList.drop i = [] := by simp; exact om332 hlt2
      rw [d2] at hltr
      cases hltr
      rw [hi1, hi2]
      wp_walk using wpAny_loadPart' hl, wpAny_loadPart' hb
      show R (.ok (.ret (.bool (decide (items.size < items2.size))))) _
      rw [decide_eq_false (by exact om420 hlt hlt2)]; exact h
end Mine
end
section
open PySem PySem.W PyProof.Rows PySem.SeqAt PySem.MeetsSeq3
namespace Mine
open AutoSeq1 (wpAny_loadPart') in
theorem list_lt_meets (l b : Addr) (items items2 : Array Value) (n n2 : Nat) (r : Bool) :
    Meets (Builtin.«list.__lt__» ⟨[.ref l, .ref b], []⟩)
      (fun A R s => s.heap.get? l = some { cls := .type "list", dict := none, data := .seq items n, slots := #[] } ∧ s.heap.get? b = some { cls := .type "list", dict := none, data := .seq items2 n2, slots := #[] } ∧
        LtR A.in1 s items.toList items2.toList r ∧ R (.ok (.ret (.bool r))) s) := by
  intro prog w A R s h
  obtain ⟨hp, g, d, tk, os⟩ := s; obtain ⟨hl, hb, he, h⟩ := h
  have f3 := AutoSeq1.sub_list_list
  wp_walk using wpAny_loadPart' hl, wpAny_loadPart' hb
  exact ⟨plainId_quiet plain_eq_loop _, codeAny_builtin entry_eq_loop (by
    rw [Around.under_plainId plain_eq_loop _]
    exact lt_loop l b items items2 n n2 _ 0 r rfl (Nat.zero_le _) (Nat.zero_le _) prog w A R _ ⟨hl, hb, by simpa using he, h⟩)⟩
theorem ltAt_lists {A : Around} {s : Shared} {l b : Addr} {items items2 : Array Value} {n n2 : Nat} {r : Bool} (hl : s.heap.get? l = some (lobj items n)) (hb : s.heap.get? b = some (lobj items2 n2)) (hu : A.units < cLine)
    (h : LtR A.in1 s items.toList items2.toList r) : LtAt A s (.ref l) (.ref b) r := fun prog w E Q hq =>
  richCompare_meets_room (op := .Lt) (isList_lobj hl).typeIs (isList_lobj hb).typeIs PySem.F.slot_list_lt PySem.F.entry_list_lt (PySem.F.args_list_lt_2 _ _) (list_lt_meets l b items items2 n n2 r)
    ⟨hl, hb, h, show Value.bool r ≠ Value.notImplemented ∧ Q (.bool r) s from ⟨(fun x => nomatch x), hq⟩⟩ hu
theorem ltR_of {A : Around} {s : Shared} {G : GM} {m : Nat} (ih : ∀ {x y : V} {r : Bool} {a b : Value}, LtV x y r → Rep G a x → Rep G b y → dv m x = true → dv m y = true → LtAt A s a b r)
    (ihe : ∀ {x y : V} {a b : Value}, Rep G a x → Rep G b y → dv m x = true → dv m y = true → EqAt A s a b (veq x y)) :
    ∀ (xs ys : List V) (r : Bool) (vs ws : List Value), LtV (.list xs) (.list ys) r → Reps G vs xs → Reps G ws ys → (∀ x ∈ xs, dv m x = true) → (∀ y ∈ ys, dv m y = true) → LtR A s vs ws r
  | [], [], r, vs, ws, h, a, b, hx, hy => by cases a; cases b; cases h; exact .nn
  | [], y :: ys, r, vs, ws, h, a, b, hx, hy => by cases a; cases b; cases h; exact .nc _ _
  | x :: xs, [], r, vs, ws, h, a, b, hx, hy => by cases a; cases b; cases h; exact .cn _ _
  | x :: xs, y :: ys, r, vs, ws, h, a, b, hx, hy => by
    cases a with | cons a1 a2 => cases b with | cons b1 b2 =>
      have dx := hx _ (List.mem_cons_self ..)
      have dy := hy _ (List.mem_cons_self ..)
      cases h with
      | eq _ _ _ _ h => exact .eq _ _ _ _ _ (veq_true (rfl : x = x) ▸ ihe a1 b1 dx dy) (ltR_of ih ihe xs ys r _ _ h a2 b2 (fun x h => hx x (List.mem_cons_of_mem _ h)) (fun x h => hy x (List.mem_cons_of_mem _ h)))
      | ne _ _ _ _ _ hne h => exact .ne _ _ _ _ _ (veq_false hne ▸ ihe a1 b1 dx dy) (ih h a1 b1 dx dy)
theorem ltAt_int {A : Around} {s : Shared} (i j : Int) (t u : Tok) : LtAt A s (.int i t) (.int j u) (decide (i < j)) := fun prog w E Q hq => PyProof.Rows.lt_int (E := E) hq
theorem ltAt_str {A : Around} {s : Shared} (i j : Str) (t u : Tok) : LtAt A s (.str i t) (.str j u) (decide (i.cps.toList < j.cps.toList)) := fun prog w E Q hq => PyProof.Rows.lt_str (E := E) hq
theorem ltV_list {x y : V} {r : Bool} (h : LtV x y r) : (∃ i j, x = .int i ∧ y = .int j ∧ r = decide (i < j)) ∨ (∃ i j, x = .str i ∧ y = .str j ∧ r = decide (i.cps.toList < j.cps.toList)) ∨ ∃ xs ys, x = .list xs ∧ y = .list ys := by
  cases h
  · exact .inl ⟨_, _, rfl, rfl, rfl⟩
  · exact .inr (.inl ⟨_, _, rfl, rfl, rfl⟩)
  all_goals exact .inr (.inr ⟨_, _, rfl, rfl⟩)
theorem ltAt_rep (n : Nat) : ∀ {x y : V} {r : Bool} {A : Around} {s : Shared} {G : GM} {a b : Value}, LtV x y r → (∀ q o, G q = some o → s.heap.get? q = some o) → Rep G a x → Rep G b y → dv n x = true → dv n y = true → A.units + n < cLine → LtAt A s a b r := by
  induction n with
  | zero =>
    intro x y r A s G a b h hG ra rb hx hy hu
    rcases ltV_list h with ⟨i, j, rfl, rfl, rfl⟩ | ⟨i, j, rfl, rfl, rfl⟩ | ⟨xs, ys, rfl, rfl⟩
    · cases ra; cases rb; exact ltAt_int _ _ _ _
    · cases ra; cases rb; exact ltAt_str _ _ _ _
    · cases hx
  | succ n ih =>
    intro x y r A s G a b h hG ra rb hx hy hu
    rcases ltV_list h with ⟨i, j, rfl, rfl, rfl⟩ | ⟨i, j, rfl, rfl, rfl⟩ | ⟨xs, ys, rfl, rfl⟩
    · cases ra; cases rb; exact ltAt_int _ _ _ _
    · cases ra; cases rb; exact ltAt_str _ _ _ _
    · obtain ⟨m, e, hx⟩ := dv_list hx
      cases e
      obtain ⟨m', e, hy⟩ := dv_list hy
      cases e
      cases ra with
      | @list _ vs m _ ha hr =>
        cases rb with
        | @list _ ws m' _ hb hr' =>
          have hu' : A.in1.units + n < cLine := by show A.units + 1 + n < cLine; exact om362 hu
          exact ltAt_lists (hG _ _ ha) (hG _ _ hb) (by exact om365 hu) (ltR_of (m := n) (fun h a b hx hy => ih h hG a b hx hy hu') (fun a b hx hy => eqAt_rep n hG a b hx hy hu') xs ys r _ _ h hr hr' hx hy)
section
variable {W : Wd} {c : Fx} {ρ : Rho} {k : Nat}
theorem OV_eq_list {xs ys : List V} {Q : V → Prop} (F : FOk k c) (hx : dv 60 (.list xs) = true) (hy : dv 60 (.list ys) = true) (h : Q (.bool (veq (.list xs) (.list ys)))) : OV W c ρ [.list xs, .list ys] (fun l => compareOp .Eq (l.getD 0 .none) (l.getD 1 .none)) Q := fun g s vals Qc E S r hq => by
  obtain ⟨v, w, rfl, r1, r2⟩ := r.two
  have hu := F.units
  cases r1 with | list a b => cases r2 with | list a' b' =>
    exact rcAt_rep 60 S.fr (.list a b) (.list a' b') hx hy (by exact om356 hu) _ _ _ _ (hq _ _ g.G _ h (.refl _) S (.bool _))
theorem OV_ne_list {xs ys : List V} {Q : V → Prop} (F : FOk k c) (hx : dv 60 (.list xs) = true) (hy : dv 60 (.list ys) = true) (h : Q (.bool (!veq (.list xs) (.list ys)))) : OV W c ρ [.list xs, .list ys] (fun l => compareOp .NotEq (l.getD 0 .none) (l.getD 1 .none)) Q := fun g s vals Qc E S r hq => by
  obtain ⟨v, w, rfl, r1, r2⟩ := r.two
  have hu := F.units
  cases r1 with | list a b => cases r2 with | list a' b' =>
    exact rcNeAt_rep 60 S.fr (.list a b) (.list a' b') hx hy (by exact om356 hu) _ _ _ _ (hq _ _ g.G _ h (.refl _) S (.bool _))
theorem OV_lt_list {x y : V} {r : Bool} {Q : V → Prop} (F : FOk k c) (hx : dv 60 x = true) (hy : dv 60 y = true) (hl : LtV x y r) (h : Q (.bool r)) : OV W c ρ [x, y] (fun l => compareOp .Lt (l.getD 0 .none) (l.getD 1 .none)) Q := fun g s vals Qc E S rr hq => by
  obtain ⟨v, w, rfl, r1, r2⟩ := rr.two
  have hu := F.units
  exact ltAt_rep 60 hl S.fr r1 r2 hx hy (by exact om356 hu) _ _ _ _ (hq _ _ g.G _ h (.refl _) S (.bool _))
open Classical in
theorem any_rep {G : GM} {vs : Array Value} {xs : List V} {x : V} (hr : Reps G vs.toList xs) (hx : ∀ y ∈ xs, dv 59 y = true) :
    ∃ e : Value → Bool, (∀ v ∈ vs, ∃ y, y ∈ xs ∧ Rep G v y ∧ e v = veq y x) ∧ vs.any e = xs.any fun y => veq y x := by
  refine ⟨fun v => decide (∃ y, y ∈ xs ∧ Rep G v y ∧ y = x), fun v hv => ?_, ?_⟩
  · have key : ∀ (vs : List Value) (xs : List V), Reps G vs xs → ∀ v ∈ vs, ∃ y, y ∈ xs ∧ Rep G v y := by
      intro vs
      induction vs with
      | nil => intro xs _ v hv; cases hv
      | cons w ws ih =>
        intro xs h v hv
        cases h with | cons h1 h2 =>
          rcases List.mem_cons.mp hv with rfl | hv
          · exact ⟨_, List.mem_cons_self .., h1⟩
          · obtain ⟨y, hy, hr⟩ := ih _ h2 v hv
            exact ⟨y, List.mem_cons_of_mem _ hy, hr⟩
    obtain ⟨y, hy, hry⟩ := key _ _ hr v (by simpa using hv)
    refine ⟨y, hy, hry, ?_⟩
    rw [Bool.eq_iff_iff, decide_eq_true_iff, veq_iff]
    constructor
    · rintro ⟨z, hz, hrz, rfl⟩
      exact rep_unique 59 hry hrz (hx _ hy) (hx _ hz)
    · rintro rfl; exact ⟨y, hy, hry, rfl⟩
  · rw [← Array.any_toList]
    have key : ∀ (ws : List Value) (zs : List V), Reps G ws zs → (∀ z ∈ zs, z ∈ xs) → ws.any (fun v => decide (∃ y, y ∈ xs ∧ Rep G v y ∧ y = x)) = zs.any fun y => veq y x := by
      intro ws
      induction ws with
      | nil => intro zs h _; cases h; rfl
      | cons w ws ih =>
        intro zs h hz
        cases h with
        | @cons _ z _ zs h1 h2 =>
          rw [List.any_cons, List.any_cons, ih _ h2 (fun z h => hz z (List.mem_cons_of_mem _ h))]
          congr 1
          rw [Bool.eq_iff_iff, decide_eq_true_iff, veq_iff]
          constructor
          · rintro ⟨y, hy, hry, rfl⟩
            exact rep_unique 59 h1 hry (hx _ (hz _ (List.mem_cons_self ..))) (hx _ hy)
          · rintro rfl; exact ⟨z, hz _ (List.mem_cons_self ..), h1, rfl⟩
    exact key _ _ hr fun _ h => h
theorem OV_notIn_list {x : V} {ys : List V} {Q : V → Prop} (F : FOk k c) (hx : dv 59 x = true) (hy : ∀ y ∈ ys, dv 59 y = true) (h : Q (.bool (!ys.any fun y => veq y x))) : OV W c ρ [x, .list ys] (fun l => compareOp .NotIn (l.getD 0 .none) (l.getD 1 .none)) Q := fun g s vals Qc E S r hq => by
  obtain ⟨v, w, rfl, r1, r2⟩ := r.two
  have hu := F.units
  cases r2 with
  | list a b =>
    obtain ⟨e, he, hany⟩ := any_rep (x := x) b hy
    refine notIn_listAt e (isList_lobj (S.fr _ _ a)) (fun u hu' => ?_) (hq _ _ g.G _ (by rw [hany]; exact h) (.refl _) S (.bool _))
    obtain ⟨y, hy', hry, hey⟩ := he u hu'
    rw [hey]
    exact eqAt_rep 59 S.fr hry r1 (hy _ hy') hx (by show c.A.units + 1 + 59 < cLine; exact om355 hu)
theorem OV_notIn_str {x y : Str} {Q : V → Prop} (h : Q (.bool (!(!(Builtin.Str.occurrences y x 0 y.length 1).isEmpty)))) : OV W c ρ [.str x, .str y] (fun l => compareOp .NotIn (l.getD 0 .none) (l.getD 1 .none)) Q := fun g s vals Qc E S r hq => by
  cases r with | cons r1 r => cases r1; cases r with | cons r2 r => cases r2; cases r; exact notIn_str (hq _ _ _ _ h (.refl _) S (.bool _))
theorem EVF_AddList {l r : Expr} {pos : Pos} {Q : List V → Prop} (h : EVP W c ρ l fun xs => EVP W c ρ r fun ys => xs.length + ys.length ≤ sizeLine ∧ Q (xs ++ ys)) : EVF W c ρ (.BinOp l .Add r pos) Q := fun g s Qc E S hq => by
  refine wpAny_BinOp (h g s _ E S fun xs a G1 s1 h1 hG1 S1 p1 => ?_)
  refine h1 _ s1 _ E S1 fun ys b G2 s2 h2 hG2 S2 p2 => ?_
  obtain ⟨vs, n, ha, hr⟩ := p1 G2 s2 hG2 S2
  obtain ⟨ws, n2, hb, hr2⟩ := p2 G2 s2 (.refl _) S2
  have hvs : vs.size = xs.length := by rw [← hr.length, Array.length_toList]
  have hws : ws.size = ys.length := by rw [← hr2.length, Array.length_toList]
  refine concat_meets (isList_lobj ha).typeIs (isList_lobj hb).typeIs noFill_list_add seq_list_add PySem.F.slot_list_add PySem.F.entry_list_add (PySem.F.args_list_add_2 _ _) (AutoSeq1.list___add___list_list_0 a vs n b ws n2 (by exact om482 hvs hws h2)) ⟨ha, hb, ?_⟩
  have hn : s2.heap.get? s2.heap.objs.size = none := Heap.get?_none_of_le (Nat.le_refl _)
  obtain ⟨f1, f2⟩ := fresh_new S2 hn (h' := s2.heap.push (lobj (vs ++ ws) 0))
  exact hq _ _ (vs ++ ws) 0 G2 _ h2.2 (hG1.trans hG2) (S2.keeps (tk := s2.toks) (dr := s2.drawn) fun b o e => Heap.get?_push_of_some _ e) (Heap.get?_push_size _ rfl) (by simpa using hr.append hr2) f1 f2
theorem reps_repeat {G : GM} {vs : Array Value} {xs : List V} (h : Reps G vs.toList xs) : ∀ (n : Nat) (acc : Array Value) (as : List V), Reps G acc.toList as → Reps G ((List.replicate n vs).foldl (fun x1 x2 => x1 ++ x2) acc).toList (as ++ (List.replicate n xs).flatten)
  | 0, acc, as, ha => by simpa using ha
  | n + 1, acc, as, ha => by
    rw [List.replicate_succ, List.foldl_cons, List.replicate_succ, List.flatten_cons, ← List.append_assoc]
    exact reps_repeat h n _ _ (by simpa using ha.append h)
theorem EVF_MulList {l r : Expr} {pos : Pos} {Q : List V → Prop} (h : EVP W c ρ l fun xs => EV W c ρ r fun v => ∃ m : Nat, v = .int m ∧ m < 2 ^ 20 ∧ xs.length * m ≤ 2 ^ 24 ∧ xs ≠ [] ∧ Q (List.replicate m xs).flatten) : EVF W c ρ (.BinOp l .Mult r pos) Q := fun g s Qc E S hq => by
  refine wpAny_BinOp (h g s _ E S fun xs a G1 s1 h1 hG1 S1 p1 => ?_)
  refine h1 _ s1 _ E S1 fun v val G2 s2 h2 hG2 S2 r2 => ?_
  obtain ⟨m, rfl, hm, hsz, hne, q⟩ := h2
  cases r2
  rename_i t
  obtain ⟨vs, n, ha, hr⟩ := p1 G2 s2 hG2 S2
  have hvs : vs.size = xs.length := by rw [← hr.length, Array.length_toList]
  have hmi : ((m : Int)).toNat = m := Int.toNat_natCast m
  have hm2 : (m : Int) < 2 ^ 20 := by exact om82 hm
  have hm0 : 0 ≤ (m : Int) := by exact om183
  generalize (m : Int) = mi at hmi hm2 hm0 ⊢
  refine wpAny_binaryOp_repeat_ref (T := "list") (U := "int") (by decide) (isList_lobj ha).typeIs (fun s' => typeIs_int s' mi t) noFill_list_mul PySem.F.fills_int_mul PySem.F.slot_int_rmul repeat_list PySem.F.slot_int_index.lookup
    (call_meets PySem.F.slot_int_rmul (typeIs_int s2 mi t) PySem.F.entry_int_rmul (PySem.F.args_int_rmul_2 _ _) (int___rmul___int_list mi t a vs n)
      ⟨ha, rfl, (isList_lobj ha).typeIs, call_meets PySem.F.slot_list_mul (isList_lobj ha).typeIs PySem.F.entry_list_mul (PySem.F.args_list_mul_2 _ _)
        (AutoListH.list___mul___list_int_3 a vs n mi t (by simp [Builtin.List.listFitsIndex]; exact om26 hm0 hm2) (by rw [hmi, hvs]; exact om226 hsz) (by simp [Builtin.List.listTooLong, sizeLine]; rw [hmi, hvs]; exact hsz)) ⟨ha, ?_⟩⟩)
  have hem : vs.isEmpty = false := by
    cases q : vs.isEmpty with
    | false => rfl
    | true =>
      rw [Array.isEmpty_iff] at q; subst q
      cases xs with
      | nil => exact absurd rfl hne
      | cons => simp at hvs
  rw [hem, hmi]
  have hn : s2.heap.get? s2.heap.objs.size = none := Heap.get?_none_of_le (Nat.le_refl _)
  obtain ⟨f1, f2⟩ := fresh_new S2 hn (h' := s2.heap.push (lobj ((List.replicate m vs).foldl (fun x1 x2 => x1 ++ x2) #[]) 0))
  exact hq _ _ _ 0 G2 _ q (hG1.trans hG2) (S2.keeps (tk := s2.toks) (dr := s2.drawn) fun b o e => Heap.get?_push_of_some _ e) (Heap.get?_push_size _ rfl) (by simpa using reps_repeat hr m #[] [] .nil) f1 f2
end
end Mine
end
section
open PySem PySem.W PyProof.Rows PySem.SeqAt PySem.MeetsSeq3 PySem.Builtin PySem.Builtin.Str
namespace Mine
section
variable {W : Wd} {c : Fx} {ρ : Rho} {k : Nat}
theorem EX_While {test : Expr} {body : List Stmt} {pos : Pos} {Qn : Rho → Prop} {Qr : V → Rho → Prop} (J : Nat → Rho → Prop) (n : Nat) (h0 : J n ρ)
    (h : ∀ n ρ', J n ρ' → ET W c ρ' test fun b => if b then EXS W c ρ' body (fun ρ'' => ∃ m, m < n ∧ J m ρ'') Qr else Qn ρ') : EX W c ρ (.While test body [] pos) Qn Qr := fun g s Qc E S hn hr => by
  refine wpAny_While ?_
  refine codeAny_whileLoop (fun n s' => ∃ ρ' g', J n ρ' ∧ g.le g' ∧ Sim W c ρ' g' s') (fun n s' hI => ?_) n ⟨ρ, g, h0, .refl _, S⟩
  obtain ⟨ρ', g', hj, hG, S'⟩ := hI
  refine h n ρ' hj g' s' _ _ S' fun b G2 s2 q hG2 S2 => ?_
  have hG2' : g.le { g' with G := G2 } := hG.trans (Gh.le.of hG2)
  cases b with
  | true =>
    simp only [if_true] at q ⊢
    refine q _ s2 _ _ S2 (fun ρ3 g3 s3 q3 hG3 S3 => ?_) fun v val ρ3 g3 s3 q3 hG3 S3 r3 => hr v val ρ3 g3 s3 q3 (hG2'.trans hG3) S3 r3
    obtain ⟨m, hm, hj3⟩ := q3
    exact ⟨m, hm, ρ3, g3, hj3, hG2'.trans hG3, S3⟩
  | false =>
    simp only [Bool.false_eq_true, if_false] at q ⊢
    exact wpAny_execs_nil (hn ρ' _ s2 q hG2' S2)
noncomputable def TyOk (W : Wd) (T : String) (v : V) : Prop := ∀ (G : GM) (s : Shared) (val : Value), Rep G val v → (∀ b o, W.H0.get? b = some o → s.heap.get? b = some o) → s.TypeIs val T ∧ ∀ a, val = .ref a → ∃ ob, s.heap.get? a = some ob ∧ ob.dict = none
theorem TyOk_str (x : Str) : TyOk W "str" (.str x) := fun G s val r _ => by cases r; exact ⟨typeIs_str _ _ _, fun a e => by cases e⟩
theorem EV_Meth {T id : String} {o : Expr} {name : Str} {apos pos : Pos} {args : List Expr} {Q : V → Prop} (pa : PlainAttrs T) (slot : PySem.Slot T name id) (hty : typeOf (.builtin id) = pure (.type "method_descriptor"))
    (h : EV W c ρ o fun ov => TyOk W T ov ∧ EVL W c ρ args fun xs => OV W c ρ (ov :: xs) (fun l => call (.builtin id) l) Q)
    (hbase : attributeBase o name c.env (eval o c.env) = eval o c.env := by rfl)
    (hfew : ((backTo pos (starEach args c.env)).all (fun x => !x.1) && (backToKw pos (keywordEach [] c.env)).all (fun x => x.1.isSome) && decide (args.length + ([] : List Keyword).length + (if ([] : List Keyword).isEmpty then 0 else 1) < 30)) = true := by rfl)
    (hplain : ((backTo pos (starEach args c.env)).any (·.1) || (backToKw pos (keywordEach [] c.env)).any (·.1.isNone)) = false := by rfl)
    (hline : (apos.endLine == pos.line) = true := by rfl)
    (he : ∀ e r, args = e :: r → starEach (e :: r) c.env = (false, eval e c.env) :: starEach r c.env := by (intro e r h; cases h; rfl)) :
    EV W c ρ (.Call (.Attribute o name apos) args [] pos) Q := fun g s Qc E S hq => by
  refine wpAny_Call_method hbase hfew hline pa slot hty (h g s _ E S fun ov val G1 s1 h1 hG1 S1 r1 => ?_)
  obtain ⟨t1, h1⟩ := h1
  obtain ⟨t2, t3⟩ := t1 _ _ _ r1 S1.base
  refine ⟨t2, t3, ?_⟩
  have key := wp_callWith (f := .builtin id) (first := [val]) (pos := pos) (kws := []) (names := []) (Q := fun ys _ => OV W c ρ (ov :: ys) (fun l => call (.builtin id) l) Q) (Qc := Qc) (E := E) (.inr (.inl ⟨id, rfl⟩)) S1 hplain rfl rfl
    (fun g s pos Qc E S hq => h1 g s pos Qc E S fun xs vals G' s' q => hq xs vals G' s' (EVK_nil q)) (fun ys zs vals kvals G' s' q hG S' r r' => ?_) he
  · exact key
  · exact q _ s' (val :: vals) Qc E S' (.cons (r1.mono hG) r) fun v val G3 s3 h3 hG3 => hq v val G3 s3 h3 (hG1.trans (hG.trans hG3))
noncomputable def OVF (W : Wd) (c : Fx) (ρ : Rho) (vs : List V) (t : List Value → Sem Value) (Q : List V → Prop) : Prop :=
  ∀ (g : Gh) (s : Shared) (vals : List Value) (Qc : Value → Shared → Prop) (E : Value → Shared → Prop), Sim W c ρ g s → Reps g.G vals vs →
    (∀ xs a vs n G' s', Q xs → g.G.le G' → Sim W c ρ { g with G := G' } s' → s'.heap.get? a = some (lobj vs n) → Reps G' vs.toList xs → Fresh W c { g with G := G' } s'.heap a →
      (∀ x ys, ρ.lookup x = some (.own ys) → g.adr x ≠ a) → Qc (.ref a) s') → wpAny (model W.prog W.w) c.A (t vals) Qc E s
theorem EVF_Meth {T id : String} {o : Expr} {name : Str} {apos pos : Pos} {args : List Expr} {Q : List V → Prop} (pa : PlainAttrs T) (slot : PySem.Slot T name id) (hty : typeOf (.builtin id) = pure (.type "method_descriptor"))
    (h : EV W c ρ o fun ov => TyOk W T ov ∧ EVL W c ρ args fun xs => OVF W c ρ (ov :: xs) (fun l => call (.builtin id) l) Q)
    (hbase : attributeBase o name c.env (eval o c.env) = eval o c.env := by rfl)
    (hfew : ((backTo pos (starEach args c.env)).all (fun x => !x.1) && (backToKw pos (keywordEach [] c.env)).all (fun x => x.1.isSome) && decide (args.length + ([] : List Keyword).length + (if ([] : List Keyword).isEmpty then 0 else 1) < 30)) = true := by rfl)
    (hplain : ((backTo pos (starEach args c.env)).any (·.1) || (backToKw pos (keywordEach [] c.env)).any (·.1.isNone)) = false := by rfl)
    (hline : (apos.endLine == pos.line) = true := by rfl)
    (he : ∀ e r, args = e :: r → starEach (e :: r) c.env = (false, eval e c.env) :: starEach r c.env := by (intro e r h; cases h; rfl)) :
    EVF W c ρ (.Call (.Attribute o name apos) args [] pos) Q := fun g s Qc E S hq => by
  refine wpAny_Call_method hbase hfew hline pa slot hty (h g s _ E S fun ov val G1 s1 h1 hG1 S1 r1 => ?_)
  obtain ⟨t1, h1⟩ := h1
  obtain ⟨t2, t3⟩ := t1 _ _ _ r1 S1.base
  refine ⟨t2, t3, ?_⟩
  have key := wp_callWith (f := .builtin id) (first := [val]) (pos := pos) (kws := []) (names := []) (Q := fun ys _ => OVF W c ρ (ov :: ys) (fun l => call (.builtin id) l) Q) (Qc := Qc) (E := E) (.inr (.inl ⟨id, rfl⟩)) S1 hplain rfl rfl
    (fun g s pos Qc E S hq => h1 g s pos Qc E S fun xs vals G' s' q => hq xs vals G' s' (EVK_nil q)) (fun ys zs vals kvals G' s' q hG S' r r' => ?_) he
  · exact key
  · exact q _ s' (val :: vals) Qc E S' (.cons (r1.mono hG) r) fun xs a vs n G3 s3 h3 hG3 => hq xs a vs n G3 s3 h3 (hG1.trans (hG.trans hG3))
theorem reps_strs {G : GM} : ∀ {vs : List Value} {ys : List Str}, Reps G vs (ys.map V.str) → StrsAre vs ys
  | _, [], r => by cases r; exact .nil
  | _, y :: ys, r => by cases r with | cons r1 r2 => cases r1; exact .cons _ _ (reps_strs r2)
theorem strs_reps {G : GM} : ∀ (l : List (Str × Tok)), Reps G (strValues l) ((l.map (·.1)).map V.str)
  | [] => .nil
  | p :: r => .cons (.str _ _) (strs_reps r)
theorem OV_join {x : Str} {ys : List Str} {Q : V → Prop} (hok : (ys.map (·.length)).sum + ys.length * x.length ≤ 16777216) (h : Q (.str (Txt.join x ys))) : OV W c ρ [.str x, .list (ys.map V.str)] (fun l => call (.builtin "str.join") l) Q := fun g s vals Qc E S r hq => by
  obtain ⟨v, w, rfl, r1, r2⟩ := r.two
  cases r1
  cases r2 with
  | list a b => exact join_list (isList_lobj (S.fr _ _ a)) (reps_strs b) hok fun t' k => hq _ _ g.G _ h (.refl _) (S.tok _) (.str _ _)
theorem OV_lower {x : Str} {Q : V → Prop} (hfit : tooLong (Txt.lower x).length = false) (h : Q (.str (Txt.lower x))) : OV W c ρ [.str x] (fun l => call (.builtin "str.lower") l) Q := fun g s vals Qc E S r hq => by
  obtain ⟨v, rfl, r1⟩ := r.one
  cases r1
  exact call_gives PySem.F.slot_str_lower (typeIs_str _ _ _) PySem.F.entry_str_lower (PySem.F.args_str_lower_1 _) (gives_str_lower x _ hfit) ⟨fit_le hfit, hq _ _ g.G _ h (.refl _) (S.tok _) (.str _ _)⟩
theorem OVF_split {x y : Str} {Q : List V → Prop} (hy : (y.length == 0) = false) (hsz : x.length + 2 ≤ sizeLine) (h : Q ((Txt.split x y).map V.str)) : OVF W c ρ [.str x, .str y] (fun l => call (.builtin "str.split") l) Q := fun g s vals Qc E S r hq => by
  obtain ⟨v, w, rfl, r1, r2⟩ := r.two
  cases r1; cases r2
  rename_i t u
  have hn : (partsBetween x (occurrences x y 0 x.length (x.length + 1)) y.length).length ≤ sizeLine := by
    have e1 := StrLaws.occ_length_le x y 0 x.length (x.length + 1)
    rw [length_partsBetween]; exact om382 hsz e1
  have hnew : s.heap.get? s.heap.objs.size = none := Heap.get?_none_of_le (Nat.le_refl _)
  have fin : ∀ (l : List (Str × Tok)) tk, l.map (·.1) = Txt.split x y → Qc (.ref s.heap.objs.size) { s with toks := tk, heap := s.heap.push { cls := .type "list", data := .seq (strValues l).toArray } } := fun l tk e => by
    obtain ⟨f1, f2⟩ := fresh_new S hnew (h' := s.heap.push (lobj (strValues l).toArray 0))
    exact hq _ _ (strValues l).toArray 0 g.G _ h (.refl _) (S.keeps (tk := tk) (dr := s.drawn) fun b o e => Heap.get?_push_of_some _ e) (Heap.get?_push_size _ rfl) (by rw [← e]; exact strs_reps l) f1 f2
  cases h1 : (decide (x.length < y.length) || decide (strKind x < strKind y))
  · cases hf : (occurrences x y 0 x.length (x.length + 1)).isEmpty
    · refine call_meets PySem.F.slot_str_split (typeIs_str _ _ _) PySem.F.entry_str_split (PySem.F.args_str_split_2 _ _) (meets_str_split_sep x y t u h1 hy hf (by exact om232 hsz) hn) ?_
      show wants Qc E _ { s with toks := _, heap := s.heap.push { cls := .type "list", data := .seq (strsFrom s.toks (partsBetween x (occurrences x y 0 x.length (x.length + 1)) y.length)).toArray } }
      rw [strsFrom_eq]
      exact fin (numbered s.toks _) _ ((numbered_texts _ _).trans ((if_neg (ne_true_of_eq_false h1)).trans (if_neg (ne_true_of_eq_false hf))).symm)
    · exact call_meets PySem.F.slot_str_split (typeIs_str _ _ _) PySem.F.entry_str_split (PySem.F.args_str_split_2 _ _) (meets_str_split_not_found x y t u h1 hy hf)
        (fin [(x, t)] s.toks ((if_neg (ne_true_of_eq_false h1)).trans (if_pos hf)).symm)
  · exact call_meets PySem.F.slot_str_split (typeIs_str _ _ _) PySem.F.entry_str_split (PySem.F.args_str_split_2 _ _) (meets_str_split_cannot_occur x y t u h1)
      (fin [(x, t)] s.toks (if_pos h1).symm)
theorem CV_str_int {i : Int} {Q : V → Prop} (hi : i.natAbs.log2 < 1920) (h : Q (.str (Str.ofString (toString i)))) : CV W c ρ (.type "str") [.int i] [] Q := fun g s vals kvals Qc E S r _ hq => by
  obtain ⟨v, rfl, r1⟩ := r.one
  cases r1
  exact P.str_of_int hi (hq _ _ g.G _ h (.refl _) (S.tok _) (.str _ _))
theorem CV_str_str {x : Str} {Q : V → Prop} (h : Q (.str x)) : CV W c ρ (.type "str") [.str x] [] Q := fun g s vals kvals Qc E S r _ hq => by
  obtain ⟨v, rfl, r1⟩ := r.one
  cases r1
  exact P.str_of_str (hq _ _ g.G _ h (.refl _) S (.str _ _))
theorem preSum_list {ns : List Int} : ∀ i, i ≤ ns.length → preSum (fun j => ns.getD j 0) i = (ns.take i).sum
  | 0, _ => by simp [preSum]
  | i + 1, h => by
    have := preSum_list (ns := ns) i (by exact om231 h)
    have e : ns.take (i + 1) = ns.take i ++ [ns.getD i 0] := by
      rw [List.getD_eq_getElem?_getD, List.getElem?_eq_getElem (by exact om230 h)]
      simp
    rw [e, List.sum_append, ← this]
    simp [preSum]
theorem CV_sum {ns : List Int} {Q : V → Prop} (F : FOk k c) (h : Q (.int ns.sum)) : CV W c ρ (.builtin "sum") [.list (ns.map V.int)] [] Q := fun g s vals kvals Qc E S r _ hq => by
  obtain ⟨v, rfl, r1⟩ := r.one
  cases r1 with
  | @list a vs n _ ha hr =>
    have hl := isList_lobj (S.fr _ _ ha)
    have hne : a ≠ s.heap.objs.size := Nat.ne_of_lt (Heap.lt_size (S.fr _ _ ha))
    have hvs : vs.size = ns.length := by rw [← Array.length_toList, hr.length, List.length_map]
    refine call_sum_walkG (wpAny_pyIter_list hl ?_)
    refine ⟨_, _, _, _, _, _, fun j => ns.getD j 0, rfl, Walks.list (A := c.A.in1) F.hand _ a hne vs, ⟨⟨_, Heap.get?_push_size _ rfl, rfl, rfl⟩, hl.push _⟩, ?_, ?_, ?_⟩
    · intro b hb
      show b < (s.heap.push _).objs.size
      rw [Heap.size_push]
      rcases List.mem_cons.mp hb with rfl | hb
      · exact Nat.lt_succ_self _
      · rcases List.mem_cons.mp hb with rfl | hb
        · exact Nat.lt_succ_of_lt (Heap.lt_size (S.fr _ _ ha))
        · cases hb
    · intro i v hv
      have hi : i < vs.size := by
        rcases Nat.lt_or_ge i vs.size with h | h
        · exact h
        · rw [Array.getElem?_eq_none h] at hv; cases hv
      have hx : (ns.map V.int)[i]? = some (.int (ns.getD i 0)) := by
        rw [List.getElem?_map, List.getElem?_eq_getElem (by exact om398 hi hvs), List.getD_eq_getElem?_getD, List.getElem?_eq_getElem (by exact om398 hi hvs)]; rfl
      obtain ⟨w, hw, rw'⟩ := hr.get hx
      have : vs[i]? = some w := by simpa using hw
      rw [hv] at this; cases this
      cases rw'
      exact ⟨_, rfl⟩
    · intro h' tk t' hk
      have e : preSum (fun j => ns.getD j 0) vs.size = ns.sum := by
        rw [hvs, preSum_list _ (Nat.le_refl _), List.take_length]
      rw [e]
      exact hq _ _ g.G _ h (.refl _) (S.keeps (tk := tk) (dr := s.drawn) fun b o e => hk b o (fun hb => by
        rcases List.mem_cons.mp hb with rfl | hb
        · exact Nat.lt_irrefl _ (Heap.lt_size e)
        · cases hb) (Heap.get?_push_of_some _ e)) (.int _ _)
theorem EVF_list {x : Str} {p pos : Pos} {b : Expr} {Q : List V → Prop} (F : FOk k c) (hx : Glo W x (.type "list")) (hk : c.env.kindOf x = some .globalImplicit)
    (h : EVP W c ρ b fun xs => xs.length ≤ sizeLine ∧ Q xs) (hd : (x == ("__debug__" : Str)) = false := by kernel_rfl) (he : starEach [b] c.env = [(false, eval b c.env)] := by rfl) : EVF W c ρ (.Call (.Name x p) [b] [] pos) Q := fun g s Qc E S hq => by
  refine wpAny_Call_Name_kw (wpAny_Name (wp_global (env := c.env) F.toFK S hx hk ?_) hd)
  show wpAny _ _ (callWith pos (.type "list") [] (backTo pos (starEach [b] c.env)) []) _ _ _
  rw [he]
  refine PySem.callWith_type rfl (Calls.evalArgs_plain (Calls.spliced_cons ?_))
  show wpAny _ _ (eval b c.env) _ _ _
  refine h g s _ E S fun xs a G1 s1 h1 hG1 S1 p1 => Calls.spliced_nil ?_
  obtain ⟨vs, n, ha, hr⟩ := p1 G1 s1 (.refl _) S1
  have hvs : vs.size = xs.length := by rw [← hr.length, Array.length_toList]
  refine call_list_seq (hsz := by exact om483 hvs h1) a (.inl rfl) ha rfl rfl fun h' c' hk' hD => ?_
  have hn : s1.heap.get? s1.heap.objs.size = none := Heap.get?_none_of_le (Nat.le_refl _)
  obtain ⟨f1, f2⟩ := fresh_new S1 hn (h' := h')
  exact hq xs _ vs c' G1 _ h1.2 hG1 (S1.keeps (tk := s1.toks) (dr := s1.drawn) hk') hD hr f1 f2
end
end Mine
end
section
open PySem PySem.W PyProof.Rows PySem.SeqAt PySem.MeetsSeq3
namespace Mine
section
variable {W : Wd} {c : Fx} {ρ : Rho} {k : Nat}
theorem wp_storeOwnK {g : Gh} {s : Shared} {x : Str} {a : Addr} {vs : Array Value} {n : Nat} {xs : List V} {Q : Unit → Shared → Prop} {E : Value → Shared → Prop} (F : FOk k c) (S : Sim W c ρ g s) (hk : Storable c x) (hl : s.heap.get? a = some (lobj vs n)) (hr : Reps g.G vs.toList xs)
    (hf : Fresh W c g s.heap a) (hadr : ∀ y ys, ρ.lookup y = some (.own ys) → g.adr y ≠ a) (hp : c.pin.lookup x = none)
    (h : ∀ g' s', g'.G = g.G → g'.X = g.X → (∀ y, y ≠ x → g'.adr y = g.adr y) → g'.adr x = a → (∀ b vs n, s.heap.get? b = some (lobj vs n) → s'.heap.get? b = some (lobj vs n)) → Sim W c ((x, .own xs) :: ρ) g' s' → Q () s') : wpAny (model W.prog W.w) c.A (storeName c.env x (.ref a)) Q E s :=
  wp_store F.toFK S hk fun g' s' hG hX hadr' S' hv hlob => by
    have keepL : ∀ b vs n, s.heap.get? b = some (lobj vs n) → s'.heap.get? b = some (lobj vs n) := fun b vs n hl => by
      refine hlob _ _ (fun q => ?_) (fun y e => ?_) hl
      · obtain ⟨oL, es, ep, hoL, hdL, _⟩ := S.ns
        rw [← q, hl] at hoL; cases hoL; cases hdL
      · obtain ⟨v, o, ho, hd⟩ := S.cells y b e
        rw [hl] at ho; cases ho; cases hd
    refine h { g' with adr := fun y => if y = x then a else g'.adr y } s' hG hX (fun y hy => by show (if y = x then a else g'.adr y) = _; rw [if_neg hy, hadr']) (if_pos rfl) keepL ?_
    have S'' := S'.adrs (fun y => if y = x then a else g'.adr y) fun y ys e => if_neg (del_some e).1
    refine S''.put ?_ (fun xs' e y ys he => ?_) fun xs' b e p => by rw [hp] at p; cases p
    · refine ⟨?_, ⟨vs, n, ?_, ?_⟩, ?_, ?_, ?_⟩ <;> dsimp only <;> (try rw [if_pos rfl])
      · exact hv
      · exact keepL _ _ _ hl
      · rw [hG]; exact hr
      · rw [hG]; exact hf.g
      · exact hf.H
      · exact .inl hf.h0
    · obtain ⟨hyx, he⟩ := del_some he
      show (if y = x then a else g'.adr y) ≠ (if x = x then a else g'.adr x)
      rw [if_neg hyx, if_pos rfl, hadr']
      exact hadr y ys he
theorem EX_Assign3 {x y z : Str} {px py pz p1 p2 p3 pt pv pos : Pos} {k1 k2 : Nat} {Qn : Rho → Prop} {Qr : V → Rho → Prop} (F : FOk k c) (hx : Storable c x) (hy : Storable c y) (hz : Storable c z) (hxy : x ≠ y) (hxz : x ≠ z) (hyz : y ≠ z)
    (hp : ∀ n, c.pin.lookup n = none) (h : Qn ((x, .own []) :: (y, .own []) :: (z, .own []) :: ρ))
    (hs : swapsWithSole [.Tuple [.Name x px, .Name y py, .Name z pz] k1 pt] (.Tuple [.List [] p1, .List [] p2, .List [] p3] k2 pv) pos.line c.env = pure false := by rfl)
    (hw : swappedStores [.Tuple [.Name x px, .Name y py, .Name z pz] k1 pt] (.Tuple [.List [] p1, .List [] p2, .List [] p3] k2 pv) c.env = pure (some [x, y, z]) := by rfl) :
    EX W c ρ (.Assign [.Tuple [.Name x px, .Name y py, .Name z pz] k1 pt] (.Tuple [.List [] p1, .List [] p2, .List [] p3] k2 pv) pos) Qn Qr := fun g s Qc E S hn hr => by
  refine Assign_Tuple_swapped ?_ hs hw
  refine wpAny_Tuple (wpAny_items_cons (wpAny_List (wpAny_items_nil ⟨Nat.zero_le _, ?_⟩)))
  refine wpAny_items_cons (wpAny_List (wpAny_items_nil ⟨Nat.zero_le _, ?_⟩))
  refine wpAny_items_cons (wpAny_List (wpAny_items_nil ⟨Nat.zero_le _, wpAny_items_nil ⟨by show 3 ≤ _; rw [sizeLine_eq]; exact Nat.le_of_ble_eq_true rfl, ?_⟩⟩))
  dsimp only
  have e1 : (s.heap.push { cls := .type "list", data := .seq ([] : List Value).toArray }).objs.size = s.heap.objs.size + 1 := Heap.size_push ..
  have e2 : ((s.heap.push { cls := .type "list", data := .seq ([] : List Value).toArray }).push { cls := .type "list", data := .seq ([] : List Value).toArray }).objs.size = s.heap.objs.size + 2 := by rw [Heap.size_push, e1]
  have e3 : (((s.heap.push { cls := .type "list", data := .seq ([] : List Value).toArray }).push { cls := .type "list", data := .seq ([] : List Value).toArray }).push { cls := .type "list", data := .seq ([] : List Value).toArray }).objs.size = s.heap.objs.size + 3 := by rw [Heap.size_push, e2]
  rw [e1, e2, e3]
  have f1 : s.heap.get? s.heap.objs.size = none := Heap.get?_none_of_le (Nat.le_refl _)
  have f2 : s.heap.get? (s.heap.objs.size + 1) = none := Heap.get?_none_of_le (by exact om209)
  have f3 : s.heap.get? (s.heap.objs.size + 2) = none := Heap.get?_none_of_le (by exact om210)
  have l1 := Heap.get?_push_size s.heap (o := { cls := .type "list", data := .seq ([] : List Value).toArray }) rfl
  have l2 := Heap.get?_push_size (s.heap.push { cls := .type "list", data := .seq ([] : List Value).toArray }) (o := { cls := .type "list", data := .seq ([] : List Value).toArray }) rfl
  have l3 := Heap.get?_push_size ((s.heap.push { cls := .type "list", data := .seq ([] : List Value).toArray }).push { cls := .type "list", data := .seq ([] : List Value).toArray }) (o := { cls := .type "list", data := .seq ([] : List Value).toArray }) rfl
  have l4 := Heap.get?_push_size (((s.heap.push { cls := .type "list", data := .seq ([] : List Value).toArray }).push { cls := .type "list", data := .seq ([] : List Value).toArray }).push { cls := .type "list", data := .seq ([] : List Value).toArray }) (o := { cls := .type "tuple", data := .seq [Value.ref s.heap.objs.size, .ref (s.heap.objs.size + 1), .ref (s.heap.objs.size + 2)].toArray }) rfl
  rw [e1] at l2
  rw [e2] at l3
  rw [e3] at l4
  have l1' := Heap.get?_push_of_some { cls := .type "tuple", data := .seq [Value.ref s.heap.objs.size, .ref (s.heap.objs.size + 1), .ref (s.heap.objs.size + 2)].toArray } (Heap.get?_push_of_some { cls := .type "list", data := .seq ([] : List Value).toArray } (Heap.get?_push_of_some { cls := .type "list", data := .seq ([] : List Value).toArray } l1))
  have l2' := Heap.get?_push_of_some { cls := .type "tuple", data := .seq [Value.ref s.heap.objs.size, .ref (s.heap.objs.size + 1), .ref (s.heap.objs.size + 2)].toArray } (Heap.get?_push_of_some { cls := .type "list", data := .seq ([] : List Value).toArray } l2)
  have l3' := Heap.get?_push_of_some { cls := .type "tuple", data := .seq [Value.ref s.heap.objs.size, .ref (s.heap.objs.size + 1), .ref (s.heap.objs.size + 2)].toArray } l3
  have kp : ∀ b o, s.heap.get? b = some o → ((((s.heap.push { cls := .type "list", data := .seq ([] : List Value).toArray }).push { cls := .type "list", data := .seq ([] : List Value).toArray }).push { cls := .type "list", data := .seq ([] : List Value).toArray }).push { cls := .type "tuple", data := .seq [Value.ref s.heap.objs.size, .ref (s.heap.objs.size + 1), .ref (s.heap.objs.size + 2)].toArray }).get? b = some o :=
    fun b o e => Heap.get?_push_of_some _ (Heap.get?_push_of_some _ (Heap.get?_push_of_some _ (Heap.get?_push_of_some _ e)))
  generalize ((((s.heap.push { cls := .type "list", data := .seq ([] : List Value).toArray }).push { cls := .type "list", data := .seq ([] : List Value).toArray }).push { cls := .type "list", data := .seq ([] : List Value).toArray }).push { cls := .type "tuple", data := .seq [Value.ref s.heap.objs.size, .ref (s.heap.objs.size + 1), .ref (s.heap.objs.size + 2)].toArray }) = H at l1' l2' l3' l4 kp ⊢
  refine unpackItems_tuple (s := { s with heap := H }) (items := [Value.ref s.heap.objs.size, .ref (s.heap.objs.size + 1), .ref (s.heap.objs.size + 2)].toArray) F.hand ⟨_, l4, rfl, 0, rfl⟩ fun h' hx' => ?_
  have hsz : s.heap.objs.size + 3 < H.objs.size := Heap.lt_size l4
  have ke : ∀ b o, H.get? b = some o → h'.get? b = some o := fun b o e => hx' b o (Nat.ne_of_lt (Heap.lt_size e)) e
  have S1 : Sim W c ρ g { s with heap := h' } := S.keeps (tk := s.toks) (dr := s.drawn) fun b o e => ke b o (kp b o e)
  have a1 := ke _ _ l1'
  have a2 := ke _ _ l2'
  have a3 := ke _ _ l3'
  obtain ⟨fr1, fo1⟩ := fresh_new S f1 (h' := h')
  obtain ⟨fr2, fo2⟩ := fresh_new S f2 (h' := h')
  obtain ⟨fr3, fo3⟩ := fresh_new S f3 (h' := h')
  generalize s.heap.objs.size = D at *
  show wpAny _ c.A (assignInOrder [bindName c.env z, bindName c.env y, bindName c.env x] [.ref (D + 2), .ref (D + 1), .ref D]) _ _ _
  refine wpAny_bind (wpAny_holding (bindName_ (wp_storeOwnK (xs := []) F S1 hz a3 .nil ⟨fr3.g, fr3.H, fr3.h0⟩ fo3 (hp z) fun g2 s2 hG2 hX2 hA2 hA2' hK2 S2 => ?_)))
  refine wpAny_bind (wpAny_holding (bindName_ (wp_storeOwnK (xs := []) F S2 hy (hK2 _ _ _ a2) .nil ⟨by rw [hG2]; exact fr2.g, fr2.H, fr2.h0⟩ (fun u us e => ?_) (hp y) fun g3 s3 hG3 hX3 hA3 hA3' hK3 S3 => ?_)))
  · rw [List.lookup_cons] at e
    cases q : u == z with
    | true => obtain rfl := beq_iff_eq.mp q; rw [hA2']; show (D + 2 : Nat) ≠ D + 1; exact om194
    | false =>
      rw [q] at e
      have hu : u ≠ z := fun w => by rw [w] at q; simp at q
      rw [hA2 u hu]; exact fo2 u us e
  refine wpAny_bind (wpAny_holding (bindName_ (wp_storeOwnK (xs := []) F S3 hx (hK3 _ _ _ (hK2 _ _ _ a1)) .nil ⟨by rw [hG3, hG2]; exact fr1.g, fr1.H, fr1.h0⟩ (fun u us e => ?_) (hp x) fun g4 s4 hG4 hX4 hA4 hA4' hK4 S4 => ?_)))
  · rw [List.lookup_cons] at e
    cases q : u == y with
    | true => obtain rfl := beq_iff_eq.mp q; rw [hA3']; show (D + 1 : Nat) ≠ D; exact om193
    | false =>
      rw [q] at e
      have hu : u ≠ y := fun w => by rw [w] at q; simp at q
      rw [hA3 u hu]
      dsimp only at e
      rw [List.lookup_cons] at e
      cases q : u == z with
      | true => obtain rfl := beq_iff_eq.mp q; rw [hA2']; show (D + 2 : Nat) ≠ D; exact om195
      | false =>
        rw [q] at e
        have hu : u ≠ z := fun w => by rw [w] at q; simp at q
        rw [hA2 u hu]; exact fo1 u us e
  refine wpAny_pure (hn _ g4 s4 h ⟨by rw [hG4, hG3, hG2]; exact .refl _, by rw [hX4, hX3, hX2]⟩ S4)
end
end Mine
end
section
open PySem PySem.W PyProof.Rows PySem.SeqAt PySem.MeetsSeq3
namespace Mine
section
variable {W : Wd} {c : Fx} {ρ : Rho} {k : Nat}
noncomputable def EVX (W : Wd) (c : Fx) (ρ : Rho) (e : Expr) (Q : V → Rho → Prop) : Prop :=
  ∀ (g : Gh) (s : Shared) (Qc : Value → Shared → Prop) (E : Value → Shared → Prop), Sim W c ρ g s →
    (∀ v val ρ' g' s', Q v ρ' → g.le g' → Sim W c ρ' g' s' → Rep g'.G val v → Qc val s') → wpAny (model W.prog W.w) c.A (eval e c.env) Qc E s
noncomputable def ETX (W : Wd) (c : Fx) (ρ : Rho) (e : Expr) (Q : Bool → Rho → Prop) : Prop :=
  ∀ (g : Gh) (s : Shared) (Qc : Bool → Shared → Prop) (E : Value → Shared → Prop), Sim W c ρ g s →
    (∀ b ρ' g' s', Q b ρ' → g.le g' → Sim W c ρ' g' s' → Qc b s') → wpAny (model W.prog W.w) c.A (isTrue e c.env (eval e c.env)) Qc E s
theorem EX_Expr {e : Expr} {pos : Pos} {Qn : Rho → Prop} {Qr : V → Rho → Prop} (h : EVX W c ρ e fun _ ρ' => Qn ρ') (hi : interactive c.env = false := by rfl)
    (hd : ∀ Q E s, wpAny (model W.prog W.w) c.A (eval e c.env) (fun _ => Q Flow.next) E s → wpAny (model W.prog W.w) c.A (exec (.Expr e pos) c.env) Q E s) : EX W c ρ (.Expr e pos) Qn Qr := fun g s Qc E S hn hr =>
  hd _ _ _ (h g s _ E S fun v val ρ' g' s' q hG S' r => hn ρ' g' s' q hG S')
theorem EX_IfX {test body orelse pos Qn Qr} (h : ETX W c ρ test fun b ρ' => if b then EXS W c ρ' body Qn Qr else EXS W c ρ' orelse Qn Qr) : EX W c ρ (.If test body orelse pos) Qn Qr := fun g s Qc E S hn hr => by
  refine wpAny_If (h g s _ E S fun b ρ' g' s' q hG S' => ?_)
  cases b
  · exact q _ s' Qc E S' (fun ρ'' g'' s'' q' hG' => hn ρ'' g'' s'' q' (hG.trans hG')) fun v val ρ'' g'' s'' q' hG' => hr v val ρ'' g'' s'' q' (hG.trans hG')
  · exact q _ s' Qc E S' (fun ρ'' g'' s'' q' hG' => hn ρ'' g'' s'' q' (hG.trans hG')) fun v val ρ'' g'' s'' q' hG' => hr v val ρ'' g'' s'' q' (hG.trans hG')
theorem ETX_Compare {l : Expr} {op} {r : Expr} {pos} {Q : Bool → Rho → Prop} (hm : behindInMarks op r = false) (h : EVX W c ρ l fun a ρ' => EV W c ρ' r fun b => OV W c ρ' [a, b] (fun l => compareOp op (l.getD 0 .none) (l.getD 1 .none)) fun v => TV W c ρ' v fun b => Q b ρ') :
    ETX W c ρ (.Compare l [op] [r] pos) Q := fun g s Qc E S hq => by
  refine wpAny_isTrue_Compare1 (h g s _ E S fun a va ρ' g1 s1 h1 hG1 S1 r1 => ?_) hm
  refine h1 _ s1 _ E S1 fun b vb G2 s2 h2 hG2 S2 r2 => ?_
  refine h2 _ s2 [va, vb] _ E S2 (.cons (r1.mono hG2) (.cons r2 .nil)) fun v val G3 s3 h3 hG3 S3 r3 => ?_
  exact h3 _ s3 val Qc E S3 r3 fun b' s' q S' => hq b' ρ' { g1 with G := G3 } s' q (hG1.trans (Gh.le.of (hG2.trans hG3))) S'
theorem Sim.aftM {g : Gh} {s s' : Shared} {x : Str} {xs ys : List V} {G' : GM} {vs' : Array Value} {n' : Nat} (S : Sim W c ρ g s) (hx : ρ.lookup x = some (.own xs)) (a : Aft W c.A (fun b => b = g.adr x) g.G s G' s')
    (hl : s'.heap.get? (g.adr x) = some (lobj vs' n')) (hr : Reps G' vs'.toList ys) (hGx : G' (g.adr x) = none) : Sim W c ((x, .own ys) :: ρ) { g with G := G' } s' := by
  obtain ⟨q1, ⟨vs0, n0, q2, q3⟩, q4, q5, q6⟩ := S.slot x _ hx
  have ex : ∀ b o, b ≠ g.adr x → b ∉ c.fs → s.heap.get? b = some o → s'.heap.get? b = some o := fun b o hb hm e => a.keep.exact hb hm e
  have sl : ∀ b o, b ≠ g.adr x → s.heap.get? b = some o → ∃ sl, s'.heap.get? b = some { o with slots := sl } := fun b o hb e => a.keep.slots hb e
  have cellk : ∀ b v, s.heap.IsCell b v → s'.heap.IsCell b v := fun b v ⟨o, ho, hd⟩ => by
    obtain ⟨sl', e⟩ := sl b o (fun z => by rw [z, q2] at ho; cases ho; cases hd) ho
    exact ⟨_, e, hd⟩
  have var : ∀ y w, VarAt c g s.heap y w → VarAt c { g with G := G' } s'.heap y w := fun y w q => by
    rcases q with q | ⟨q1, b, q7, q8⟩
    · exact .inl q
    · exact .inr ⟨q1, b, q7, cellk b _ q8⟩
  obtain ⟨oL, es, ep, hoL, hdL, hrL⟩ := id S.ns
  have hL : c.env.locals ≠ g.adr x := fun z => by rw [z, q2] at hoL; cases hoL; cases hdL
  have S0 := S.del x
  have base : Sim W c (ρ.del x) { g with G := G' } s' := {
    gens := a.gens, os := a.os
    base := a.base
    keep := fun b o e => by
      by_cases z : b = g.adr x
      · subst z
        refine ⟨_, hl, fun hx => ?_⟩
        rcases q6 with q6 | ⟨q6, _⟩
        · rw [q6] at e; cases e
        · exact absurd q6 hx
      · obtain ⟨o', e', p⟩ := S.keep b o e
        obtain ⟨o'', e'', p'⟩ := a.keep b o' e'
        refine ⟨o'', e'', fun hx => ?_⟩
        obtain ⟨p1, sl, rfl⟩ := p hx
        obtain ⟨p2, sl', rfl⟩ := p' z
        exact ⟨fun hm => (p2 hm).trans (p1 hm), sl', rfl⟩
    fr := a.fr
    gin := S.gin.trans a.le
    gnew := fun b o e => by
      rcases a.new b o e with q | q
      · exact S.gnew b o q
      · exact .inr (S.keep.none q)
    glist := a.glist
    frames := a.frames
    ns := Ns_of_slots S.ns fun o e => sl _ o hL e
    loc0 := S.loc0, locH := S.locH
    cells := fun y b e => by obtain ⟨v, q⟩ := S.cells y b e; exact ⟨v, cellk b v q⟩
    cells0 := S.cells0
    slot := fun y sl e => by
      have hy := del_some e
      have z := S0.slot y sl e
      cases sl with
      | val v => obtain ⟨w, w1, w2⟩ := z; exact ⟨w, var _ _ w1, w2.mono a.le⟩
      | own zs =>
        obtain ⟨w1, ⟨vs', n', w2, w3⟩, w4, w5⟩ := z
        have hne : g.adr y ≠ g.adr x := fun z => hy.1 (S.apart y x zs xs hy.2 hx z)
        refine ⟨var _ _ w1, ⟨vs', n', ex _ _ hne (not_fs_of_lobj S.frames w2) w2, w3.mono a.le⟩, ?_, w5⟩
        show G' (g.adr y) = none
        cases e' : G' (g.adr y) with
        | none => rfl
        | some o =>
          rcases a.new _ _ e' with q | q
          · rw [w4] at q; cases q
          · rw [w2] at q; cases q
    apart := S0.apart
    pin := S0.pin
    xp := fun b o e => ex b o (fun z => by
      obtain ⟨vs, hd⟩ := S.xk b o e
      have := S.xp b o e
      rw [z, q2] at this; cases this; cases hd) (fun hm => by
      obtain ⟨_, o', _, _, ho', hd'⟩ := S.frames.mem hm
      obtain ⟨vs, hd⟩ := S.xk b o e
      rw [S.xp b o e] at ho'; cases ho'; rw [hd] at hd'; cases hd') (S.xp b o e)
    xk := S.xk }
  refine base.put ⟨var _ _ q1, ⟨vs', n', hl, hr⟩, hGx, q5, q6⟩ (fun zs e y ws hy => ?_) fun zs b e p => S.pin x b xs p hx
  have hy' := del_some hy
  exact fun z => hy'.1 (S.apart y x ws xs hy'.2 hx z)
theorem EVX_CallM {f x : Str} {p0 p pos : Pos} {fv : Value} {xs : List V} {args : List Expr} {kws : List Keyword} {names : List Str} {k' : Nat} {Q : V → Rho → Prop} (F : FOk k c) (hf0 : Glo W f fv) (hkf : c.env.kindOf f = some .globalImplicit) (hf : IsFn W fv) (hx : ρ.lookup x = some (.own xs)) (hk' : k' ≤ k)
    (h : EVL W c ρ args fun as => EVK W c ρ kws fun ks => names.length = ks.length ∧ FNm W k' fv xs as (names.zip ks) fun v ys => Q v ((x, .own ys) :: ρ))
    (hd : (f == ("__debug__" : Str)) = false := by kernel_rfl) (hxd : (x == ("__debug__" : Str)) = false := by kernel_rfl) (hcd : (x == ("__classdict__" : Str)) = false := by kernel_rfl)
    (hplain : ((backTo pos (starEach (.Name x p0 :: args) c.env)).any (·.1) || (backToKw pos (keywordEach kws c.env)).any (·.1.isNone)) = false := by rfl)
    (hall : (backToKw pos (keywordEach kws c.env)).all (·.1.isSome) = true := by rfl) (hnames : (backToKw pos (keywordEach kws c.env)).filterMap (·.1) = names := by rfl)
    (he0 : starEach (.Name x p0 :: args) c.env = (false, eval (.Name x p0) c.env) :: starEach args c.env := by rfl) :
    EVX W c ρ (.Call (.Name f p) (.Name x p0 :: args) kws pos) Q := fun g s Qc E S hq => by
  refine wpAny_Call_Name_kw (wpAny_Name (wp_global (env := c.env) F.toFK S hf0 hkf ?_) hd)
  refine callWith_of (P := fun h => ∀ b o, W.H0.get? b = some o → h.get? b = some o) hplain (keeps_fn hf) ?_
  refine evalArgs_kw2 hall ?_ he0
  rw [hnames]
  refine wpAny_items_cons ?_ he0
  obtain ⟨hv, _⟩ := S.slot x _ hx
  refine wpAny_Name (wp_load F.toFK S hv ?_ hcd) hxd
  refine h g s pos _ E S fun as vals G1 s1 h1 hG1 S1 r1 => ?_
  refine h1 _ s1 pos _ E S1 fun ys kvals G2 s2 h2 hG2 S2 r2 => ?_
  obtain ⟨hlen, h2⟩ := h2
  refine ⟨S2.base, ?_⟩
  have e1 : (names.zip ys).map (·.1) = names := by rw [List.map_fst_zip]; exact om280 hlen
  have e2 : (names.zip ys).map (·.2) = ys := by rw [List.map_snd_zip]; exact om315 hlen
  obtain ⟨_, ⟨vs, n, l1, l2⟩, l3, l4, _⟩ := S2.slot x _ hx
  have := h2 c.A G2 s2 (g.adr x) vs n vals kvals Qc E (F.toAOk.le hk') S2.at l1 l2 l3 l4 (r1.mono hG2) (by rw [e2]; exact r2) fun v zs val G' s' vs' n' q a rv hl' hr' hG' => by
    have S3 := S2.aftM hx a hl' hr' hG'
    exact hq v val _ _ s' q (Gh.le.of ((hG1.trans hG2).trans a.le)) S3 rv
  rw [e1] at this
  exact this
theorem EV_CallL {x : Str} {p pos : Pos} {f : Value} {args : List Expr} {Q : V → Prop} (F : FOk k c) (hx : ρ.lookup x = some (.val (.glob f))) (hf : IsFn W f)
    (h : EVL W c ρ args fun xs => CV W c ρ f xs [] Q)
    (hd : (x == ("__debug__" : Str)) = false := by kernel_rfl) (hcd : (x == ("__classdict__" : Str)) = false := by kernel_rfl)
    (hplain : ((backTo pos (starEach args c.env)).any (·.1) || (backToKw pos (keywordEach [] c.env)).any (·.1.isNone)) = false := by rfl)
    (he : ∀ e r, args = e :: r → starEach (e :: r) c.env = (false, eval e c.env) :: starEach r c.env := by (intro e r h; cases h; rfl)) :
    EV W c ρ (.Call (.Name x p) args [] pos) Q := fun g s Qc E S hq => by
  obtain ⟨val, hv, hr⟩ := S.slot x _ hx
  cases hr
  refine wpAny_Call_Name_kw (wpAny_Name (wp_load F.toFK S hv ?_ hcd) hd)
  refine wp_callWith (names := []) (kws := []) (Q := fun xs _ => CV W c ρ f xs [] Q) hf S hplain rfl rfl (fun g s pos Qc E S hq => h g s pos Qc E S fun xs vals G' s' q => hq xs vals G' s' (EVK_nil q)) (fun xs ys vals kvals G' s' q hG S' r r' => ?_) he
  exact q _ s' vals [] Qc E S' r .nil fun v val G'' s'' qq hG'' => hq v val G'' s'' qq (hG.trans hG'')
end
end Mine
end
section
open PySem PySem.W PyProof.Rows PySem.SeqAt PySem.MeetsSeq3
namespace Mine
noncomputable def KP (n : Nat) (lt : Nat → Nat → Bool) {α : Type} : KasT α → (α → Prop) → Prop
  | .ret a, Q => Q a
  | .ask i j k, Q => i < n ∧ j < n ∧ KP n lt (k (lt i j)) Q
structure LtOk (n : Nat) (lt : Nat → Nat → Bool) : Prop where
  irr : ∀ i, i < n → lt i i = false
  trans : ∀ i j k, i < n → j < n → k < n → lt i j = true → lt j k = true → lt i k = true
  tri : ∀ i j, i < n → j < n → i ≠ j → lt i j = true ∨ lt j i = true
section
variable {n : Nat} {lt : Nat → Nat → Bool}
theorem KP_bind {α β : Type} {f : α → KasT β} {Q : β → Prop} : ∀ (t : KasT α), KP n lt t (fun a => KP n lt (f a) Q) → KP n lt (t.bind f) Q
  | .ret _, h => h
  | .ask i j k, h => ⟨h.1, h.2.1, KP_bind (k (lt i j)) h.2.2⟩
theorem KP_mono {α : Type} {Q Q' : α → Prop} (hq : ∀ a, Q a → Q' a) : ∀ (t : KasT α), KP n lt t Q → KP n lt t Q'
  | .ret _, h => hq _ h
  | .ask i j k, h => ⟨h.1, h.2.1, KP_mono hq (k (lt i j)) h.2.2⟩
noncomputable def IsP (n : Nat) (p : Array Nat) : Prop := p.Perm (List.toArray (List.range n))
theorem IsP.size {p : Array Nat} (h : IsP n p) : p.size = n := by rw [Array.Perm.size_eq h]; simp
theorem IsP.bd {p : Array Nat} (h : IsP n p) {i : Nat} (hi : i < n) : p.getD i 0 < n := by
  have hs := h.size
  have hm : p[i]'(by exact om396 hi hs) ∈ p.toList := by simp
  have := (Array.perm_iff_toList_perm.mp h).mem_iff.mp hm
  simp at this
  simpa [Array.getD, hs, hi] using this
theorem IsP.ne {p : Array Nat} (h : IsP n p) {i j : Nat} (hi : i < n) (hj : j < n) (hij : i ≠ j) : p.getD i 0 ≠ p.getD j 0 := by
  have hs := h.size
  have hn : p.toList.Nodup := (Array.perm_iff_toList_perm.mp h).nodup_iff.mpr (by simpa using List.nodup_range)
  have e1 : p.getD i 0 = p.toList[i]'(by simp; exact om396 hi hs) := by simp [Array.getD, hs, hi]
  have e2 : p.getD j 0 = p.toList[j]'(by simp; exact om396 hj hs) := by simp [Array.getD, hs, hj]
  rw [e1, e2]
  intro e
  have hp := List.pairwise_iff_getElem.mp hn
  rcases Nat.lt_or_gt_of_ne hij with q | q
  · exact hp i j _ _ q e
  · exact hp j i _ _ q e.symm
theorem getD_eq {p q : Array Nat} {i j : Nat} (h : p[i]? = q[j]?) : p.getD i 0 = q.getD j 0 := by
  rw [Array.getD_eq_getD_getElem?, Array.getD_eq_getD_getElem?, h]
noncomputable def Srt (lt : Nat → Nat → Bool) (p : Array Nat) (k : Nat) : Prop := ∀ i j, i < j → j < k → lt (p.getD i 0) (p.getD j 0) = true
noncomputable def Dec (lt : Nat → Nat → Bool) (p : Array Nat) (k : Nat) : Prop := ∀ i j, i < j → j < k → lt (p.getD j 0) (p.getD i 0) = true
theorem Srt.succ (hl : LtOk n lt) {p : Array Nat} (hp : IsP n p) {k : Nat} (h : Srt lt p k) (h1 : 1 ≤ k) (hk : k < n) (hlt : lt (p.getD (k - 1) 0) (p.getD k 0) = true) : Srt lt p (k + 1) := fun i j hij hj => by
  by_cases e : j = k
  · subst e
    by_cases e : i = j - 1
    · rw [e]; exact hlt
    · exact hl.trans _ _ _ (hp.bd (by exact om397 hij hk)) (hp.bd (by exact om268 hk)) (hp.bd (by exact hk)) (h i (j - 1) (by exact om263 hij e) (by exact om74 h1)) hlt
  · exact h i j hij (by exact om247 hj e)
theorem Dec.succ (hl : LtOk n lt) {p : Array Nat} (hp : IsP n p) {k : Nat} (h : Dec lt p k) (h1 : 1 ≤ k) (hk : k < n) (hlt : lt (p.getD k 0) (p.getD (k - 1) 0) = true) : Dec lt p (k + 1) := fun i j hij hj => by
  by_cases e : j = k
  · subst e
    by_cases e : i = j - 1
    · rw [e]; exact hlt
    · exact hl.trans _ _ _ (hp.bd (by exact hk)) (hp.bd (by exact om268 hk)) (hp.bd (by exact om397 hij hk)) hlt (h i (j - 1) (by exact om263 hij e) (by exact om74 h1))
  · exact h i j hij (by exact om247 hj e)
theorem LtOk.not (hl : LtOk n lt) {p : Array Nat} (hp : IsP n p) {i j : Nat} (hi : i < n) (hj : j < n) (hij : i ≠ j) (h : lt (p.getD i 0) (p.getD j 0) = false) : lt (p.getD j 0) (p.getD i 0) = true := by
  rcases hl.tri _ _ (hp.bd hi) (hp.bd hj) (hp.ne hi hj hij) with q | q
  · rw [h] at q; cases q
  · exact q
theorem kp_asc (hl : LtOk n lt) {p : Array Nat} (hp : IsP n p) : ∀ (f m : Nat), 1 ≤ m → Srt lt p m → m + f ≤ n →
    KP n lt (kas_asc p f m) fun r => m ≤ r ∧ r ≤ m + f ∧ Srt lt p r ∧ (r < m + f → lt (p.getD r 0) (p.getD (r - 1) 0) = true)
  | 0, m, h1, hs, hm => ⟨Nat.le_refl _, Nat.le_refl _, hs, fun h => by exact (om86 h).elim⟩
  | f + 1, m, h1, hs, hm => by
    refine ⟨hp.bd (by exact om368 hm), hp.bd (by exact om367 hm), ?_⟩
    cases q : lt (p.getD m 0) (p.getD (m - 1) 0) with
    | true => simp only [if_true]; exact ⟨Nat.le_refl _, by exact om349, hs, fun _ => q⟩
    | false =>
      simp only [Bool.false_eq_true, if_false]
      have := kp_asc hl hp f (m + 1) (by exact om205) (hs.succ hl hp h1 (by exact om368 hm) (hl.not hp (by exact om368 hm) (by exact om367 hm) (by exact om77 h1) q)) (by exact om364 hm)
      exact KP_mono (fun r hr => ⟨by exact om485 hr, by exact om486 hr, hr.2.2.1, fun h => hr.2.2.2 (by exact om387 h)⟩) _ this
theorem kp_desc (hl : LtOk n lt) {p : Array Nat} (hp : IsP n p) : ∀ (f m : Nat), 1 ≤ m → Dec lt p m → m + f ≤ n →
    KP n lt (kas_desc f p m 0) fun r => r.1 = p ∧ r.2.2 = 0 ∧ m ≤ r.2.1 ∧ r.2.1 ≤ m + f ∧ Dec lt p r.2.1
  | 0, m, h1, hs, hm => ⟨rfl, rfl, Nat.le_refl _, Nat.le_refl _, hs⟩
  | f + 1, m, h1, hs, hm => by
    refine ⟨hp.bd (by exact om368 hm), hp.bd (by exact om367 hm), ?_⟩
    cases q : lt (p.getD m 0) (p.getD (m - 1) 0) with
    | true =>
      simp only [if_true, Nat.lt_irrefl, gt_iff_lt, if_false]
      have := kp_desc hl hp f (m + 1) (by exact om205) (hs.succ hl hp h1 (by exact om368 hm) q) (by exact om364 hm)
      exact KP_mono (fun r hr => ⟨hr.1, hr.2.1, by exact om491 hr, by exact om484 hr, hr.2.2.2.2⟩) _ this
    | false =>
      simp only [Bool.false_eq_true, if_false]
      refine ⟨hp.bd (by exact om367 hm), hp.bd (by exact om368 hm), ?_⟩
      rw [hl.not hp (by exact om368 hm) (by exact om367 hm) (by exact om77 h1) q]
      simp only [if_true]
      exact ⟨rfl, rfl, Nat.le_refl _, Nat.le_add_right _ _, hs⟩
theorem rev_isP {p : Array Nat} (hp : IsP n p) (i j : Nat) : IsP n (kas_rev p i j) := (mirror_perm _ _ _ _).trans hp
theorem rev_srt {p : Array Nat} (hp : IsP n p) {m : Nat} (hm : m ≤ n) (h : Dec lt p m) : Srt lt (kas_rev p 0 m) m := fun i j hij hj => by
  have hs := hp.size
  have e : ∀ k, k < m → (kas_rev p 0 m).getD k 0 = p.getD (m - 1 - k) 0 := fun k hk => by
    refine getD_eq ?_
    unfold kas_rev
    rw [getElem?_mirror_all (by exact om404 hm hs), if_pos ⟨Nat.zero_le _, hk⟩]
    congr 1; exact om335
  rw [e i (by exact om397 hij hj), e j hj]
  exact h _ _ (by exact om409 hj hij) (by exact om421 hj)
theorem kp_tail3 (hl : LtOk n lt) {p : Array Nat} (hp : IsP n p) {m : Nat} (h1 : 1 ≤ m) (hm : m ≤ n) (h : Dec lt p m) : KP n lt (kas_tail3 m n p) fun r => 1 ≤ r.1 ∧ r.1 ≤ n ∧ IsP n r.2 ∧ Srt lt r.2 r.1 := by
  unfold kas_tail3
  refine KP_bind _ (KP_mono (fun r hr => ?_) _ (kp_asc hl (rev_isP hp 0 m) (n - m) m h1 (rev_srt hp hm h) (by exact om301 hm)))
  exact ⟨by exact om487 h1 hr, by exact om488 hm hr, rev_isP hp 0 m, hr.2.2.1⟩
theorem Dec_one (p : Array Nat) : Dec lt p 1 := fun i j hij hj => by exact (om248 hj hij).elim
theorem Srt_one (p : Array Nat) : Srt lt p 1 := fun i j hij hj => by exact (om248 hj hij).elim
theorem kp_count (hl : LtOk n lt) {p : Array Nat} (hp : IsP n p) (h1 : 1 ≤ n) : KP n lt (kas_count n p) fun r => 1 ≤ r.1 ∧ r.1 ≤ n ∧ IsP n r.2 ∧ Srt lt r.2 r.1 := by
  unfold kas_count
  refine KP_bind _ (KP_mono (fun r hr => ?_) _ (kp_asc hl hp (n - 1) 1 (Nat.le_refl _) (Srt_one p) (by exact om73 h1)))
  obtain ⟨r1, r2, r3, r4⟩ := hr
  by_cases e : r = n
  · rw [if_pos (by simp [e])]; exact ⟨r1, by exact om280 e, hp, r3⟩
  · rw [if_neg (by simp [e])]
    by_cases e1 : r > 1
    · rw [if_pos e1]
      refine ⟨hp.bd (by exact om76 h1), hp.bd (by exact om240 h1 r2), ?_⟩
      rw [r3 0 (r - 1) (by exact om120 e1) (by exact om119 e1)]
      simp only [if_true]
      exact ⟨r1, by exact om241 h1 r2, hp, r3⟩
    · rw [if_neg e1]
      obtain rfl : r = 1 := by exact om72 r1 e1
      unfold kas_descPart
      have h2 : Dec lt p 2 := (Dec_one p).succ hl hp (Nat.le_refl _) (by exact om71 h1 e) (r4 (by exact om70 h1 e))
      refine KP_bind _ (KP_mono (fun r hr => ?_) _ (kp_desc hl hp (n - 2) 2 (by exact om3) h2 (by exact om69 h1 e)))
      obtain ⟨a1, a2, a3, a4, a5⟩ := hr
      rw [a2, if_neg (by exact om6), a1]
      exact kp_tail3 hl hp (by exact om79 a3) (by exact om242 h1 a4 e) a5
theorem kp_place (hl : LtOk n lt) {p : Array Nat} (hp : IsP n p) {k : Nat} (hk : k < n) (hs : Srt lt p k) : ∀ (f l r : Nat), l ≤ r → r ≤ k → r - l ≤ f → (∀ i, i < l → lt (p.getD i 0) (p.getD k 0) = true) → (∀ i, r ≤ i → i < k → lt (p.getD k 0) (p.getD i 0) = true) →
    KP n lt (kas_place p k f l r) fun q => q ≤ k ∧ (∀ i, i < q → lt (p.getD i 0) (p.getD k 0) = true) ∧ ∀ i, q ≤ i → i < k → lt (p.getD k 0) (p.getD i 0) = true
  | 0, l, r, h1, h2, h3, h4, h5 => ⟨by exact om406 h1 h2, h4, fun i hi => h5 i (by exact om375 h3 hi)⟩
  | f + 1, l, r, h1, h2, h3, h4, h5 => by
    unfold kas_place
    by_cases e : l ≥ r
    · rw [if_pos e]; exact ⟨by exact om406 h1 h2, h4, fun i hi => h5 i (by exact om426 hi e)⟩
    · rw [if_neg e]
      have hm : (l + r) / 2 < r := by exact om327 e
      have hm2 : l ≤ (l + r) / 2 := by exact om329 e
      refine ⟨hp.bd hk, hp.bd (by exact om431 hm h2 hk), ?_⟩
      cases q : lt (p.getD k 0) (p.getD ((l + r) / 2) 0) with
      | true =>
        simp only [if_true]
        refine kp_place hl hp hk hs f l ((l + r) / 2) hm2 (by exact om358 hm h2) (by exact om379 h3) h4 fun i hi hik => ?_
        by_cases ei : i = (l + r) / 2
        · rw [ei]; exact q
        · exact hl.trans _ _ _ (hp.bd hk) (hp.bd (by exact om431 hm h2 hk)) (hp.bd (by exact om397 hik hk)) q (hs _ _ (by exact om359 hi ei) hik)
      | false =>
        simp only [Bool.false_eq_true, if_false]
        have q' := hl.not hp hk (by exact om431 hm h2 hk) (by exact om360 hm h2) q
        refine kp_place hl hp hk hs f ((l + r) / 2 + 1) r (by exact om219 hm) h2 (by exact om374 h3) (fun i hi => ?_) h5
        by_cases ei : i = (l + r) / 2
        · rw [ei]; exact q'
        · exact hl.trans _ _ _ (hp.bd (by exact om475 hk h2 hm hi)) (hp.bd (by exact om431 hm h2 hk)) (hp.bd hk) (hs i _ (by exact om385 hi ei) (by exact om357 hm h2)) q'
theorem kp_bin (hl : LtOk n lt) : ∀ (f : Nat) (p : Array Nat) (k : Nat), IsP n p → Srt lt p k → k + f = n → KP n lt (kas_bin f p k) fun r => IsP n r ∧ Srt lt r n
  | 0, p, k, hp, hs, he => ⟨hp, by rw [← he]; exact hs⟩
  | f + 1, p, k, hp, hs, he => by
    unfold kas_bin
    refine KP_bind _ (KP_mono (fun q hq => ?_) _ (kp_place hl hp (by exact om366 he) hs k 0 k (Nat.zero_le _) (Nat.le_refl _) (by exact om198) (fun i hi => by exact (om87 hi).elim) (fun i h1 h2 => by exact (om262 h2 h1).elim)))
    obtain ⟨q1, q2, q3⟩ := hq
    have hsz := hp.size
    have e : ∀ i, (bubble p k (k - q)).getD i 0 = if i = q then p.getD k 0 else if q < i ∧ i ≤ k then p.getD (i - 1) 0 else p.getD i 0 := fun i => by
      have := getElem?_bubble (xs := p) (src := k) (by exact om459 hsz he) (k - q) (by exact om346) i
      have hkq : k - (k - q) = q := by exact om318 q1
      rw [hkq] at this
      rw [Array.getD_eq_getD_getElem?, this]
      split
      · rw [Array.getD_eq_getD_getElem?]
      · split <;> rw [Array.getD_eq_getD_getElem?]
    refine kp_bin hl f _ (k + 1) ((bubble_perm _ _ _).trans hp) (fun i j hij hj => ?_) (by exact om363 he)
    rw [e i, e j]
    by_cases c1 : i = q
    · rw [if_pos c1, if_neg (by exact om419 hij c1), if_pos (by exact om456 hj hij c1)]
      exact q3 _ (by exact om422 hij c1) (by exact om388 hj hij)
    · rw [if_neg c1]
      by_cases c2 : j = q
      · rw [if_pos c2, if_neg (by exact om457 hij c2)]
        exact q2 _ (by exact om398 hij c2)
      · rw [if_neg c2]
        by_cases c3 : q < i ∧ i ≤ k
        · rw [if_pos c3, if_pos (by exact om455 hj c3 hij)]
          exact hs _ _ (by exact om445 hij c3) (by exact om388 hj hij)
        · rw [if_neg c3]
          by_cases c4 : q < j ∧ j ≤ k
          · rw [if_pos c4]; exact hs _ _ (by exact om446 hij c1 c4 c3) (by exact om388 hj hij)
          · rw [if_neg c4]; exact hs _ _ (by exact hij) (by exact om389 hj q1 c4 c2)
theorem kp_sort (hl : LtOk n lt) (h1 : 1 ≤ n) : KP n lt (kas_sort n) fun r => IsP n r ∧ Srt lt r n := by
  unfold kas_sort
  refine KP_bind _ (KP_mono (fun r hr => ?_) _ (kp_count hl (Array.Perm.refl _) h1))
  obtain ⟨r1, r2, r3, r4⟩ := hr
  by_cases e : r.1 < n
  · rw [if_pos e]
    have : max r.1 1 = r.1 := by exact om75 r1
    rw [this]
    exact kp_bin hl _ _ _ r3 r4 (by exact om266 e)
  · rw [if_neg e]
    exact ⟨r3, by rw [show n = r.1 by exact om317 r2 e]; exact r4⟩
theorem kas_of_kp {α : Type} {cmp : Nat → Nat → (Bool → Shared → Prop) → Shared → Prop} {s : Shared} (hc : ∀ i j C, i < n → j < n → C (lt i j) s → cmp i j C s) {Q : α → Prop} {R : α → Shared → Prop} (hq : ∀ a, Q a → R a s) : ∀ (t : KasT α), KP n lt t Q → t.kasWp cmp R s
  | .ret _, h => hq _ h
  | .ask i j k, h => hc i j _ h.1 h.2.1 (kas_of_kp hc hq (k (lt i j)) h.2.2)
end
end Mine
end
section
open PySem PySem.W PyProof.Rows PySem.SeqAt PySem.MeetsSeq3
namespace Mine
theorem looks_list {prog : Program} {w : World} {h : Heap} {a : Addr} {vs : Array Value} {n : Nat} (e : h.get? a = some (lobj vs n)) : Looks (model prog w) h (typeOf (.ref a)) (.type "list") := (Looks.ld (part := none) e).andThen .now
theorem keyLt_lists {prog : Program} {w : World} {A : Around} {s : Shared} {l b : Addr} {items items2 : Array Value} {n n2 : Nat} {r : Bool} {Q : Bool → Shared → Prop} {E : Value → Shared → Prop} (hl : s.heap.get? l = some (lobj items n)) (hb : s.heap.get? b = some (lobj items2 n2)) (hu : A.units < cLine)
    (h : LtR A.in1 s items.toList items2.toList r) (hq : Q r s) : wpAny (model prog w) A (keyLt' oneType' (.ref l) (.ref b)) Q E s := by
  rw [keyLt'_oneType, oneLt'_eq]
  simp only [if_true]
  refine wpAny_bind (wpAny_cRoomFor hu ?_)
  refine wpAny_bind (wpAny_callSpecialIfBound?_slot (isList_lobj hl).typeIs PySem.F.slot_list_lt (call_meets PySem.F.slot_list_lt (isList_lobj hl).typeIs PySem.F.entry_list_lt (PySem.F.args_list_lt_2 _ _) (list_lt_meets l b items items2 n n2 r) ⟨hl, hb, h, ?_⟩))
  exact wpAny_truthy_bool hq
theorem wp_sort {prog : Program} {w : World} {A : Around} {s : Shared} {a : Addr} {vs : List Value} {n : Nat} {P : PySem.Fin → Shared → Prop} {lt : Nat → Nat → Bool} (ho : s.heap.get? a = some (lobj vs.toArray n)) (h2 : 2 ≤ vs.length) (h64 : vs.length < 64) (hlt : LtOk vs.length lt)
    (hT : ∀ v ∈ vs, ∃ b xs m, v = .ref b ∧ b ≠ a ∧ s.heap.get? b = some (lobj xs m))
    (hc : ∀ h', (∀ b o, b ≠ a → s.heap.get? b = some o → h'.get? b = some o) → ∀ i j (C : Bool → Shared → Prop), i < vs.length → j < vs.length → C (lt i j) { s with heap := h' } → kas_ask prog w A oneType' vs i j C { s with heap := h' })
    (hq : ∀ p h' m, IsP vs.length p → Srt lt p vs.length → (∀ b o, b ≠ a → s.heap.get? b = some o → h'.get? b = some o) → h'.get? a = some (lobj (p.toList.map fun i => vs.getD i Value.none).toArray m) → P (.done (.ret .none)) { s with heap := h' }) :
    wpAny (model prog w) A (Builtin.«list.sort» ⟨[.ref a], []⟩) P (fun _ _ => False) s := by
  have few : vs.length ≤ sizeLine := by rw [sizeLine_eq]; exact om108 h64
  have many : ¬ vs.toArray.size < 2 := by rw [List.size_toArray]; exact om80 h2
  obtain ⟨e, he⟩ : ∃ e, (s.heap.update a (Obj.mapSeq fun _ => (#[] : Array Value))).get? a = some (lobj #[] e) := ⟨_, get?_update_seq ho fun _ => #[]⟩
  rw [list_sort_plain]
  refine wpAny_bind (listItems_at ho rfl (wpAny_bind (listUpdate_at ho rfl (wpAny_bind (seqEpoch_at he rfl (wpAny_bind (wpAny_newTuple (wpAny_bind (wpAny_newList (wpAny_holding ?_) (Nat.zero_le _))) few)))) few (Nat.zero_le _))))
  obtain ⟨H, eH, hH, old⟩ : ∃ H, ((s.heap.update a (Obj.mapSeq fun _ => (#[] : Array Value))).push (seqObj "tuple" vs.toArray 0)).push (seqObj "list" #[] 0) = H ∧ H.get? a = some (lobj #[] e) ∧ ∀ b o, b ≠ a → s.heap.get? b = some o → H.get? b = some o :=
    ⟨_, rfl, Heap.get?_push_of_some _ (Heap.get?_push_of_some _ he), fun b o n q => Heap.get?_push_of_some _ (Heap.get?_push_of_some _ (update_other _ b o n q))⟩
  show wpAny _ _ _ _ _ { s with heap := ((s.heap.update a (Obj.mapSeq fun _ => (#[] : Array Value))).push (seqObj "tuple" vs.toArray 0)).push (seqObj "list" #[] 0) }
  rw [eH]
  dsimp only
  rw [if_neg many, if_neg many]
  refine wpAny_bind (kas_kind (T := .type "list") h2 (fun v hv => ?_) (by decide) (by decide) ?_)
  · obtain ⟨b, xs, m, rfl, n, q⟩ := hT v hv
    exact looks_list (old _ _ n q)
  have asked : (kas_sort vs.length).kasWp (kas_ask prog w A oneType' vs) (fun p z => z = { s with heap := H } ∧ IsP vs.length p ∧ Srt lt p vs.length) { s with heap := H } :=
    kas_of_kp (fun i j C hi hj => hc H old i j C hi hj) (fun p hp => ⟨rfl, hp⟩) _ (kp_sort hlt (by exact om79 h2))
  refine wpAny_bind (wpAny_mono (kat_run (Q := fun st z => ∃ p : Array Nat, p.size = vs.length ∧ arrOf st = p.map (kas_item (vs.toArray.zip vs.toArray)) ∧ failedOf st = none ∧ z = { s with heap := H } ∧ IsP vs.length p ∧ Srt lt p vs.length) rfl h2 h64
    (fun p _ _ b1 b2 b3 b4 => ⟨p, b1, b2, b3, b4⟩) asked) ?_ fun _ _ q => q)
  rintro ⟨_, st⟩ _ ⟨p, size, arr, fine, rfl, perm, sorted⟩
  dsimp only
  rw [kat_snds rfl arr]
  have few' : (p.toList.map fun i => vs.getD i Value.none).length ≤ sizeLine := by rw [List.length_map, Array.length_toList, size]; exact few
  refine wpAny_bind (seqEpoch_at hH rfl (wpAny_bind (listUpdate_at hH rfl ?_ (Nat.zero_le _) (Nat.le_succ_of_le few'))))
  rw [fine]
  obtain ⟨m, hm⟩ : ∃ m, (H.update a (Obj.mapSeq fun _ => (p.toList.map fun i => vs.getD i Value.none).toArray)).get? a = some (lobj (p.toList.map fun i => vs.getD i Value.none).toArray m) := ⟨_, get?_update_seq hH fun _ => (p.toList.map fun i => vs.getD i Value.none).toArray⟩
  simp only [bne_self_eq_false, Bool.false_eq_true, if_false]
  exact wpAny_pure (hq p _ m perm sorted (fun b o n q => update_other _ b o n (old b o n q)) hm)
theorem filled (h : Heap) (xs : Array Value) : ((h.push (seqObj "list" #[] 0)).update h.objs.size (Obj.mapSeq (· ++ xs))).objs.size = h.objs.size + 1 ∧ ∀ b o, h.get? b = some o → ((h.push (seqObj "list" #[] 0)).update h.objs.size (Obj.mapSeq (· ++ xs))).get? b = some o :=
  ⟨(Heap.size_update ..).trans (size_push' ..), fun b o q => update_other _ b o (Nat.ne_of_lt (Heap.lt_size q)) (Heap.get?_push_of_some _ q)⟩
theorem wp_sorted {prog : Program} {w : World} {A : Around} {s : Shared} {l : Addr} {vs : List Value} {n : Nat} {Q : Value → Shared → Prop} {E : Value → Shared → Prop} {lt : Nat → Nat → Bool} (hl : s.heap.get? l = some (lobj vs.toArray n)) (h2 : 2 ≤ vs.length) (h64 : vs.length < 64) (hlt : LtOk vs.length lt)
    (hT : ∀ v ∈ vs, ∃ b xs m, v = .ref b ∧ s.heap.get? b = some (lobj xs m))
    (hc : ∀ h', (∀ b o, s.heap.get? b = some o → h'.get? b = some o) → ∀ i j (C : Bool → Shared → Prop), i < vs.length → j < vs.length → C (lt i j) { s with heap := h' } → kas_ask prog w A.in1.in1 oneType' vs i j C { s with heap := h' })
    (hq : ∀ p h' D m, IsP vs.length p → Srt lt p vs.length → (∀ b o, s.heap.get? b = some o → h'.get? b = some o) → s.heap.get? D = none → h'.get? D = some (lobj (p.toList.map fun i => vs.getD i Value.none).toArray m) → Q (.ref D) { s with heap := h' }) :
    wpAny (model prog w) A (call (.builtin "sorted") [.ref l]) Q E s := by
  have few : vs.length ≤ sizeLine := by rw [sizeLine_eq]; exact om108 h64
  refine Calls.call_function_entry kind_sorted plain_sorted entry_sorted (args_sorted1 _) ?_
  unfold Builtin.«sorted»
  refine wpAny_bind (m := checkCount "sorted" 1 1 _) (wpAny_pure (wpAny_bind (collect_list (isList_lobj hl) (wpAny_bind (wpAny_newList ?_ few)) few)))
  obtain ⟨K, eK, size, keep⟩ : ∃ K, (s.heap.push (seqObj "list" #[] 0)).update s.heap.objs.size (Obj.mapSeq (· ++ vs.toArray)) = K ∧ K.objs.size = s.heap.objs.size + 1 ∧ ∀ b o, s.heap.get? b = some o → K.get? b = some o := ⟨_, rfl, filled _ _⟩
  show wpAny _ _ _ _ _ { s with heap := ((s.heap.push (seqObj "list" #[] 0)).update s.heap.objs.size (Obj.mapSeq (· ++ vs.toArray))).push (seqObj "list" vs.toArray 0) }
  rw [eK]
  have there : (K.push (seqObj "list" vs.toArray 0)).get? K.objs.size = some (seqObj "list" vs.toArray 0) := Heap.get?_push_size _ rfl
  have other : ∀ b o, s.heap.get? b = some o → b ≠ K.objs.size ∧ (K.push (seqObj "list" vs.toArray 0)).get? b = some o := fun b o q => ⟨by rw [size]; exact Nat.ne_of_lt (Nat.lt_succ_of_lt (Heap.lt_size q)), Heap.get?_push_of_some _ (keep b o q)⟩
  refine wpAny_bind (wpAny_holding (wpAny_call_entry slot_list_sort ⟨_, there, rfl⟩ entry_list_sort ?_ (args_list_sort _)))
  refine wpAny_mono (wp_sort (P := fun f z => _) (s := { s with heap := _ }) there h2 h64 hlt (fun v hv => ?_) (fun h' old i j C hi hj hC => hc h' (fun b o q => old b o (other b o q).1 (other b o q).2) i j C hi hj hC) fun p h' m hp hs old hm => ?_) (fun _ _ q => q) fun _ _ q => q.elim
  · obtain ⟨b, xs, m, rfl, q⟩ := hT v hv
    exact ⟨b, xs, m, rfl, other _ _ q⟩
  · exact ⟨_, rfl, wpAny_pure ⟨_, rfl, hq p h' _ m hp hs (fun b o q => old b o (other b o q).1 (other b o q).2) (Heap.get?_none_of_le (by rw [size]; exact Nat.le_succ _)) hm⟩⟩
section
variable {W : Wd} {c : Fx} {ρ : Rho} {k : Nat}
theorem EVF_sorted {x : Str} {p pos : Pos} {b : Expr} {Q : List V → Prop} (F : FOk k c) (hx : Glo W x (.builtin "sorted")) (hk : c.env.kindOf x = some .globalImplicit)
    (h : EVP W c ρ b fun xs => 2 ≤ xs.length ∧ xs.length < 64 ∧ (∀ x ∈ xs, dv 60 x = true ∧ ∃ ys, x = .list ys) ∧ ∃ lt, LtOk xs.length lt ∧ (∀ i j, i < xs.length → j < xs.length → LtV (xs.getD i .none) (xs.getD j .none) (lt i j)) ∧
      ∀ p, IsP xs.length p → Srt lt p xs.length → Q (p.toList.map fun i => xs.getD i .none))
    (hd : (x == ("__debug__" : Str)) = false := by kernel_rfl) (he : starEach [b] c.env = [(false, eval b c.env)] := by rfl) : EVF W c ρ (.Call (.Name x p) [b] [] pos) Q := fun g s Qc E S hq => by
  refine wpAny_Call_Name_kw (wpAny_Name (wp_global (env := c.env) F.toFK S hx hk ?_) hd)
  show wpAny _ _ (callWith pos (.builtin "sorted") [] (backTo pos (starEach [b] c.env)) []) _ _ _
  refine callWith_builtin1 (args_cons (h g s _ E S fun xs a G1 s1 h1 hG1 S1 p1 => args_nil ?_) he) he
  obtain ⟨vs, n, ha, hr⟩ := p1 G1 s1 (.refl _) S1
  obtain ⟨h2, h64, hdv, lt, hlt, hlv, hQ⟩ := h1
  have hvl : vs.toList.length = xs.length := hr.length
  have hu := F.units
  have rep : ∀ i, i < xs.length → Rep G1 (vs.toList.getD i Value.none) (xs.getD i .none) := fun i hi => by
    have hxi : xs[i]? = some (xs.getD i .none) := by rw [getD_at hi, List.getElem?_eq_getElem hi]
    obtain ⟨v, hv, hrv⟩ := hr.get hxi
    have : vs.toList.getD i Value.none = v := by rw [List.getD_eq_getElem?_getD, hv]; rfl
    rw [this]; exact hrv
  have ha' : s1.heap.get? a = some (lobj vs.toList.toArray n) := by rw [Array.toArray_toList]; exact ha
  refine wp_sorted (vs := vs.toList) (lt := lt) ha' (by exact om243 h2 hvl) (by exact om277 hvl h64) (by rw [hvl]; exact hlt) (fun v hv => ?_) (fun h' hk' i j C hi hj hC => ?_) fun p h' D m hp hs hk' hD hm => ?_
  · obtain ⟨i, hi, rfl⟩ := List.getElem_of_mem hv
    have hi' : i < xs.length := by exact om398 hi hvl
    have r := rep i hi'
    have e : vs.toList.getD i Value.none = vs.toList[i] := by rw [List.getD_eq_getElem?_getD, List.getElem?_eq_getElem hi]; rfl
    rw [e] at r
    obtain ⟨_, ys, hy⟩ := hdv (xs.getD i .none) (by rw [getD_at hi']; exact List.getElem_mem _)
    rw [hy] at r
    generalize vs.toList[i] = v at r ⊢
    cases r with
    | list hb hr' => exact ⟨_, _, _, rfl, S1.fr _ _ hb⟩
  · have hi' : i < xs.length := by exact om398 hi hvl
    have hj' : j < xs.length := by exact om398 hj hvl
    have ri := rep i hi'
    have rj := rep j hj'
    have lv := hlv i j hi' hj'
    have di := hdv (xs.getD i .none) (by rw [getD_at hi']; exact List.getElem_mem _)
    have dj := hdv (xs.getD j .none) (by rw [getD_at hj']; exact List.getElem_mem _)
    unfold kas_ask
    obtain ⟨di, yi, ei⟩ := di
    obtain ⟨dj, yj, ej⟩ := dj
    rw [ei] at ri lv di
    rw [ej] at rj lv dj
    have hG : ∀ q o, G1 q = some o → h'.get? q = some o := fun q o e => hk' q o (S1.fr q o e)
    generalize vs.toList.getD i Value.none = vi at ri ⊢
    generalize vs.toList.getD j Value.none = vj at rj ⊢
    obtain ⟨m1, e1, di⟩ := dv_list di
    cases e1
    obtain ⟨m2, e2, dj⟩ := dv_list dj
    cases e2
    cases ri with
    | @list ai xi ni _ hi1 hi2 =>
      cases rj with
      | @list aj xj nj _ hj1 hj2 =>
        have hu' : c.A.in1.in1.in1.units + 59 < cLine := by show c.A.units + 1 + 1 + 1 + 59 < cLine; exact om353 hu
        exact keyLt_lists (s := { s1 with heap := h' }) (hG _ _ hi1) (hG _ _ hj1) (by show c.A.units + 1 + 1 < cLine; exact om354 hu)
          (ltR_of (m := 59) (fun h a b hx hy => ltAt_rep 59 h hG a b hx hy hu') (fun a b hx hy => eqAt_rep 59 hG a b hx hy hu') yi yj _ _ _ lv hi2 hj2 di dj) hC
  · rw [hvl] at hp hs
    obtain ⟨f1, f2⟩ := fresh_new S1 hD (h' := h')
    refine hq _ D _ m G1 _ (hQ p hp hs) hG1 (S1.keeps (tk := s1.toks) (dr := s1.drawn) hk') hm ?_ f1 f2
    have key : ∀ l : List Nat, (∀ i ∈ l, i < xs.length) → Reps G1 (l.map fun i => vs.toList.getD i Value.none) (l.map fun i => xs.getD i .none) := by
      intro l
      induction l with
      | nil => intro _; exact .nil
      | cons i r ih => intro h; exact .cons (rep i (h i (List.mem_cons_self ..))) (ih fun j hj => h j (List.mem_cons_of_mem _ hj))
    refine key _ fun i hi => ?_
    have := (Array.perm_iff_toList_perm.mp hp).mem_iff.mp hi
    simpa using this
end
end Mine
end
section
open PySem PySem.W PyProof.Rows PySem.SeqAt PySem.MeetsSeq3
namespace Mine
theorem funFrames_of {H0 h : Heap} {as : List Addr} : ∀ {l : List Env}, FF H0 h l → (∀ env ∈ l, ∀ a, env.frame = some a → a ∈ as) → ∀ {h' : Heap}, (∀ b o, h.get? b = some o → h'.get? b = some o) → h'.FunFrames (hideAll h as) l
  | [], _, _, _, _ => trivial
  | env :: r, F, hin, h', hk => by
    obtain ⟨k, L, o, es, n, hf, _, ho, hd⟩ := F env (List.mem_cons_self ..)
    exact ⟨k, ⟨L, o, hf, hideAll_none _ (hin env (List.mem_cons_self ..) L hf), hk _ _ ho, fun vs q => by rw [hd] at q; cases q⟩, funFrames_of (fun e he => F e (List.mem_cons_of_mem _ he)) (fun e he => hin e (List.mem_cons_of_mem _ he)) hk⟩
theorem wp_noteFrame_new {M : Model} {A : Around} {E : Value → Shared → Prop} {s : Shared} {base : Heap} {env : Env} {outer : List Env} {L e : Addr} {oe : Obj} {vs : Array Value} {a0 : Value} {Q : Unit → Shared → Prop}
    (hfr : A.frames = some (env :: outer)) (hl : s.heap.FunFrames base (env :: outer)) (hf : env.frame = some L) (he : s.heap.get? e = some oe) (hkb : base.StaysIn s.heap) (hen : base.get? e = none) (hd : oe.data = .fields vs) (h1 : vs[1]? = some .none) (h0 : vs[0]? = some a0)
    (h : ∀ h', Heap.HeldW base (env :: outer) e oe.cls a0 L h' → s.heap.UpToSlots h' → Q () { s with heap := h' }) : wpAny M A (noteFrame (.ref e) env) Q E s := by
  unfold noteFrame
  simp only [hf]
  refine wpAny_bind (wpAny_field he hd h1 ?_)
  rw [if_neg (by decide)]
  refine wpAny_entryW hfr hl hf he hkb hen hd (Array.getElem?_eq_some_iff.mp h1).1 h0 fun h' hN => ?_
  obtain ⟨k1, k2, k3, k4⟩ := hN
  exact h h' ⟨k1, hen, k2, k3⟩ k4
section
variable {W : Wd} {c : Fx} {ρ : Rho} {k : Nat}
@[reducible] noncomputable def markFx (c : Fx) (e : Addr) : Fx := { c with A := c.A.mark (some (.ref e)) }
theorem Sim.mark {g : Gh} {s : Shared} (S : Sim W c ρ g s) (e : Addr) : Sim W (markFx c e) ρ g s where
  gens := S.gens
  os := S.os
  base := S.base
  keep := S.keep
  fr := S.fr
  gin := S.gin
  gnew := S.gnew
  glist := S.glist
  frames := S.frames
  ns := S.ns
  loc0 := S.loc0
  locH := S.locH
  cells := S.cells
  cells0 := S.cells0
  slot := fun x sl q => by
    have z := S.slot x sl q
    cases sl with
    | val v => exact z
    | own xs => exact z
  apart := S.apart
  pin := S.pin
  xp := S.xp
  xk := S.xk
theorem Sim.unmark {g : Gh} {s : Shared} {e : Addr} (S : Sim W (markFx c e) ρ g s) : Sim W c ρ g s where
  gens := S.gens
  os := S.os
  base := S.base
  keep := S.keep
  fr := S.fr
  gin := S.gin
  gnew := S.gnew
  glist := S.glist
  frames := S.frames
  ns := S.ns
  loc0 := S.loc0
  locH := S.locH
  cells := S.cells
  cells0 := S.cells0
  slot := fun x sl q => by
    have z := S.slot x sl q
    cases sl with
    | val v => exact z
    | own xs => exact z
  apart := S.apart
  pin := S.pin
  xp := S.xp
  xk := S.xk
theorem FK.mark (F : FK c) (e : Addr) : FK (markFx c e) := ⟨F.kind, F.glob, F.blt, F.top⟩
theorem Sim.flown {g : Gh} {s : Shared} (S : Sim W c ρ g s) {h' : Heap} {tk : Nat} (h1 : (hideAll s.heap c.fs).StaysIn h') (h2 : s.heap.UpToSlots h') : Sim W c ρ g { s with heap := h', toks := tk } := by
  have ex : ∀ b o, s.heap.get? b = some o → b ∉ c.fs → h'.get? b = some o := fun b o e hm => h1 b o (hideAll_get _ e hm)
  refine S.after (G' := g.G) (s' := { s with heap := h', toks := tk }) S.gens S.os (fun b o e => ?_) (.refl _) (fun _ _ e => .inl e) (fun b o e => ?_) S.glist
  · by_cases hm : b ∈ c.fs
    · obtain ⟨_, o', es, n, ho', hd⟩ := S.frames.mem hm
      rw [e] at ho'; cases ho'
      obtain ⟨sl, hs⟩ := h2 b o e fun vs q => by rw [hd] at q; cases q
      exact ⟨_, hs, fun _ => ⟨fun q => absurd hm q, sl, rfl⟩⟩
    · exact ⟨o, ex b o e hm, fun _ => ⟨fun _ => rfl, o.slots, rfl⟩⟩
  · obtain ⟨vs, n, rfl⟩ := S.glist b o e
    exact ex b _ (S.fr b _ e) (not_fs_of_lobj S.frames (S.fr b _ e))
theorem wp_catch {g : Gh} {s : Shared} {h₁ : Heap} {e : Addr} {tk : Nat} {x : Str} {b₀ : Stmt} {suite : List Stmt} {np pos : Pos} {Q : Flow → Shared → Prop} {E : Value → Shared → Prop} (F : FK c) (hown : c.own = true) (S : Sim W c ρ g s) (hx : Heap.NewExc s.heap h₁ e "ValueError")
    (hve : Glo W x (.type "ValueError")) (hk : c.env.kindOf x = some .globalImplicit) (hd : (x == ("__debug__" : Str)) = false)
    (h : ∀ s' E', Sim W (markFx c e) ρ g s' → wpAny (model W.prog W.w) (markFx c e).A (execs (b₀ :: suite) c.env) Q E' s') :
    wpAny (model W.prog W.w) c.A (noteFrame (.ref e) c.env) (fun _ s₂ => wpAny (model W.prog W.w) c.A (setFlight (.ref e) none) (fun _ s₃ => wpAny (model W.prog W.w) c.A (handleBy (.ref e) c.env [.ExceptHandler (some (.Name x np)) none (b₀ :: suite) pos]) Q E s₃) E s₂) E { s with heap := h₁, toks := tk } := by
  obtain ⟨outer, L, hfr, hf⟩ := F.top hown
  have hfrD : c.A.frames.getD [] = c.env :: outer := by rw [hfr]; rfl
  have hFF : FF W.H0 s.heap (c.env :: outer) := hfrD ▸ S.frames
  have hin : ∀ env ∈ (c.env :: outer), ∀ a, env.frame = some a → a ∈ c.fs := fun env he a ha => by
    show a ∈ (c.A.frames.getD []).filterMap (·.frame)
    rw [hfrD]
    exact List.mem_filterMap.mpr ⟨env, he, ha⟩
  obtain ⟨oe, t, he, hcls, hd'⟩ := hx.there
  have stays : (hideAll s.heap c.fs).StaysIn h₁ := fun b o q => hx.keeps b o (of_hideAll _ q)
  have hen : (hideAll s.heap c.fs).get? e = none := by
    cases q : (hideAll s.heap c.fs).get? e with
    | none => rfl
    | some o => have := of_hideAll _ q; rw [hx.new] at this; cases this
  refine wp_noteFrame_new (s := { s with heap := h₁, toks := tk }) (base := hideAll s.heap c.fs) (a0 := t) hfr (funFrames_of hFF hin hx.keeps) hf he stays hen hd' (by rfl) (by rfl) fun h₄ hheld₄ hsm₄ => ?_
  refine wpAny_landsW hheld₄ fun h₅ hfl₅ hsm₅' => ?_
  have hsm₅ : s.heap.UpToSlots h₅ := (Heap.UpToSlots.of_keeps hx.keeps).trans (Heap.UpToSlots.trans hsm₄ hsm₅')
  have S₅ : Sim W c ρ g { s with heap := h₅, toks := tk } := S.flown hfl₅.1 hsm₅
  obtain ⟨ob, hob, hobc⟩ := hfl₅.there
  refine wpAny_handleBy_builtin (X := "ValueError") (T := "ValueError") (b := true) (by rw [isSubtype_type]; kernel_rfl) (by kernel_rfl) (by rw [isSubtype_type]; kernel_rfl) ?_
  refine wpAny_Name (wp_global (c := markFx c e) (env := c.env) (F.mark e) (S₅.mark e) hve hk ?_) hd
  refine ⟨rfl, ⟨ob, hob, hobc.trans hcls⟩, ?_⟩
  simp only [if_true]
  refine lands_againW hfl₅ fun h₆ hfl₆ hsm₆ => ?_
  exact h _ _ ((S.flown hfl₆.1 (hsm₅.trans hsm₆)).mark e)
end
end Mine
end
section
open PySem PySem.W PyProof.Rows PySem.SeqAt PySem.MeetsSeq3
namespace Mine
open Sem (wp)
noncomputable def HasB (Γ : Ctx) : Prop := (Γ.below.map (·.1)).any Code.isCaller = true
theorem HasB.enter {Γ : Ctx} (h : HasB Γ) (c : Code) (hd : Option Value) (p : Pos) : HasB (Γ.enter c hd p) := by
  show (((Γ.code, p) :: Γ.below).map (·.1)).any Code.isCaller = true
  rw [List.map_cons, List.any_cons, show (Γ.below.map (·.1)).any Code.isCaller = true from h, Bool.or_true]
noncomputable def wpK {α : Type} (M : Model) (A : Around) (t : Sem α) (Q : α → Shared → Prop) (E : Value → Shared → Prop) (s : Shared) : Prop :=
  ∀ Γ p, Γ.In A → HasB Γ → wp M Γ t (fun a _ s' => Q a s') (fun e _ s' => E e s') p s
noncomputable def codeK (M : Model) (A : Around) (c : Code) (R : Result → Shared → Prop) (s : Shared) : Prop :=
  ∀ Γ p, Γ.code = c → Γ.Below A → HasB Γ → wpCode M Γ R p s
section
variable {α β : Type} {M : Model} {A : Around} {E : Value → Shared → Prop} {s : Shared}
theorem wpK_of {t : Sem α} {Q : α → Shared → Prop} (h : wpAny M A t Q E s) : wpK M A t Q E s := fun Γ p hΓ _ => h Γ p hΓ
theorem codeK_of {c : Code} {R : Result → Shared → Prop} (h : codeAny M A c R s) : codeK M A c R s := fun Γ p hc hΓ _ => h Γ p hc hΓ
theorem wpK_mono {t : Sem α} {Q Q' : α → Shared → Prop} {E' : Value → Shared → Prop} (h : wpK M A t Q E s) (hQ : ∀ a s, Q a s → Q' a s) (hE : ∀ e s, E e s → E' e s) : wpK M A t Q' E' s :=
  fun Γ p hΓ hb => Sem.wp_mono M Γ t (fun a _ s => hQ a s) (fun e _ s => hE e s) p s (h Γ p hΓ hb)
theorem wpK_bind {m : Sem α} {f : α → Sem β} {Q : β → Shared → Prop} (h : wpK M A m (fun a s' => wpK M A (f a) Q E s') E s) : wpK M A (m >>= f) Q E s := fun Γ p hΓ hb => by
  rw [Sem.wp_bind']
  exact Sem.wp_mono M Γ m (fun a p' s' h' => h' Γ p' hΓ hb) (fun _ _ _ h' => h') p s (h Γ p hΓ hb)
theorem wpK_bindA {m : Sem α} {f : α → Sem β} {Q : β → Shared → Prop} (h : wpAny M A m (fun a s' => wpK M A (f a) Q E s') E s) : wpK M A (m >>= f) Q E s := wpK_bind (wpK_of h)
theorem wpK_holding {vs : List Value} {m : Sem α} {Q : α → Shared → Prop} (h : wpK M A m Q E s) : wpK M A (holding vs m) Q E s :=
  fun Γ p hΓ hb => by rw [Sem.wp_holding]; exact h Γ p hΓ hb
theorem wpK_keep {vs : List Value} {m : Sem α} {Q : α → Shared → Prop} (h : wpK M A m Q E s) : wpK M A (m.keep vs) Q E s :=
  fun Γ p hΓ hb => by rw [Sem.wp_keep]; exact h Γ p hΓ hb
theorem wpK_onRaise {m : Sem α} {k : Value → Sem Unit} {Q : α → Shared → Prop} (h : wpK M A m Q (fun e s' => wpAny M A (k e) (fun _ s'' => E e s'') E s') s) : wpK M A (m.onRaise k) Q E s := fun Γ p hΓ hb => by
  rw [Sem.wp_onRaise]
  exact Sem.wp_mono M Γ m (fun _ _ _ h' => h') (fun e p' s' h' => h' Γ p' hΓ) p s (h Γ p hΓ hb)
theorem wpK_attempt {m : Sem α} {Q : Except Value α → Shared → Prop} (h : wpK M A m (fun a => Q (.ok a)) (fun e => Q (.error e)) s) : wpK M A m.attempt Q E s := fun Γ p hΓ hb => by rw [Sem.wp_attempt]; exact h Γ p hΓ hb
theorem wpK_noted {env : Env} {m : Sem α} {Q : α → Shared → Prop} (h : wpK M A m Q (notedBy M A env E) s) : wpK M A (m.onRaise fun x => do noteFrame x env; theTreesLotGoes x) Q E s :=
  wpK_onRaise (wpK_mono h (fun _ _ q => q) fun _ _ hx => wpAny_bind (wpAny_mono hx (fun _ _ e => wpAny_theTreesLotGoes e) fun _ _ e => e))
theorem codeK_of_tree {c : Code} {R : Result → Shared → Prop}
    (h : wpK M (A.under c) (M.den c) (fun fin s' => match fin with | .done f => R (.ok f) s' | .again c' => c'.quiet = true ∧ codeK M A c' R s') (fun e s' => R (.error e) s') s) : codeK M A c R s := fun Γ p hc hΓ hb => by
  rw [wpCode_iff_wp, hc]
  refine Sem.wp_mono M Γ _ (fun fin p' s' h' => ?_) (fun _ _ _ h' => h') p s (h Γ p (hc ▸ hΓ.in) hb)
  cases fin with
  | done f => exact h'
  | again c' => exact ⟨h'.1, h'.2 (Γ.goto c') p' rfl (hΓ.goto c') hb⟩
theorem codeK_loop {c : Code} {R : Result → Shared → Prop} (hq : c.quiet = true) (I : Nat → Shared → Prop)
    (turn : ∀ n s, I n s → wpK M (A.under c) (M.den c) (fun fin s' => match fin with | .done f => R (.ok f) s' | .again c' => (c' = c ∧ ∃ m, m < n ∧ I m s') ∨ (c'.quiet = true ∧ codeK M A c' R s')) (fun e s' => R (.error e) s') s)
    (n : Nat) (h : I n s) : codeK M A c R s := by
  induction n using Nat.strongRecOn generalizing s with
  | ind n ih =>
    refine codeK_of_tree (wpK_mono (turn n s h) (fun fin s' hf => ?_) fun _ _ h' => h')
    cases fin with
    | done f => exact hf
    | again c' =>
      rcases hf with ⟨rfl, m, hm, hI⟩ | hf
      · exact ⟨hq, ih m hm hI⟩
      · exact hf
theorem wpK_run {c : Code} {Q : Flow → Shared → Prop} (hc : codeK M A c (fun r s' => match r with | .ok f => Q f s' | .error e => E e s') s) : wpK M A (run c none) Q E s :=
  fun Γ p hΓ hb => by
    rw [Sem.wp_run]
    have := hΓ.enter c none p (by intro x; cases x)
    exact hc _ p rfl this (hb.enter c none p)
theorem wpK_call {f : Value} {pos : List Value} {kw : List (Str × Value)} {Q : Value → Shared → Prop}
    (hc : codeK M A (.call f ⟨pos, kw⟩) (fun r s' => match r with | .ok (.ret v) => Q v s' | .ok _ => False | .error e => E e s') s) : wpK M A (call f pos kw) Q E s :=
  fun Γ p hΓ hb => by
    show wp M Γ (runValue (.call f ⟨pos, kw⟩)) _ _ p s
    rw [Sem.wp_runValue]
    have := hΓ.enter (.call f ⟨pos, kw⟩) none p (by intro x; cases x)
    exact hc _ p rfl this (hb.enter _ none p)
variable {env : Env}
theorem wpK_execs_cons {st rest} {Q : Flow → Shared → Prop} (h : wpK M A (exec st env) (fun f s' => match f with | .next => wpK M A (execs rest env) Q E s' | f => Q f s') E s) : wpK M A (execs (st :: rest) env) Q E s := fun Γ p hΓ hb => by
  rw [execs_cons, Sem.wp_bind']
  refine Sem.wp_mono M Γ _ (fun f p' s' h' => ?_) (fun _ _ _ h' => h') _ _ (h Γ p hΓ hb)
  cases f <;> first | exact h' Γ p' hΓ hb | exact h'
theorem wpK_If {test body orelse pos} {Q : Flow → Shared → Prop} (h : wpK M A (isTrue test env (eval test env)) (fun b s₂ => if b then wpK M A (execs body env) Q E s₂ else wpK M A (execs orelse env) Q E s₂) E s) :
    wpK M A (exec (.If test body orelse pos) env) Q E s := fun Γ p hΓ hb => by
  simp only [exec_If, Sem.wp_bind', Sem.wp_cmd_standAt]
  refine Sem.wp_mono M Γ _ (fun b p₂ s₂ h₂ => ?_) (fun _ _ _ h' => h') _ _ (h Γ _ hΓ hb)
  cases b <;> exact h₂ Γ p₂ hΓ hb
theorem wpK_isTrue_Not {x : Expr} {pos : Pos} {whole : Sem Value} {Q : Bool → Shared → Prop} (h : wpK M A (isTrue x env (eval x env)) (fun b s₁ => Q (!b) s₁) E s) : wpK M A (isTrue (.UnaryOp .Not x pos) env whole) Q E s := by
  rw [arm_isTrue_UnaryOp]
  exact wpK_bind (wpK_mono h (fun b s₁ h₁ => wpK_of (wpAny_pure h₁)) fun _ _ x => x)
theorem wpK_isTrue_value {e : Expr} {whole : Sem Value} {Q : Bool → Shared → Prop} (h : wpK M A whole (fun v s₁ => wpAny M A (truthy v) Q E s₁) E s)
    (he : isTrue e env whole = (do let v ← whole; standAt e.pos; holding [v] (truthy v))) : wpK M A (isTrue e env whole) Q E s := by
  rw [he]
  exact wpK_bind (wpK_mono h (fun v s₁ h₁ => wpK_of (wpAny_bind (wpAny_standAt (wpAny_holding h₁)))) fun _ _ x => x)
theorem wpK_Assign_Name {x pos' value pos} {Q : Flow → Shared → Prop} (h : wpK M A (eval value env) (fun v s₁ => wpAny M A (storeName env x v) (fun _ => Q .next) E s₁) E s) (hs : swapsWith value (some (.Name x pos')) pos.line env = pure false) :
    wpK M A (exec (.Assign [.Name x pos'] value pos) env) Q E s := fun Γ p hΓ hb => by
  simp only [exec_Assign_Name env x pos' value pos hs, Sem.wp_bind', Sem.wp_cmd_standAt, Sem.wp_bindName, Sem.wp_pure']
  exact Sem.wp_mono M Γ _ (fun v _ s₁ h₁ => h₁ Γ _ hΓ) (fun _ _ _ h' => h') _ _ (h Γ _ hΓ hb)
theorem wpK_For {target iter body orelse pos} {Q : Flow → Shared → Prop}
    (h : wpAny M A (eval iter env) (fun x s₁ => wpAny M A (pyIter x) (fun it s₂ => codeK M A (.forLoop target it body orelse env) (fun r s' => match r with | .ok f => Q f s' | .error e => cameBackBy M A env E e s') s₂) E s₁) E s)
    (hs : ∀ x, foldedSetIterable iter env x = pure x) : wpK M A (exec (.For target iter body orelse pos) env) Q E s := by
  rw [exec_For]
  refine wpK_bindA (wpAny_standAt (wpK_bindA (wpAny_mono h (fun x s₁ h₁ => wpK_bindA (wpAny_of_eq (hs x) (wpK_bindA (wpAny_standAt (wpK_bindA (wpAny_holding (wpAny_mono h₁ (fun it s₂ h₂ => ?_) fun _ _ h' => h'))))))) fun _ _ h' => h')))
  exact wpK_onRaise (wpK_run h₂)
theorem wpK_Call_Name_kw {id : Str} {p pos : Pos} {args : List Expr} {keywords : List Keyword} {Q : Value → Shared → Prop}
    (h : wpAny M A (eval (.Name id p) env) (fun f s₁ => wpK M A (callWith pos f [] (backTo pos (starEach args env)) (backToKw pos (keywordEach keywords env))) Q E s₁) E s) : wpK M A (eval (.Call (.Name id p) args keywords pos) env) Q E s := by
  rw [arm_eval_Call_Name']
  exact wpK_bindA h
theorem callWithK_of {P : Heap → Prop} {pos : Pos} {f : Value} {first : List Value} {Q : Value → Shared → Prop} {args : List (Bool × Sem Value)} {keywords : List (Option Str × Sem Value)} (hplain : (args.any (·.1) || keywords.any (·.1.isNone)) = false)
    (hk : ∀ h, P h → ∃ k, (k = Keeper.frame ∨ k = Keeper.machine ∨ k = Keeper.boundFrame) ∧ Looks M h (keeperOf f) k)
    (h : wpAny M A (evalArgs f true args keywords) (fun a s₁ => P s₁.heap ∧ wpK M A (call f (first ++ a.pos) a.kw) Q E s₁) E s) : wpK M A (callWith pos f first args keywords) Q E s := by
  unfold callWith
  refine wpK_bindA (wpAny_holding (wpAny_mono h (fun a s₁ h₁ => wpK_bindA (wpAny_standAt ?_)) fun _ _ x => x))
  obtain ⟨k, hk', L⟩ := hk _ h₁.1
  simp only [hplain]
  refine wpK_bindA (L.here ?_)
  have tail : ∀ {t : Sem Value}, wpK M A t Q E s₁ → wpK M A (t >>= fun r => holding [r] point >>= fun _ => pure r) Q E s₁ :=
    fun ht => wpK_bind (wpK_mono ht (fun r s₂ hr => wpK_of (wpAny_bind (wpAny_holding (wpAny_point (wpAny_pure hr))))) fun _ _ x => x)
  have marked (mk : Value) : wpK M A (callMarked mk f (first ++ a.pos) a.kw) Q E s₁ := by unfold callMarked; exact wpK_keep h₁.2
  rcases hk' with rfl | rfl | rfl <;> dsimp only <;> first | exact tail h₁.2 | (split <;> first | exact tail h₁.2 | exact tail (marked _))
theorem wpK_Try {body : List Stmt} {h₀ : ExceptHandler} {hs : List ExceptHandler} {pos : Pos} {Q : Flow → Shared → Prop}
    (h : wpK M A (execs body env) (fun f s₁ => Q f s₁)
      (fun e s₁ => wpAny M A (noteFrame e env) (fun _ s₂ => wpAny M A (setFlight e none) (fun _ s₃ => wpAny M A (handleBy e env (h₀ :: hs)) Q E s₃) E s₂) E s₁) s) :
    wpK M A (exec (.Try body (h₀ :: hs) [] [] pos) env) Q E s := by
  rw [arm_exec_Try]
  refine wpK_bindA (wpAny_standAt ?_)
  unfold tryStmt
  simp only [List.isEmpty_nil, if_true, List.isEmpty_cons, Bool.false_and, Bool.false_eq_true, if_false]
  refine wpK_bind (wpK_attempt (wpK_mono h (fun f s₁ h₁ => ?_) fun e s₁ h₁ => ?_))
  · cases f <;> first | exact wpK_of (wpAny_execs_nil h₁) | exact wpK_of (wpAny_pure h₁)
  · exact wpK_of (wpAny_bind (wpAny_mono h₁ (fun _ _ h₂ => wpAny_bind h₂) fun _ _ x => x))
end
section
variable {prog : Program} {w : World} {A : Around} {R : Result → Shared → Prop} {s : Shared}
theorem codeK_func {body env}
    (h : wpK (model prog w) (A.deeper env) (execs body env) (fun f s' => R (.ok (.ret (match f with | .ret v => v | _ => .none))) s')
      (fun e s' => wpAny (model prog w) (A.deeper env) (leaving env e) (fun _ s'' => R (.error e) s'') (fun e' s'' => R (.error e') s'') s') s) :
    codeK (model prog w) A (.func body env) R s := by
  refine codeK_of_tree ?_
  show wpK _ (A.deeper env) (do point; match ← (execs body env).onRaise (leaving env) with | .ret v => ret v | _ => ret .none) _ _ s
  refine wpK_bindA (wpAny_point (wpK_bind (wpK_onRaise (wpK_mono h (fun f s' h' => ?_) fun _ _ h' => h'))))
  cases f <;> exact wpK_of (wpAny_pure h')
theorem codeK_call_function {a : Addr} {args : Args} {o : Obj} {fd : FuncData} {body : List Stmt} (hroom : A.depth < recursionLimit)
    (ho : s.heap.get? a = some o) (hd' : o.data = .func fd) (hco : fd.scope.isCoroutine = false) (hgen : fd.scope.isGenerator = false) (hbody : fd.body = .stmts body) (hcd : s.heap.CodeRec fd.code fd.qualname)
    (h : wpAny (model prog w) A.in1 (bindArgs fd args) (fun binds s₁ =>
      wpAny (model prog w) A.in1 (newFunctionEnv fd.scope fd.globals fd.closure binds (fd.qualname ++ ".<locals>.") (some a) fd.code none fd.builtins)
        (fun env s₂ => s₂.heap.NoLimit ∧ codeK (model prog w) A (.func body env) R s₂) (fun e s' => R (.error e) s') s₁) (fun e s' => R (.error e) s') s) :
    codeK (model prog w) A (.call (.ref a) args) R s := by
  refine codeK_of_tree (wpK_of ?_)
  show wpAny _ A.in1 (callAny (.ref a) args) _ _ s
  simp only [callAny]
  refine wpAny_bind (wpAny_load ho ?_)
  obtain ⟨c, oc, vs, tq, hc, hoc, hdc, hq⟩ := hcd
  simp only [hd', callFunction, hco, hgen, hbody, hc]
  rw [hc] at h
  refine wpAny_bind (m := field (.ref c) 1) (wpAny_field hoc hdc hq (wpAny_bind (wpAny_pure ?_)))
  exact wpAny_bind (wpAny_mono h (fun binds s₁ h₁ => wpAny_bind (wpAny_mono h₁ (fun env s₂ h₂ => wpAny_bind (wpAny_enterFrame h₂.1 hroom
    (wpAny_pure (And.intro rfl h₂.2)))) fun _ _ h' => h')) fun _ _ h' => h')
theorem codeK_forLoop {target it body env} (I : Nat → Shared → Prop)
    (turn : ∀ n s, I n s → wpAny (model prog w) A (pyNext it) (fun r s₁ => match r with
      | none => R (.ok .next) s₁
      | some v => wpAny (model prog w) A (letOwnedTupleGo target it v) (fun _ s₁' =>
          wpAny (model prog w) A (assign target env v) (fun _ s₂ => wpK (model prog w) A (execs body env) (fun f s₃ => match f with
            | .next | .cont => ∃ m, m < n ∧ I m s₃
            | .brk => R (.ok .next) s₃
            | .ret v => R (.ok (.ret v)) s₃) (notedBy (model prog w) A env fun e s' => R (.error e) s') s₂) (notedBy (model prog w) A env fun e s' => R (.error e) s') s₁') (notedBy (model prog w) A env fun e s' => R (.error e) s') s₁) (notedBy (model prog w) A env fun e s' => R (.error e) s') s)
    (n : Nat) (h : I n s) : codeK (model prog w) A (.forLoop target it body [] env) R s := by
  refine codeK_loop rfl I (fun n s hI => ?_) n h
  show wpK _ A ((forTurn target it body [] env).onRaise (fun x => do noteFrame x env; theTreesLotGoes x)) _ _ s
  refine wpK_noted ?_
  simp only [forTurn]
  refine wpK_bindA (wpAny_standAt (wpK_bindA (wpAny_onRaise (wpAny_mono (turn n s hI) (fun r s₁ h₁ => ?_) fun _ _ h' => wpAny_standAt h'))))
  cases r with
  | none => exact wpK_of (wpAny_pure (.inr ⟨rfl, codeK_of (codeAny_block (wpAny_execs_nil h₁))⟩))
  | some v =>
    refine wpK_bindA (wpAny_mono h₁ (fun _ s₁' h₁' => ?_) fun _ _ h' => h')
    refine wpK_bindA (wpAny_mono h₁' (fun _ s₂ h₂ => wpK_bind (wpK_mono h₂ (fun f s₃ h₃ => ?_) fun _ _ h' => h')) fun _ _ h' => h')
    cases f with
    | next => exact wpK_of (wpAny_pure (.inl ⟨rfl, h₃⟩))
    | cont => exact wpK_of (wpAny_pure (.inl ⟨rfl, h₃⟩))
    | brk => exact wpK_of (wpAny_pure h₃)
    | ret v => exact wpK_of (wpAny_pure h₃)
end
end Mine
end
section
open PySem PySem.W PyProof.Rows PySem.SeqAt PySem.MeetsSeq3
namespace Mine
section
variable (W : Wd) (c : Fx)
noncomputable def KEV (ρ : Rho) (e : Expr) (Q : V → Prop) : Prop :=
  ∀ (g : Gh) (s : Shared) (Qc : Value → Shared → Prop) (E : Value → Shared → Prop), Sim W c ρ g s →
    (∀ v val G' s', Q v → g.G.le G' → Sim W c ρ { g with G := G' } s' → Rep G' val v → Qc val s') → wpK (model W.prog W.w) c.A (eval e c.env) Qc E s
noncomputable def KEVX (ρ : Rho) (e : Expr) (Q : V → Rho → Prop) : Prop :=
  ∀ (g : Gh) (s : Shared) (Qc : Value → Shared → Prop) (E : Value → Shared → Prop), Sim W c ρ g s →
    (∀ v val ρ' g' s', Q v ρ' → g.le g' → Sim W c ρ' g' s' → Rep g'.G val v → Qc val s') → wpK (model W.prog W.w) c.A (eval e c.env) Qc E s
noncomputable def KETX (ρ : Rho) (e : Expr) (Q : Bool → Rho → Prop) : Prop :=
  ∀ (g : Gh) (s : Shared) (Qc : Bool → Shared → Prop) (E : Value → Shared → Prop), Sim W c ρ g s →
    (∀ b ρ' g' s', Q b ρ' → g.le g' → Sim W c ρ' g' s' → Qc b s') → wpK (model W.prog W.w) c.A (isTrue e c.env (eval e c.env)) Qc E s
noncomputable def KEX (ρ : Rho) (st : Stmt) (Qn : Rho → Prop) (Qr : V → Rho → Prop) : Prop :=
  ∀ (g : Gh) (s : Shared) (Qc : Flow → Shared → Prop) (E : Value → Shared → Prop), Sim W c ρ g s →
    (∀ ρ' g' s', Qn ρ' → g.le g' → Sim W c ρ' g' s' → Qc .next s') → (∀ v val ρ' g' s', Qr v ρ' → g.le g' → Sim W c ρ' g' s' → Rep g'.G val v → Qc (.ret val) s') →
    wpK (model W.prog W.w) c.A (exec st c.env) Qc E s
noncomputable def KEXS (ρ : Rho) (st : List Stmt) (Qn : Rho → Prop) (Qr : V → Rho → Prop) : Prop :=
  ∀ (g : Gh) (s : Shared) (Qc : Flow → Shared → Prop) (E : Value → Shared → Prop), Sim W c ρ g s →
    (∀ ρ' g' s', Qn ρ' → g.le g' → Sim W c ρ' g' s' → Qc .next s') → (∀ v val ρ' g' s', Qr v ρ' → g.le g' → Sim W c ρ' g' s' → Rep g'.G val v → Qc (.ret val) s') →
    wpK (model W.prog W.w) c.A (execs st c.env) Qc E s
noncomputable def KEVE (ρ : Rho) (e : Expr) (Q : V → Prop) (Qe : Prop) : Prop :=
  ∀ (g : Gh) (s : Shared) (Qc : Value → Shared → Prop) (E : Value → Shared → Prop), Sim W c ρ g s →
    (∀ v val G' s', Q v → g.G.le G' → Sim W c ρ { g with G := G' } s' → Rep G' val v → Qc val s') →
    (∀ G' s' h' ex tk, Qe → g.G.le G' → Sim W c ρ { g with G := G' } s' → Heap.NewExc s'.heap h' ex "ValueError" → E (.ref ex) { s' with heap := h', toks := tk }) → wpK (model W.prog W.w) c.A (eval e c.env) Qc E s
end
section
variable {W : Wd} {c : Fx} {ρ : Rho} {k : Nat}
theorem KEX_of {st Qn Qr} (h : EX W c ρ st Qn Qr) : KEX W c ρ st Qn Qr := fun g s Qc E S hn hr => wpK_of (h g s Qc E S hn hr)
theorem KEXS_of {st Qn Qr} (h : EXS W c ρ st Qn Qr) : KEXS W c ρ st Qn Qr := fun g s Qc E S hn hr => wpK_of (h g s Qc E S hn hr)
theorem KEXS_nil {Qn Qr} (h : Qn ρ) : KEXS W c ρ [] Qn Qr := KEXS_of (EXS_nil h)
theorem KEXS_cons {st rest Qn Qr} (h : KEX W c ρ st (fun ρ' => KEXS W c ρ' rest Qn Qr) Qr) : KEXS W c ρ (st :: rest) Qn Qr := fun g s Qc E S hn hr =>
  wpK_execs_cons (h g s _ E S (fun ρ' g' s' q hG S' => q g' s' Qc E S' (fun ρ'' g'' s'' q' hG' => hn ρ'' g'' s'' q' (hG.trans hG')) fun v val ρ'' g'' s'' q' hG' => hr v val ρ'' g'' s'' q' (hG.trans hG'))
    fun v val ρ' g' s' q hG S' r => hr v val ρ' g' s' q hG S' r)
theorem KEXS_consA {st rest Qn Qr} (h : EX W c ρ st (fun ρ' => KEXS W c ρ' rest Qn Qr) Qr) : KEXS W c ρ (st :: rest) Qn Qr := KEXS_cons (KEX_of h)
theorem KEXS_freeze {x : Str} {xs : List V} {st : List Stmt} {Qn : Rho → Prop} {Qr : V → Rho → Prop} (hx : ρ.lookup x = some (.own xs)) (hp : c.pin.lookup x = none) (h : KEXS W c ((x, .val (.list xs)) :: ρ) st Qn Qr) : KEXS W c ρ st Qn Qr :=
  fun g s Qc E S hn hr => by
    obtain ⟨G', hG, S'⟩ := S.freeze hx hp
    exact h _ s Qc E S' (fun ρ' g' s' q hG' => hn ρ' g' s' q ((Gh.le.of hG).trans hG')) fun v val ρ' g' s' q hG' => hr v val ρ' g' s' q ((Gh.le.of hG).trans hG')
theorem KEXS_sub {ρ' : Rho} {st : List Stmt} {Qn : Rho → Prop} {Qr : V → Rho → Prop} (hs : ∀ x sl, ρ'.lookup x = some sl → ρ.lookup x = some sl) (h : KEXS W c ρ' st Qn Qr) : KEXS W c ρ st Qn Qr :=
  fun g s Qc E S => h g s Qc E (S.sub hs)
theorem KEX_If {test body orelse pos Qn Qr} (h : ET W c ρ test fun b => if b then KEXS W c ρ body Qn Qr else KEXS W c ρ orelse Qn Qr) : KEX W c ρ (.If test body orelse pos) Qn Qr := fun g s Qc E S hn hr => by
  refine wpK_If (wpK_of (h g s _ E S fun b G' s' q hG S' => ?_))
  cases b
  · exact q _ s' Qc E S' (fun ρ'' g'' s'' q' hG' => hn ρ'' g'' s'' q' ((Gh.le.of hG).trans hG')) fun v val ρ'' g'' s'' q' hG' => hr v val ρ'' g'' s'' q' ((Gh.le.of hG).trans hG')
  · exact q _ s' Qc E S' (fun ρ'' g'' s'' q' hG' => hn ρ'' g'' s'' q' ((Gh.le.of hG).trans hG')) fun v val ρ'' g'' s'' q' hG' => hr v val ρ'' g'' s'' q' ((Gh.le.of hG).trans hG')
theorem KEX_IfX {test body orelse pos Qn Qr} (h : KETX W c ρ test fun b ρ' => if b then KEXS W c ρ' body Qn Qr else KEXS W c ρ' orelse Qn Qr) : KEX W c ρ (.If test body orelse pos) Qn Qr := fun g s Qc E S hn hr => by
  refine wpK_If (h g s _ E S fun b ρ' g' s' q hG S' => ?_)
  cases b
  · exact q _ s' Qc E S' (fun ρ'' g'' s'' q' hG' => hn ρ'' g'' s'' q' (hG.trans hG')) fun v val ρ'' g'' s'' q' hG' => hr v val ρ'' g'' s'' q' (hG.trans hG')
  · exact q _ s' Qc E S' (fun ρ'' g'' s'' q' hG' => hn ρ'' g'' s'' q' (hG.trans hG')) fun v val ρ'' g'' s'' q' hG' => hr v val ρ'' g'' s'' q' (hG.trans hG')
theorem KETX_Not {x pos} {Q : Bool → Rho → Prop} (h : KETX W c ρ x fun b ρ' => Q (!b) ρ') : KETX W c ρ (.UnaryOp .Not x pos) Q := fun g s Qc E S hq =>
  wpK_isTrue_Not (h g s _ E S fun b ρ' g' s' q hG S' => hq _ ρ' g' s' q hG S')
theorem KETX_value {e : Expr} {Q : Bool → Rho → Prop} (he : ∀ whole, isTrue e c.env whole = (do let v ← whole; standAt e.pos; holding [v] (truthy v))) (h : KEVX W c ρ e fun v ρ' => TV W c ρ' v fun b => Q b ρ') : KETX W c ρ e Q := fun g s Qc E S hq => by
  refine wpK_isTrue_value (h g s _ E S fun v val ρ' g' s3 h3 hG3 S3 r3 => ?_) (he _)
  exact h3 _ s3 val Qc E S3 r3 fun b' s' q S' => hq b' ρ' g' s' q hG3 S'
theorem KEX_Assign {x : Str} {px pos : Pos} {e : Expr} {Qn : Rho → Prop} {Qr : V → Rho → Prop} (F : FK c) (hk : Storable c x) (h : KEV W c ρ e fun v => Qn ((x, .val v) :: ρ))
    (hs : swapsWith e (some (.Name x px)) pos.line c.env = pure false := by rfl) : KEX W c ρ (.Assign [.Name x px] e pos) Qn Qr := fun g s Qc E S hn hr => by
  refine wpK_Assign_Name (h g s _ E S fun v val G' s' q hG S' r => ?_) hs
  exact wp_storeVal F S' hk r fun g' s'' hG' hX _ S'' => hn _ g' s'' q ⟨hG' ▸ hG, hX⟩ S''
theorem KEX_Return {e pos Qn Qr} (h : KEV W c ρ e fun v => Qr v ρ) (he : ∀ Q E s, wpK (model W.prog W.w) c.A (eval e c.env) (fun v => Q (Flow.ret v)) E s → wpK (model W.prog W.w) c.A (exec (.Return (some e) pos) c.env) Q E s) : KEX W c ρ (.Return (some e) pos) Qn Qr := fun g s Qc E S hn hr =>
  he _ _ _ (h g s _ E S fun v val G' s' q hG S' r => hr v val ρ { g with G := G' } s' q ⟨hG, rfl⟩ S' r)
theorem wpK_Return {M : Model} {A : Around} {env : Env} {e pos} {Q : Flow → Shared → Prop} {E : Value → Shared → Prop} {s : Shared} (h : wpK M A (eval e env) (fun v => Q (.ret v)) E s) : wpK M A (exec (.Return (some e) pos) env) Q E s := fun Γ p hΓ hb => by
  simp only [exec_Return_some, Sem.wp_bind', Sem.wp_cmd_standAt, Sem.wp_pure']; exact h Γ _ hΓ hb
theorem KEX_For {target iter : Expr} {body : List Stmt} {pos : Pos} {Qn : Rho → Prop} {Qr : V → Rho → Prop} (F : FOk k c)
    (h : EVI W c ρ True iter fun xs => ∃ J : Nat → Rho → Prop, J 0 ρ ∧ (∀ i x ρ', xs[i]? = some x → J i ρ' → ASG W c ρ' target x fun ρ'' => KEXS W c ρ'' body (J (i + 1)) Qr) ∧ ∀ ρ', J xs.length ρ' → Qn ρ')
    (hs : ∀ x, foldedSetIterable iter c.env x = pure x := by intro _; rfl) : KEX W c ρ (.For target iter body [] pos) Qn Qr := fun g s Qc E S hn hr => by
  refine wpK_For (h g s _ E S fun xs I dep G1 s1 P St q hG1 S1 it st0 hdep hfz hI hlob => ?_) hs
  obtain ⟨J, j0, jt, jn⟩ := q
  obtain ⟨fp, Wk, hfp⟩ := it.walks
  have hdG : GM.le dep G1 := hfz trivial
  refine codeK_forLoop (fun n s' => ∃ i ρ' g', n = xs.length + 1 - i ∧ i ≤ xs.length ∧ J i ρ' ∧ ({ g with G := G1 } : Gh).le g' ∧ Sim W c ρ' g' s' ∧ St i s'.heap) ?_ (xs.length + 1) ⟨0, ρ, { g with G := G1 }, by exact om191, Nat.zero_le _, j0, .refl _, S1, st0⟩
  rintro n s' ⟨i, ρ', g', rfl, hi, hj, hle, S', hst⟩
  by_cases hlt : i < xs.length
  · obtain ⟨x, hx⟩ : ∃ x, xs[i]? = some x := ⟨xs[i], by simp [hlt]⟩
    obtain ⟨o0, ws0, ho0, hd0, _⟩ := it.fields _ _ hst
    refine Wk.item i s' _ _ hlt hst fun v h2 tk hv hst2 hk2 => ?_
    have hk2 : ∀ b o, b ≠ I → s'.heap.get? b = some o → h2.get? b = some o := fun b o hb e => hk2 b o (by simpa using hb) e
    have S2 : Sim W c ρ' g' { s' with heap := h2, toks := tk } := S'.other ⟨o0, ws0, ho0, hd0⟩ ⟨hI.1, hI.2.1, by rw [hle.2]; exact hI.2.2⟩ hk2
    obtain ⟨o2, ws2, ho2, hd2, hc2⟩ := it.fields _ _ hst2
    refine wp_letTuple (s := { s' with heap := h2, toks := tk }) ho2 hd2 hc2 ?_
    have S3 := S2.withX ho2 hd2
    have hr3 : Rep g'.G v x := (it.rep i v x hv hx).mono hle.1
    refine jt i x ρ' hx hj _ _ v _ _ S3 hr3 fun ρ'' g'' s'' q'' hG'' S'' => ?_
    refine q'' g'' s'' _ _ S'' (fun ρ3 g3 s3 q3 hG3 S4 => ?_) fun rv val ρ3 g3 s3 q3 hG3 S4 r4 => ?_
    · have hX3 : g3.X = addX g'.X I o2 := (hG''.trans hG3).2
      have hI3 : s3.heap.get? I = some o2 := S4.xp I o2 (by rw [hX3]; simp [addX])
      have hXle : g'.X.le g3.X := fun b o e => by
        rw [hX3]
        have : (if b = I then some o2 else g'.X b) = some o := by
          rw [if_neg]; exact e
          intro q; rw [q, hle.2] at e; rw [hI.2.2] at e; cases e
        exact this
      refine ⟨xs.length + 1 - (i + 1), by exact om305 hlt, i + 1, ρ3, { g3 with X := g'.X }, rfl, hlt, q3, ?_, S4.lessX hXle, ?_⟩
      · exact ⟨(hle.1.trans hG''.1).trans hG3.1, hle.2⟩
      · refine Wk.frame (i + 1) h2 s3.heap hst2 fun b hb o e => ?_
        rcases hfp b hb with rfl | ⟨od, hod⟩
        · rw [ho2] at e; cases e; exact hI3
        · have h5 := S2.fr b od (hle.1 _ _ (hdG _ _ hod))
          have h5 : h2.get? b = some od := h5
          rw [h5] at e; cases e
          exact S4.fr b _ (hG3.1 _ _ (hG''.1 _ _ (hle.1 _ _ (hdG _ _ hod))))
    · refine hr rv val ρ3 { g3 with X := g'.X } s3 q3 ⟨((hG1.trans hle.1).trans hG''.1).trans hG3.1, hle.2⟩ (S4.lessX fun b o e => ?_) r4
      have hX3 : g3.X = addX g'.X I o2 := (hG''.trans hG3).2
      rw [hX3]
      have : (if b = I then some o2 else g'.X b) = some o := by
        rw [if_neg]; exact e
        intro q; rw [q, hle.2] at e; rw [hI.2.2] at e; cases e
      exact this
  · have hin : i = xs.length := by exact om300 hi hlt
    subst hin
    obtain ⟨o0, ws0, ho0, hd0, _⟩ := it.fields _ _ hst
    refine Wk.done s' _ _ hst fun h2 tk hk2 => ?_
    have S2 : Sim W c ρ' g' { s' with heap := h2, toks := tk } := S'.other ⟨o0, ws0, ho0, hd0⟩ ⟨hI.1, hI.2.1, by rw [hle.2]; exact hI.2.2⟩ fun b o hb e => hk2 b o (by simpa using hb) e
    exact hn ρ' g' _ (jn ρ' hj) ((Gh.le.of hG1).trans hle) S2
noncomputable def KCV (W : Wd) (c : Fx) (ρ : Rho) (f : Value) (args : List V) (kw : List (Str × V)) (Q : V → Prop) (Qe : Prop) : Prop :=
  ∀ (g : Gh) (s : Shared) (vals kvals : List Value) (Qc : Value → Shared → Prop) (E : Value → Shared → Prop), Sim W c ρ g s → Reps g.G vals args → Reps g.G kvals (kw.map (·.2)) →
    (∀ v val G' s', Q v → g.G.le G' → Sim W c ρ { g with G := G' } s' → Rep G' val v → Qc val s') →
    (∀ G' s' h' ex tk, Qe → g.G.le G' → Sim W c ρ { g with G := G' } s' → Heap.NewExc s'.heap h' ex "ValueError" → E (.ref ex) { s' with heap := h', toks := tk }) → wpK (model W.prog W.w) c.A (call f vals ((kw.map (·.1)).zip kvals)) Qc E s
theorem wpK_callWith {W : Wd} {c : Fx} {ρ : Rho} {pos : Pos} {f : Value} {first : List Value} {args : List Expr} {kws : List Keyword} {names : List Str} {Q : List V → List V → Prop} {g : Gh} {s : Shared} {Qc : Value → Shared → Prop} {E : Value → Shared → Prop} (hf : IsFn W f) (S : Sim W c ρ g s)
    (hplain : ((backTo pos (starEach args c.env)).any (·.1) || (backToKw pos (keywordEach kws c.env)).any (·.1.isNone)) = false)
    (hall : (backToKw pos (keywordEach kws c.env)).all (·.1.isSome) = true) (hnames : (backToKw pos (keywordEach kws c.env)).filterMap (·.1) = names)
    (h : EVL W c ρ args fun xs => EVK W c ρ kws fun ys => Q xs ys)
    (hq : ∀ xs ys vals kvals G' s', Q xs ys → g.G.le G' → Sim W c ρ { g with G := G' } s' → Reps G' vals xs → Reps G' kvals ys → wpK (model W.prog W.w) c.A (call f (first ++ vals) (names.zip kvals)) Qc E s')
    (he : ∀ e r, args = e :: r → starEach (e :: r) c.env = (false, eval e c.env) :: starEach r c.env) :
    wpK (model W.prog W.w) c.A (callWith pos f first (backTo pos (starEach args c.env)) (backToKw pos (keywordEach kws c.env))) Qc E s := by
  refine callWithK_of (P := fun h => ∀ b o, W.H0.get? b = some o → h.get? b = some o) hplain (keeps_fn hf) ?_
  have key := h g s pos (fun vals s' => wpAny (model W.prog W.w) c.A (evalAll ((backToKw pos (keywordEach kws c.env)).map (·.2))) (fun ks s₂ =>
      (∀ b o, W.H0.get? b = some o → s₂.heap.get? b = some o) ∧ wpK (model W.prog W.w) c.A (call f (first ++ vals) (names.zip ks)) Qc E s₂) E s') E S
    fun xs vals G1 s1 h1 hG1 S1 r1 => h1 _ s1 pos _ E S1 fun ys ks G2 s2 h2 hG2 S2 r2 => ⟨S2.base, hq xs ys vals ks G2 s2 h2 (hG1.trans hG2) S2 (r1.mono hG2) r2⟩
  cases args with
  | nil =>
    refine evalArgs_kw2_nil hall ?_
    rw [hnames]
    exact fun Γ p hΓ => (key Γ p hΓ : wpAny _ _ _ _ _ _) Γ p hΓ
  | cons e r =>
    refine evalArgs_kw2 hall ?_ (he e r rfl)
    rw [hnames]
    exact key
theorem KEVE_Call {x : Str} {p pos : Pos} {f : Value} {args : List Expr} {kws : List Keyword} {names : List Str} {Q : V → Prop} {Qe : Prop} (F : FK c) (hx : Glo W x f) (hk : c.env.kindOf x = some .globalImplicit) (hf : IsFn W f)
    (h : EVL W c ρ args fun xs => EVK W c ρ kws fun ys => names.length = ys.length ∧ KCV W c ρ f xs (names.zip ys) Q Qe)
    (hd : (x == ("__debug__" : Str)) = false := by kernel_rfl)
    (hplain : ((backTo pos (starEach args c.env)).any (·.1) || (backToKw pos (keywordEach kws c.env)).any (·.1.isNone)) = false := by rfl)
    (hall : (backToKw pos (keywordEach kws c.env)).all (·.1.isSome) = true := by rfl) (hnames : (backToKw pos (keywordEach kws c.env)).filterMap (·.1) = names := by rfl)
    (he : ∀ e r, args = e :: r → starEach (e :: r) c.env = (false, eval e c.env) :: starEach r c.env := by (intro e r h; cases h; rfl)) :
    KEVE W c ρ (.Call (.Name x p) args kws pos) Q Qe := fun g s Qc E S hq hE => by
  refine wpK_Call_Name_kw (wpAny_Name (wp_global (env := c.env) F S hx hk ?_) hd)
  refine wpK_callWith hf S hplain hall hnames h (fun xs ys vals kvals G' s' q hG S' r r' => ?_) he
  obtain ⟨hl, q⟩ := q
  have e1 : (names.zip ys).map (·.1) = names := by rw [List.map_fst_zip]; exact om280 hl
  have e2 : (names.zip ys).map (·.2) = ys := by rw [List.map_snd_zip]; exact om315 hl
  have := q _ s' vals kvals Qc E S' r (by rw [e2]; exact r') (fun v val G'' s'' qq hG'' => hq v val G'' s'' qq (hG.trans hG'')) fun G'' s'' h' ex tk qq hG'' => hE G'' s'' h' ex tk qq (hG.trans hG'')
  rw [e1] at this
  exact this
theorem KEV_of_E {e : Expr} {Q : V → Prop} (h : KEVE W c ρ e Q False) : KEV W c ρ e Q := fun g s Qc E S hq => h g s Qc E S hq fun _ _ _ _ _ q => q.elim
noncomputable def KFN (W : Wd) (k : Nat) (f : Value) (args : List V) (kw : List (Str × V)) (Q : V → Prop) : Prop :=
  ∀ (A : Around) (G : GM) (s : Shared) (vals kvals : List Value) (Qc : Value → Shared → Prop) (E : Value → Shared → Prop), AOk k A → At W A G s → Reps G vals args → Reps G kvals (kw.map (·.2)) →
    (∀ v val G' s', Q v → Aft W A (fun _ => False) G s G' s' → Rep G' val v → Qc val s') → wpK (model W.prog W.w) A (call f vals ((kw.map (·.1)).zip kvals)) Qc E s
noncomputable def KFNm (W : Wd) (k : Nat) (f : Value) (xs : List V) (args : List V) (kw : List (Str × V)) (Q : V → List V → Prop) : Prop :=
  ∀ (A : Around) (G : GM) (s : Shared) (a : Addr) (vs : Array Value) (n : Nat) (vals kvals : List Value) (Qc : Value → Shared → Prop) (E : Value → Shared → Prop), AOk k A → At W A G s →
    s.heap.get? a = some (lobj vs n) → Reps G vs.toList xs → G a = none → W.H0.get? a = none → Reps G vals args → Reps G kvals (kw.map (·.2)) →
    (∀ v ys val G' s' vs' n', Q v ys → Aft W A (fun b => b = a) G s G' s' → Rep G' val v → s'.heap.get? a = some (lobj vs' n') → Reps G' vs'.toList ys → G' a = none → Qc val s') →
      wpK (model W.prog W.w) A (call f (.ref a :: vals) ((kw.map (·.1)).zip kvals)) Qc E s
theorem KCV_of_KFN {k' f args kw} {Q : V → Prop} (F : FOk k' c) (h : KFN W k f args kw Q) (hk : k ≤ k') : KCV W c ρ f args kw Q False := fun g s vals kvals Qc E S r r' hq _ =>
  h c.A g.G s vals kvals Qc E (F.toAOk.le hk) S.at r r' fun v val G' s' q a rr => hq v val G' s' q a.le (S.aft a) rr
theorem KEVX_CallM {f x : Str} {p0 p pos : Pos} {fv : Value} {xs : List V} {args : List Expr} {kws : List Keyword} {names : List Str} {k' : Nat} {Q : V → Rho → Prop} (F : FOk k c) (hf0 : Glo W f fv) (hkf : c.env.kindOf f = some .globalImplicit) (hf : IsFn W fv) (hx : ρ.lookup x = some (.own xs)) (hk' : k' ≤ k)
    (h : EVL W c ρ args fun as => EVK W c ρ kws fun ks => names.length = ks.length ∧ KFNm W k' fv xs as (names.zip ks) fun v ys => Q v ((x, .own ys) :: ρ))
    (hd : (f == ("__debug__" : Str)) = false := by kernel_rfl) (hxd : (x == ("__debug__" : Str)) = false := by kernel_rfl) (hcd : (x == ("__classdict__" : Str)) = false := by kernel_rfl)
    (hplain : ((backTo pos (starEach (.Name x p0 :: args) c.env)).any (·.1) || (backToKw pos (keywordEach kws c.env)).any (·.1.isNone)) = false := by rfl)
    (hall : (backToKw pos (keywordEach kws c.env)).all (·.1.isSome) = true := by rfl) (hnames : (backToKw pos (keywordEach kws c.env)).filterMap (·.1) = names := by rfl)
    (he0 : starEach (.Name x p0 :: args) c.env = (false, eval (.Name x p0) c.env) :: starEach args c.env := by rfl) :
    KEVX W c ρ (.Call (.Name f p) (.Name x p0 :: args) kws pos) Q := fun g s Qc E S hq => by
  refine wpK_Call_Name_kw (wpAny_Name (wp_global (env := c.env) F.toFK S hf0 hkf ?_) hd)
  refine callWithK_of (P := fun h => ∀ b o, W.H0.get? b = some o → h.get? b = some o) hplain (keeps_fn hf) ?_
  refine evalArgs_kw2 hall ?_ he0
  rw [hnames]
  refine wpAny_items_cons ?_ he0
  obtain ⟨hv, _⟩ := S.slot x _ hx
  refine wpAny_Name (wp_load F.toFK S hv ?_ hcd) hxd
  refine h g s pos _ E S fun as vals G1 s1 h1 hG1 S1 r1 => ?_
  refine h1 _ s1 pos _ E S1 fun ys kvals G2 s2 h2 hG2 S2 r2 => ?_
  obtain ⟨hlen, h2⟩ := h2
  refine ⟨S2.base, ?_⟩
  have e1 : (names.zip ys).map (·.1) = names := by rw [List.map_fst_zip]; exact om280 hlen
  have e2 : (names.zip ys).map (·.2) = ys := by rw [List.map_snd_zip]; exact om315 hlen
  obtain ⟨_, ⟨vs, n, l1, l2⟩, l3, l4, _⟩ := S2.slot x _ hx
  have := h2 c.A G2 s2 (g.adr x) vs n vals kvals Qc E (F.toAOk.le hk') S2.at l1 l2 l3 l4 (r1.mono hG2) (by rw [e2]; exact r2) fun v zs val G' s' vs' n' q a rv hl' hr' hG' => by
    have S3 := S2.aftM hx a hl' hr' hG'
    exact hq v val _ _ s' q (Gh.le.of ((hG1.trans hG2).trans a.le)) S3 rv
  rw [e1] at this
  exact this
noncomputable def KE (W : Wd) (c : Fx) (ρ : Rho) (sts : List Stmt) (Qn : Rho → Prop) (Qe : Rho → Prop) : Prop :=
  ∀ (g : Gh) (s : Shared) (Qc : Flow → Shared → Prop) (E : Value → Shared → Prop), Sim W c ρ g s →
    (∀ ρ' g' s', Qn ρ' → g.le g' → Sim W c ρ' g' s' → Qc .next s') →
    (∀ ρ' g' s' h' ex tk, Qe ρ' → g.le g' → Sim W c ρ' g' s' → Heap.NewExc s'.heap h' ex "ValueError" → E (.ref ex) { s' with heap := h', toks := tk }) → wpK (model W.prog W.w) c.A (execs sts c.env) Qc E s
theorem KE_Assign {x : Str} {px pos : Pos} {e : Expr} {rest : List Stmt} {Qn Qe : Rho → Prop} (F : FK c) (hk : Storable c x) (h : KEVE W c ρ e (fun v => EXS W c ((x, .val v) :: ρ) rest Qn fun _ _ => False) (Qe ρ))
    (hs : swapsWith e (some (.Name x px)) pos.line c.env = pure false := by rfl) : KE W c ρ (.Assign [.Name x px] e pos :: rest) Qn Qe := fun g s Qc E S hn hE => by
  refine wpK_execs_cons (wpK_Assign_Name (h g s _ E S (fun v val G' s' q hG S' r => ?_) fun G' s' h' ex tk q hG S' hx => hE ρ _ s' h' ex tk q (Gh.le.of hG) S' hx) hs)
  refine wp_storeVal F S' hk r fun g' s'' hG' hX _ S'' => wpK_of ?_
  exact q g' s'' Qc E S'' (fun ρ' g3 s3 q3 hG3 S3 => hn ρ' g3 s3 q3 (Gh.le.trans ⟨hG' ▸ hG, hX⟩ hG3) S3) fun v val ρ' g3 s3 q3 => q3.elim
theorem KEX_Try {body : List Stmt} {x : Str} {np hpos pos : Pos} {b₀ : Stmt} {suite : List Stmt} {Qn : Rho → Prop} {Qr : V → Rho → Prop} (F : FK c) (hown : c.own = true) (hve : Glo W x (.type "ValueError")) (hk : c.env.kindOf x = some .globalImplicit)
    (h : KE W c ρ body Qn fun ρ' => ∀ e, FK (markFx c e) → EXS W (markFx c e) ρ' (b₀ :: suite) Qn Qr) (hd : (x == ("__debug__" : Str)) = false := by kernel_rfl) :
    KEX W c ρ (.Try body [.ExceptHandler (some (.Name x np)) none (b₀ :: suite) hpos] [] [] pos) Qn Qr := fun g s Qc E S hn hr => by
  refine wpK_Try (h g s _ _ S (fun ρ' g' s' q hG S' => hn ρ' g' s' q hG S') fun ρ' g' s' h' ex tk q hG S' hx => ?_)
  refine wp_catch F hown S' hx hve hk hd fun s₂ E' S₂ => ?_
  exact q ex (F.mark ex) g' s₂ Qc E' S₂ (fun ρ'' g'' s'' q' hG' S'' => hn ρ'' g'' s'' q' (hG.trans hG') S''.unmark) fun v val ρ'' g'' s'' q' hG' S'' r => hr v val ρ'' g'' s'' q' (hG.trans hG') S''.unmark r
end
end Mine
end
section
open PySem PySem.W PyProof.Rows PySem.SeqAt PySem.MeetsSeq3
namespace Mine
theorem wp_enterK {W : Wd} {k : Nat} {a : Addr} {fd : FuncData} {name : Str} {scope : Scope} {body : List Stmt} (X : FnAt W a fd name scope body) (hlim : W.H0.NoLimit)
    {A : Around} {G : GM} {s : Shared} {vals : List Value} {kw : List (Str × Value)} {bv : List (Str × Value)} {ρ₀ : List (Str × V)} {R : Result → Shared → Prop} {ex : Addr → Prop} {pin : List (Str × Addr)} (hA : AOk (k + 1) A) (h0 : At W A G s)
    (hb : Binds W fd ⟨vals, kw⟩ bv) (hn : bv.map (·.1) = ρ₀.map (·.1)) (hr : Reps G (bv.map (·.2)) (ρ₀.map (·.2))) (hnd : (ρ₀.map (·.1)).Nodup)
    (hkind : ∀ x ∈ ρ₀.map (·.1), scope.names.lookup x = some .local ∨ (scope.names.lookup x = some .cell ∧ ∀ n, ((cellsFrom n scope.names []).lookup x).isSome = true))
    (h : ∀ L cd g s₁, FOk k (fx name scope L a cd (A.deeper (envOfC name scope L a cd)) s.heap.get? G ex pin) → Sim W (fx name scope L a cd (A.deeper (envOfC name scope L a cd)) s.heap.get? G ex pin) (ρ₀.map fun p => (p.1, .val p.2)) g s₁ → g.G = G → L ∉ fsOf A →
      s.heap.get? L = none → fsOf (A.deeper (envOfC name scope L a cd)) = L :: fsOf A → (∀ b o, s.heap.get? b = some o → s₁.heap.get? b = some o) →
      wpK (model W.prog W.w) (A.deeper (envOfC name scope L a cd)) (execs body (envOfC name scope L a cd)) (fun f s' => R (.ok (.ret (match f with | .ret v => v | _ => .none))) s')
        (fun e s' => wpAny (model W.prog W.w) (A.deeper (envOfC name scope L a cd)) (leaving (envOfC name scope L a cd) e) (fun _ s'' => R (.error e) s'') (fun e' s'' => R (.error e') s'') s') s₁)
    (hco : scope.isCoroutine = false := by rfl) (hgen : scope.isGenerator = false := by rfl) (hk : scope.kind = .function := by rfl) :
    codeK (model W.prog W.w) A (.call (.ref a) ⟨vals, kw⟩) R s := by
  obtain ⟨o, ho, hd⟩ := X.there
  refine codeK_call_function (by have := hA.depth; exact om365 this) (h0.base _ _ ho) hd (by rw [X.scope]; exact hco) (by rw [X.scope]; exact hgen) X.body (X.code.keeps h0.base) ?_
  exact wp_enterP (C := fun env s₂ => codeK (model W.prog W.w) A (.func body env) R s₂) X hlim hA h0 hb hn hr hnd hkind (fun L cd g s₁ F S a1 a2 a3 a4 a5 => codeK_func (h L cd g s₁ F S a1 a2 a3 a4 a5)) hk
theorem KFN_intro {W : Wd} {k : Nat} {a : Addr} {fd : FuncData} {name : Str} {scope : Scope} {body : List Stmt} {args : List V} {kw : List (Str × V)} {ρ₀ : List (Str × V)} {Q : V → Prop} (X : FnAt W a fd name scope body) (hlim : W.H0.NoLimit)
    (hb : ∀ G vals kvals, Reps G vals args → Reps G kvals (kw.map (·.2)) → ∃ bv, Binds W fd ⟨vals, (kw.map (·.1)).zip kvals⟩ bv ∧ bv.map (·.1) = ρ₀.map (·.1) ∧ Reps G (bv.map (·.2)) (ρ₀.map (·.2)))
    (hnd : (ρ₀.map (·.1)).Nodup) (hkind : ∀ x ∈ ρ₀.map (·.1), scope.names.lookup x = some .local ∨ (scope.names.lookup x = some .cell ∧ ∀ n, ((cellsFrom n scope.names []).lookup x).isSome = true))
    (h : ∀ L cd A h₀ G, FOk k (fx name scope L a cd A h₀ G (fun _ => False) []) → KEXS W (fx name scope L a cd A h₀ G (fun _ => False) []) (ρ₀.map fun p => (p.1, .val p.2)) body (fun _ => Q .none) fun v _ => Q v)
    (hco : scope.isCoroutine = false := by rfl) (hgen : scope.isGenerator = false := by rfl) (hk : scope.kind = .function := by rfl) :
    KFN W (k + 1) (.ref a) args kw Q := fun A G s vals kvals Qc E hA h0 r r' hq => by
  obtain ⟨bv, hb1, hb2, hb3⟩ := hb G vals kvals r r'
  refine wpK_call (wp_enterK (ex := fun _ => False) (pin := []) X hlim hA h0 hb1 hb2 hb3 hnd hkind (fun L cd g s₁ F S hg hL hL0 hfs hk1 => ?_) hco hgen hk)
  have fin : ∀ {v val ρ' g' s'}, Q v → g.le g' → Sim W (fx name scope L a cd (A.deeper (envOfC name scope L a cd)) s.heap.get? G (fun _ => False) []) ρ' g' s' → Rep g'.G val v → Qc val s' := fun {v val ρ' g' s'} q hG S' rr => by
    refine hq v val g'.G s' q ⟨⟨S'.gens, S'.os, S'.base, ?_, S'.fr, S'.glist⟩, ?_, S'.gin, S'.gnew⟩ rr
    · intro env henv
      obtain ⟨l, hl⟩ := hA.frames
      exact S'.frames env (by simp only [Around.deeper, hl, Option.map_some, Option.getD_some]; rw [hl] at henv; exact List.mem_cons_of_mem _ henv)
    · intro b o e
      obtain ⟨o', e', p⟩ := S'.keep b o e
      refine ⟨o', e', fun hx => ?_⟩
      obtain ⟨p1, p2⟩ := p hx
      refine ⟨fun hm => p1 fun hm' => ?_, p2⟩
      rw [show Fx.fs (fx name scope L a cd (A.deeper (envOfC name scope L a cd)) s.heap.get? G (fun _ => False) []) = fsOf (A.deeper (envOfC name scope L a cd)) from rfl, hfs] at hm'
      rcases List.mem_cons.mp hm' with rfl | hm'
      · rw [hL0] at e; cases e
      · exact hm hm'
  refine h L cd _ _ G F g s₁ _ _ S (fun ρ' g' s' q hG S' => ?_) fun v val ρ' g' s' q hG S' rr => ?_
  · exact fin q hG S' .none
  · exact fin q hG S' rr
theorem KFNm_intro {W : Wd} {k : Nat} {a : Addr} {fd : FuncData} {name : Str} {scope : Scope} {body : List Stmt} {xs : List V} {args : List V} {kw : List (Str × V)} {x0 : Str} {ρ₀ : List (Str × V)} {Q : V → List V → Prop} (X : FnAt W a fd name scope body) (hlim : W.H0.NoLimit)
    (hb : ∀ G l vals kvals, Reps G vals args → Reps G kvals (kw.map (·.2)) → ∃ bv, Binds W fd ⟨.ref l :: vals, (kw.map (·.1)).zip kvals⟩ ((x0, .ref l) :: bv) ∧ bv.map (·.1) = ρ₀.map (·.1) ∧ Reps G (bv.map (·.2)) (ρ₀.map (·.2)))
    (hnd : (x0 :: ρ₀.map (·.1)).Nodup) (hkind : ∀ x ∈ x0 :: ρ₀.map (·.1), scope.names.lookup x = some .local ∨ (scope.names.lookup x = some .cell ∧ ∀ n, ((cellsFrom n scope.names []).lookup x).isSome = true))
    (h : ∀ L cd A h₀ G ex l, FOk k (fx name scope L a cd A h₀ G ex [(x0, l)]) → KEXS W (fx name scope L a cd A h₀ G ex [(x0, l)]) ((x0, .own xs) :: ρ₀.map fun p => (p.1, .val p.2)) body (fun ρ => ∃ ys, ρ.lookup x0 = some (.own ys) ∧ Q .none ys) fun v ρ => ∃ ys, ρ.lookup x0 = some (.own ys) ∧ Q v ys)
    (hco : scope.isCoroutine = false := by rfl) (hgen : scope.isGenerator = false := by rfl) (hk : scope.kind = .function := by rfl) :
    KFNm W (k + 1) (.ref a) xs args kw Q := fun A G s l vs n vals kvals Qc E hA h0 hl hlr hlG hlH r r' hq => by
  obtain ⟨bv, hb1, hb2, hb3⟩ := hb G l vals kvals r r'
  refine wpK_call (wp_enterK (ex := fun b => b = l) (pin := [(x0, l)]) (ρ₀ := (x0, .glob (.ref l)) :: ρ₀) X hlim hA h0 hb1 (by simp [hb2]) (.cons (.glob _) hb3) hnd hkind (fun L cd g s₁ F S hg hL hL0 hfs hk1 => ?_) hco hgen hk)
  have hlL : l ∉ L :: fsOf A := fun hm => by
    rcases List.mem_cons.mp hm with rfl | hm
    · rw [hL0] at hl; cases hl
    · exact not_fs_of_lobj h0.frames hl hm
  have fin : ∀ {v val ρ' g' s'}, (∃ ys, ρ'.lookup x0 = some (.own ys) ∧ Q v ys) → g.le g' → Sim W (fx name scope L a cd (A.deeper (envOfC name scope L a cd)) s.heap.get? G (fun b => b = l) [(x0, l)]) ρ' g' s' → Rep g'.G val v → Qc val s' := fun {v val ρ' g' s'} q hG S' rr => by
    obtain ⟨ys, hy, q⟩ := q
    obtain ⟨q1, ⟨vs', n', q2, q3⟩, q4, q5, q6⟩ := S'.slot _ _ hy
    have hadr : g'.adr x0 = l := S'.pin x0 l ys (by simp) hy
    rw [hadr] at q2 q4
    refine hq v ys val g'.G s' vs' n' q ⟨⟨S'.gens, S'.os, S'.base, ?_, S'.fr, S'.glist⟩, ?_, S'.gin, S'.gnew⟩ rr q2 q3 q4
    · intro env henv
      obtain ⟨lf, hlf⟩ := hA.frames
      exact S'.frames env (by simp only [Around.deeper, hlf, Option.map_some, Option.getD_some]; rw [hlf] at henv; exact List.mem_cons_of_mem _ henv)
    · intro b o e
      obtain ⟨o', e', p⟩ := S'.keep b o e
      refine ⟨o', e', fun hx => ?_⟩
      obtain ⟨p1, p2⟩ := p hx
      refine ⟨fun hm => p1 fun hm' => ?_, p2⟩
      rw [show Fx.fs (fx name scope L a cd (A.deeper (envOfC name scope L a cd)) s.heap.get? G (fun b => b = l) [(x0, l)]) = fsOf (A.deeper (envOfC name scope L a cd)) from rfl, hfs] at hm'
      rcases List.mem_cons.mp hm' with rfl | hm'
      · rw [hL0] at e; cases e
      · exact hm hm'
  have S2 : Sim W (fx name scope L a cd (A.deeper (envOfC name scope L a cd)) s.heap.get? G (fun b => b = l) [(x0, l)]) ((x0, .own xs) :: ρ₀.map fun p => (p.1, .val p.2)) { g with adr := fun _ => l } s₁ := {
    gens := S.gens, os := S.os, base := S.base, keep := S.keep, fr := S.fr, gin := S.gin, gnew := S.gnew, glist := S.glist, frames := S.frames, ns := S.ns, loc0 := S.loc0, locH := S.locH, cells := S.cells, cells0 := S.cells0, xp := S.xp, xk := S.xk
    slot := fun x sl e => by
      rw [List.lookup_cons] at e
      cases hx : x == x0 with
      | true =>
        rw [hx] at e; cases e
        obtain rfl := beq_iff_eq.mp hx
        obtain ⟨val, q1, q2⟩ := S.slot x (.val (.glob (.ref l))) (by simp)
        cases q2
        exact ⟨q1, ⟨vs, n, hk1 _ _ hl, by rw [hg]; exact hlr⟩, by rw [hg]; exact hlG, hlH, .inr ⟨rfl, by simp⟩⟩
      | false =>
        rw [hx] at e
        have z := S.slot x sl (by rw [List.map_cons, List.lookup_cons, hx]; exact e)
        rw [lookup_rev_map Slot.val] at e
        cases hv : ρ₀.lookup x with
        | none => rw [hv] at e; cases e
        | some v => rw [hv] at e; cases e; exact z
    apart := fun x y xs' ys' e e' _ => by
      have one : ∀ z zs, ((x0, Slot.own xs) :: ρ₀.map fun p => (p.1, Slot.val p.2)).lookup z = some (.own zs) → z = x0 := fun z zs e => by
        rw [List.lookup_cons] at e
        cases hx : z == x0 with
        | true => exact beq_iff_eq.mp hx
        | false =>
          rw [hx] at e
          dsimp only at e
          rw [lookup_rev_map Slot.val] at e
          cases hv : ρ₀.lookup z <;> rw [hv] at e <;> cases e
      rw [one x xs' e, one y ys' e']
    pin := fun x b xs' e _ => by
      rw [List.lookup_cons] at e
      cases hx : x == x0 with
      | true => rw [hx] at e; cases e; rfl
      | false => rw [hx] at e; cases e }
  refine h L cd _ _ G _ l F _ s₁ _ _ S2 (fun ρ' g' s' q hG S' => ?_) fun v val ρ' g' s' q hG S' rr => ?_
  · exact fin q hG S' .none
  · exact fin q hG S' rr
end Mine
end
section
open PySem PySem.W PyProof.Rows PySem.SeqAt PySem.MeetsSeq3 PySem.NumText
namespace Mine
theorem type_call_tree (args : List Value) (hct : checkTypeCall "int" ⟨args, []⟩ = pure ()) : ∃ tail, Builtin.«type.__call__» ⟨.type "int" :: args, []⟩ = (holding [.builtin "int.__new__"] (call (.builtin "int.__new__") (.type "int" :: args) []) >>= tail) := by
  have h1 := F.called_int.notType
  have h2 := F.called_int.canCreate
  obtain ⟨c, tl, hmro⟩ := F.called_int.mro
  have hmade := F.called_int.made
  refine ⟨?w, ?h⟩
  case h =>
    unfold Builtin.«type.__call__»
    simp only [h1, Bool.false_eq_true, if_false, hct, hmro, hmade, pure_bind, List.isEmpty_cons, h2]
    rfl
theorem int_new2_tree (x : Str) (u v : Tok) : ∃ tail, Builtin.«int.__new__» ⟨[.type "int", .str x u, .int 10 v], []⟩ = ((int_private% "intFromText") (.str x u) (numTextOf x) 10 >>= tail) := by
  have f1 := F.conv_sub_int
  have f2 := F.madeHere_int
  refine ⟨?w, ?h⟩
  case h =>
    unfold Builtin.«int.__new__»
    simp only [f1, f2, pure_bind]
    rfl
end Mine
namespace Mine
section
variable {prog : Program} {w : World} {A : Around} {E : Value → Shared → Prop} {s : Shared} {Q : Value → Shared → Prop}
theorem mark_nothing {own : List String} {e : Value} {M : Model} {A : Around} {Q : Unit → Shared → Prop} {E : Value → Shared → Prop} {s : Shared} (h : Q () s) : wpK M A (markTheRefusal own e) Q E s := fun Γ p hΓ hb => by
  unfold markTheRefusal
  rw [Sem.wp_bind']
  show Sem.wp M Γ (if pythonCodeMadeTheCall own (((Γ.code, p) :: Γ.below).map (·.1)) = true then _ else pure ()) _ _ p s
  have hf : pythonCodeMadeTheCall own (((Γ.code, p) :: Γ.below).map (·.1)) = false := by
    unfold pythonCodeMadeTheCall
    rw [Bool.and_eq_false_iff]; left
    rw [Bool.and_eq_false_iff]; left
    rw [Bool.not_eq_false', List.any_eq_true]
    have hb' : (Γ.below.map (·.1)).any Code.isCaller = true := hb
    rw [List.any_eq_true] at hb'
    obtain ⟨c, hc, hi⟩ := hb'
    refine ⟨c, by rw [List.map_cons]; exact List.mem_cons_of_mem _ hc, ?_⟩
    unfold Code.isCaller at hi
    split at hi
    · rfl
    · cases hi
  rw [hf]
  exact h
theorem wpK_refuse {x : Str} {u : Tok} {text : List Nat} (hh : A.handled = none) (hs : (text.takeWhile (· != 0)).length ≤ 640) (hr : (int_private% "readNumeral") 0 10 (text.takeWhile (· != 0)) = (int_private% "Numeral.invalid")) (hsz : (reprText x).length ≤ sizeLine)
    (h : ∀ h' ex tk, Heap.NewExc s.heap h' ex "ValueError" → E (.ref ex) { s with heap := h', toks := tk }) : wpK (model prog w) A ((int_private% "intFromText") (.str x u) text 10) Q E s := by
  show wpK (model prog w) A (if (text.takeWhile (· != 0)).length ≤ 640 then pure 0 >>= _ else _) Q E s
  rw [if_pos hs]
  refine wpK_bindA (wpAny_pure ?_)
  dsimp only
  rw [hr]
  dsimp only
  refine wpK_bindA (wpAny_of_eq (a := none) rfl ?_)
  simp only [Option.isSome_none, Bool.false_and, Bool.false_eq_true, if_false]
  refine wpK_bindA (wpAny_rule ?_)
  refine wpK_bindA (wpAny_of_eq (a := none) rfl ?_)
  dsimp only
  refine wpK_bindA (wpAny_pyRepr_str ?_ hsz)
  refine wpK_bindA (wpAny_mkStr ?_ ?_)
  · refine wpK_bindA (wpAny_newExc_plain plainExc_ValueError (fun h' e hm => ?_) (by show 1 ≤ _; rw [sizeLine_eq]; exact Nat.le_of_ble_eq_true rfl))
    exact wpK_bind (mark_nothing (wpK_of (wpAny_raiseNew_none hh (h h' e _ hm.newExc))))
  · have e1 : (Str.ofString (toString "invalid literal for int() with base " ++ toString 10 ++ toString ": ")).length ≤ 100 := by decide +kernel
    have e2 : ((⟨(reprText x).cps.extract 0 200⟩ : Str)).length ≤ 200 := by
      show ((reprText x).cps.extract 0 200).size ≤ 200
      rw [Array.size_extract]; exact om178
    have e3 : ∀ a b : Str, (a ++ b).length = a.length + b.length := fun a b => Array.size_append
    rw [e3, sizeLine_eq]
    exact om291 e1 e2
theorem codeK_builtin_at {id : String} {args : Args} {b : Builtin} {R : Result → Shared → Prop} (hb : entryFor table id = some b)
    (h : wpK (model prog w) (A.under (.builtin id args)) (b args) (fun fin s' => match fin with | .done f => R (.ok f) s' | .again c' => c'.quiet = true ∧ codeK (model prog w) A c' R s') (fun e s' => R (.error e) s') s) : codeK (model prog w) A (.builtin id args) R s := by
  refine codeK_of_tree ?_
  show wpK _ _ (match entryFor table id with | some b => b args | none => unsupported ((withoutEnding? id "#data").getD id)) _ _ s
  rw [hb]; exact h
theorem codeK_builtin {id : String} {args : Args} {b : Builtin} {R : Result → Shared → Prop} (hp : plainId id = true) (hb : entryFor table id = some b)
    (h : wpK (model prog w) A.in1 (b args) (fun fin s' => match fin with | .done f => R (.ok f) s' | .again c' => c'.quiet = true ∧ codeK (model prog w) A c' R s') (fun e s' => R (.error e) s') s) : codeK (model prog w) A (.builtin id args) R s :=
  codeK_builtin_at hb (by rw [Around.under_plainId hp]; exact h)
theorem codeK_call_builtin {id : String} {args : Args} {b : Builtin} {R : Result → Shared → Prop} (hp : plainId id = true) (hb : entryFor table id = some b) (hc : wpAny (model prog w) A.in1 (checkBuiltinCall id args) (fun _ s₁ => wpK (model prog w) A.in1 (b args) (fun fin s' => match fin with | .done f => R (.ok f) s' | .again c' => c'.quiet = true ∧ codeK (model prog w) A c' R s') (fun e s' => R (.error e) s') s₁) (fun e s' => R (.error e) s') s) :
    codeK (model prog w) A (.call (.builtin id) args) R s := by
  refine codeK_of_tree ?_
  show wpK _ A.in1 (do checkBuiltinCall id args; again (.builtin id args)) _ _ s
  exact wpK_bindA (wpAny_mono hc (fun _ s₁ h₁ => wpK_of (wpAny_pure (And.intro (plainId_quiet hp args) (codeK_builtin hp hb h₁)))) fun _ _ h' => h')
theorem callInt_refuses {args : List Value} (hct : checkTypeCall "int" ⟨args, []⟩ = pure ()) (hcn : checkBuiltinCall "int.__new__" ⟨.type "int" :: args, []⟩ = pure ())
    (h : wpK (model prog w) A.in1.in1 (Builtin.«int.__new__» ⟨.type "int" :: args, []⟩) (fun _ _ => False) E s) : wpK (model prog w) A (call (.type "int") args) Q E s := by
  refine wpK_call (codeK_of_tree (wpK_of ?_))
  show wpAny _ _ (callAny (.type "int") _) _ _ _
  refine wpAny_pure ⟨Code.quiet_builtin _ (by decide +kernel), codeK_builtin_at F.entry_type_call ?_⟩
  rw [Around.under_plain (weight_type_call_type "int" args []) (units_type_call_type "int" args [])]
  obtain ⟨tail, ht⟩ := type_call_tree args hct
  rw [ht]
  refine wpK_bind (wpK_holding (wpK_call (codeK_call_builtin F.called_int.plain F.entry_int_new (wpAny_of_eq hcn ?_))))
  exact wpK_mono h (fun _ _ q => q.elim) fun _ _ q => q
theorem int_new1_tree (x : Str) (u : Tok) : ∃ tail, Builtin.«int.__new__» ⟨[.type "int", .str x u], []⟩ = ((int_private% "intFromObject") (.str x u) >>= tail) := by
  have f1 := F.conv_sub_int
  have f2 := F.madeHere_int
  have f3 : isType (.type "int") = pure true := rfl
  refine ⟨?w, ?h⟩
  case h =>
    unfold Builtin.«int.__new__»
    simp only [f1, f2, f3, pure_bind, Bool.not_true, Bool.false_eq_true, if_false, List.length_cons, List.length_nil, List.isEmpty_nil, Bool.and_true, List.head?_cons, List.forIn_nil, List.head?_nil, Option.map_none, List.getElem?_cons_succ, List.getElem?_nil, Nat.reduceAdd, gt_iff_lt, Nat.reduceLT, decide_false, Bool.and_false]
    rfl
theorem wpK_fromObject {x : Str} {u : Tok} (h : wpK (model prog w) A ((int_private% "intFromText") (.str x u) (numTextOf x) 10) Q E s) : wpK (model prog w) A ((int_private% "intFromObject") (.str x u)) Q E s := by
  show wpK (model prog w) A (callSpecial? (.str x u) (Str.ofString "__int__") >>= _) Q E s
  refine wpK_bindA (wpAny_callSpecial?_none (typeIs_str _ _ _) KIN.str_int ?_)
  dsimp only
  refine wpK_bindA (wpAny_specialOf (typeIs_str _ _ _) KIN.str_idx ?_)
  simp only [Option.isSome_none, Bool.false_eq_true, if_false]
  refine wpK_bindA (wpAny_specialOf (typeIs_str _ _ _) KIN.str_trunc ?_)
  dsimp only
  exact wpK_bindA (wpAny_of_eq (a := some (numTextOf x)) rfl h)
theorem typeCall_int_2 (a b : Value) : checkTypeCall "int" ⟨[a, b], []⟩ = pure () := by kernel_rfl
theorem newCall_int_2 (a b : Value) : checkBuiltinCall "int.__new__" ⟨[.type "int", a, b], []⟩ = pure () := by kernel_rfl
theorem int2_refuses {x : Str} {u v : Tok} (hh : A.handled = none) (hl : x.length ≤ 640) (hr : (int_private% "readNumeral") 0 10 (numSeenOf x) = (int_private% "Numeral.invalid")) (hsz : (reprText x).length ≤ sizeLine)
    (h : ∀ h' ex tk, Heap.NewExc s.heap h' ex "ValueError" → E (.ref ex) { s with heap := h', toks := tk }) : wpK (model prog w) A (call (.type "int") [.str x u, .int 10 v]) Q E s := by
  refine callInt_refuses (typeCall_int_2 _ _) (newCall_int_2 _ _) ?_
  obtain ⟨tail, ht⟩ := int_new2_tree x u v
  rw [ht]
  exact wpK_bind (wpK_refuse hh (Nat.le_trans (seen_length x) hl) hr hsz h)
theorem int1_refuses {x : Str} {u : Tok} (hh : A.handled = none) (hl : x.length ≤ 640) (hr : (int_private% "readNumeral") 0 10 (numSeenOf x) = (int_private% "Numeral.invalid")) (hsz : (reprText x).length ≤ sizeLine)
    (h : ∀ h' ex tk, Heap.NewExc s.heap h' ex "ValueError" → E (.ref ex) { s with heap := h', toks := tk }) : wpK (model prog w) A (call (.type "int") [.str x u]) Q E s := by
  refine callInt_refuses (F.typeCall_int_1 _) (F.newCall_int_1 _) ?_
  obtain ⟨tail, ht⟩ := int_new1_tree x u
  rw [ht]
  exact wpK_bind (wpK_fromObject (wpK_refuse hh (Nat.le_trans (seen_length x) hl) hr hsz h))
end
end Mine
end
section
open PySem PySem.W PyProof.Rows PySem.SeqAt PySem.MeetsSeq3 PySem.NumText
namespace Mine
theorem gives_text2 {x : PySem.Str} {u v : Tok} {n : Int} (hl : x.length ≤ 640) (hn : PySem.intText? x = some n) : Gives (Builtin.«int.__new__» ⟨[.type "int", .str x u, .int 10 v], []⟩) (.int n) := .of_wp fun M A E s Q h => by
  have short := Nat.le_trans (seen_length x) hl
  rcases read0 x short with ⟨m, e, whole, value⟩ | ⟨e, _⟩
  · cases e.symm.trans hn
    unfold Builtin.«int.__new__»
    simp only [F.conv_sub_int, F.madeHere_int, pure_bind]
    show wpAny M A ((int_private% "intFromText") (.str x u) (numTextOf x) 10 >>= _) _ _ _
    exact wpAny_bind (KIN.wp_text short value whole (wpAny_pure ⟨_, rfl, h⟩))
  · cases e.symm.trans hn
section
variable {W : Wd} {c : Fx} {ρ : Rho} {k : Nat}
theorem KCV_int2 {x : Str} {Q : V → Prop} {Qe : Prop} (F : FOk k c) (hl : x.length ≤ 640) (hz : ((numSeenOf x).length == (numTextOf x).length) = true) (hsz : (reprText x).length ≤ sizeLine) (h : match PySem.intText? x with | some n => Q (.int n) | none => Qe) :
    KCV W c ρ (.type "int") [.str x, .int 10] [] Q Qe := fun g s vals kvals Qc E S r _ hq hE => by
  obtain ⟨v, w, rfl, r1, r2⟩ := r.two
  cases r1; cases r2
  cases hn : PySem.intText? x with
  | some n =>
    rw [hn] at h
    refine wpK_of ?_
    exact callType_new PySem.F.called_int PySem.F.newNe_int (typeCall_int_2 _ _) (newCall_int_2 _ _) (fun obj => by unfold argsOk; kernel_rfl) PySem.F.entry_int_new (gives_text2 hl hn).meets (show (Made.int n).post _ s from ⟨rfl, hq _ _ g.G _ h (.refl _) (S.tok _) (.int _ _)⟩)
  | none =>
    rw [hn] at h
    refine int2_refuses F.hand hl ?_ hsz fun h' ex tk hx => hE g.G s h' ex tk h (.refl _) S hx
    rcases read0 x (Nat.le_trans (seen_length x) hl) with ⟨m, h1, h2, h3⟩ | ⟨h1, h2 | ⟨i, h2, h3⟩⟩
    · rw [hn] at h1; cases h1
    · exact h2
    · exact absurd hz h3
end
end Mine
end
section
open PySem PySem.W PyProof.Rows PySem.SeqAt PySem.MeetsSeq3
namespace Mine
theorem owner_map : Manifest.owners.lookup (String.ofList ['p', 'a', 'm'].reverse) = some Manifest.sig_map := by kernel_rfl
theorem slot_map_iter : PySem.Slot "map" "__iter__" "map.__iter__" :=
  .of (owner := "map") (n := "__iter__") (by rw [typeLookup_type, builtinLookup_eq_fast]; kernel_rfl) (by decide +kernel) (by decide +kernel) (by decide +kernel)
    (by first | exact .inl (by decide +kernel) | exact .inr (by decide +kernel)) (by rw [isSubtype_type]; kernel_rfl)
theorem args_map_iter_1 (a : Value) : argsOk "map.__iter__" ⟨[a], []⟩ := by
  unfold argsOk; rw [signature?_of (id := "map.__iter__") (n := ['_', '_', 'r', 'e', 't', 'i', '_', '_']) (o := ['p', 'a', 'm']) (by kernel_rfl) owner_map]; kernel_rfl
theorem slot_map_next : PySem.Slot "map" "__next__" "map.__next__" :=
  .of (owner := "map") (n := "__next__") (by rw [typeLookup_type, builtinLookup_eq_fast]; kernel_rfl) (by decide +kernel) (by decide +kernel) (by decide +kernel)
    (by first | exact .inl (by decide +kernel) | exact .inr (by decide +kernel)) (by rw [isSubtype_type]; kernel_rfl)
theorem entry_map_next : entryFor table "map.__next__" = some Builtin.«map.__next__» := entryFor_of_tree (by kernel_rfl)
theorem args_map_next_1 (a : Value) : argsOk "map.__next__" ⟨[a], []⟩ := by
  unfold argsOk; rw [signature?_of (id := "map.__next__") (n := ['_', '_', 't', 'x', 'e', 'n', '_', '_']) (o := ['p', 'a', 'm']) (by kernel_rfl) owner_map]; kernel_rfl
theorem entry_map_iter : entryFor table "map.__iter__" = some Builtin.«dict_keyiterator.__iter__» :=
  entryFor_alias (id' := "dict_keyiterator.__iter__") (by kernel_rfl) (by first | rfl | decide +kernel | (unfold String.splitOn; simp +decide [String.splitOnAux])) (by decide +kernel) (by kernel_rfl)
theorem slot_map_init : PySem.Slot "map" "__init__" "object.__init__" :=
  .of (owner := "object") (n := "__init__") (by rw [typeLookup_type, builtinLookup_eq_fast]; kernel_rfl) (by decide +kernel) (by decide +kernel) (by decide +kernel)
    (by first | exact .inl (by decide +kernel) | exact .inr (by decide +kernel)) (by rw [isSubtype_type]; kernel_rfl)
theorem mro_map : mroOf (.type "map") = pure [.type "map", .type "object"] := by rw [mroOf_type]; kernel_rfl
theorem lookup_map_new : typeLookup (.type "map") "__new__" = pure (some (.builtin "map.__new__")) := by rw [typeLookup_type, builtinLookup_eq_fast]; kernel_rfl
theorem sub_map : isSubtype (.type "map") (.type "map") = pure true := by rw [isSubtype_type]; kernel_rfl
theorem called_map : TypeCalled "map" "map.__new__" "object.__init__" :=
  ⟨by decide +kernel, by decide +kernel, ⟨_, _, mro_map⟩, madeBy_type mro_map lookup_map_new (by decide +kernel), by decide +kernel, sub_map, slot_map_init⟩
theorem typeCall_map_2 (a b : Value) : checkTypeCall "map" ⟨[a, b], []⟩ = pure () := by kernel_rfl
theorem newCall_map_2 (a b : Value) : checkBuiltinCall "map.__new__" ⟨[.type "map", a, b], []⟩ = pure () := by kernel_rfl
theorem entry_map_new : entryFor table "map.__new__" = some Builtin.«map.__new__» := entryFor_of_tree (by kernel_rfl)
theorem map_no_len : typeLookup (.type "map") "__len__" = pure none := by rw [typeLookup_type, builtinLookup_eq_fast]; kernel_rfl
theorem map_no_hint : typeLookup (.type "map") "__length_hint__" = pure none := by rw [typeLookup_type, builtinLookup_eq_fast]; kernel_rfl
noncomputable def IsMap (h : Heap) (M T : Addr) (f : Value) (I : Addr) : Prop :=
  h.get? M = some { cls := .type "map", dict := none, data := .fields #[.ref T, f], slots := #[] } ∧ h.get? T = some { cls := .type "tuple", dict := none, data := .seq #[.ref I], slots := #[] }
theorem IsMap.typeIs {s : Shared} {M T f I} (x : IsMap s.heap M T f I) : s.TypeIs (.ref M) "map" := ⟨_, x.1, rfl⟩
theorem wp_map_new {prog : Program} {w : World} {A : Around} {R : Result → Shared → Prop} {s : Shared} (f : Value) (a : Value) (h : wpAny (model prog w) A (pyIter a) (fun it s₁ =>
      R (.ok (.ret (.ref (s₁.heap.objs.size + 1)))) { s₁ with heap := (s₁.heap.push { cls := .type "tuple", data := .seq #[it] }).push { cls := .type "map", data := .fields #[.ref s₁.heap.objs.size, f] } }) (fun e s' => R (.error e) s') s) :
    wpAny (model prog w) A (Builtin.«map.__new__» ⟨[.type "map", f, a], []⟩) (fun fin s' => ∃ v, fin = Fin.done (Flow.ret v) ∧ R (Except.ok (Flow.ret v)) s') (fun e s' => R (Except.error e) s') s := by
    have hsub := sub_map
    have hn : Builtin.«map.__new__» ⟨[.type "map", f, a], []⟩ = (do ret (← Builtin.SmallTypes.newRecord (.type "map") [← newTuple (← Builtin.SmallTypes.iterAll [a]), f])) := by
      unfold Builtin.«map.__new__»
      have e1 : Builtin.SmallTypes.newClass "map" ⟨[.type "map", f, a], []⟩ = pure (.type "map", [f, a]) := by
        unfold Builtin.SmallTypes.newClass
        simp only [show isType (.type "map") = pure true from rfl, hsub, pure_bind]
        rfl
      rw [e1]
      rfl
    rw [hn]
    unfold Builtin.SmallTypes.iterAll
    simp only [List.forIn_cons, List.forIn_nil]
    refine wpAny_bind (wpAny_bind (wpAny_bind (wpAny_bind (wpAny_holding (wpAny_mono h (fun it s₁ h₁ => ?_) fun _ _ e => e)))))
    refine wpAny_pure (wpAny_pure (wpAny_pure ?_))
    refine wpAny_bind (wpAny_newTuple ?_ (by show 1 ≤ _; rw [sizeLine_eq]; exact Nat.le_of_ble_eq_true rfl))
    refine wpAny_bind ?_
    show wpAny _ _ (newObj (.type "map") (.fields [Value.ref s₁.heap.objs.size, f].toArray)) _ _ _
    refine wpAny_newObj_type ?_ (by show 2 ≤ _; rw [sizeLine_eq]; exact Nat.le_of_ble_eq_true rfl)
    refine wpAny_pure ⟨_, rfl, ?_⟩
    have e2 : (s₁.heap.push { cls := .type "tuple", data := .seq ((#[] : Array Value).push it).toList.toArray }).objs.size = s₁.heap.objs.size + 1 := Heap.size_push ..
    have e3 : ((#[] : Array Value).push it).toList.toArray = #[it] := by simp
    rw [e3] at e2 ⊢
    rw [e2]
    exact h₁
section
variable {prog : Program} {w : World} {A : Around} {E : Value → Shared → Prop} {s : Shared} {Q : Value → Shared → Prop}
theorem wpAny_pyIter_map {M T I : Addr} {f : Value} (hM : IsMap s.heap M T f I) (h : Q (.ref M) s) : wpAny (model prog w) A (pyIter (.ref M)) Q E s := by
  have hT := hM.typeIs (s := s)
  refine wpAny_pyIter_slot hT slot_map_iter (wpAny_call_entry slot_map_iter hT entry_map_iter ?_ (args_map_iter_1 _))
  exact wpAny_pure ⟨_, rfl, "map", _, hT, slot_map_next.lookup, h⟩
theorem meets_map_list (f : Value) (l : Addr) (vs : Array Value) (n : Nat) : Meets (Builtin.«map.__new__» ⟨[.type "map", f, .ref l], []⟩) (fun A R s => s.heap.get? l = some (lobj vs n) ∧
      R (.ok (.ret (.ref (s.heap.objs.size + 2)))) { s with heap := ((s.heap.push { cls := .type "list_iterator", data := .fields #[.ref l, .int 0 0] }).push { cls := .type "tuple", data := .seq #[.ref s.heap.objs.size] }).push { cls := .type "map", data := .fields #[.ref (s.heap.objs.size + 1), f] } }) :=
  .of_wp fun prog w A R s h => by
    refine wp_map_new f _ (wpAny_pyIter_list (isList_lobj h.1) ?_)
    have e : (s.heap.push { cls := .type "list_iterator", data := .fields #[.ref l, .int 0 0] }).objs.size = s.heap.objs.size + 1 := Heap.size_push ..
    dsimp only
    rw [e]
    exact h.2
theorem meets_map_map (f : Value) (M T I : Addr) (g : Value) : Meets (Builtin.«map.__new__» ⟨[.type "map", f, .ref M], []⟩) (fun A R s => IsMap s.heap M T g I ∧
      R (.ok (.ret (.ref (s.heap.objs.size + 1)))) { s with heap := (s.heap.push { cls := .type "tuple", data := .seq #[.ref M] }).push { cls := .type "map", data := .fields #[.ref s.heap.objs.size, f] } }) :=
  .of_wp fun prog w A R s h => wp_map_new f _ (wpAny_pyIter_map h.1 h.2)
theorem call_map_list {f : Value} {l : Addr} {vs : Array Value} {n : Nat} (hl : s.heap.get? l = some (lobj vs n))
    (h : ∀ h', (∀ b o, s.heap.get? b = some o → h'.get? b = some o) → h'.IsListIter s.heap.objs.size l 0 → IsMap h' (s.heap.objs.size + 2) (s.heap.objs.size + 1) f s.heap.objs.size → h'.objs.size = s.heap.objs.size + 3 → Q (.ref (s.heap.objs.size + 2)) { s with heap := h' }) :
    wpAny (model prog w) A (call (.type "map") [f, .ref l]) Q E s := by
  refine callType_new called_map (by decide) (typeCall_map_2 _ _) (newCall_map_2 _ _) (fun obj => by unfold argsOk; kernel_rfl) entry_map_new (meets_map_list f l vs n) ⟨hl, ?_⟩
  have e1 : (s.heap.push { cls := .type "list_iterator", data := .fields #[.ref l, .int 0 0] }).objs.size = s.heap.objs.size + 1 := Heap.size_push ..
  have e2 : ((s.heap.push { cls := .type "list_iterator", data := .fields #[.ref l, .int 0 0] }).push { cls := .type "tuple", data := .seq #[.ref s.heap.objs.size] }).objs.size = s.heap.objs.size + 2 := by rw [Heap.size_push, e1]
  have g1 := Heap.get?_push_size s.heap (o := { cls := .type "list_iterator", data := .fields #[.ref l, .int 0 0] }) rfl
  have g2 := Heap.get?_push_size (s.heap.push { cls := .type "list_iterator", data := .fields #[.ref l, .int 0 0] }) (o := { cls := .type "tuple", data := .seq #[.ref s.heap.objs.size] }) rfl
  have g3 := Heap.get?_push_size ((s.heap.push { cls := .type "list_iterator", data := .fields #[.ref l, .int 0 0] }).push { cls := .type "tuple", data := .seq #[.ref s.heap.objs.size] }) (o := { cls := .type "map", data := .fields #[.ref (s.heap.objs.size + 1), f] }) rfl
  rw [e1] at g2
  rw [e2] at g3
  show _ ∧ _
  refine ⟨⟨_, g3, rfl⟩, h _ (fun b o e => Heap.get?_push_of_some _ (Heap.get?_push_of_some _ (Heap.get?_push_of_some _ e))) ⟨_, Heap.get?_push_of_some _ (Heap.get?_push_of_some _ g1), rfl, rfl⟩ ⟨g3, Heap.get?_push_of_some _ g2⟩ (by rw [Heap.size_push, e2])⟩
theorem call_map_map {f g : Value} {M T I : Addr} (hM : IsMap s.heap M T g I)
    (h : ∀ h', (∀ b o, s.heap.get? b = some o → h'.get? b = some o) → IsMap h' (s.heap.objs.size + 1) s.heap.objs.size f M → h'.objs.size = s.heap.objs.size + 2 → Q (.ref (s.heap.objs.size + 1)) { s with heap := h' }) :
    wpAny (model prog w) A (call (.type "map") [f, .ref M]) Q E s := by
  refine callType_new called_map (by decide) (typeCall_map_2 _ _) (newCall_map_2 _ _) (fun obj => by unfold argsOk; kernel_rfl) entry_map_new (meets_map_map f M T I g) ⟨hM, ?_⟩
  have e1 : (s.heap.push { cls := .type "tuple", data := .seq #[.ref M] }).objs.size = s.heap.objs.size + 1 := Heap.size_push ..
  have g1 := Heap.get?_push_size s.heap (o := { cls := .type "tuple", data := .seq #[.ref M] }) rfl
  have g2 := Heap.get?_push_size (s.heap.push { cls := .type "tuple", data := .seq #[.ref M] }) (o := { cls := .type "map", data := .fields #[.ref s.heap.objs.size, f] }) rfl
  rw [e1] at g2
  show _ ∧ _
  exact ⟨⟨_, g2, rfl⟩, h _ (fun b o e => Heap.get?_push_of_some _ (Heap.get?_push_of_some _ e)) ⟨g2, Heap.get?_push_of_some _ g1⟩ (by rw [Heap.size_push, e1])⟩
theorem wpK_call_entry {T : String} {name : Str} {id : String} {b : Builtin} {self : Value} {rest : List Value} (h : PySem.Slot T name id) (hT : s.TypeIs self T) (hb : entryFor table id = some b)
    (hc : wpK (model prog w) A.in1 (b ⟨self :: rest, []⟩) (fun fin s' => ∃ v, fin = .done (.ret v) ∧ Q v s') E s) (ha : argsOk id ⟨self :: rest, []⟩) : wpK (model prog w) A (call (.builtin id) (self :: rest)) Q E s := by
  refine wpK_call (codeK_call_builtin h.plain hb (h.check _ _ _ _ _ _ _ _ hT ha (wpK_mono hc (fun fin s' h' => ?_) fun _ _ h' => h')))
  obtain ⟨v, rfl, hv⟩ := h'; exact hv
theorem wpK_callSpecial {self : Value} {T : String} {name : Str} {id : String} {args : List Value} {kw : List (Str × Value)} {Q : Option Value → Shared → Prop} (hT : s.TypeIs self T) (h : PySem.Slot T name id)
    (hc : wpK (model prog w) A (call (.builtin id) (self :: args) kw) (fun v => Q (some v)) E s) : wpK (model prog w) A (callSpecial? self name args kw) Q E s := by
  simp only [callSpecial?]
  refine wpK_bindA (wpAny_specialOf hT h.lookup ?_)
  simp only [h.bind]
  exact wpK_holding (wpK_bindA (wpAny_pure (wpK_bind (wpK_mono hc (fun v s' h' => wpK_of (wpAny_pure h')) fun _ _ h' => h'))))
theorem wpK_nextOf {self : Value} {T : String} {id : String} (hT : s.TypeIs self T) (h : PySem.Slot T "__next__" id) (hc : wpK (model prog w) A (call (.builtin id) [self]) Q E s) : wpK (model prog w) A (Builtin.SmallTypes.nextOf self) Q E s := by
  unfold Builtin.SmallTypes.nextOf
  exact wpK_bind (wpK_callSpecial (name := Str.ofString "__next__") hT h (wpK_mono hc (fun v s' hv => wpK_of (wpAny_pure hv)) fun _ _ e => e))
theorem wpK_map_next {M T I : Addr} {f : Value} (hM : IsMap s.heap M T f I)
    (hn : wpK (model prog w) A.in1 (Builtin.SmallTypes.nextOf (.ref I)) (fun v s₁ => IsMap s₁.heap M T f I ∧ wpK (model prog w) A.in1 (call f [v]) Q E s₁) E s) : wpK (model prog w) A (call (.builtin "map.__next__") [.ref M]) Q E s := by
  refine wpK_call_entry slot_map_next hM.typeIs entry_map_next ?_ (args_map_next_1 _)
  show wpK _ _ (field (.ref M) 0 >>= _) _ _ s
  refine wpK_bindA (wpAny_field hM.1 rfl (x := .ref T) rfl ?_)
  show wpK _ _ (seqItems? (.ref T) >>= _) _ _ s
  refine wpK_bindA ?_
  unfold seqItems?
  refine wpAny_bind (wpAny_load hM.2 ?_)
  refine wpAny_pure ?_
  dsimp only
  simp only [List.forIn_cons, List.forIn_nil, ← Array.forIn_toList]
  refine wpK_bind (wpK_bind (wpK_bind (wpK_holding (wpK_mono hn (fun v s₁ h₁ => ?_) fun _ _ e => e))))
  obtain ⟨hM₁, hc⟩ := h₁
  refine wpK_of (wpAny_pure (wpK_of (wpAny_pure ?_)))
  refine wpK_bindA (wpAny_field hM₁.1 rfl (x := f) rfl ?_)
  show wpK _ _ (holding [v] (call f [v]) >>= _) _ _ s₁
  refine wpK_bind (wpK_holding (wpK_mono hc (fun r s₂ hr => ?_) fun _ _ e => e))
  refine wpK_of (wpAny_bind (wpAny_letGo (wpAny_pure ⟨r, rfl, hr⟩)))
end
end Mine
end
section
open PySem PySem.W PyProof.Rows PySem.SeqAt PySem.MeetsSeq3 PySem.NumText
namespace Mine
theorem listiter_ne {h : Heap} {I l : Addr} {i : Nat} (hI : h.IsListIter I l i) {b : Addr} {o : Obj} (e : h.get? b = some o) (hc : o.cls ≠ .type "list_iterator") : b ≠ I := fun q => by
  obtain ⟨oI, ho, hcI, _⟩ := hI
  rw [q, ho] at e; cases e; exact hc hcI
theorem IsMap.keep {h h' : Heap} {M T I : Addr} {f : Value} (x : IsMap h M T f I) (k : ∀ b o, h.get? b = some o → o.cls ≠ .type "list_iterator" → o.cls ≠ .type "list" → h'.get? b = some o) : IsMap h' M T f I :=
  ⟨k _ _ x.1 (show Value.type "map" ≠ .type "list_iterator" by decide) (show Value.type "map" ≠ .type "list" by decide), k _ _ x.2 (show Value.type "tuple" ≠ .type "list_iterator" by decide) (show Value.type "tuple" ≠ .type "list" by decide)⟩
noncomputable def itext (n : Int) : Str := Str.ofString (toString n)
structure IntOk (x : Str) : Prop where
  len : x.length ≤ 640
  seen : ((numSeenOf x).length == (numTextOf x).length) = true
  repr : (reprText x).length ≤ sizeLine
  small : ∀ n, PySem.intText? x = some n → n.natAbs.log2 < 1920
section
variable {prog : Program} {w : World} {A : Around} {E : Value → Shared → Prop} {s : Shared} {Q : Value → Shared → Prop}
theorem int1K {x : Str} {t : Tok} (hh : A.handled = none) (hx : IntOk x) (hok : ∀ n, PySem.intText? x = some n → Q (.int n s.toks) { s with toks := s.toks + 1 })
    (hbad : PySem.intText? x = none → ∀ h' e tk, Heap.NewExc s.heap h' e "ValueError" → E (.ref e) { s with heap := h', toks := tk }) : wpK (model prog w) A (call (.type "int") [.str x t]) Q E s := by
  cases hn : PySem.intText? x with
  | some n => exact wpK_of (KIN.call_text hn hx.len (hok n hn))
  | none =>
    refine int1_refuses hh hx.len ?_ hx.repr (hbad hn)
    rcases read0 x (Nat.le_trans (seen_length x) hx.len) with ⟨m, h1, h2, h3⟩ | ⟨h1, h2 | ⟨i, h2, h3⟩⟩
    · rw [hn] at h1; cases h1
    · exact h2
    · exact absurd hx.seen h3
theorem step_map2 {I l T1 M1 T2 M2 : Addr} {i n : Nat} {items : Array Value} {x : Str} {t : Tok} (hh : A.handled = none) (hI : s.heap.IsListIter I l i) (hl : s.heap.get? l = some (lobj items n)) (h1 : IsMap s.heap M1 T1 (.type "int") I) (h2 : IsMap s.heap M2 T2 (.type "str") M1) (hx : items[i]? = some (.str x t)) (hxo : IntOk x)
    (hok : ∀ n, PySem.intText? x = some n → ∀ h' tk t', h'.IsListIter I l (i + 1) → (∀ b o, b ≠ I → s.heap.get? b = some o → h'.get? b = some o) → Q (.str (itext n) t') { s with heap := h', toks := tk })
    (hbad : PySem.intText? x = none → ∀ h₁ h' e tk, (∀ b o, b ≠ I → s.heap.get? b = some o → h₁.get? b = some o) → Heap.NewExc h₁ h' e "ValueError" → E (.ref e) { s with heap := h', toks := tk }) :
    wpK (model prog w) A (call (.builtin "map.__next__") [.ref M2]) Q E s := by
  refine wpK_map_next h2 (wpK_nextOf h1.typeIs slot_map_next ?_)
  refine wpK_map_next h1 (wpK_of (wpAny_nextOf_list_item hI (isList_lobj hl) hx fun h' hI' hs' => ?_))
  have hk : ∀ b o, b ≠ I → s.heap.get? b = some o → h'.get? b = some o := fun b o hb e => (hs'.2 b hb).trans e
  have km : ∀ b o, s.heap.get? b = some o → o.cls ≠ .type "list_iterator" → o.cls ≠ .type "list" → h'.get? b = some o := fun b o e hc _ => hk b o (listiter_ne hI e hc) e
  refine ⟨h1.keep km, int1K hh hxo (fun n hn => ⟨h2.keep km, wpK_of (P.str_of_int (hxo.small n hn) ?_)⟩) fun hn h'' e tk hx' => hbad hn h' h'' e tk hk hx'⟩
  exact hok n hn h' _ _ hI' hk
theorem end_map2 {I l T1 M1 T2 M2 : Addr} {i n : Nat} {items : Array Value} (hh : A.handled = none) (hI : s.heap.IsListIter I l i) (hl : s.heap.get? l = some (lobj items n)) (h1 : IsMap s.heap M1 T1 (.type "int") I) (h2 : IsMap s.heap M2 T2 (.type "str") M1) (hx : items[i]? = none)
    (hE : ∀ h' e, Heap.ExtBut I s.heap h' → (⟨h', s.gens, s.drawn, s.toks, s.os⟩ : Shared).TypeIs (.ref e) "StopIteration" → E (.ref e) { s with heap := h' }) : wpK (model prog w) A (call (.builtin "map.__next__") [.ref M2]) Q E s := by
  exact wpK_map_next h2 (wpK_nextOf h1.typeIs slot_map_next (wpK_map_next h1 (wpK_of (wpAny_nextOf_list_end hh hI (isList_lobj hl) hx hE))))
theorem sub_value_stop : isSubtype (.type "ValueError") (.type "StopIteration") = pure false := by rw [isSubtype_type]; kernel_rfl
theorem wpK_pyNext {M : Addr} {T id : String} {Q : Option Value → Shared → Prop} (hT : s.TypeIs (.ref M) T) (slot : PySem.Slot T "__next__" id)
    (h : wpK (model prog w) A (call (.builtin id) [.ref M]) (fun v s' => Q (some v) s') (fun e s' => (s'.TypeIs e "StopIteration" ∧ Q none s') ∨ (s'.TypeIs e "ValueError" ∧ E e s')) s) : wpK (model prog w) A (pyNext (.ref M)) Q E s := by
  unfold pyNext
  refine wpK_bind (wpK_attempt (wpK_callSpecial (name := Str.ofString "__next__") hT slot (wpK_mono h (fun v s' hv => wpK_of (wpAny_pure hv)) fun e s' he => ?_)))
  dsimp only
  rcases he with ⟨h1, h2⟩ | ⟨h1, h2⟩
  · exact wpK_of (wpAny_bind (wpAny_isInstance (T := "StopIteration") (b := true) h1 isSubtype_stop (wpAny_pure h2)))
  · exact wpK_of (wpAny_bind (wpAny_isInstance (T := "ValueError") (b := false) h1 sub_value_stop (wpAny_throw h2)))
theorem NewExc_typeIs {h h' : Heap} {e : Addr} {cls : String} {g d tk os} (x : Heap.NewExc h h' e cls) : (⟨h', g, d, tk, os⟩ : Shared).TypeIs (.ref e) cls := by
  obtain ⟨ob, t, he, hc, _⟩ := x.there
  exact ⟨ob, he, hc⟩
theorem mapM_snoc {α β : Type} (f : α → Option β) : ∀ (l : List α) (x : α), (l ++ [x]).mapM f = (l.mapM f).bind fun ys => (f x).map fun y => ys ++ [y]
  | [], x => by simp [List.mapM_cons]; cases f x <;> rfl
  | a :: l, x => by
    rw [List.cons_append, List.mapM_cons, mapM_snoc f l x, List.mapM_cons]
    cases f a <;> cases l.mapM f <;> cases f x <;> rfl
theorem mapM_none {α β : Type} (f : α → Option β) {l : List α} {x : α} {r : List α} (h : f x = none) : (l ++ x :: r).mapM f = none := by
  induction l with
  | nil => simp [List.mapM_cons, h]
  | cons a l ih => rw [List.cons_append, List.mapM_cons, ih]; cases f a <;> rfl
theorem extend_loopK {S I l T1 M1 T2 M2 : Addr} {n : Nat} {items : Array Value} {xs : List Str} {res : Value} {R : Result → Shared → Prop} (hh : A.handled = none) (hxs : StrsAre items.toList xs) (hxo : ∀ x ∈ xs, IntOk x) (hsz : xs.length ≤ sizeLine) :
    ∀ (k : Nat) (i : Nat) (s : Shared) (acc : Array Value) (c : Nat) (dn : List Int), xs.length - i = k → i ≤ xs.length → s.heap.IsListIter I l i → s.heap.get? l = some (lobj items n) → IsMap s.heap M1 T1 (.type "int") I → IsMap s.heap M2 T2 (.type "str") M1 →
      s.heap.get? S = some (lobj acc c) → S ≠ l → StrsAre acc.toList (dn.map itext) → (xs.take i).mapM PySem.intText? = some dn →
      (∀ ns h' tk acc' c', xs.mapM PySem.intText? = some ns → (∀ b o, b ≠ I → b ≠ S → s.heap.get? b = some o → h'.get? b = some o) → h'.get? S = some (lobj acc' c') → StrsAre acc'.toList (ns.map itext) → R (.ok (.ret res)) { s with heap := h', toks := tk }) →
      (∀ h₁ h' e tk, xs.mapM PySem.intText? = none → (∀ b o, b ≠ I → b ≠ S → s.heap.get? b = some o → h₁.get? b = some o) → Heap.NewExc h₁ h' e "ValueError" → R (.error (.ref e)) { s with heap := h', toks := tk }) →
      codeK (model prog w) A (.builtin "list.extend.loop" ⟨[.ref S, .ref M2, res], []⟩) R s := by
  have hlen : items.size = xs.length := by rw [← hxs.len_eq, Array.length_toList]
  intro k
  induction k with
  | zero =>
    intro i s acc c dn hk hi hI hl h1 h2 hS hSl hacc hdn hok hbad
    have hin : i = xs.length := by exact om239 hk hi
    subst hin
    refine codeK_builtin PySem.F.plain_extend_loop PySem.F.entry_extend_loop ?_
    show wpK _ A.in1 (pyNext (.ref M2) >>= _) _ _ s
    refine wpK_bind (wpK_pyNext h2.typeIs slot_map_next (end_map2 hh hI hl h1 h2 (Array.getElem?_eq_none (by exact om280 hlen)) fun h' e hx' ht => .inl ⟨ht, ?_⟩))
    rw [List.take_length] at hdn
    have keep : ∀ b o, b ≠ I → s.heap.get? b = some o → h'.get? b = some o := fun b o hb e => hx' b o hb e
    have hSI : S ≠ I := listiter_ne hI hS (show Value.type "list" ≠ .type "list_iterator" by decide)
    exact wpK_of (wpAny_pure (hok dn h' s.toks acc c hdn (fun b o hb _ e => keep b o hb e) (keep _ _ hSI hS) hacc))
  | succ k ih =>
    intro i s acc c dn hk hi hI hl h1 h2 hS hSl hacc hdn hok hbad
    have hlt : i < xs.length := by exact om378 hk
    obtain ⟨x, hx⟩ : ∃ x, xs[i]? = some x := ⟨xs[i], by simp [hlt]⟩
    obtain ⟨t, ht⟩ := hxs.at hx
    have ht' : items[i]? = some (.str x t) := by simpa using ht
    have hSI : S ≠ I := listiter_ne hI hS (show Value.type "list" ≠ .type "list_iterator" by decide)
    have hlI : l ≠ I := listiter_ne hI hl (show Value.type "list" ≠ .type "list_iterator" by decide)
    have hsplit : xs = xs.take i ++ x :: xs.drop (i + 1) := by
      have e1 : xs.drop i = x :: xs.drop (i + 1) := by
        rw [List.drop_eq_getElem_cons hlt]
        have : xs[i] = x := by
          have := List.getElem?_eq_getElem hlt
          rw [hx] at this; exact (Option.some.inj this).symm
        rw [this]
      rw [← e1, List.take_append_drop]
    refine codeK_builtin PySem.F.plain_extend_loop PySem.F.entry_extend_loop ?_
    show wpK _ A.in1 (pyNext (.ref M2) >>= _) _ _ s
    refine wpK_bind (wpK_pyNext h2.typeIs slot_map_next (step_map2 hh hI hl h1 h2 ht' (hxo x (List.mem_of_getElem? hx)) (fun m hm h' tk t' hI' hk' => ?_) fun hm h₁ h' e tk hk' hx' => .inr ⟨NewExc_typeIs hx', ?_⟩))
    · have hS' := hk' S _ hSI hS
      show wpK _ A.in1 (updateSeq S (·.push (.str (itext m) t')) >>= _) _ _ _
      have hacs : acc.size ≤ i := by
        have := hacc.len_eq
        rw [List.length_map, Array.length_toList] at this
        have e2 : dn.length = (xs.take i).length := by
          have : ∀ (l : List Str) (ds : List Int), l.mapM PySem.intText? = some ds → ds.length = l.length := by
            intro l
            induction l with
            | nil => intro ds h; simp at h; subst h; rfl
            | cons a l ih =>
              intro ds h
              rw [List.mapM_cons] at h
              cases ha : PySem.intText? a with
              | none => rw [ha] at h; cases h
              | some y =>
                rw [ha] at h
                cases hl : l.mapM PySem.intText? with
                | none => rw [hl] at h; cases h
                | some zs => rw [hl] at h; cases h; simp [ih zs hl]
          exact this _ _ hdn
        rw [this, e2, List.length_take]; exact om348
      refine wpK_bindA (wpAny_updateSeq hS' rfl (wpK_of (wpAny_pure ⟨plainId_quiet PySem.F.plain_extend_loop _, ?_⟩)) (by exact om454 hacs hlt hsz) (by show (acc.push _).size ≤ _; rw [Array.size_push]; exact om453 hacs hlt hsz))
      obtain ⟨c2, hc2⟩ := update_lobj (fun z => z.push (Value.str (itext m) t')) hS'
      have oth : ∀ b o, b ≠ S → h'.get? b = some o → (h'.update S (Obj.mapSeq fun z => z.push (Value.str (itext m) t'))).get? b = some o := update_other _
      have km : ∀ b o, s.heap.get? b = some o → o.cls ≠ .type "list_iterator" → o.cls ≠ .type "list" → (h'.update S (Obj.mapSeq fun z => z.push (Value.str (itext m) t'))).get? b = some o := fun b o e hc hc2 =>
        oth b o (fun q => by rw [q, hS] at e; cases e; exact hc2 rfl) (hk' b o (listiter_ne hI e hc) e)
      refine ih (i + 1) _ (acc.push (.str (itext m) t')) c2 (dn ++ [m]) (by exact om372 hk) hlt ?_ (oth _ _ (Ne.symm hSl) (hk' _ _ hlI hl)) (h1.keep km) (h2.keep km) hc2 hSl (by rw [Array.toList_push, List.map_append]; exact strsAre_append hacc (.cons _ _ .nil)) ?_ ?_ ?_
      · obtain ⟨o, ho, hr⟩ := hI'; exact ⟨o, oth _ _ (Ne.symm hSI) ho, hr⟩
      · have e3 : xs.take (i + 1) = xs.take i ++ [x] := by
          rw [List.take_add_one, hx]; rfl
        rw [e3, mapM_snoc, hdn, hm]; rfl
      · intro ns h'' tk' acc' c' hns hk'' hS'' hacc''
        exact hok ns h'' tk' acc' c' hns (fun b o hb hb2 e => hk'' b o hb hb2 (oth b o hb2 (hk' b o hb e))) hS'' hacc''
      · intro h₁ h'' e tk' hns hk'' hx'
        exact hbad h₁ h'' e tk' hns (fun b o hb hb2 e => hk'' b o hb hb2 (oth b o hb2 (hk' b o hb e))) hx'
    · exact hbad h₁ h' e tk (by rw [hsplit]; exact mapM_none _ hm) (fun b o hb _ e => hk' b o hb e) hx'
end
end Mine
end
section
open PySem PySem.W PyProof.Rows PySem.SeqAt PySem.MeetsSeq3 PySem.NumText
namespace Mine
theorem type_call_treeG {T newId initId : String} (ft : TypeCalled T newId initId) (args : List Value) (hct : checkTypeCall T ⟨args, []⟩ = pure ()) : ∃ X : Value → Value → Sem PySem.Fin, Builtin.«type.__call__» ⟨.type T :: args, []⟩ =
    (holding [.builtin newId] (call (.builtin newId) (.type T :: args) []) >>= fun obj => isInstance obj (.type T) >>= fun ok => if (!ok) = true then (do rule "type.call.new-gave-other-type"; ret obj) else
      holding [obj] (callSpecial? obj (Str.ofString "__init__") args) >>= fun r => match r with | none => ret obj | some r => if (r != Value.none) = true then X obj r else ret obj) := by
  have h1 := ft.notType
  have h2 := ft.canCreate
  obtain ⟨c, tl, hmro⟩ := ft.mro
  have hmade := ft.made
  refine ⟨?w, ?h⟩
  case h =>
    unfold Builtin.«type.__call__»
    simp only [h1, Bool.false_eq_true, if_false, hct, hmro, hmade, pure_bind, List.isEmpty_cons, h2]
    rfl
section
variable {prog : Program} {w : World} {A : Around} {E : Value → Shared → Prop} {s : Shared} {Q : Value → Shared → Prop}
theorem init_listK {S l I T1 M1 T2 M2 : Addr} {n : Nat} {items : Array Value} {xs : List Str} {R : Result → Shared → Prop} (hh : A.handled = none) (hxs : StrsAre items.toList xs) (hxo : ∀ x ∈ xs, IntOk x) (hsz : xs.length ≤ sizeLine)
    (hI : s.heap.IsListIter I l 0) (hl : s.heap.get? l = some (lobj items n)) (h1 : IsMap s.heap M1 T1 (.type "int") I) (h2 : IsMap s.heap M2 T2 (.type "str") M1) (hS : s.heap.get? S = some (lobj #[] 0)) (hSl : S ≠ l)
    (hok : ∀ ns h' tk acc' c', xs.mapM PySem.intText? = some ns → (∀ b o, b ≠ I → b ≠ S → s.heap.get? b = some o → h'.get? b = some o) → h'.get? S = some (lobj acc' c') → StrsAre acc'.toList (ns.map itext) → R (.ok (.ret .none)) { s with heap := h', toks := tk })
    (hbad : ∀ h₁ h' e tk, xs.mapM PySem.intText? = none → (∀ b o, b ≠ I → b ≠ S → s.heap.get? b = some o → h₁.get? b = some o) → Heap.NewExc h₁ h' e "ValueError" → R (.error (.ref e)) { s with heap := h', toks := tk }) :
    wpK (model prog w) A.in1 (Builtin.«list.__init__» ⟨[.ref S, .ref M2], []⟩) (fun fin s' => match fin with | .done f => R (.ok f) s' | .again c' => c'.quiet = true ∧ codeK (model prog w) A c' R s') (fun e s' => R (.error e) s') s := by
  show wpK _ A.in1 (do let old ← Builtin.List.listItems (.ref S); Builtin.List.listUpdate (.ref S) (fun _ => #[]); letGo old.toList.reverse; Builtin.List.listExtendWith (.ref S) (.ref M2) .none) _ _ s
  refine wpK_bindA ?_
  unfold Builtin.List.listItems
  refine wpAny_bind (wpAny_seqItems hS rfl (wpAny_pure ?_))
  show wpK _ A.in1 (updateSeq S (fun _ => #[]) >>= fun _ => letGo (#[] : Array Value).toList.reverse >>= fun _ => Builtin.List.listExtendWith (.ref S) (.ref M2) .none) _ _ s
  refine wpK_bindA (wpAny_updateSeq hS rfl ?_ (Nat.zero_le _) (Nat.zero_le _))
  have ne_of : ∀ {b : Addr} {o : Obj}, s.heap.get? b = some o → o.cls ≠ .type "list" → b ≠ S := fun {b o} e hc q => by rw [q, hS] at e; cases e; exact hc rfl
  have oth1 : ∀ b o, b ≠ S → s.heap.get? b = some o → (s.heap.update S (Obj.mapSeq (fun _ => (#[] : Array Value)))).get? b = some o := update_other _
  obtain ⟨c1, hS1⟩ := update_lobj (fun _ => (#[] : Array Value)) hS
  generalize s.heap.update S (Obj.mapSeq (fun _ => (#[] : Array Value))) = H1 at oth1 hS1 ⊢
  refine wpK_bindA (wpAny_letGo ?_)
  have k1 : ∀ b o, s.heap.get? b = some o → o.cls ≠ .type "list_iterator" → o.cls ≠ .type "list" → H1.get? b = some o := fun b o e _ hc => oth1 b o (ne_of e hc) e
  have h2' := h2.keep k1
  have hT : ({ s with heap := H1 } : Shared).TypeIs (.ref M2) "map" := ⟨_, h2'.1, rfl⟩
  unfold Builtin.List.listExtendWith
  refine wpK_bindA (wpAny_typeOf hT ?_)
  have hSM : S ≠ M2 := fun q => by
    rw [q, h2.1] at hS
    exact absurd (congrArg Obj.cls (Option.some.inj hS)) (show Value.type "map" ≠ .type "list" by decide)
  have e1 : Builtin.List.listSameRef (.ref S) (.ref M2) = false := by simp [Builtin.List.listSameRef, hSM]
  have e2 : (Value.type "map" == Value.type "list") = false := by decide
  have e3 : (Value.type "map" == Value.type "tuple") = false := by decide
  simp only [e1, e2, e3, Bool.or_false, Bool.false_eq_true, if_false]
  refine wpK_bindA (wpAny_pyIter_map (s := { s with heap := H1 }) h2' ?_)
  refine wpK_bindA (wpAny_holding ?_)
  unfold Builtin.List.listLengthHint
  refine wpAny_bind (wpAny_specialOf hT map_no_len ?_)
  show wpAny _ A.in1 (specialOf (Value.ref M2) (Str.ofString "__length_hint__") >>= _) _ _ _
  refine wpAny_bind (wpAny_specialOf hT map_no_hint ?_)
  refine wpAny_pure ?_
  show wpK _ A.in1 (rule "list.extend.makes-room" >>= fun _ => Builtin.List.listTouch (.ref S) >>= fun _ => again (.builtin "list.extend.loop" ⟨[.ref S, .ref M2, .none], []⟩)) _ _ _
  refine wpK_bindA (wpAny_rule ?_)
  refine wpK_bindA ?_
  show wpAny _ A.in1 (updateSeq S (·.push .none) >>= fun _ => updateSeq S (·.pop)) _ _ _
  refine wpAny_bind (wpAny_updateSeq hS1 rfl ?_ (Nat.zero_le _) (by show 1 ≤ _; exact Nat.le_add_left ..))
  obtain ⟨c2, hS2⟩ := update_lobj (fun z => z.push Value.none) hS1
  have oth2 : ∀ b o, b ≠ S → H1.get? b = some o → (H1.update S (Obj.mapSeq (fun z => z.push Value.none))).get? b = some o := update_other _
  refine wpAny_updateSeq hS2 rfl ?_ (by show 1 ≤ _; rw [sizeLine_eq]; exact Nat.le_of_ble_eq_true rfl) (Nat.zero_le _)
  obtain ⟨c3, hS3⟩ := update_lobj (fun z => z.pop) hS2
  have oth3 : ∀ b o, b ≠ S → (H1.update S (Obj.mapSeq (fun z => z.push Value.none))).get? b = some o → ((H1.update S (Obj.mapSeq (fun z => z.push Value.none))).update S (Obj.mapSeq (fun z => z.pop))).get? b = some o := update_other _
  have hS3' : ((H1.update S (Obj.mapSeq (fun z => z.push Value.none))).update S (Obj.mapSeq (fun z => z.pop))).get? S = some (lobj #[] c3) := hS3
  have oth : ∀ b o, b ≠ S → s.heap.get? b = some o → ((H1.update S (Obj.mapSeq (fun z => z.push Value.none))).update S (Obj.mapSeq (fun z => z.pop))).get? b = some o := fun b o hb e => oth3 b o hb (oth2 b o hb (oth1 b o hb e))
  show wpK _ _ _ _ _ { s with heap := (H1.update S (Obj.mapSeq (fun z => z.push Value.none))).update S (Obj.mapSeq (fun z => z.pop)) }
  generalize (H1.update S (Obj.mapSeq (fun z => z.push Value.none))).update S (Obj.mapSeq (fun z => z.pop)) = H3 at hS3' oth ⊢
  refine wpK_of (wpAny_pure ⟨plainId_quiet PySem.F.plain_extend_loop _, ?_⟩)
  have k3 : ∀ b o, s.heap.get? b = some o → o.cls ≠ .type "list_iterator" → o.cls ≠ .type "list" → H3.get? b = some o := fun b o e _ hc => oth b o (ne_of e hc) e
  have hI3 : H3.IsListIter I l 0 := by
    obtain ⟨o, ho, hc, hd⟩ := hI
    exact ⟨o, oth _ _ (ne_of ho (by rw [hc]; decide)) ho, hc, hd⟩
  exact extend_loopK hh hxs hxo hsz xs.length 0 { s with heap := H3 } #[] c3 [] rfl (Nat.zero_le _) hI3 (oth _ _ (Ne.symm hSl) hl) (h1.keep k3) (h2.keep k3) hS3' hSl .nil rfl
    (fun ns h' tk acc' c' hns hk hS' ha => hok ns h' tk acc' c' hns (fun b o hb hb2 e => hk b o hb hb2 (oth b o hb2 e)) hS' ha)
    (fun h₁ h' e tk hns hk hx => hbad h₁ h' e tk hns (fun b o hb hb2 e => hk b o hb hb2 (oth b o hb2 e)) hx)
theorem wpK_callR {f : Value} {pos : List Value} {kw : List (Str × Value)} (h : ∀ R : Result → Shared → Prop, (∀ v s', Q v s' → R (.ok (.ret v)) s') → (∀ e s', E e s' → R (.error e) s') → codeK (model prog w) A (.call f ⟨pos, kw⟩) R s) : wpK (model prog w) A (call f pos kw) Q E s :=
  wpK_call (h _ (fun _ _ q => q) fun _ _ q => q)
theorem call_list_mapK {l I T1 M1 T2 M2 : Addr} {n : Nat} {items : Array Value} {xs : List Str} (hh : A.handled = none) (hxs : StrsAre items.toList xs) (hxo : ∀ x ∈ xs, IntOk x) (hsz : xs.length ≤ sizeLine)
    (hI : s.heap.IsListIter I l 0) (hl : s.heap.get? l = some (lobj items n)) (h1 : IsMap s.heap M1 T1 (.type "int") I) (h2 : IsMap s.heap M2 T2 (.type "str") M1)
    (hok : ∀ ns h' tk acc' c', xs.mapM PySem.intText? = some ns → (∀ b o, b ≠ I → s.heap.get? b = some o → h'.get? b = some o) → h'.get? s.heap.objs.size = some (lobj acc' c') → StrsAre acc'.toList (ns.map itext) → Q (.ref s.heap.objs.size) { s with heap := h', toks := tk })
    (hbad : ∀ h₁ h' e tk, xs.mapM PySem.intText? = none → (∀ b o, b ≠ I → s.heap.get? b = some o → h₁.get? b = some o) → Heap.NewExc h₁ h' e "ValueError" → E (.ref e) { s with heap := h', toks := tk }) :
    wpK (model prog w) A (call (.type "list") [.ref M2]) Q E s := by
  refine wpK_call (codeK_of_tree (wpK_of ?_))
  show wpAny _ _ (callAny (.type "list") _) _ _ _
  refine wpAny_pure ⟨Code.quiet_builtin _ (by decide +kernel), codeK_builtin_at PySem.F.entry_type_call ?_⟩
  rw [Around.under_plain (weight_type_call_type "list" _ []) (units_type_call_type "list" _ [])]
  obtain ⟨X, ht⟩ := type_call_treeG PySem.F.called_list [.ref M2] (PySem.F.typeCall_list_1 _)
  rw [ht]
  refine wpK_bindA (wpAny_holding (wpAny_call ?_))
  refine codeAny_mono (code_list_new (A := A.in1) (E := fun _ _ => False) (Q₁ := fun obj s₁ => obj = .ref s.heap.objs.size ∧ s₁ = { s with heap := s.heap.push (lobj #[] 0) }) _ ⟨rfl, rfl⟩) fun r s₁ hr => ?_
  cases r with
  | error e => exact hr.elim
  | ok fl =>
    cases fl with
    | ret obj =>
      obtain ⟨rfl, rfl⟩ := hr
      have hS : (s.heap.push (lobj #[] 0)).get? s.heap.objs.size = some (lobj #[] 0) := Heap.get?_push_size _ rfl
      have hT : ({ s with heap := s.heap.push (lobj #[] 0) } : Shared).TypeIs (.ref s.heap.objs.size) "list" := ⟨_, hS, rfl⟩
      refine wpK_bindA (wpAny_isInstance (T := "list") (b := true) hT sub_list_self ?_)
      simp only [Bool.not_true, Bool.false_eq_true, if_false]
      have kp : ∀ b o, s.heap.get? b = some o → (s.heap.push (lobj #[] 0)).get? b = some o := fun b o e => Heap.get?_push_of_some _ e
      have lt : ∀ b o, s.heap.get? b = some o → b ≠ s.heap.objs.size := fun b o e => Nat.ne_of_lt (Heap.lt_size e)
      refine wpK_bind (wpK_holding (wpK_callSpecial (name := Str.ofString "__init__") hT PySem.F.called_list.init (wpK_callR fun R hR hE => codeK_call_builtin PySem.F.called_list.init.plain PySem.F.entry_list_init
        (PySem.F.called_list.init.check _ _ _ _ _ _ _ _ hT (PySem.F.args_list_init_2 _ _) ?_))))
      have hI' : (s.heap.push (lobj #[] 0)).IsListIter I l 0 := by obtain ⟨o, ho, r⟩ := hI; exact ⟨o, kp _ _ ho, r⟩
      refine init_listK (R := R) (s := { s with heap := s.heap.push (lobj #[] 0) }) (A := A.in1) hh hxs hxo hsz hI' (kp _ _ hl) ⟨kp _ _ h1.1, kp _ _ h1.2⟩ ⟨kp _ _ h2.1, kp _ _ h2.2⟩ hS (Ne.symm (lt _ _ hl)) (fun ns h' tk acc' c' hns hk hS' ha => ?_) fun h₁ h' e tk hns hk hx => ?_
      · refine hR _ _ ?_
        simp only [bne_self_eq_false, Bool.false_eq_true, if_false]
        exact wpK_of (wpAny_pure (hok ns h' tk acc' c' hns (fun b o hb e => hk b o hb (lt _ _ e) (kp _ _ e)) hS' ha))
      · exact hE _ _ (hbad h₁ h' e tk hns (fun b o hb e => hk b o hb (lt _ _ e) (kp _ _ e)) hx)
    | _ => exact hr.elim
end
end Mine
end
section
open PySem PySem.W PyProof.Rows PySem.SeqAt PySem.MeetsSeq3 PySem.NumText
namespace Mine
section
variable {W : Wd} {c : Fx} {ρ : Rho} {k : Nat}
theorem strs_of_reps {G : GM} : ∀ {vs : List Value} {ys : List Str}, StrsAre vs ys → Reps G vs (ys.map V.str)
  | _, _, .nil => .nil
  | _, _, .cons y t r => .cons (.str _ _) (strs_of_reps r)
theorem KEVE_listmap {xl : Str} {p1 p2 p3 p4 p5 p6 q1 q2 q3 : Pos} {xs : List Str} {Q : V → Prop} {Qe : Prop} (F : FOk k c) (hl : ρ.lookup xl = some (.val (.list (xs.map V.str))))
    (gl : Glo W "list" (.type "list")) (gm : Glo W "map" (.type "map")) (gs : Glo W "str" (.type "str")) (gi : Glo W "int" (.type "int"))
    (kl : c.env.kindOf "list" = some .globalImplicit) (km : c.env.kindOf "map" = some .globalImplicit) (ks : c.env.kindOf "str" = some .globalImplicit) (ki : c.env.kindOf "int" = some .globalImplicit)
    (hxo : ∀ x ∈ xs, IntOk x) (hsz : xs.length ≤ sizeLine) (h : match xs.mapM PySem.intText? with | some ns => Q (.list (ns.map fun n => V.str (itext n))) | none => Qe)
    (hd : (xl == ("__debug__" : Str)) = false := by kernel_rfl) (hcd : (xl == ("__classdict__" : Str)) = false := by kernel_rfl) :
    KEVE W c ρ (.Call (.Name "list" p1) [.Call (.Name "map" p2) [.Name "str" p3, .Call (.Name "map" p4) [.Name "int" p5, .Name xl p6] [] q3] [] q2] [] q1) Q Qe := fun g s Qc E S hq hE => by
  refine wpK_Call_Name_kw (wpAny_Name (wp_global (env := c.env) F.toFK S gl kl ?_) (by kernel_rfl))
  refine callWithK_of (P := fun _ => True) rfl (fun h _ => ⟨.machine, .inr (.inl rfl), Looks.of_pure rfl⟩) ?_
  refine evalArgs_kw2 rfl ?_ rfl
  refine wpAny_items_cons ?_ rfl
  refine wpAny_Call_Name_kw (wpAny_Name (wp_global (env := c.env) F.toFK S gm km ?_) (by kernel_rfl))
  refine PySem.callWith_type rfl (Calls.evalArgs_plain ?_)
  show wpAny _ _ (spliced (backTo q2 (starEach [.Name "str" p3, .Call (.Name "map" p4) [.Name "int" p5, .Name xl p6] [] q3] c.env))) _ _ _
  refine wpAny_items_cons (wpAny_Name (wp_global (env := c.env) F.toFK S gs ks ?_) (by kernel_rfl)) rfl
  refine wpAny_items_cons ?_ rfl
  refine wpAny_Call_Name_kw (wpAny_Name (wp_global (env := c.env) F.toFK S gm km ?_) (by kernel_rfl))
  refine PySem.callWith_type rfl (Calls.evalArgs_plain ?_)
  show wpAny _ _ (spliced (backTo q3 (starEach [.Name "int" p5, .Name xl p6] c.env))) _ _ _
  refine wpAny_items_cons (wpAny_Name (wp_global (env := c.env) F.toFK S gi ki ?_) (by kernel_rfl)) rfl
  obtain ⟨val, hv, hr⟩ := S.slot xl _ hl
  refine wpAny_items_cons (wpAny_Name (wp_load F.toFK S hv ?_ hcd) hd) rfl
  refine wpAny_items_nil ?_
  cases hr with
  | @list l vs n _ ha hrep =>
    have ha' := S.fr _ _ ha
    refine call_map_list ha' fun h1 hk1 hI1 hM1 hs1 => ?_
    refine wpAny_items_nil ?_
    refine call_map_map (s := { s with heap := h1 }) hM1 fun h2 hk2 hM2 hs2 => ?_
    refine wpAny_items_nil ?_
    show wpAny _ c.A (evalAll []) _ E _
    refine wpAny_pure ⟨trivial, ?_⟩
    have hI2 : h2.IsListIter s.heap.objs.size l 0 := by obtain ⟨o, ho, r⟩ := hI1; exact ⟨o, hk2 _ _ ho, r⟩
    have hM1' : IsMap h2 _ _ _ _ := ⟨hk2 _ _ hM1.1, hk2 _ _ hM1.2⟩
    have hxs := reps_strs hrep
    have old : ∀ b o, s.heap.get? b = some o → h2.get? b = some o := fun b o e => hk2 b o (hk1 b o e)
    have hIne : ∀ b o, s.heap.get? b = some o → b ≠ s.heap.objs.size := fun b o e => Nat.ne_of_lt (Heap.lt_size e)
    have hnew : s.heap.get? h2.objs.size = none := by
      cases q : s.heap.get? h2.objs.size with
      | none => rfl
      | some o => exact absurd (Heap.lt_size (old _ _ q)) (Nat.lt_irrefl _)
    refine call_list_mapK (s := { s with heap := h2 }) F.hand hxs hxo hsz hI2 (old _ _ ha') hM1' hM2 (fun ns h' tk acc' c' hns hk hS' hacc => ?_) fun h₁ h' e tk hns hk hx => ?_
    · rw [hns] at h
      have S1 : Sim W c ρ g { s with heap := h', toks := tk } := S.keeps (tk := tk) (dr := s.drawn) fun b o e => hk b o (hIne b o e) (old b o e)
      obtain ⟨f1, f2⟩ := fresh_new S hnew (h' := h')
      have S2 := S1.freezeNew (vs := acc') (n := c') ⟨f1.g, f1.H, f1.h0⟩ hS' f2
      have e : (ns.map fun n => V.str (itext n)) = (ns.map itext).map V.str := by rw [List.map_map]; rfl
      exact hq _ _ _ _ h (addG_le f1.g) S2 (.list addG_self (by rw [e]; exact strs_of_reps hacc))
    · rw [hns] at h
      have S1 : Sim W c ρ g { s with heap := h₁ } := S.keeps (tk := s.toks) (dr := s.drawn) fun b o e => hk b o (hIne b o e) (old b o e)
      exact hE g.G { s with heap := h₁ } h' e tk h (.refl _) S1 hx
end
end Mine
end
section
open PySem PySem.W PyProof.Rows PySem.Sre
namespace Mine
noncomputable def rxCode : Array Nat := #[14, 4, 0, 1, 4294967295, 17, 0, 7, 14, 24, 10, 1, 4294967295, 13, 5, 22, 48, 57, 0, 1, 15, 17, 15, 13, 11, 9, 0, 26624, 2147483648, 0, 0, 0, 0, 0, 0, 15, 2, 0, 17, 1, 1]
noncomputable def isSep (c : Nat) : Bool := c == 43 || c == 45 || c == 46 || c == 95
noncomputable def isDig (c : Nat) : Bool := 48 ≤ c && c ≤ 57
@[reducible] noncomputable def fStart (p : Nat) (o : Bool) : Sre.Frame := { wait := .nextStart, pc := 5, pos := p, outermost := o }
@[reducible] noncomputable def fBranch (pc p : Nat) (o : Bool) : Sre.Frame := { wait := .nextBranch, pc := pc, pos := p, outermost := o, kept := { lastmark := 0 } }
@[reducible] noncomputable def fGive (n p : Nat) (o : Bool) : Sre.Frame := { wait := .giveBack, pc := 9, pos := p, outermost := o, count := n, kept := { lastmark := 0 } }
@[reducible] noncomputable def rx (text : Array Nat) (lim start pc pos handed : Nat) (o : Bool) (a b : Option Nat) (lm li : Int) (frames : List Sre.Frame) (w : Nat) (ans : Option Bool) (seen : Sre.Seen) : Sre.M :=
  { code := rxCode, text := text, lim := lim, start := start, lastStart := lim, wholeText := false, mustAdvance := false, pc := pc, pos := pos, handed := handed, outermost := o, marks := #[a, b], lastmark := lm, lastindex := li, frames := frames, weight := w, answer := ans, seen := seen }
section
variable {text : Array Nat} {lim start pos handed : Nat} {o : Bool} {a b : Option Nat} {seen : Sre.Seen}
theorem st_mark0 : (rx text lim start 5 pos handed o a b (-1) (-1) [fStart start o] 1 none seen).step = rx text lim start 7 pos handed o (some pos) b 0 (-1) [fStart start o] 1 none (seen.add 17) := rfl
theorem st_branch : (rx text lim start 7 pos handed o a b 0 (-1) [fStart start o] 1 none seen).step = rx text lim start 9 pos pos o a b 0 (-1) [fBranch 8 pos o, fStart start o] 2 none (seen.add 7) := rfl
theorem st_jump20 {fs : List Sre.Frame} {w : Nat} : (rx text lim start 20 pos handed o a b 0 (-1) fs w none seen).step = rx text lim start 38 pos handed o a b 0 (-1) fs w none (seen.add 15) := rfl
theorem st_jump35 {fs : List Sre.Frame} {w : Nat} : (rx text lim start 35 pos handed o a b 0 (-1) fs w none seen).step = rx text lim start 38 pos handed o a b 0 (-1) fs w none (seen.add 15) := rfl
theorem st_mark1 {fs : List Sre.Frame} {w : Nat} : (rx text lim start 38 pos handed o a b 0 (-1) fs w none seen).step = rx text lim start 40 pos handed o a (some pos) 1 1 fs w none (seen.add 17) := by kernel_rfl
theorem st_succ {fs : List Sre.Frame} {w : Nat} : (rx text lim start 40 pos handed o a b 1 1 fs w none seen).step = rx text lim start 40 pos pos o a b 1 1 fs w (some true) (seen.add 1) := by
  cases o <;> rfl
theorem st_alt2 : (rx text lim start 9 pos handed o a b 0 (-1) [fBranch 8 pos o, fStart start o] 2 (some false) seen).step = rx text lim start 23 pos pos o a b 0 (-1) [fBranch 22 pos o, fStart start o] 2 none seen := rfl
theorem st_alt3 : (rx text lim start 23 pos handed o a b 0 (-1) [fBranch 22 pos o, fStart start o] 2 (some false) seen).step = rx text lim start 22 pos handed o a b 0 (-1) [fStart start o] 1 (some false) seen := rfl
theorem st_next (h : start < lim) : ∀ {pc pos : Nat} , (rx text lim start pc pos handed o a b 0 (-1) [fStart start o] 1 (some false) seen).step = rx text lim (start + 1) 5 (start + 1) (start + 1) false a b (-1) (-1) [fStart (start + 1) false] 1 none seen := by
  intro pc pos
  show (if start < lim then _ else _) = _
  rw [if_pos h]; rfl
theorem st_nonext (h : ¬ start < lim) {pc pos : Nat} : ∃ m, (rx text lim start pc pos handed o a b 0 (-1) [fStart start o] 1 (some false) seen).step = m ∧ m.step.outcome = some .failed := by
  refine ⟨_, rfl, ?_⟩
  show (Sre.M.step (if start < lim then _ else _)).outcome = _
  rw [if_neg h]; rfl
theorem acc13 (c : Nat) (seen : Sre.Seen) : ∃ seen', accepts rxCode 13 c seen = .ok (isDig c, seen') := by
  show ∃ seen', inSet rxCode c 41 15 true seen = _
  show ∃ seen', (if (48 ≤ c && c ≤ 57) = true then Except.ok (true, _) else inSet rxCode c 40 18 true _) = _
  unfold isDig
  cases h : (decide (48 ≤ c) && decide (c ≤ 57)) with
  | true => exact ⟨_, if_pos rfl⟩
  | false => exact ⟨_, (if_neg (by simp)).trans rfl⟩
theorem sep_bit : ∀ c, c < 256 → ((rxCode.getD (25 + (1 + c / 32)) 0).testBit (c % 32)) = isSep c := by decide +kernel
theorem acc23 (c : Nat) (seen : Sre.Seen) : ∃ seen', accepts rxCode 23 c seen = .ok (isSep c, seen') := by
  show ∃ seen', inSet rxCode c 41 25 true seen = _
  show ∃ seen', (if (decide (c < 256) && (rxCode.getD (25 + (1 + c / 32)) 0).testBit (c % 32)) = true then Except.ok (true, _) else inSet rxCode c 40 34 true _) = _
  have e : (decide (c < 256) && (rxCode.getD (25 + (1 + c / 32)) 0).testBit (c % 32)) = isSep c := by
    by_cases h : c < 256
    · rw [sep_bit c h]; simp [h]
    · have : isSep c = false := by simp [isSep]; exact om165 h
      rw [this]; simp [h]
  rw [e]
  cases h : isSep c with
  | true => exact ⟨_, if_pos rfl⟩
  | false => exact ⟨_, (if_neg (by simp)).trans rfl⟩
noncomputable def cnt (text : Array Nat) : Nat → Nat → Nat
  | 0, _ => 0
  | n + 1, p => if isDig (text.getD p 0) then cnt text n (p + 1) + 1 else 0
theorem cnt_le (text : Array Nat) : ∀ n p, cnt text n p ≤ n
  | 0, _ => Nat.le_refl _
  | n + 1, p => by
    unfold cnt
    split
    · have := cnt_le text n (p + 1); exact om302 this
    · exact om204
theorem run13 (text : Array Nat) : ∀ (n p found : Nat) (seen : Sre.Seen), ∃ seen', Sre.run rxCode text 13 n p found seen = .ok (found + cnt text n p, seen')
  | 0, p, found, seen => ⟨seen, rfl⟩
  | n + 1, p, found, seen => by
    obtain ⟨s1, h1⟩ := acc13 (text.getD p 0) seen
    unfold Sre.run cnt
    rw [h1]
    cases hd : isDig (text.getD p 0) with
    | true =>
      obtain ⟨s2, h2⟩ := run13 text n (p + 1) (found + 1) s1
      refine ⟨s2, ?_⟩
      show Sre.run rxCode text 13 n (p + 1) (found + 1) s1 = _
      rw [h2]; simp only [if_true]; congr 2; exact om339
    | false => exact ⟨s1, rfl⟩
theorem rep_eq {fs : List Sre.Frame} {w : Nat} : (rx text lim start 9 pos handed o a b 0 (-1) fs w none seen).step =
    (if ((1 : Nat) : Int) > (lim : Int) - pos then rx text lim start 9 pos handed o a b 0 (-1) fs w (some false) (seen.add 24)
     else match Sre.run rxCode text 13 (min 4294967295 ((lim : Int) - pos).toNat) pos 0 ((seen.add 24).add 13) with
      | .error why => (rx text lim start 9 pos handed o a b 0 (-1) fs w none (seen.add 24)).stick why
      | .ok (n, seen) => if n < 1 then rx text lim start 9 pos handed o a b 0 (-1) fs w (some false) seen
        else (rx text lim start 9 (pos + n) handed o a b 0 (-1) fs w none seen).afterRun .giveBack n { lastmark := 0 }) := by kernel_rfl
theorem in_eq {fs : List Sre.Frame} {w : Nat} : (rx text lim start 23 pos handed o a b 0 (-1) fs w none seen).step =
    (if pos ≥ lim then rx text lim start 23 pos handed o a b 0 (-1) fs w (some false) (seen.add 13)
     else match accepts rxCode 23 (text.getD pos 0) (seen.add 13) with
      | .error why => (rx text lim start 23 pos handed o a b 0 (-1) fs w none (seen.add 13)).stick why
      | .ok (false, seen) => rx text lim start 23 pos handed o a b 0 (-1) fs w (some false) seen
      | .ok (true, seen) => rx text lim start 35 (pos + 1) handed o a b 0 (-1) fs w none seen) := by kernel_rfl
theorem st_rep_no {fs : List Sre.Frame} {w : Nat} (hk : lim - pos < 4294967295) (h : ¬ (pos < lim ∧ isDig (text.getD pos 0) = true)) : ∃ seen', (rx text lim start 9 pos handed o a b 0 (-1) fs w none seen).step = rx text lim start 9 pos handed o a b 0 (-1) fs w (some false) seen' := by
  rw [rep_eq]
  by_cases hr : ((1 : Nat) : Int) > (lim : Int) - pos
  · rw [if_pos hr]; exact ⟨_, rfl⟩
  · rw [if_neg hr]
    have hlt : pos < lim := by exact om323 hr
    have hd : isDig (text.getD pos 0) = false := by
      cases q : isDig (text.getD pos 0) with
      | false => rfl
      | true => exact absurd ⟨hlt, q⟩ h
    obtain ⟨m, hm⟩ : ∃ m, min 4294967295 ((lim : Int) - pos).toNat = m + 1 := ⟨min 4294967295 ((lim : Int) - pos).toNat - 1, by exact om322 hr⟩
    rw [hm]
    obtain ⟨s2, h2⟩ := run13 text (m + 1) pos 0 ((seen.add 24).add 13)
    have hc : cnt text (m + 1) pos = 0 := by unfold cnt; rw [hd]; rfl
    rw [hc] at h2
    rw [h2]
    exact ⟨s2, rfl⟩
theorem st_rep_yes {fs : List Sre.Frame} (hk : lim - pos < 4294967295) (hlt : pos < lim) (hd : isDig (text.getD pos 0) = true) : ∃ seen', (rx text lim start 9 pos handed o a b 0 (-1) fs 2 none seen).step =
    rx text lim start 20 (pos + cnt text (lim - pos) pos) (pos + cnt text (lim - pos) pos) o a b 0 (-1) (fGive (cnt text (lim - pos) pos) (pos + cnt text (lim - pos) pos) o :: fs) 3 none seen' := by
  rw [rep_eq, if_neg (by exact om309 hlt)]
  have hm : min 4294967295 ((lim : Int) - pos).toNat = lim - pos := by exact om234 hk
  rw [hm]
  obtain ⟨s2, h2⟩ := run13 text (lim - pos) pos 0 ((seen.add 24).add 13)
  rw [Nat.zero_add] at h2
  rw [h2]
  refine ⟨s2, ?_⟩
  have hc : 1 ≤ cnt text (lim - pos) pos := by
    obtain ⟨k, hk⟩ : ∃ k, lim - pos = k + 1 := ⟨lim - pos - 1, by exact om307 hlt⟩
    rw [hk]; unfold cnt; rw [hd]; simp
  show (if cnt text (lim - pos) pos < 1 then _ else _) = _
  rw [if_neg (by exact om78 hc)]
  rfl
theorem st_in_no {fs : List Sre.Frame} {w : Nat} (h : ¬ (pos < lim ∧ isSep (text.getD pos 0) = true)) : ∃ seen', (rx text lim start 23 pos handed o a b 0 (-1) fs w none seen).step = rx text lim start 23 pos handed o a b 0 (-1) fs w (some false) seen' := by
  rw [in_eq]
  by_cases hr : pos ≥ lim
  · rw [if_pos hr]; exact ⟨_, rfl⟩
  · rw [if_neg hr]
    have hd : isSep (text.getD pos 0) = false := by
      cases q : isSep (text.getD pos 0) with
      | false => rfl
      | true => exact absurd ⟨by exact om328 hr, q⟩ h
    obtain ⟨s2, h2⟩ := acc23 (text.getD pos 0) (seen.add 13)
    rw [h2, hd]
    exact ⟨s2, rfl⟩
theorem st_in_yes {fs : List Sre.Frame} {w : Nat} (hlt : pos < lim) (hd : isSep (text.getD pos 0) = true) : ∃ seen', (rx text lim start 23 pos handed o a b 0 (-1) fs w none seen).step = rx text lim start 35 (pos + 1) handed o a b 0 (-1) fs w none seen' := by
  rw [in_eq, if_neg (by exact om272 hlt)]
  obtain ⟨s2, h2⟩ := acc23 (text.getD pos 0) (seen.add 13)
  rw [h2, hd]
  exact ⟨s2, rfl⟩
end
end Mine
end
section
open PySem PySem.W PyProof.Rows PySem.Sre
namespace Mine
theorem runFor_done : ∀ (n : Nat) (m : Sre.M), m.outcome.isSome = true → m.runFor n = m
  | 0, _, _ => rfl
  | n + 1, m, h => by unfold Sre.M.runFor; rw [h]; rfl
theorem runFor_step {n : Nat} {m m1 m2 : Sre.M} (h0 : m.outcome = none) (h1 : m.step = m1) (h2 : m1.runFor n = m2) : m.runFor (n + 1) = m2 := by
  unfold Sre.M.runFor; rw [h0]; show (if false = true then m else Sre.M.runFor n m.step) = m2
  rw [h1]; simpa using h2
theorem runFor_succ (n : Nat) (m : Sre.M) : m.runFor (n + 1) = if m.outcome.isSome then m else m.step.runFor n := rfl
theorem runFor_add : ∀ (a b : Nat) (m : Sre.M), m.runFor (a + b) = (m.runFor a).runFor b
  | 0, b, m => by rw [Nat.zero_add]; rfl
  | a + 1, b, m => by
    cases h : m.outcome.isSome with
    | true => rw [runFor_done _ _ h, runFor_done _ _ h, runFor_done _ _ h]
    | false =>
      rw [show a + 1 + b = (a + b) + 1 by exact om338, runFor_succ, runFor_succ, h]
      simp only [Bool.false_eq_true, if_false]
      exact runFor_add a b _
theorem runFor_le {a b : Nat} {m m' : Sre.M} (h : m.runFor a = m') (hs : m'.outcome.isSome = true) (hab : a ≤ b) : m.runFor b = m' := by
  obtain ⟨d, rfl⟩ := Nat.le.dest hab
  rw [runFor_add, h, runFor_done _ _ hs]
noncomputable def nxt (text : Array Nat) : Nat → Nat → Option (Nat × Nat)
  | 0, _ => none
  | n + 1, p => if isDig (text.getD p 0) then some (p, p + cnt text (n + 1) p) else if isSep (text.getD p 0) then some (p, p + 1) else nxt text n (p + 1)
noncomputable def Found (m : Sre.M) : Option (Nat × Nat) → Prop
  | none => m.outcome = some .failed
  | some (q, e) => m.outcome = some .matched ∧ m.start = q ∧ m.handed = e ∧ m.marks = #[some q, some e] ∧ m.lastmark = 1
theorem Found.done {m : Sre.M} : ∀ {r}, Found m r → m.outcome.isSome = true
  | none, h => by rw [show m.outcome = some .failed from h]; rfl
  | some (q, e), h => by rw [h.1]; rfl
section
variable {text : Array Nat} {lim start pos handed : Nat} {o : Bool} {a b : Option Nat} {seen : Sre.Seen}
theorem go_step {m m1 : Sre.M} {n : Nat} {r : Option (Nat × Nat)} (h1 : m.step = m1) (h0 : m.outcome = none) (h2 : Found (m1.runFor n) r) : Found (m.runFor (n + 1)) r := by
  rw [runFor_step h0 h1 rfl]; exact h2
theorem chain_no (hk : lim < 4294967295) (hd : ¬ (start < lim ∧ isDig (text.getD start 0) = true)) (hs : ¬ (start < lim ∧ isSep (text.getD start 0) = true)) :
    ∃ seen', ∀ n r, Found ((rx text lim start 22 start start o (some start) b 0 (-1) [fStart start o] 1 (some false) seen').runFor n) r →
      Found ((rx text lim start 5 start handed o a b (-1) (-1) [fStart start o] 1 none seen).runFor (n + 6)) r := by
  obtain ⟨s1, h1⟩ := st_rep_no (text := text) (lim := lim) (start := start) (pos := start) (handed := start) (o := o) (a := some start) (b := b) (seen := (seen.add 17).add 7) (fs := [fBranch 8 start o, fStart start o]) (w := 2) (by exact om257 hk) hd
  obtain ⟨s2, h2⟩ := st_in_no (text := text) (lim := lim) (start := start) (pos := start) (handed := start) (o := o) (a := some start) (b := b) (seen := s1) (fs := [fBranch 22 start o, fStart start o]) (w := 2) hs
  exact ⟨s2, fun n r h => go_step (n := n + 5) st_mark0 rfl (go_step (n := n + 4) st_branch rfl (go_step (n := n + 3) h1 rfl (go_step (n := n + 2) st_alt2 rfl (go_step (n := n + 1) h2 rfl (go_step (n := n) st_alt3 rfl h)))))⟩
theorem fin_dig {n p : Nat} : Found ((rx text lim start 40 pos pos o a b 1 1 [fGive n p o, fBranch 8 start o, fStart start o] 3 (some true) seen).runFor 4) (some (start, pos)) ↔ (a, b) = (some start, some pos) := by
  refine ⟨fun h => ?_, fun h => ?_⟩
  · have : #[a, b] = #[some start, some pos] := h.2.2.2.1
    injection this with this; injection this with h1 h2; injection h2 with h2; rw [h1, h2]
  · injection h with h1 h2; rw [h1, h2]
    exact ⟨by kernel_rfl, by kernel_rfl, by kernel_rfl, by kernel_rfl, by kernel_rfl⟩
theorem fin_sep : Found ((rx text lim start 40 pos pos o (some start) (some pos) 1 1 [fBranch 22 start o, fStart start o] 2 (some true) seen).runFor 3) (some (start, pos)) :=
  ⟨by kernel_rfl, by kernel_rfl, by kernel_rfl, by kernel_rfl, by kernel_rfl⟩
theorem chain_dig (hk : lim < 4294967295) (hlt : start < lim) (hd : isDig (text.getD start 0) = true) :
    Found ((rx text lim start 5 start handed o a b (-1) (-1) [fStart start o] 1 none seen).runFor 10) (some (start, start + cnt text (lim - start) start)) := by
  obtain ⟨s1, h1⟩ := st_rep_yes (text := text) (lim := lim) (start := start) (pos := start) (handed := start) (o := o) (a := some start) (b := b) (seen := (seen.add 17).add 7) (fs := [fBranch 8 start o, fStart start o]) (by exact om257 hk) hlt hd
  exact go_step (n := 9) st_mark0 rfl (go_step (n := 8) st_branch rfl (go_step (n := 7) h1 rfl (go_step (n := 6) st_jump20 rfl (go_step (n := 5) st_mark1 rfl (go_step (n := 4) st_succ rfl (fin_dig.mpr rfl))))))
theorem chain_sep (hk : lim < 4294967295) (hlt : start < lim) (hd : isDig (text.getD start 0) = false) (hs : isSep (text.getD start 0) = true) :
    Found ((rx text lim start 5 start handed o a b (-1) (-1) [fStart start o] 1 none seen).runFor 11) (some (start, start + 1)) := by
  obtain ⟨s1, h1⟩ := st_rep_no (text := text) (lim := lim) (start := start) (pos := start) (handed := start) (o := o) (a := some start) (b := b) (seen := (seen.add 17).add 7) (fs := [fBranch 8 start o, fStart start o]) (w := 2) (by exact om257 hk) (fun h => by rw [hd] at h; cases h.2)
  obtain ⟨s2, h2⟩ := st_in_yes (text := text) (lim := lim) (start := start) (pos := start) (handed := start) (o := o) (a := some start) (b := b) (seen := s1) (fs := [fBranch 22 start o, fStart start o]) (w := 2) hlt hs
  exact go_step (n := 10) st_mark0 rfl (go_step (n := 9) st_branch rfl (go_step (n := 8) h1 rfl (go_step (n := 7) st_alt2 rfl (go_step (n := 6) h2 rfl (go_step (n := 5) st_jump35 rfl (go_step (n := 4) st_mark1 rfl (go_step (n := 3) st_succ rfl fin_sep)))))))
end
theorem search_at {text : Array Nat} {lim : Nat} (hk : lim < 4294967295) : ∀ (n p handed : Nat) (o : Bool) (a b : Option Nat) (seen : Sre.Seen), p + n = lim →
    ∃ k, k ≤ 7 * n + 11 ∧ Found ((rx text lim p 5 p handed o a b (-1) (-1) [fStart p o] 1 none seen).runFor k) (nxt text n p)
  | 0, p, handed, o, a, b, seen, e => by
    obtain ⟨s1, h1⟩ := chain_no (text := text) (lim := lim) (start := p) (handed := handed) (o := o) (a := a) (b := b) (seen := seen) hk (by exact om490 e) (by exact om490 e)
    refine ⟨2 + 6, by exact om0, h1 2 none ?_⟩
    obtain ⟨m, h2, h3⟩ := st_nonext (text := text) (lim := lim) (start := p) (pos := p) (handed := p) (o := o) (a := some p) (b := b) (seen := s1) (by exact om227 e) (pc := 22)
    refine go_step (n := 1) h2 rfl ?_
    show (M.runFor 1 m).outcome = _
    rw [runFor_succ]
    split
    · rename_i h
      have : m.step = m := by unfold Sre.M.step; rw [if_pos h]
      rw [← this]; exact h3
    · exact h3
  | n + 1, p, handed, o, a, b, seen, e => by
    unfold nxt
    have hlt : p < lim := by exact om366 e
    cases hd : isDig (text.getD p 0) with
    | true =>
      have := chain_dig (handed := handed) (o := o) (a := a) (b := b) (seen := seen) hk hlt hd
      rw [show lim - p = n + 1 by exact om376 e] at this
      exact ⟨10, by exact om206, this⟩
    | false =>
      cases hs : isSep (text.getD p 0) with
      | true => exact ⟨11, by exact om207, chain_sep hk hlt hd hs⟩
      | false =>
        obtain ⟨s1, h1⟩ := chain_no (text := text) (lim := lim) (start := p) (handed := handed) (o := o) (a := a) (b := b) (seen := seen) hk (by rw [hd]; simp) (by rw [hs]; simp)
        obtain ⟨k, hk', h2⟩ := search_at hk n (p + 1) (p + 1) false (some p) b s1 (by exact om363 e)
        exact ⟨k + 1 + 6, by exact om285 hk', h1 _ _ (go_step (n := k) (st_next hlt) rfl h2)⟩
end Mine
end
section
open PySem PySem.W PyProof.Rows PySem.Sre PySem.Builtin PySem.Builtin.Re
namespace Mine
theorem forSearch_eq (text : Array Nat) (p lim : Nat) : Sre.forSearch rxCode text 1 p lim false =
    if (decide (p > lim) || decide (lim - p < 1)) = true then
      { code := rxCode, text := text, lim := lim, start := p, pc := 5, pos := p, handed := p, marks := #[none, none], seen := ({} : Sre.Seen).add 14, answer := some false }
    else rx text lim p 5 p p true none none (-1) (-1) [fStart p true] 1 none (({} : Sre.Seen).add 14) := by kernel_rfl
theorem forSearch_found {text : Array Nat} {p lim : Nat} (hk : lim < 4294967295) : ∃ k, k ≤ 7 * (lim - p) + 11 ∧ Found ((Sre.forSearch rxCode text 1 p lim false).runFor k) (nxt text (lim - p) p) := by
  rw [forSearch_eq]
  by_cases h : p < lim
  · rw [if_neg (by simp; exact om269 h)]
    exact search_at hk (lim - p) p p true none none _ (by exact om266 h)
  · rw [if_pos (by simp; exact om331 h), show lim - p = 0 by exact om330 h]
    exact ⟨1, by exact om2, rfl⟩
section
variable {M : Model} {A : Around} {s : Shared} {E : Value → Shared → Prop}
theorem wp_reDrive {Qc : Sre.M → Shared → Prop} {m' : Sre.M} (hm : m'.outcome.isSome = true) (hq : Qc m' s) : ∀ (turns k : Nat) (m : Sre.M), m.runFor k = m' → k < 4 * turns → wpAny M A (reDrive turns m) Qc E s
  | 0, k, m, h1, h3 => by exact (om85 h3).elim
  | turns + 1, k, m, h1, h3 => by
    unfold reDrive
    show wpAny M A (if (m.runFor 4).outcome.isSome = true then pure (m.runFor 4) else do rule "sre.turn"; reDrive turns (m.runFor 4)) Qc E s
    split
    · rename_i h
      have e : m.runFor 4 = m' := by
        rcases Nat.le_total k 4 with hk | hk
        · exact runFor_le h1 hm hk
        · rw [← h1]; exact (runFor_le rfl h hk).symm
      rw [e]; exact wpAny_pure hq
    · rename_i h
      have hk : 4 < k := by
        rcases Nat.lt_or_ge 4 k with hk | hk
        · exact hk
        · exact absurd (by rw [runFor_le h1 hm hk]; exact hm) h
      refine wpAny_bind (wpAny_rule (wp_reDrive hm hq turns (k - 4) (m.runFor 4) ?_ (by exact om244 hk h3)))
      rw [← runFor_add, show 4 + (k - 4) = k by exact om81 hk, h1]
theorem wp_reRun {Qc : Option Sre.M → Shared → Prop} {m m' : Sre.M} {k : Nat} {r : Option (Nat × Nat)} (h1 : m.runFor k = m') (hf : Found m' r) (hk : k < 2 ^ 64)
    (hq : Qc (match r with | none => none | some _ => some m') s) : wpAny M A (reRunToEnd m) Qc E s := by
  unfold reRunToEnd
  refine wpAny_bind (wp_reDrive hf.done ?_ _ k m h1 (by exact om84 hk))
  refine wpAny_bind (wpAny_forIn_list _ (fun _ _ s' => s' = s) _ (fun x rest b s' e => ?_) (fun b s' e => ?_) _ _ rfl)
  · subst e
    split
    · exact wpAny_bind (wpAny_rule (wpAny_pure rfl))
    · exact wpAny_pure rfl
  · subst e
    cases r with
    | none =>
      have ho : m'.outcome = some .failed := hf
      rw [ho]; exact wpAny_pure hq
    | some qe =>
      have ho : m'.outcome = some .matched := hf.1
      rw [ho]; exact wpAny_pure hq
theorem reNamed_one (x : Value) : reNamed "re.Pattern.split" "split" ["string", "maxsplit"] 1 [x] [] = pure [some x, none] := by
  unfold reNamed
  simp
noncomputable def pcs (text : Array Nat) : Nat → Nat → List Str
  | 0, p => [⟨text.extract p text.size⟩]
  | f + 1, p => match nxt text (text.size - p) p with
    | none => [⟨text.extract p text.size⟩]
    | some (q, e) => ⟨text.extract p q⟩ :: ⟨text.extract q e⟩ :: pcs text f e
theorem nxt_bound {text : Array Nat} : ∀ {n p q e}, nxt text n p = some (q, e) → p ≤ q ∧ q < e ∧ e ≤ p + n
  | 0, p, q, e, h => by cases h
  | n + 1, p, q, e, h => by
    unfold nxt at h
    split at h
    · rename_i hd
      injection h with h; injection h with h1 h2
      have h3 : 1 ≤ cnt text (n + 1) p := by unfold cnt; rw [hd]; exact Nat.le_add_left _ _
      exact omA4 h1 h2 h3 (cnt_le text (n + 1) p)
    · split at h
      · injection h with h; injection h with h1 h2; exact om433 h2 h1
      · have := nxt_bound h; exact om430 this
noncomputable def IsRx (h : Heap) (a : Addr) : Prop := ∃ pat fl t, h.get? a = some { cls := .type "re.Pattern", data := .fields #[pat, fl, .int 1 0, .none, .none, .ref t, .int 0 0] } ∧
    h.get? t = some { cls := .type "tuple", data := .seq (rxCode.map fun (i : Nat) => Value.int (i : Int) 0) }
theorem IsRx.keep {h h' : Heap} {a : Addr} (x : IsRx h a) (k : ∀ b o, h.get? b = some o → h'.get? b = some o) : IsRx h' a := by
  obtain ⟨p, f, t, h1, h2⟩ := x
  exact ⟨p, f, t, k _ _ h1, k _ _ h2⟩
theorem wp_wholeTarget {a : Addr} {x : Str} {t : Tok} {Q : ReTarget → Shared → Prop} (h : IsRx s.heap a)
    (hq : Q { pattern := .ref a, string := .str x t, code := rxCode, text := x.cps, kind := 0, groups := 1, pos := 0, lim := x.cps.size } s) : wpAny M A (reWholeTarget (.ref a) (.str x t)) Q E s := by
  obtain ⟨pat, fl, tt, h1, h2⟩ := h
  unfold reWholeTarget
  refine wpAny_bind (wpAny_fieldsOf h1 rfl ?_)
  refine wpAny_bind (wpAny_of_eq (a := (x.cps, 0)) rfl ?_)
  dsimp only
  refine wpAny_bind (wpAny_of_eq (a := ()) rfl ?_)
  refine wpAny_bind ?_
  show wpAny M A (reRawItems (.ref tt)) _ E s
  unfold reRawItems
  refine wpAny_bind (wpAny_seqItems h2 rfl (wpAny_pure (wpAny_pure ?_)))
  have e : Array.map (fun x : Int => x.toNat) (Array.map reRawOf (Option.getD (some (rxCode.map fun (i : Nat) => Value.int (i : Int) 0)) #[])) = rxCode := by kernel_rfl
  rw [e]
  exact hq
theorem wp_group {t : ReTarget} {m : Sre.M} {q e : Nat} {dflt : Sem Value} {Q : Value → Shared → Prop} (hk : t.kind = 0) (hm : m.marks = #[some q, some e]) (hl : m.lastmark = 1) (hqe : q ≤ e) (hsz : e - q ≤ sizeLine)
    (h : Q (.str ⟨t.text.extract q e⟩ s.toks) { s with toks := s.toks + 1 }) : wpAny M A (reMachineGroup t m 1 dflt) Q E s := by
  unfold reMachineGroup
  rw [hm, hl]
  show wpAny M A (if e < q then reWrongSpan else reSlice t.text t.kind q e) Q E s
  rw [if_neg (by exact om320 hqe)]
  unfold reSlice
  rw [hk]
  refine wpAny_mkStr h ?_
  show (t.text.extract q e).size ≤ sizeLine
  rw [Array.size_extract]; exact om435 hsz
theorem wp_slice {text : Array Nat} {q e : Nat} {Q : Value → Shared → Prop} (hsz : e - q ≤ sizeLine)
    (h : Q (.str ⟨text.extract q e⟩ s.toks) { s with toks := s.toks + 1 }) : wpAny M A (reSlice text 0 q e) Q E s := by
  unfold reSlice
  refine wpAny_mkStr h ?_
  show (text.extract q e).size ≤ sizeLine
  rw [Array.size_extract]; exact om435 hsz
theorem wp_split {a : Addr} {x : Str} {t : Tok} {Q : Fin → Shared → Prop} (h : IsRx s.heap a) (hsz : x.length ≤ 1000000)
    (hq : ∀ (vs : List Value) tk, (∀ G, Reps G vs ((pcs x.cps (2 * x.length + 3) 0).map V.str)) → wpAny M A (newList vs >>= fun v => ret v) Q E { s with toks := tk }) :
    wpAny M A (Builtin.«re.Pattern.split» ⟨[.ref a, .str x t], []⟩) Q E s := by
  unfold Builtin.«re.Pattern.split»
  dsimp only
  rw [reNamed_one]
  rw [pure_bind]
  dsimp only
  rw [pure_bind]
  refine wpAny_bind (wp_wholeTarget h ?_)
  refine wpAny_bind ?_
  refine wpAny_mono (wpAny_forIn_list _ (fun rest (b : Array Value × Nat × Nat × Bool × Int × Bool) s' => ∃ tk dn, s' = { s with toks := tk } ∧ (∀ G, Reps G b.1.toList (dn.map V.str)) ∧ b.2.1 = b.2.2.1 ∧ b.2.2.2.1 = false ∧
      (if b.2.2.2.2.2 = true then dn ++ [⟨x.cps.extract b.2.2.1 x.cps.size⟩] = pcs x.cps (2 * x.length + 3) 0 else dn ++ pcs x.cps rest.length b.2.2.1 = pcs x.cps (2 * x.length + 3) 0 ∧ b.2.2.1 ≤ x.cps.size ∧ x.cps.size - b.2.2.1 < rest.length))
    (fun b s' => ∃ tk dn, s' = { s with toks := tk } ∧ (∀ G, Reps G b.1.toList (dn.map V.str)) ∧ b.2.2.2.2.2 = true ∧ dn ++ [⟨x.cps.extract b.2.2.1 x.cps.size⟩] = pcs x.cps (2 * x.length + 3) 0) (fun i rest b s' hI => ?_) (fun b s' hI => ?_) _ _ ?_) (fun b s' hb => ?_) fun _ _ h => h
  · obtain ⟨out, st, la, mu, n, ov⟩ := b
    obtain ⟨tk, dn, rfl, h1, h2, h3, h4⟩ := hI
    dsimp only at h1 h2 h3 h4 ⊢
    subst h2 h3
    cases ov with
    | true =>
      simp only [Bool.not_true, Bool.false_eq_true, if_false] at h4 ⊢
      exact wpAny_pure ⟨tk, dn, rfl, h1, rfl, rfl, h4⟩
    | false =>
      simp only [Bool.not_false, Bool.false_eq_true, if_true, if_false] at h4 ⊢
      obtain ⟨h4, h5, h6⟩ := h4
      obtain ⟨k, hk, hf⟩ := forSearch_found (text := x.cps) (p := st) (lim := x.cps.size) (by have : x.length = x.cps.size := rfl; exact om314 this hsz)
      refine wpAny_bind ?_
      show wpAny M A (reNextFound _ st false) _ E _
      refine wp_reRun rfl hf (by have : x.length = x.cps.size := rfl; exact om461 hsz this hk) ?_
      cases hn : nxt x.cps (x.cps.size - st) st with
      | none =>
        refine wpAny_pure ⟨tk, dn, rfl, h1, rfl, rfl, ?_⟩
        simp only [if_true]
        rw [← h4, List.length_cons]
        unfold pcs; rw [hn]
      | some qe =>
        obtain ⟨q, e⟩ := qe
        rw [hn] at hf
        obtain ⟨f1, f2, f3, f4, f5⟩ := hf
        have hb := nxt_bound hn
        have hx : x.length = x.cps.size := rfl
        dsimp only
        rw [f2, f3]
        refine wpAny_bind (wp_slice (by have hs : 1000000 ≤ sizeLine := (by decide); exact om477 hs hsz hx hb) ?_)
        refine wpAny_bind ?_
        rw [show List.range 1 = [0] from rfl, List.forIn_cons]
        refine wpAny_bind (wpAny_bind (wp_group rfl f4 f5 (by exact om439 hb) (by have hs : 1000000 ≤ sizeLine := (by decide); exact om478 hs hsz hx hb) (wpAny_pure ?_)))
        dsimp only
        rw [List.forIn_nil]
        refine wpAny_pure (wpAny_pure ⟨tk + 1 + 1, dn ++ [⟨x.cps.extract st q⟩, ⟨x.cps.extract q e⟩], rfl, fun G => ?_, rfl, ?_, ?_⟩)
        · dsimp only
          rw [Array.toList_push, Array.toList_push, List.map_append, List.append_assoc]
          exact (h1 G).append (.cons (.str _ _) (.cons (.str _ _) .nil))
        · show (e == q) = false
          rw [beq_eq_false_iff_ne]; exact om440 hb
        · simp only [Bool.false_eq_true, if_false]
          refine ⟨?_, by exact om441 hb, by rw [List.length_cons] at h6; exact om470 h6 hb⟩
          rw [← h4, List.length_cons]
          conv => rhs; unfold pcs
          rw [hn]
          simp
  · obtain ⟨tk, dn, rfl, h1, h2, h3, h4⟩ := hI
    cases ho : b.2.2.2.2.2 with
    | true => rw [ho] at h4; exact ⟨tk, dn, rfl, h1, rfl, h4⟩
    | false =>
      rw [ho] at h4
      simp only [Bool.false_eq_true, if_false, List.length_nil] at h4
      exact (om492 h4).elim
  · refine ⟨s.toks, [], rfl, fun G => .nil, rfl, rfl, ?_⟩
    simp only [Bool.false_eq_true, if_false, List.length_range, List.nil_append]
    exact ⟨rfl, Nat.zero_le _, by show x.cps.size - 0 < 2 * x.cps.size + 3; exact om197⟩
  · obtain ⟨tk, dn, rfl, h1, h2, h3⟩ := hb
    rw [h2]
    simp only [Bool.not_true, Bool.false_eq_true, if_false]
    refine wpAny_bind (wp_slice (by have hs : 1000000 ≤ sizeLine := (by decide); have : x.length = x.cps.size := rfl; exact om443 hs this hsz) ?_)
    refine hq _ _ fun G => ?_
    rw [← h3, Array.toList_push, List.map_append]
    exact (h1 G).append (.cons (.str _ _) .nil)
end
end Mine
end
section
open PySem PySem.W PyProof.Rows PySem.SeqAt PySem.MeetsSeq3
namespace Mine
theorem slot_rx_split : PySem.Slot "re.Pattern" "split" "re.Pattern.split" :=
  .of (owner := "re.Pattern") (n := "split") (by rw [typeLookup_type, builtinLookup_eq_fast]; kernel_rfl) (by decide +kernel) (by decide +kernel) (by decide +kernel)
    (by first | exact .inl (by decide +kernel) | exact .inr (by decide +kernel)) (by rw [isSubtype_type]; kernel_rfl)
theorem entry_rx_split : entryFor table "re.Pattern.split" = some Builtin.«re.Pattern.split» := entryFor_of_tree (by kernel_rfl)
theorem type_rx_split : typeOf (.builtin "re.Pattern.split") = pure (.type "method_descriptor") := by show builtinType _ = _; rw [builtinType_eq_fast]; kernel_rfl
theorem plainAttrs_rx : PlainAttrs "re.Pattern" :=
  ⟨⟨"object.__getattribute__", by rw [typeLookup_type, builtinLookup_eq_fast]; kernel_rfl, by decide +kernel⟩, by rw [typeLookup_type, builtinLookup_eq_fast]; kernel_rfl⟩
theorem owner_rx : Manifest.owners.lookup (String.ofList ['n', 'r', 'e', 't', 't', 'a', 'P', '.', 'e', 'r'].reverse) = some Manifest.sig_re_Pattern := by kernel_rfl
theorem args_rx_split_1 (a b : Value) : argsOk "re.Pattern.split" ⟨[a, b], []⟩ := by
  unfold argsOk; rw [signature?_of (id := "re.Pattern.split") (n := ['t', 'i', 'l', 'p', 's']) (o := ['n', 'r', 'e', 't', 't', 'a', 'P', '.', 'e', 'r']) (by kernel_rfl) owner_rx]; kernel_rfl
theorem pcs_len (text : Array Nat) : ∀ f p, (pcs text f p).length ≤ 2 * f + 1
  | 0, p => Nat.le_refl _
  | f + 1, p => by
    unfold pcs
    split
    · simp
    · have := pcs_len text f
      simp only [List.length_cons]
      have := this ‹_›
      exact om284 this
section
variable {W : Wd} {c : Fx} {ρ : Rho}
theorem TyOk_rx {a : Addr} (h : IsRx W.H0 a) : TyOk W "re.Pattern" (.glob (.ref a)) := fun G s val r hb => by
  obtain ⟨p, f, t, h1, h2⟩ := h
  cases r
  exact ⟨⟨_, hb _ _ h1, rfl⟩, fun b e => by injection e with e; subst e; exact ⟨_, hb _ _ h1, rfl⟩⟩
theorem OVF_rxsplit {a : Addr} {x : Str} {Q : List V → Prop} (hrx : IsRx W.H0 a) (hsz : x.length ≤ 1000000) (h : Q ((pcs x.cps (2 * x.length + 3) 0).map V.str)) : OVF W c ρ [.glob (.ref a), .str x] (fun l => call (.builtin "re.Pattern.split") l) Q := fun g s vals Qc E S r hq => by
  obtain ⟨v, w, rfl, r1, r2⟩ := r.two
  cases r1; cases r2
  have hx := hrx.keep S.base
  refine wpAny_call_entry slot_rx_split (TyOk_rx hrx g.G s _ (.glob _) S.base).1 entry_rx_split ?_ (args_rx_split_1 _ _)
  refine wp_split hx hsz fun vs tk hr => ?_
  refine wpAny_bind (wpAny_newList (wpAny_pure ⟨_, rfl, ?_⟩) ?_)
  have hnew : s.heap.get? s.heap.objs.size = none := Heap.get?_none_of_le (Nat.le_refl _)
  obtain ⟨f1, f2⟩ := fresh_new S hnew (h' := s.heap.push (lobj vs.toArray 0))
  exact hq _ _ vs.toArray 0 g.G _ h (.refl _) (S.keeps (tk := tk) (dr := s.drawn) fun b o e => Heap.get?_push_of_some _ e) (Heap.get?_push_size _ rfl) (hr _) f1 f2
  have e1 := (hr g.G).length
  have e2 := pcs_len x.cps (2 * x.length + 3) 0
  rw [List.length_map] at e1
  rw [e1, sizeLine_eq]
  exact om282 e2 hsz
end
end Mine
end
section
open PySem PySem.W PyProof.Rows PySem.Calls
namespace Mine
open Sem (wp)
@[reducible] noncomputable def Γtop : Ctx := ⟨.builtin "claim.caller" {}, none, none, [], none⟩
noncomputable def wpTop {α : Type} (M : Model) (t : Sem α) (Q : α → Shared → Prop) (E : Value → Shared → Prop) (s : Shared) : Prop := ∀ p, wp M Γtop t (fun a _ s' => Q a s') (fun e _ s' => E e s') p s
section
variable {α β : Type} {M : Model} {E : Value → Shared → Prop} {s : Shared}
theorem wpTop_of {t : Sem α} {Q : α → Shared → Prop} (h : wpAny M callerA t Q E s) : wpTop M t Q E s := fun p => h Γtop p caller_in
theorem wpTop_mono {t : Sem α} {Q Q' : α → Shared → Prop} {E' : Value → Shared → Prop} (h : wpTop M t Q E s) (hQ : ∀ a s, Q a s → Q' a s) (hE : ∀ e s, E e s → E' e s) : wpTop M t Q' E' s :=
  fun p => Sem.wp_mono M Γtop t (fun a _ s => hQ a s) (fun e _ s => hE e s) p s (h p)
theorem wpTop_bind {m : Sem α} {f : α → Sem β} {Q : β → Shared → Prop} (h : wpTop M m (fun a s' => wpTop M (f a) Q E s') E s) : wpTop M (m >>= f) Q E s := fun p => by
  rw [Sem.wp_bind']
  exact Sem.wp_mono M Γtop m (fun a p' s' h' => h' p') (fun _ _ _ h' => h') p s (h p)
theorem wpTop_call {f : Value} {vs : List Value} {Q : Value → Shared → Prop}
    (hc : codeK M callerA (.call f ⟨vs, []⟩) (fun r s' => match r with | .ok (.ret v) => Q v s' | .ok _ => False | .error e => E e s') s) : wpTop M (call f vs) Q E s := fun p => by
  show wp M Γtop (runValue (.call f ⟨vs, []⟩)) _ _ p s
  rw [Sem.wp_runValue]
  exact hc _ p rfl (caller_in.enter (.call f ⟨vs, []⟩) none p (by intro x; cases x)) rfl
end
theorem top_ends {prog : Program} {w : World} {t : Sem Fin} {s : Shared} {R : Result → Shared → Prop} (quiet : s.asleep)
    (h : wpTop (model prog w) t (fun fin z => ∃ f, fin = .done f ∧ R (.ok f) z ∧ AllBare z.gens) (fun e z => R (.error e) z ∧ AllBare z.gens) s) :
    ∃ n x s' z, schedN (denote table) prog w n (.single s ⟨t, .builtin "claim.caller" {}, default, []⟩) = .halted (outcomeOf x) s' ∧ s'.heap.life = s.heap.life ∧ s'.heap = z.heap ∧ s'.os = z.os ∧ R x z := by
  have start : wp (model prog w) Γtop t (Sem.finPost (model prog w) Γtop fun x z => R x z ∧ leftWithCleanup z.gens = false) (fun e _ z => R (.error e) z ∧ leftWithCleanup z.gens = false) default s := by
    refine Sem.wp_mono _ Γtop t (fun fin _ z q => ?_) (fun e _ z q => ⟨q.1, leftWithCleanup_false_of_bare q.2⟩) default s (h default)
    obtain ⟨f, rfl, r, bare⟩ := q
    exact ⟨r, leftWithCleanup_false_of_bare bare⟩
  obtain ⟨n, x, z, s', sched, alone, forgot, good⟩ := wp_halts_full (M := model prog w) quiet start
  have same := Shared.forget_eq forgot
  exact ⟨n, x, s', z, sched, runN_life _ _ _ alone, same.1, same.2.2.2.1, good⟩
end Mine
end
section
open PySem PySem.W PyProof.Rows PySem.Calls
open Mine
noncomputable abbrev Mine.Stand (h h' : Heap) : Prop := ∀ b o, h.get? b = some o → h'.get? b = some o
noncomputable abbrev MineTop.WalkK (q : Program) (loose : List Str) (XP : (Str → Option Value) → Heap → Prop) (YP : World → Heap → Prop) (r : RowW) : Prop :=
  ∀ (w : World) (top s : Shared) (mg mb : Str → Option Value), Ground q loose r.records XP w top mg mb s.heap → YP w s.heap → s.gens = #[] → ∀ a, mg r.name = some (.ref a) →
    ∀ args vals, r.claim.pre args = true → WellAll w.params s.heap vals args →
      codeK (model r.prog w) callerA (.call (.ref a) ⟨vals, []⟩) (fun x z => match x with | .ok (.ret v) => GoodWG r.claim (classAt top.heap) (ExcName.means top.heap) args s (.ok (.ret v)) z | .ok _ => False | .error e => GoodWG r.claim (classAt top.heap) (ExcName.means top.heap) args s (.error e) z) s
section
variable {r : OpenRow} {q : Program} {loose : List Str} {Xt : Shared → Bool} {XP : (Str → Option Value) → Heap → Prop} {α : Type} {Yf : Shared → α} {Ya : World → α} {YP : World → Heap → Prop} {d : DefRec} {kwd : List (Str × Expr)} {N : Nat}
theorem MineTop.PySem.W.holds_open (left : LeftO r.prog q loose Xt Yf Ya N) (hY : ∀ w s, Yf s = Ya w → YP w s.heap) (hYk : ∀ w h h', YP w h → Stand h h' → YP w h') (hX : ∀ s, Xt s = true → XP (s.heap.nsMap mainGlobals) s.heap) (hXk : ∀ mg h h', XP mg h → Stand h h' → XP mg h')
    (hdef : defOf q r.name = some (d, kwd)) (text : r.prog.theDef r.name = some (d.params, d.body, d.scope)) (kws : kwWritten? d.params.kwonlyargs d.params.kw_defaults = some kwd) (recs : ∀ s, Xt s = true → RecFacts r.records s.heap) (table : (!r.writes || r.records.isEmpty) = true)
    (said : r.wellSaid = true) (looks : (chainsOk q && opensWell r.prog && (frees r.toRowW && r.within.isEmpty)) = true) (bare : r.prog.bare) (hw : r.toRowW.promised) (walk : WalkK q loose XP YP r.toRowW) : r.Holds := by
  rw [Bool.and_eq_true, Bool.and_eq_true, Bool.and_eq_true] at looks
  have free := frees_parts looks.2.1
  have inside : r.toRowW.claim.within = [] := List.isEmpty_iff.mp looks.2.2
  have ident := ident_freeW free.2.1 free.2.2.1 free.2.2.2.1
  refine ⟨said, hw, ⟨bare, looks.1.2, congrArg (List.map _) free.2.2.2.2⟩, hw.witness, fun w => ?_⟩
  have behind := left.behind (XP := fun mg h => XP mg h ∧ RecFacts r.records h) (fun s e => ⟨hX s e, recs s e⟩) looks.1.1 w
  refine ⟨behind.1, fun z hz => ?_⟩
  obtain ⟨s₀, fence, none₀, s, top, quiet, gens, names, ground, seen⟩ := behind.2 z hz
  have base : Ground q loose [] XP w s _ _ s.heap := { ground with X := ground.X.1 }
  have rf := ground.X.2
  have full := rf.ground base
  have nogens : s.gens = #[] := Array.eq_empty_of_size_eq_zero (eq_of_beq gens)
  refine ⟨s₀, fence, none₀, s, top, fun n hn => ?_, rf.1, rf.2.1, fun args pre layable ord perm => ?_⟩
  · have e : n = r.name := by revert hn; cases r.pinned <;> simp
    exact e ▸ pinned_of_view names base hdef text kws
  have can := layAllW_isSome (P := w.params) (ord := ord) full.has args r.args s (pre_splitW pre).1
  cases laid : layAllW r.records (classAt s.heap) w.params ord args s with
  | none => rw [laid] at can; cases can
  | some p =>
    obtain ⟨vals, s₁⟩ := p
    have keeps := layAllW_keeps _ _ _ laid
    have rest := layAllW_rest _ _ _ laid
    obtain ⟨as, reads, inn, old⟩ := reads_layAllW perm _ _ _ laid layable s₁.heap fun _ _ e => e
    have L : Laid r.records w s s₁ args vals as := { laid := ⟨ord, perm, laid⟩, reads := reads, within := inn, old := old, keeps := keeps, gens := rest.1.trans nogens, os := rest.2.2.1 }
    have here := full.keeps hXk keeps
    obtain ⟨a, _, _, _, _, _, _, at1, _⟩ := here.fn hdef
    have walked := walk w s s₁ _ _ here (hYk _ _ _ (hY w s seen) keeps) L.gens a at1 args vals pre L.well
    have run := top_ends (t := do match ← nsGet mainNs r.name with
        | some f => do ret (← PySem.call f vals)
        | none => unsupported "claim.caller:no-such-global") (R := fun x z => GoodWG r.toRowW.claim (classAt s.heap) (ExcName.means s.heap) args s₁ x z) (Shared.asleep_of_life rest.2.2.2 quiet) (by
      refine wpTop_bind (wpTop_of (wpAny_nsGet here.T.g ?_))
      rw [at1]
      refine wpTop_bind (wpTop_mono (wpTop_call walked) (fun v z g => wpTop_of (wpAny_pure ⟨_, rfl, g, g.2.2.2⟩)) fun e z g => ⟨g, g.2.2.2⟩))
    obtain ⟨n, x, s', z, sched, life, eh, eo, good⟩ := run
    have fin := good.laid (c := r.toRowW.claim) free.1 inside ident L
    refine ⟨vals, s₁, laid, n, _, s', sched, ?_, fun _ i x e => ?_, fun e => ?_, congrArg Life.seen (life.trans rest.2.2.2), Shared.rest_eq (eo.trans fin.2.1)⟩
    · rw [eh]
      exact fin.1.imp (fun ⟨v, e, c1, c2, c3, c4, c5⟩ => ⟨v, e ▸ rfl, c1, c2, c3, fun b o y _ => c4 b o y, c5⟩) fun ⟨v, ob, cls, e, c1, c2, c3, c4, c5⟩ => ⟨v, ob, cls, e ▸ rfl, c1, c2, c3, c4, fun b o y _ => c5 b o y⟩
    · rw [nogens] at e; exact (nomatch e)
    · rw [eh]
      exact ⟨namesKept_of top names _ keeps good.2.1.old, noTable table e⟩
end
end
section
open PySem PySem.W PyProof.Rows
namespace MineTop
set_option maxHeartbeats 8000000 in
open_top hd for PySem.Challenge.rw_wn0066_01
end MineTop
end
section
open PySem PySem.W PyProof.Rows PySem.Builtin.Str
namespace Mine
noncomputable def stmtAt (i : Nat) : Option Stmt := PySem.Challenge.pw_wn0066_01.main.body[i]?
noncomputable def bodyOf (i : Nat) : List Stmt := match stmtAt i with
  | some (.FunctionDef _ _ body ..) => body
  | _ => []
noncomputable def scopeOf (i : Nat) : Scope := match stmtAt i with
  | some (.FunctionDef _ _ _ _ _ _ scope ..) => scope
  | _ => default
noncomputable def kindsOk (sc : Scope) (ns : List Str) : Bool := ns.all fun x => sc.names.lookup x == some .local || sc.names.lookup x == some .cell
noncomputable def nodupB : List Str → Bool
  | [] => true
  | x :: r => !r.contains x && nodupB r
theorem nodup_of : ∀ {l : List Str}, nodupB l = true → l.Nodup
  | [], _ => .nil
  | x :: r, h => by
    unfold nodupB at h
    obtain ⟨h1, h2⟩ := Bool.and_eq_true_iff.mp h
    refine List.nodup_cons.mpr ⟨fun hm => ?_, nodup_of h2⟩
    rw [List.contains_iff_mem.mpr hm] at h1; cases h1
theorem cells_some : ∀ (l : List (Str × NameKind)) (n : Nat) (acc : List (Str × Addr)) (x : Str), ((x, NameKind.cell) ∈ l ∨ (acc.lookup x).isSome = true) → ((cellsFrom n l acc).lookup x).isSome = true
  | [], n, acc, x, h => by
    rcases h with h | h
    · cases h
    · exact h
  | (y, kd) :: r, n, acc, x, h => by
    unfold cellsFrom
    split
    · rename_i hk
      refine cells_some r _ _ _ ?_
      rw [List.lookup_cons]
      cases hx : x == y with
      | true => exact .inr rfl
      | false =>
        refine h.imp (fun h => ?_) id
        rcases List.mem_cons.mp h with h | h
        · cases h; simp at hx
        · exact h
    · rename_i hk
      refine cells_some r _ _ _ (h.imp (fun h => ?_) id)
      rcases List.mem_cons.mp h with h | h
      · cases h; exact absurd rfl hk
      · exact h
theorem kinds_of {sc : Scope} {ns : List Str} (h : kindsOk sc ns = true) : ∀ x ∈ ns, sc.names.lookup x = some .local ∨ (sc.names.lookup x = some .cell ∧ ∀ n, ((cellsFrom n sc.names []).lookup x).isSome = true) := fun x hx => by
  have := List.all_eq_true.mp h x hx
  rcases Bool.or_eq_true_iff.mp this with h | h
  · exact .inl (beq_iff_eq.mp h)
  · have e := beq_iff_eq.mp h
    exact .inr ⟨e, fun n => cells_some _ n [] x (.inl (mem_of_lookup e))⟩
section
variable {W : Wd} {ad : Str → Addr} {fd : Str → FuncData}
theorem FN_go {W : Wd} {k : Nat} {a : Addr} {fd : FuncData} {name : Str} {i : Nat} {args : List V} {kw : List (Str × V)} {ρ₀ : List (Str × V)} {Q : V → Prop} (ns : List Str) (X : FnAt W a fd name (scopeOf i) (bodyOf i)) (hlim : W.H0.NoLimit)
    (hb : ∀ G vals kvals, Reps G vals args → Reps G kvals (kw.map (·.2)) → ∃ bv, Binds W fd ⟨vals, (kw.map (·.1)).zip kvals⟩ bv ∧ bv.map (·.1) = ns ∧ Reps G (bv.map (·.2)) (ρ₀.map (·.2)))
    (h : ∀ L cd A h₀ G, FOk k (fx name (scopeOf i) L a cd A h₀ G (fun _ => False) []) → EXS W (fx name (scopeOf i) L a cd A h₀ G (fun _ => False) []) (ρ₀.map fun p => (p.1, .val p.2)) (bodyOf i) (fun _ => Q .none) fun v _ => Q v)
    (hns : ρ₀.map (·.1) = ns := by rfl) (hnd : nodupB ns = true := by kernel_rfl) (hkind : kindsOk (scopeOf i) ns = true := by kernel_rfl)
    (hco : (scopeOf i).isCoroutine = false := by rfl) (hgen : (scopeOf i).isGenerator = false := by rfl) (hk : (scopeOf i).kind = .function := by rfl) :
    FN W (k + 1) (.ref a) args kw Q := by
  subst hns
  exact FN_intro X hlim hb (nodup_of hnd) (kinds_of hkind) h hco hgen hk
theorem EV_Meth0 {c : Fx} {ρ : Rho} {T id : String} {o : Expr} {name : Str} {apos pos : Pos} {Q : V → Prop} (pa : PlainAttrs T) (slot : PySem.Slot T name id) (hty : typeOf (.builtin id) = pure (.type "method_descriptor"))
    (h : EV W c ρ o fun ov => TyOk W T ov ∧ OV W c ρ [ov] (fun l => call (.builtin id) l) Q)
    (hbase : attributeBase o name c.env (eval o c.env) = eval o c.env := by rfl) (hline : (apos.endLine == pos.line) = true := by rfl) : EV W c ρ (.Call (.Attribute o name apos) [] [] pos) Q :=
  EV_Meth pa slot hty (h.mono fun ov q => ⟨q.1, EVL_nil q.2⟩) hbase (by rfl) (by rfl) hline (fun e r h => by cases h)
noncomputable def FnOk (W : Wd) (ad : Str → Addr) (fd : Str → FuncData) (n : Str) (i : Nat) : Prop := Glo W n (.ref (ad n)) ∧ FnAt W (ad n) (fd n) n (scopeOf i) (bodyOf i)
structure PwOk (W : Wd) (ad : Str → Addr) (fd : Str → FuncData) : Prop where
  lim : W.H0.NoLimit
  f_comp : FnOk W ad fd "_comparable_version" 4
  f_norm : FnOk W ad fd "_norm_version" 5
  f_right : FnOk W ad fd "bisect_right" 7
  f_ins : FnOk W ad fd "insort_left" 8
  f_left : FnOk W ad fd "bisect_left" 9
  f_subst : FnOk W ad fd "_substitution_cost" 13
  f_pairs : FnOk W ad fd "_law_pairs" 15
  f_cells : FnOk W ad fd "_law_cells" 16
  f_letters : FnOk W ad fd "_law_letters" 17
  f_first : FnOk W ad fd "_law_first" 18
  f_normed : FnOk W ad fd "_law_normed" 19
  f_laid : FnOk W ad fd "_law_laid" 20
  f_due : FnOk W ad fd "_law_due" 21
  f_costs : FnOk W ad fd "_law_costs" 22
  f_law : FnOk W ad fd "law" 23
  b_comp : ∀ v, Binds W (fd "_comparable_version") ⟨[v], []⟩ [("version", v)]
  b_norm1 : ∀ v, ∃ t, Binds W (fd "_norm_version") ⟨[v], []⟩ [("version", v), ("build", .str "" t)]
  b_norm2 : ∀ v w, Binds W (fd "_norm_version") ⟨[v, w], []⟩ [("version", v), ("build", w)]
  b_right : ∀ a x l h, Binds W (fd "bisect_right") ⟨[a, x, l, h], []⟩ [("a", a), ("x", x), ("lo", l), ("hi", h), ("key", .none)]
  b_left : ∀ a x l h, Binds W (fd "bisect_left") ⟨[a, x, l, h], []⟩ [("a", a), ("x", x), ("lo", l), ("hi", h), ("key", .none)]
  b_leftK : ∀ a x l h f, Binds W (fd "bisect_left") ⟨[a, x, l, h], [("key", f)]⟩ [("a", a), ("x", x), ("lo", l), ("hi", h), ("key", f)]
  b_ins : ∀ a x l h, Binds W (fd "insort_left") ⟨[a, x, l, h], []⟩ [("a", a), ("x", x), ("lo", l), ("hi", h), ("key", .none)]
  b_insK : ∀ a x l h f, Binds W (fd "insort_left") ⟨[a, x, l, h], [("key", f)]⟩ [("a", a), ("x", x), ("lo", l), ("hi", h), ("key", f)]
  b_subst : ∀ v w, Binds W (fd "_substitution_cost") ⟨[v, w], []⟩ [("ch_a", v), ("ch_b", w)]
  b_pairs : Binds W (fd "_law_pairs") ⟨[], []⟩ []
  b_cells : ∀ v, Binds W (fd "_law_cells") ⟨[v], []⟩ [("script", v)]
  b_letters : ∀ v, Binds W (fd "_law_letters") ⟨[v], []⟩ [("draw", v)]
  b_first : ∀ v, Binds W (fd "_law_first") ⟨[v], []⟩ [("item", v)]
  b_normed : ∀ v w, Binds W (fd "_law_normed") ⟨[v, w], []⟩ [("fields", v), ("turn", w)]
  b_laid : ∀ a b c d e, Binds W (fd "_law_laid") ⟨[a, b, c, d, e], []⟩ [("row", a), ("start", b), ("points", c), ("places", d), ("depths", e)]
  b_due : ∀ a b c, Binds W (fd "_law_due") ⟨[a, b, c], []⟩ [("points", a), ("places", b), ("depths", c)]
  b_costs : ∀ a b, Binds W (fd "_law_costs") ⟨[a, b], []⟩ [("changes", a), ("places", b)]
  b_law : ∀ v, Binds W (fd "law") ⟨[v], []⟩ [("script", v)]
  move : ∃ t, Glo W "_MOVE_COST" (.int 2 t)
  case_ : ∃ t, Glo W "_CASE_COST" (.int 1 t)
  rx : ∃ a, Glo W "_twin_re_1" (.ref a) ∧ IsRx W.H0 a
  len_ : Glo W "len" (.builtin "len")
  sum_ : Glo W "sum" (.builtin "sum")
  sorted_ : Glo W "sorted" (.builtin "sorted")
  range_ : Glo W "range" (.type "range")
  int_ : Glo W "int" (.type "int")
  str_ : Glo W "str" (.type "str")
  list_ : Glo W "list" (.type "list")
  map_ : Glo W "map" (.type "map")
  verr_ : Glo W "ValueError" (.type "ValueError")
noncomputable def substV (x y : Str) : Int := if (x == y) = true then 0 else if (Txt.lower x == Txt.lower y) = true then 1 else 2
theorem fn_subst (P : PwOk W ad fd) {k : Nat} {x y : Str} (hx : tooLong (Txt.lower x).length = false) (hy : tooLong (Txt.lower y).length = false) : FN W (k + 1) (.ref (ad "_substitution_cost")) [.str x, .str y] [] (fun v => v = .int (substV x y)) := by
  refine FN_go (ρ₀ := [("ch_a", .str x), ("ch_b", .str y)]) ["ch_a", "ch_b"] P.f_subst.2 P.lim (fun G vals kvals r r' => ?_) (fun L cd A h₀ G F => ?_)
  · obtain ⟨v, w, rfl, r1, r2⟩ := r.two
    cases r'
    exact ⟨_, P.b_subst v w, rfl, .cons r1 (.cons r2 .nil)⟩
  · unfold substV
    refine EXS_cons (EX_If (ET_Compare (by rfl) (EV_Name F.toFK (by rfl) (EV_Name F.toFK (by rfl) (OV_eq_str (TV_bool ?_))))))
    split
    · exact EXS_cons (EX_Return (EV_int rfl))
    · refine EXS_nil (EXS_cons (EX_If (ET_Compare (by rfl) (EV_Meth0 PySem.F.plainAttrs_str PySem.F.slot_str_lower PySem.F.type_str_lower (EV_Name F.toFK (by rfl) ⟨TyOk_str _, OV_lower hx ?_⟩)))))
      refine EV_Meth0 PySem.F.plainAttrs_str PySem.F.slot_str_lower PySem.F.type_str_lower (EV_Name F.toFK (by rfl) ⟨TyOk_str _, OV_lower hy (OV_eq_str (TV_bool ?_))⟩)
      obtain ⟨t1, hm⟩ := P.move
      obtain ⟨t2, hc⟩ := P.case_
      split
      · exact EXS_cons (EX_Return (EV_Glo F.toFK hc (by rfl) (fun G => .int 1 t2) rfl))
      · exact EXS_nil (EXS_cons (EX_Return (EV_Glo F.toFK hm (by rfl) (fun G => .int 2 t1) rfl)))
end
end Mine
end
section
open PySem PySem.W PyProof.Rows PySem.Builtin.Str
namespace Mine
mutual
noncomputable def litV : Nat → Expr → Option V
  | 0, _ => none
  | _ + 1, .Constant (.int i) _ _ => some (.int i)
  | _ + 1, .Constant (.str s) _ _ => some (.str s)
  | n + 1, .List es _ => match litVs n es with
    | some xs => if xs.length ≤ 1000 then some (.list xs) else none
    | none => none
  | _ + 1, _ => none
noncomputable def litVs : Nat → List Expr → Option (List V)
  | 0, _ => none
  | _ + 1, [] => some []
  | n + 1, e :: r => match litV n e, litVs n r with
    | some v, some vs => some (v :: vs)
    | _, _ => none
end
section
variable {W : Wd} {c : Fx} {ρ : Rho} {k : Nat}
theorem lit_star {n : Nat} {e : Expr} {v : V} (h : litV n e = some v) (rest : List Expr) (env : Env) : starEach (e :: rest) env = (false, eval e env) :: starEach rest env := by
  cases n with
  | zero => cases h
  | succ n => cases e <;> first | rfl | cases h
theorem EV_lit : ∀ {n : Nat}, (∀ {e : Expr} {v : V} {Q : V → Prop}, litV n e = some v → Q v → EV W c ρ e Q) ∧ (∀ {es : List Expr} {vs : List V} {Q : List V → Prop}, litVs n es = some vs → Q vs → EVL W c ρ es Q)
  | 0 => ⟨fun h _ => (by cases h), fun h _ => (by cases h)⟩
  | n + 1 => by
    obtain ⟨i1, i2⟩ := EV_lit (n := n)
    refine ⟨fun {e v Q} h q => ?_, fun {es vs Q} h q => ?_⟩
    · cases e with
      | Constant c _ _ =>
        cases c with
        | int i => cases h; exact EV_int q
        | str i => cases h; exact EV_str q
        | _ => cases h
      | List es _ =>
        have h : (match litVs n es with | some xs => if xs.length ≤ 1000 then some (V.list xs) else none | none => none) = some v := h
        cases hx : litVs n es with
        | none => rw [hx] at h; cases h
        | some xs =>
          rw [hx] at h
          by_cases hl : xs.length ≤ 1000
          · cases (if_pos hl).symm.trans h
            exact EV.of_fresh (EVF_List (i2 hx ⟨by rw [sizeLine_eq]; exact om135 hl, q⟩))
          · cases (if_neg hl).symm.trans h
      | _ => cases h
    · cases es with
      | nil => cases h; exact EVL_nil q
      | cons e r =>
        have h : (match litV n e, litVs n r with | some v, some vs => some (v :: vs) | _, _ => none) = some vs := h
        cases h1 : litV n e with
        | none => rw [h1] at h; cases h
        | some v =>
          cases h2 : litVs n r with
          | none => rw [h1, h2] at h; cases h
          | some vs =>
            rw [h1, h2] at h; cases h
            exact EVL_cons (i1 h1 (i2 h2 q)) (lit_star h1 r c.env)
end
section
variable {W : Wd} {ad : Str → Addr} {fd : Str → FuncData}
@[reducible] noncomputable def vp (r : Int) (w : Str) : V := .list [.int r, .str w]
@[reducible] noncomputable def pairV (p : (Int × Str) × (Int × Str)) : V := .list [vp p.1.1 p.1.2, vp p.2.1 p.2.2]
noncomputable def pairs : List ((Int × Str) × (Int × Str)) := [((0, "A"), (20, "a")), ((0, "ALPHA"), (20, "alpha")), ((0, "B"), (30, "b")), ((0, "BETA"), (30, "beta")), ((0, "C"), (40, "c")), ((0, "DEV"), (10, "dev")), ((50, "RC"), (50, "rc")), ((0, "P"), (200, "p")), ((0, "PL"), (200, "pl")), ((0, "X"), (0, "x")), ((0, "SS"), (0, "ss")), ((0, "ß"), (0, "ẞ"))]
theorem fn_pairs (P : PwOk W ad fd) {k : Nat} : FN W (k + 1) (.ref (ad "_law_pairs")) [] [] (fun v => v = .list (pairs.map pairV)) := by
  refine FN_go (ρ₀ := []) [] P.f_pairs.2 P.lim (fun G vals kvals r r' => ?_) (fun L cd A h₀ G F => ?_)
  · cases r; cases r'
    exact ⟨_, P.b_pairs, rfl, .nil⟩
  · refine EXS_cons ?_
    refine EX_Return ?_
    have h : ∀ e, litV 100 e = some (.list (pairs.map pairV)) → EV W (fx "_law_pairs" (scopeOf 15) L (ad "_law_pairs") cd A h₀ G (fun _ => False) []) [] e (fun v => v = .list (pairs.map pairV)) := fun e he => EV_lit.1 he (Eq.refl _)
    refine h _ ?_
    kernel_rfl
theorem fn_first (P : PwOk W ad fd) {k : Nat} {x : V} {xs : List V} : FN W (k + 1) (.ref (ad "_law_first")) [.list (x :: xs)] [] (fun v => v = x) := by
  refine FN_go (ρ₀ := [("item", .list (x :: xs))]) ["item"] P.f_first.2 P.lim (fun G vals kvals r r' => ?_) (fun L cd A h₀ G F => ?_)
  · obtain ⟨v, rfl, r1⟩ := r.one
    cases r'
    exact ⟨_, P.b_first v, rfl, .cons r1 .nil⟩
  · exact EXS_cons (EX_Return (EV_Item (EVP_of (EV_Name F.toFK (by rfl) ⟨_, rfl, EV_int ⟨0, rfl, by decide, by decide, x, rfl, rfl⟩⟩))))
end
end Mine
end
section
open PySem PySem.W PyProof.Rows PySem.Builtin.Str
namespace Mine
section
variable {W : Wd} {ad : Str → Addr} {fd : Str → FuncData}
noncomputable def Sub (ρ' ρ : Rho) : Prop := ∀ x sl, ρ'.lookup x = some sl → ρ.lookup x = some sl
theorem Sub.refl (ρ : Rho) : Sub ρ ρ := fun _ _ e => e
theorem Sub.nil (ρ : Rho) : Sub [] ρ := fun _ _ e => by cases e
theorem Sub.put {ρ ρ' : Rho} {x : Str} {sl : Slot} (h : ρ.lookup x = some sl) (r : Sub ρ' ρ) : Sub ((x, sl) :: ρ') ρ := fun y sl' e => by
  rw [List.lookup_cons] at e
  cases hx : y == x with
  | true => rw [hx] at e; cases e; rw [beq_iff_eq.mp hx]; exact h
  | false => rw [hx] at e; exact r y sl' e
theorem ASG_sub {c : Fx} {ρ ρ' : Rho} {t : Expr} {v : V} {Q : Rho → Prop} (hs : Sub ρ' ρ) (h : ASG W c ρ' t v Q) : ASG W c ρ t v Q := fun g s val Qc E S => h g s val Qc E (S.sub hs)
theorem sFor {c : Fx} {ρ : Rho} {k : Nat} {target iter : Expr} {body : List Stmt} {pos : Pos} {Qn : Rho → Prop} {Qr : V → Rho → Prop} (F : FOk k c)
    (h : EVI W c ρ True iter fun xs => ∃ conc : Nat → Rho, Sub (conc 0) ρ ∧ (∀ i x, xs[i]? = some x → ASG W c (conc i) target x fun ρ'' => EXS W c ρ'' body (Sub (conc (i + 1))) Qr) ∧ ∀ ρ', Sub (conc xs.length) ρ' → Qn ρ')
    (hs : ∀ x, foldedSetIterable iter c.env x = pure x) : EX W c ρ (.For target iter body [] pos) Qn Qr := by
  refine EX_For F (fun g s Qc E S hq => h g s Qc E S fun xs I dep G' s' P St q => hq xs I dep G' s' P St ?_) hs
  obtain ⟨conc, h0, h1, h2⟩ := q
  exact ⟨fun i ρ' => Sub (conc i) ρ', h0, fun i x ρ' hx hj => ASG_sub hj (h1 i x hx), h2⟩
theorem sEx {c : Fx} {ρ : Rho} {x : Str} {px pos : Pos} {e : Expr} {Qn : Rho → Prop} {Qr : V → Rho → Prop} (F : FK c) (h : EV W c ρ e fun v => Qn ((x, .val v) :: ρ)) (hk : Storable c x)
    (hs : swapsWith e (some (.Name x px)) pos.line c.env = pure false) : EX W c ρ (.Assign [.Name x px] e pos) Qn Qr := EX_Assign F hk h hs
theorem sOwn {c : Fx} {ρ : Rho} {k : Nat} {x : Str} {px pos : Pos} {e : Expr} {Qn : Rho → Prop} {Qr : V → Rho → Prop} (F : FOk k c) (h : EVF W c ρ e fun xs => Qn ((x, .own xs) :: ρ)) (hk : Storable c x) (hp : c.pin.lookup x = none)
    (hs : swapsWith e (some (.Name x px)) pos.line c.env = pure false) : EX W c ρ (.Assign [.Name x px] e pos) Qn Qr := EX_AssignOwn F hk hp h hs
theorem range_get {n i : Nat} {x : V} (h : ((List.range n).map fun (i : Nat) => V.int (i : Int))[i]? = some x) : i < n ∧ x = .int (i : Int) := by
  rw [List.getElem?_map] at h
  rcases Nat.lt_or_ge i n with q | q
  · rw [List.getElem?_range q] at h; exact ⟨q, by simpa using h.symm⟩
  · rw [List.getElem?_eq_none (by simpa using q)] at h; cases h
noncomputable def cells0 : List Int := [6, 24, 33, 9, 13, 7, 114, 36468, 180007]
noncomputable def cellsGo (script : List Int) : Nat → List Int
  | 0 => cells0
  | k + 1 => (cellsGo script k).set (k % 9) ((cellsGo script k).getD (k % 9) 0 + script.getD k 0)
theorem cellsGo_len (script : List Int) : ∀ k, (cellsGo script k).length = 9
  | 0 => rfl
  | k + 1 => by unfold cellsGo; rw [List.length_set]; exact cellsGo_len script k
theorem fmod_nat (i : Nat) (m : Nat) : Int.fmod (i : Int) (m : Int) = ((i % m : Nat) : Int) := by
  rw [Int.fmod_eq_emod_of_nonneg _ (Int.natCast_nonneg m)]; rfl
theorem getmap {α β : Type} (f : α → β) {l : List α} {i : Nat} (d : α) (h : i < l.length) : (l.map f)[i]? = some (f (l.getD i d)) := by
  rw [List.getElem?_map, List.getElem?_eq_getElem h, List.getD_eq_getElem?_getD, List.getElem?_eq_getElem h]; rfl
theorem fn_cells (P : PwOk W ad fd) {k : Nat} {script : List Int} (hs : script.length ≤ 63) : FN W (k + 1) (.ref (ad "_law_cells")) [.list (script.map .int)] [] (fun v => v = .list ((cellsGo script script.length).map .int)) := by
  refine FN_go (ρ₀ := [("script", .list (script.map .int))]) ["script"] P.f_cells.2 P.lim (fun G vals kvals r r' => ?_) (fun L cd A h₀ G F => ?_)
  · obtain ⟨v, rfl, r1⟩ := r.one
    cases r'
    exact ⟨_, P.b_cells v, rfl, .cons r1 .nil⟩
  · refine EXS_cons ?_
    refine @sOwn W _ _ k _ _ _ _ _ _ F ?_ (.inl (by kernel_rfl)) (by rfl) (by kernel_rfl)
    refine EVF_List ((EV_lit (n := 100)).2 (vs := cells0.map .int) (by kernel_rfl) ⟨by decide, ?_⟩)
    refine EXS_cons ?_
    refine @sFor W _ _ k _ _ _ _ _ _ F (@EVI_range W _ _ k _ _ _ _ _ F P.range_ (by kernel_rfl) ?_ (by kernel_rfl) (by rfl)) (by intro _; rfl)
    refine EV_len F P.len_ (by kernel_rfl) (EVP_of (EV_Name F.toFK (by rfl) ⟨_, rfl, by rw [List.length_map, sizeLine_eq]; exact om159 hs, ?_⟩))
    refine ⟨script.length, by rw [List.length_map], by rw [sizeLine_eq]; exact om159 hs, ?_⟩
    refine ⟨fun i => [("cells", .own ((cellsGo script i).map .int)), ("script", .val (.list (script.map .int)))], Sub.refl _, ?_, ?_⟩
    · intro i x hx
      obtain ⟨hi, rfl⟩ := range_get hx
      have h9 : i % 9 < 9 := Nat.mod_lt _ (by decide)
      refine ASG_Name F (.inl (by kernel_rfl)) ?_
      refine EXS_cons ?_
      have hm : Int.fmod (i : Int) 9 = ((i % 9 : Nat) : Int) := fmod_nat i 9
      refine EX_setItem F (xs := (cellsGo script i).map .int) (by rfl) ?_
      refine EV_BinOp ?_
      refine EV_Item (EVP_own F (xs := (cellsGo script i).map .int) (by rfl) ?_)
      refine EV_BinOp (EV_Name F.toFK (by rfl) (EV_int (OV_mod_int (by decide) ?_)))
      refine ⟨_, rfl, by rw [hm]; exact om180, by rw [hm]; exact om168, _, by rw [hm]; exact getmap V.int 0 (by rw [cellsGo_len]; exact om187), ?_⟩
      refine EV_Item (EVP_of (EV_Name F.toFK (by rfl) ⟨_, rfl, EV_Name F.toFK (by rfl) ⟨(i : Int), rfl, by exact om183, by exact om261 hi hs, .int (script.getD i 0), getmap V.int 0 hi, ?_⟩⟩))
      refine OV_add_int ?_
      refine EV_BinOp (EV_Name F.toFK (by rfl) (EV_int (OV_mod_int (by decide) ?_)))
      refine ⟨i % 9, by rw [hm], by rw [List.length_map, cellsGo_len]; exact h9, by rw [List.length_map, cellsGo_len, sizeLine_eq]; exact om5, ?_⟩
      refine EXS_nil (.put ?_ (.put (by rfl) (.nil _)))
      show some _ = some _
      rw [← List.map_set]; rfl
    · intro ρ' hρ
      refine EXS_sub hρ ?_
      refine EXS_freeze (x := "cells") (by rfl) (by rfl) ?_
      refine EXS_cons ?_
      refine EX_Return (EV_Name F.toFK (by rfl) ?_)
      rw [List.length_map, List.length_range]
end
end Mine
end
section
open PySem PySem.W PyProof.Rows PySem.Builtin.Str
namespace Mine
section
variable {W : Wd} {ad : Str → Addr} {fd : Str → FuncData}
noncomputable def lowOf (d : Int) : Int := (d.fdiv 12).fmod 30
noncomputable def highOf (d : Int) : Int := lowOf d + 1 + (d.fdiv 360).fmod 100
noncomputable def aheadOf (d : Int) : Str := Txt.mul "+" ((d.fdiv 108000).fmod 2) ++ Txt.mul "0" ((d.fdiv 36000).fmod 3)
noncomputable def pairOf (d : Int) : (Int × Str) × (Int × Str) := pairs.getD (d.fmod 12).toNat ((0, ""), (0, ""))
noncomputable def figs (d n : Int) : Str := aheadOf d ++ itext n
@[reducible] noncomputable def letV (p : Int × Str × Int × Str) : V := .list [.int p.1, .str p.2.1, .int p.2.2.1, .str p.2.2.2]
noncomputable def prs (d : Int) : List (Int × Str) := [(pairOf d).1, (pairOf d).2]
noncomputable def rowOf (d n : Int) : List (Int × Str × Int × Str) := (prs d).map fun q => (n, figs d n, q.1, q.2)
noncomputable def nums (d : Int) : List Int := [lowOf d, highOf d]
noncomputable def letters (d : Int) : List (Int × Str × Int × Str) := (nums d).flatMap (rowOf d)
theorem map_get {α β : Type} {f : α → β} {l : List α} {i : Nat} {x : β} (h : (l.map f)[i]? = some x) : ∃ y, l[i]? = some y ∧ x = f y ∧ l.take (i + 1) = l.take i ++ [y] ∧ i < l.length := by
  rw [List.getElem?_map] at h
  cases e : l[i]? with
  | none => rw [e] at h; cases h
  | some y =>
    rw [e] at h
    have hi : i < l.length := by
      rcases Nat.lt_or_ge i l.length with q | q
      · exact q
      · rw [List.getElem?_eq_none q] at e; cases e
    refine ⟨y, rfl, by simpa using h.symm, ?_, hi⟩
    rw [List.take_add_one, e]; rfl
theorem mul_plus {n : Int} (h0 : 0 ≤ n) (h1 : n < 3) (x : Str) (hx : x.length = 1) : MulOk x n := by
  have : n = 0 ∨ n = 1 ∨ n = 2 := by exact om27 h0 h1
  rcases this with rfl | rfl | rfl <;> refine ⟨by decide, ?_, ?_⟩ <;> rw [hx] <;> decide +kernel
theorem fmod_lt (x : Int) {m : Int} (h : 0 < m) : 0 ≤ x.fmod m ∧ x.fmod m < m := ⟨Int.fmod_nonneg_of_pos x h, Int.fmod_lt_of_pos x h⟩
theorem lowOf_lt (d : Int) : 0 ≤ lowOf d ∧ lowOf d < 30 := fmod_lt _ (by decide)
theorem highOf_lt (d : Int) : lowOf d < highOf d ∧ highOf d < 200 := by
  have h1 := lowOf_lt d
  have h2 := fmod_lt (d.fdiv 360) (m := 100) (by decide)
  unfold highOf; exact om32 h1 h2
theorem mul_len (x : Str) (hx : x.length = 1) {n : Int} (h0 : 0 ≤ n) (h1 : n < 3) : (Txt.mul x n).length ≤ 2 := by
  have : n = 0 ∨ n = 1 ∨ n = 2 := by exact om27 h0 h1
  rcases this with rfl | rfl | rfl
  · show Str.empty.length ≤ 2
    decide
  · show (if (1 : Int) < 1 then _ else if _ then x else _).length ≤ 2
    rw [if_neg (by decide), if_pos (by rfl)]; exact om115 hx
  · unfold Txt.mul
    rw [if_neg (by decide), if_neg (by rw [hx]; decide)]
    show (#[] ++ x.cps ++ x.cps).size ≤ 2
    have : x.cps.size = 1 := hx
    simp [this]
theorem ahead_len (d : Int) : (aheadOf d).length ≤ 4 := by
  have h1 := fmod_lt (d.fdiv 108000) (m := 2) (by decide)
  have h2 := fmod_lt (d.fdiv 36000) (m := 3) (by decide)
  have e1 := mul_len "+" (by decide) h1.1 (by exact om17 h1)
  have e2 := mul_len "0" (by decide) h2.1 (by exact om22 h2)
  show ((Txt.mul "+" _).cps ++ (Txt.mul "0" _).cps).size ≤ 4
  rw [Array.size_append]
  have e1 : (Txt.mul "+" ((d.fdiv 108000).fmod 2)).cps.size ≤ 2 := e1
  have e2 : (Txt.mul "0" ((d.fdiv 36000).fmod 3)).cps.size ≤ 2 := e2
  exact om293 e1 e2
theorem itext_len : ∀ n : Nat, n < 200 → (itext (n : Int)).length ≤ 3 := by decide +kernel
theorem itext_len' {n : Int} (h0 : 0 ≤ n) (h1 : n < 200) : (itext n).length ≤ 3 := by
  obtain ⟨m, rfl⟩ := Int.eq_ofNat_of_zero_le h0
  exact itext_len m (by exact om50 h1)
theorem figs_len (d : Int) {n : Int} (h0 : 0 ≤ n) (h1 : n < 200) : (figs d n).length ≤ 7 := by
  show ((aheadOf d).cps ++ (itext n).cps).size ≤ 7
  rw [Array.size_append]
  have e1 : (aheadOf d).cps.size ≤ 4 := ahead_len d
  have e2 : (itext n).cps.size ≤ 3 := itext_len' h0 h1
  exact om296 e1 e2
theorem log2_small {n : Nat} (h : n < 2 ^ 64) : n.log2 < 1920 := by
  by_cases h0 : n = 0
  · subst h0; decide
  · exact Nat.lt_of_lt_of_le ((Nat.log2_lt h0).mpr h) (by decide)
theorem nums_len (d : Int) : (nums d).length = 2 := rfl
theorem rows_len (d : Int) : ∀ l : List Int, (l.flatMap (rowOf d)).length = 2 * l.length
  | [] => rfl
  | n :: r => by rw [List.flatMap_cons, List.length_append, rows_len d r, List.length_cons]; show 2 + _ = _; exact om184
theorem fn_letters (P : PwOk W ad fd) {k : Nat} {d : Int} : FN W (k + 2) (.ref (ad "_law_letters")) [.int d] [] (fun v => v = .list ((letters d).map letV)) := by
  refine FN_go (ρ₀ := [("draw", .int d)]) ["draw"] P.f_letters.2 P.lim (fun G vals kvals r r' => ?_) (fun L cd A h₀ G F => ?_)
  · obtain ⟨v, rfl, r1⟩ := r.one
    cases r'
    exact ⟨_, P.b_letters v, rfl, .cons r1 .nil⟩
  · have hlow := lowOf_lt d
    have hhigh := highOf_lt d
    refine EXS_cons ?_
    refine @sOwn W _ _ (k + 1) _ _ _ _ _ _ F (EVF_List (EVL_nil ⟨by decide, ?_⟩)) (.inl (by kernel_rfl)) (by rfl) (by kernel_rfl)
    refine EXS_cons ?_
    refine @sEx W _ _ _ _ _ _ _ _ F.toFK ?_ (.inl (by kernel_rfl)) (by kernel_rfl)
    refine EV_BinOp (EV_BinOp (EV_Name F.toFK (by rfl) (EV_int (OV_fdiv_int (by decide) (PyProof.noPylong_of_log2 (by decide)) (EV_int (OV_mod_int (by decide) ?_))))))
    refine EXS_cons ?_
    refine @sEx W _ _ _ _ _ _ _ _ F.toFK ?_ (.inl (by kernel_rfl)) (by kernel_rfl)
    have h1 := fmod_lt (d.fdiv 108000) (m := 2) (by decide)
    have h2 := fmod_lt (d.fdiv 36000) (m := 3) (by decide)
    refine EV_BinOp ?_
    refine EV_BinOp (EV_str ?_)
    refine EV_BinOp (EV_BinOp (EV_Name F.toFK (by rfl) (EV_int (OV_fdiv_int (by decide) (PyProof.noPylong_of_log2 (by decide)) (EV_int (OV_mod_int (by decide) ?_))))))
    refine OV_mul_str (mul_plus h1.1 (by exact om17 h1) _ (by decide)) ?_
    refine EV_BinOp (EV_str ?_)
    refine EV_BinOp (EV_BinOp (EV_Name F.toFK (by rfl) (EV_int (OV_fdiv_int (by decide) (PyProof.noPylong_of_log2 (by decide)) (EV_int (OV_mod_int (by decide) ?_))))))
    refine OV_mul_str (mul_plus h2.1 (by exact om22 h2) _ (by decide)) ?_
    refine OV_add_str (by
      have e1 := mul_len "+" (by decide) h1.1 (by exact om17 h1)
      have e2 := mul_len "0" (by decide) h2.1 (by exact om22 h2)
      rw [sizeLine_eq]; exact om292 e1 e2) ?_
    refine EXS_cons ?_
    refine @sFor W _ _ (k + 1) _ _ _ _ _ _ F ?_ (by intro _; rfl)
    refine EVI_of F (EV.of_fresh (EVF_List ?_))
    refine EVL_cons (EV_Name F.toFK (by rfl) ?_)
    refine EVL_cons ?_
    refine EV_BinOp (EV_BinOp (EV_Name F.toFK (by rfl) (EV_int (OV_add_int ?_))))
    refine EV_BinOp (EV_BinOp (EV_Name F.toFK (by rfl) (EV_int (OV_fdiv_int (by decide) (PyProof.noPylong_of_log2 (by decide)) (EV_int (OV_mod_int (by decide) (OV_add_int ?_)))))))
    refine EVL_nil ⟨by show 2 ≤ _; rw [sizeLine_eq]; decide, (nums d).map V.int, rfl, ?_⟩
    refine ⟨fun i => [("letters", .own ((((nums d).take i).flatMap (rowOf d)).map letV)), ("ahead", .val (.str (aheadOf d))), ("draw", .val (.int d))], .put (by rfl) (.put (by rfl) (.put (by rfl) (.nil _))), ?_, ?_⟩
    · intro i x hx
      obtain ⟨n, hn, rfl, htake, hi⟩ := map_get hx
      have hn2 : 0 ≤ n ∧ n < 200 := by
        have : n ∈ nums d := List.mem_of_getElem? hn
        rcases List.mem_cons.mp this with rfl | this
        · exact om24 hlow
        · rcases List.mem_cons.mp this with rfl | this
          · exact om33 hlow hhigh
          · cases this
      refine ASG_Name F (.inl (by kernel_rfl)) ?_
      refine EXS_cons ?_
      refine @sFor W _ _ (k + 1) _ _ _ _ _ _ F ?_ (by intro _; rfl)
      refine EVI_of F (EV_Item (EVP_of (@EV_Call W _ _ (k + 1) _ _ _ _ _ _ _ _ F P.f_pairs.1 (by kernel_rfl) P.f_pairs.2.isFn (EVL_nil (EVK_nil ⟨rfl, CV_of_FN F (FN.mono (fn_pairs P (k := k)) fun v hv => ?_) (Nat.le_refl _)⟩)) (by kernel_rfl) (by rfl) (by rfl) (by rfl) (fun e r h => by cases h))))
      subst hv
      refine ⟨_, rfl, ?_⟩
      refine EV_BinOp (EV_Name F.toFK (by rfl) (EV_int (OV_mod_int (by decide) ?_)))
      have h12 := fmod_lt d (m := 12) (by decide)
      refine ⟨_, rfl, h12.1, by exact om14 h12, pairV (pairOf d), getmap pairV ((0, ""), (0, "")) (by show (d.fmod 12).toNat < 12; exact om13 h12), ?_⟩
      refine ⟨(prs d).map fun q => vp q.1 q.2, rfl, ?_⟩
      refine ⟨fun j => [("letters", .own ((((nums d).take i).flatMap (rowOf d) ++ (rowOf d n).take j).map letV)), ("number", .val (.int n)), ("ahead", .val (.str (aheadOf d))), ("draw", .val (.int d))], .put (by simp; rfl) (.put (by rfl) (.put (by rfl) (.put (by rfl) (.nil _)))), ?_, ?_⟩
      · intro j y hy
        obtain ⟨q, hq, rfl, htq, hj⟩ := map_get hy
        have hrow : (rowOf d n).take (j + 1) = (rowOf d n).take j ++ [(n, figs d n, q.1, q.2)] := by
          unfold rowOf; rw [← List.map_take, htq, List.map_append, List.map_take]; rfl
        refine @ASG_Tuple W _ _ (k + 1) _ _ _ _ _ F rfl (ASG_Name F (.inl (by kernel_rfl)) (ASG_Name F (.inl (by kernel_rfl)) ?_)) (by rfl) (by rfl)
        refine EXS_cons ?_
        refine @EX_append W _ _ (k + 1) _ _ _ _ _ _ _ _ _ F (by rfl) ?_ ?_ (by rfl) (by rfl) (by rfl) (by rfl) (by rfl) (by kernel_rfl) (by kernel_rfl) (by rfl)
        · rw [List.length_map, List.length_append, rows_len, List.length_take, List.length_take, sizeLine_eq]
          have : (rowOf d n).length = 2 := rfl
          rw [nums_len]; exact om424 this
        refine EV.of_fresh (EVF_List ?_)
        refine EVL_cons (EV_Name F.toFK (by rfl) (EVL_cons ?_))
        refine EV_BinOp (EV_Name F.toFK (by rfl) ?_)
        refine @EV_Call W _ _ (k + 1) _ _ _ _ _ _ _ _ F P.str_ (by kernel_rfl) (.inr (.inr ⟨_, rfl⟩)) (EVL_cons (EV_Name F.toFK (by rfl) (EVL_nil (EVK_nil ⟨rfl, CV_str_int (i := n) (log2_small (by exact om18 hn2)) ?_⟩)))) (by kernel_rfl) (by rfl) (by rfl) (by rfl) (by intro e r h; cases h; rfl)
        refine OV_add_str ?_ ?_
        · have e1 := ahead_len d
          have e2 : (Str.ofString (toString n)).length ≤ 3 := itext_len' hn2.1 hn2.2
          rw [sizeLine_eq]; exact om295 e1 e2
        refine EVL_cons (EV_Name F.toFK (by rfl) (EVL_cons (EV_Name F.toFK (by rfl) (EVL_nil ⟨by show 4 ≤ _; rw [sizeLine_eq]; decide, ?_⟩))))
        refine EXS_nil (.put ?_ (.put (by rfl) (.put (by rfl) (.put (by rfl) (.nil _)))))
        show some _ = some _
        rw [hrow, ← List.append_assoc, List.map_append (l₂ := [(n, figs d n, q.1, q.2)])]
        rfl
      · intro ρ' hρ
        refine EXS_sub hρ (EXS_nil (.put ?_ (.put (by rfl) (.put (by rfl) (.nil _)))))
        show some _ = some _
        rw [htake, List.flatMap_append, List.flatMap_singleton, List.take_of_length_le (l := rowOf d n) (by rw [List.length_map]; exact Nat.le_of_eq rfl)]
    · intro ρ' hρ
      refine EXS_sub hρ ?_
      refine EXS_freeze (x := "letters") (by rfl) (by rfl) ?_
      refine EXS_cons ?_
      refine EX_Return (EV_Name F.toFK (by rfl) ?_)
      rw [List.take_of_length_le (l := nums d) (by rw [List.length_map]; exact Nat.le_refl _)]
      rfl
end
end Mine
end
section
open PySem PySem.W PyProof.Rows PySem.Builtin.Str
namespace Mine
section
variable {W : Wd} {ad : Str → Addr} {fd : Str → FuncData}
theorem EVP_slot {c : Fx} {ρ : Rho} {k : Nat} {x : Str} {pos} {xs : List V} {sa : Slot} {Q : List V → Prop} (F : FOk k c) (hx : ρ.lookup x = some sa) (hs : sa = .own xs ∨ sa = .val (.list xs)) (hq : Q xs) (hd : (x == ("__debug__" : Str)) = false := by kernel_rfl)
    (hc : (x == ("__classdict__" : Str)) = false := by kernel_rfl) : EVP W c ρ (.Name x pos) Q := by
  rcases hs with rfl | rfl
  · exact EVP_own F hx hq hd hc
  · exact EVP_of (EV_Name F.toFK hx ⟨xs, rfl, hq⟩ hd hc)
theorem EX_sub {c : Fx} {ρ ρ' : Rho} {st : Stmt} {Qn : Rho → Prop} {Qr : V → Rho → Prop} (hs : Sub ρ' ρ) (h : EX W c ρ' st Qn Qr) : EX W c ρ st Qn Qr := fun g s Qc E S => h g s Qc E (S.sub hs)
theorem EXS_weak {c : Fx} {ρ : Rho} {st : List Stmt} {Qn : Rho → Prop} {Qr : V → Rho → Prop} (h : EXS W c ρ st (fun ρ'' => ∃ ρ', Sub ρ' ρ'' ∧ Qn ρ') Qr) : EXS W c ρ st Qn Qr := fun g s Qc E S hn hr =>
  h g s Qc E S (fun ρ'' g' s' q hG S' => let ⟨ρ', q1, q2⟩ := q; hn ρ' g' s' q2 hG (S'.sub q1)) hr
theorem sWhile {σ : Type} {c : Fx} {ρ : Rho} {test : Expr} {body : List Stmt} {pos : Pos} {Qn : Rho → Prop} {Qr : V → Rho → Prop} (conc : σ → Rho) (meas : σ → Nat) (Inv : σ → Prop) (s0 : σ) (h0 : Inv s0) (hs : Sub (conc s0) ρ)
    (h : ∀ s, Inv s → ET W c (conc s) test fun b => if b then EXS W c (conc s) body (fun ρ'' => ∃ s', Inv s' ∧ meas s' < meas s ∧ Sub (conc s') ρ'') Qr else Qn (conc s)) : EX W c ρ (.While test body [] pos) Qn Qr := by
  refine EX_sub hs (EX_While (fun n ρ => ∃ s, Inv s ∧ n = meas s ∧ ρ = conc s) (meas s0) ⟨s0, h0, rfl, rfl⟩ ?_)
  rintro n ρ' ⟨s, hi, rfl, rfl⟩
  refine fun g s1 Qc E S hq => h s hi g s1 Qc E S fun b G' s' q => hq b G' s' ?_
  cases b with
  | true =>
    simp only [if_true] at q ⊢
    refine EXS_weak (EXS.mono q (fun r hr => ?_) fun _ _ x => x)
    obtain ⟨s2, i2, m2, q2⟩ := hr
    exact ⟨conc s2, q2, meas s2, m2, s2, i2, rfl, rfl⟩
  | false => simpa using q
noncomputable def Cut (p : Nat → Bool) (lo m hi : Nat) : Prop := lo ≤ m ∧ m ≤ hi ∧ (∀ i, lo ≤ i → i < m → p i = true) ∧ ∀ i, m ≤ i → i < hi → p i = false
theorem mid_int (l h : Nat) : ((l : Int) + (h : Int)).fdiv 2 = (((l + h) / 2 : Nat) : Int) := by
  rw [Int.fdiv_eq_ediv_of_nonneg _ (by decide)]; rfl
theorem body_left {k : Nat} {L a : Addr} {cd : Value} {A : Around} {h₀ G : GM} {ex : Addr → Prop} {pin : List (Str × Addr)} {sa : Slot} {xs : List V} {x : V} {lo m hi : Nat} {p : Nat → Bool}
    (F : FOk k (fx "bisect_left" (scopeOf 9) L a cd A h₀ G ex pin)) (hs : sa = .own xs ∨ sa = .val (.list xs)) (hhi : hi ≤ xs.length) (hsz : xs.length ≤ 1000000) (hx : dv 60 x = true)
    (hp : ∀ i, lo ≤ i → i < hi → ∃ y, xs[i]? = some y ∧ dv 60 y = true ∧ LtV y x (p i)) (hc : Cut p lo m hi) :
    EXS W (fx "bisect_left" (scopeOf 9) L a cd A h₀ G ex pin) [("a", sa), ("x", .val x), ("lo", .val (.int lo)), ("hi", .val (.int hi)), ("key", .val .none)] (bodyOf 9) (fun ρ => False) (fun v ρ => v = .int m ∧ ρ.lookup ("a" : Str) = some sa) := by
  obtain ⟨c1, c2, c3, c4⟩ := hc
  refine EXS_cons ?_
  refine EX_If (ET_Compare (by rfl) (EV_Name F.toFK (by rfl) (EV_int (OV_lt_int (TV_bool ?_)))))
  rw [decide_eq_false (by exact om211)]
  simp only [Bool.false_eq_true, if_false]
  refine EXS_nil ?_
  refine EXS_cons ?_
  refine EX_If (ET_Compare (by rfl) (EV_Name F.toFK (by rfl) (EV_none (OV_is_none_int (TV_bool ?_)))))
  simp only [Bool.false_eq_true, if_false]
  refine EXS_nil ?_
  refine EXS_cons ?_
  refine EX_If (ET_Compare (by rfl) (EV_Name F.toFK (by rfl) (EV_none (OV_is_none_none (TV_bool ?_)))))
  simp only [if_true]
  refine EXS_cons ?_
  refine sWhile (fun (s : Nat × Nat) => [("a", sa), ("x", .val x), ("lo", .val (.int s.1)), ("hi", .val (.int s.2))]) (fun s => s.2 - s.1) (fun s => lo ≤ s.1 ∧ s.1 ≤ m ∧ m ≤ s.2 ∧ s.2 ≤ hi) (lo, hi) ⟨Nat.le_refl _, c1, c2, Nat.le_refl _⟩ (.put (by rfl) (.put (by rfl) (.put (by rfl) (.put (by rfl) (.nil _))))) ?_
  rintro ⟨l, h⟩ ⟨b1, b2, b3, b4⟩
  refine ET_Compare (by rfl) (EV_Name F.toFK (by rfl) (EV_Name F.toFK (by rfl) (OV_lt_int (TV_bool ?_))))
  split
  · rename_i hlt
    have hlt : l < h := by have := of_decide_eq_true hlt; dsimp only at this; exact om220 this
    refine EXS_cons ?_
    refine @sEx W _ _ _ _ _ _ _ _ F.toFK ?_ (.inl (by kernel_rfl)) (by kernel_rfl)
    refine EV_BinOp (EV_BinOp (EV_Name F.toFK (by rfl) (EV_Name F.toFK (by rfl) (OV_add_int (EV_int (OV_fdiv_int (by decide) (PyProof.noPylong_of_log2 (by decide)) ?_))))))
    dsimp only
    rw [mid_int]
    obtain ⟨y, hy, hdy, hly⟩ := hp ((l + h) / 2) (by exact om452 b1 c1 b3) (by exact om393 hlt b4)
    refine EXS_cons ?_
    refine EX_If (ET_Compare (by rfl) (EV_Item (EVP_slot F (by rfl) hs (EV_Name F.toFK (by rfl) ⟨(((l + h) / 2 : Nat) : Int), rfl, by exact om342, by exact om474 b2 b4 c2 hhi hsz, y, hy, EV_Name F.toFK (by rfl) (OV_lt_list F hdy hx hly (TV_bool ?_))⟩))))
    split
    · rename_i hpt
      have hm : (l + h) / 2 < m := by
        rcases Nat.lt_or_ge ((l + h) / 2) m with q | q
        · exact q
        · rw [c4 _ q (by exact om393 hlt b4)] at hpt; cases hpt
      refine EXS_cons ?_
      refine @sEx W _ _ _ _ _ _ _ _ F.toFK ?_ (.inl (by kernel_rfl)) (by kernel_rfl)
      refine EV_BinOp (EV_Name F.toFK (by rfl) (EV_int (OV_add_int ?_)))
      exact EXS_nil (EXS_nil ⟨((l + h) / 2 + 1, h), ⟨by dsimp only; exact om451 b1 c1 b3, hm, b3, b4⟩, by dsimp only; exact om306 hlt, .put (by rfl) (.put (by rfl) (.put (by rfl) (.put (by rfl) (.nil _))))⟩)
    · rename_i hpt
      have hm : m ≤ (l + h) / 2 := by
        rcases Nat.lt_or_ge ((l + h) / 2) m with q | q
        · exact absurd (c3 _ (by exact om450 b1 q b3) q) hpt
        · exact q
      refine EXS_cons ?_
      refine @sEx W _ _ _ _ _ _ _ _ F.toFK ?_ (.inl (by kernel_rfl)) (by kernel_rfl)
      refine EV_Name F.toFK (by rfl) ?_
      exact EXS_nil (EXS_nil ⟨(l, (l + h) / 2), ⟨b1, b2, hm, by dsimp only; exact om394 hlt b4⟩, by dsimp only; exact om264 hlt, .put (by rfl) (.put (by rfl) (.put (by rfl) (.put (by rfl) (.nil _))))⟩)
  · rename_i hlt
    have hlt : ¬ l < h := fun q => hlt (decide_eq_true (by dsimp only; exact om265 q))
    dsimp only at b2 b3
    refine EXS_nil ?_
    refine EXS_cons ?_
    refine EX_Return (EV_Name F.toFK (by rfl) ?_)
    obtain rfl : l = m := by exact om402 b2 b3 hlt
    exact ⟨rfl, by rfl⟩
end
end Mine
end
section
open PySem PySem.W PyProof.Rows PySem.Builtin.Str
namespace Mine
section
variable {W : Wd} {ad : Str → Addr} {fd : Str → FuncData}
theorem body_leftK {k : Nat} {f : Addr} {L a : Addr} {cd : Value} {A : Around} {h₀ G : GM} {ex : Addr → Prop} {pin : List (Str × Addr)} {sa : Slot} {xs : List V} {x : V} {lo m hi : Nat} {p : Nat → Bool}
    (F : FOk k (fx "bisect_left" (scopeOf 9) L a cd A h₀ G ex pin)) (hs : sa = .own xs ∨ sa = .val (.list xs)) (hhi : hi ≤ xs.length) (hsz : xs.length ≤ 1000000) (hx : dv 60 x = true)
    (hf : IsFn W (.ref f)) (hp : ∀ i, lo ≤ i → i < hi → ∃ y z, xs[i]? = some y ∧ FN W k (.ref f) [y] [] (fun v => v = z) ∧ dv 60 z = true ∧ LtV z x (p i)) (hc : Cut p lo m hi) :
    EXS W (fx "bisect_left" (scopeOf 9) L a cd A h₀ G ex pin) [("a", sa), ("x", .val x), ("lo", .val (.int lo)), ("hi", .val (.int hi)), ("key", .val (.glob (.ref f)))] (bodyOf 9) (fun ρ => False) (fun v ρ => v = .int m ∧ ρ.lookup ("a" : Str) = some sa) := by
  obtain ⟨c1, c2, c3, c4⟩ := hc
  refine EXS_cons ?_
  refine EX_If (ET_Compare (by rfl) (EV_Name F.toFK (by rfl) (EV_int (OV_lt_int (TV_bool ?_)))))
  rw [decide_eq_false (by exact om211)]
  simp only [Bool.false_eq_true, if_false]
  refine EXS_nil ?_
  refine EXS_cons ?_
  refine EX_If (ET_Compare (by rfl) (EV_Name F.toFK (by rfl) (EV_none (OV_is_none_int (TV_bool ?_)))))
  simp only [Bool.false_eq_true, if_false]
  refine EXS_nil ?_
  refine EXS_cons ?_
  refine EX_If (ET_Compare (by rfl) (EV_Name F.toFK (by rfl) (EV_none (OV_is_none_ref (TV_bool ?_)))))
  simp only [Bool.false_eq_true, if_false]
  refine EXS_cons ?_
  refine sWhile (fun (s : Nat × Nat) => [("a", sa), ("x", .val x), ("lo", .val (.int s.1)), ("hi", .val (.int s.2)), ("key", .val (.glob (.ref f)))]) (fun s => s.2 - s.1) (fun s => lo ≤ s.1 ∧ s.1 ≤ m ∧ m ≤ s.2 ∧ s.2 ≤ hi) (lo, hi) ⟨Nat.le_refl _, c1, c2, Nat.le_refl _⟩ (.put (by rfl) (.put (by rfl) (.put (by rfl) (.put (by rfl) (.put (by rfl) (.nil _)))))) ?_
  rintro ⟨l, h⟩ ⟨b1, b2, b3, b4⟩
  refine ET_Compare (by rfl) (EV_Name F.toFK (by rfl) (EV_Name F.toFK (by rfl) (OV_lt_int (TV_bool ?_))))
  split
  · rename_i hlt
    have hlt : l < h := by have := of_decide_eq_true hlt; dsimp only at this; exact om220 this
    refine EXS_cons ?_
    refine @sEx W _ _ _ _ _ _ _ _ F.toFK ?_ (.inl (by kernel_rfl)) (by kernel_rfl)
    refine EV_BinOp (EV_BinOp (EV_Name F.toFK (by rfl) (EV_Name F.toFK (by rfl) (OV_add_int (EV_int (OV_fdiv_int (by decide) (PyProof.noPylong_of_log2 (by decide)) ?_))))))
    dsimp only
    rw [mid_int]
    obtain ⟨y, z, hy, hfn, hdy, hly⟩ := hp ((l + h) / 2) (by exact om452 b1 c1 b3) (by exact om393 hlt b4)
    refine EXS_cons ?_
    refine EX_If (ET_Compare (by rfl) (@EV_CallL W _ _ k _ _ _ _ _ _ F (by rfl) hf (EVL_cons (EV_Item (EVP_slot F (by rfl) hs (EV_Name F.toFK (by rfl) ⟨(((l + h) / 2 : Nat) : Int), rfl, by exact om342, by exact om474 b2 b4 c2 hhi hsz, y, hy, EVL_nil (CV_of_FN F (FN.mono hfn fun v hv => ?_) (Nat.le_refl _))⟩)))) (by kernel_rfl) (by kernel_rfl) (by rfl) (by intro e r h; cases h; rfl)))
    subst hv
    refine EV_Name F.toFK (by rfl) (OV_lt_list F hdy hx hly (TV_bool ?_))
    split
    · rename_i hpt
      have hm : (l + h) / 2 < m := by
        rcases Nat.lt_or_ge ((l + h) / 2) m with q | q
        · exact q
        · rw [c4 _ q (by exact om393 hlt b4)] at hpt; cases hpt
      refine EXS_cons ?_
      refine @sEx W _ _ _ _ _ _ _ _ F.toFK ?_ (.inl (by kernel_rfl)) (by kernel_rfl)
      refine EV_BinOp (EV_Name F.toFK (by rfl) (EV_int (OV_add_int ?_)))
      exact EXS_nil (EXS_nil ⟨((l + h) / 2 + 1, h), ⟨by dsimp only; exact om451 b1 c1 b3, hm, b3, b4⟩, by dsimp only; exact om306 hlt, .put (by rfl) (.put (by rfl) (.put (by rfl) (.put (by rfl) (.put (by rfl) (.nil _)))))⟩)
    · rename_i hpt
      have hm : m ≤ (l + h) / 2 := by
        rcases Nat.lt_or_ge ((l + h) / 2) m with q | q
        · exact absurd (c3 _ (by exact om450 b1 q b3) q) hpt
        · exact q
      refine EXS_cons ?_
      refine @sEx W _ _ _ _ _ _ _ _ F.toFK ?_ (.inl (by kernel_rfl)) (by kernel_rfl)
      refine EV_Name F.toFK (by rfl) ?_
      exact EXS_nil (EXS_nil ⟨(l, (l + h) / 2), ⟨b1, b2, hm, by dsimp only; exact om394 hlt b4⟩, by dsimp only; exact om264 hlt, .put (by rfl) (.put (by rfl) (.put (by rfl) (.put (by rfl) (.put (by rfl) (.nil _)))))⟩)
  · rename_i hlt
    have hlt : ¬ l < h := fun q => hlt (decide_eq_true (by dsimp only; exact om265 q))
    dsimp only at b2 b3
    refine EXS_nil ?_
    refine EXS_cons ?_
    refine EX_Return (EV_Name F.toFK (by rfl) ?_)
    obtain rfl : l = m := by exact om402 b2 b3 hlt
    exact ⟨rfl, by rfl⟩
theorem body_right {k : Nat} {L a : Addr} {cd : Value} {A : Around} {h₀ G : GM} {ex : Addr → Prop} {pin : List (Str × Addr)} {sa : Slot} {xs : List V} {x : V} {lo m hi : Nat} {p : Nat → Bool}
    (F : FOk k (fx "bisect_right" (scopeOf 7) L a cd A h₀ G ex pin)) (hs : sa = .own xs ∨ sa = .val (.list xs)) (hhi : hi ≤ xs.length) (hsz : xs.length ≤ 1000000) (hx : dv 60 x = true)
    (hp : ∀ i, lo ≤ i → i < hi → ∃ y, xs[i]? = some y ∧ dv 60 y = true ∧ LtV x y (!p i)) (hc : Cut p lo m hi) :
    EXS W (fx "bisect_right" (scopeOf 7) L a cd A h₀ G ex pin) [("a", sa), ("x", .val x), ("lo", .val (.int lo)), ("hi", .val (.int hi)), ("key", .val .none)] (bodyOf 7) (fun ρ => False) (fun v ρ => v = .int m ∧ ρ.lookup ("a" : Str) = some sa) := by
  obtain ⟨c1, c2, c3, c4⟩ := hc
  refine EXS_cons ?_
  refine EX_If (ET_Compare (by rfl) (EV_Name F.toFK (by rfl) (EV_int (OV_lt_int (TV_bool ?_)))))
  rw [decide_eq_false (by exact om211)]
  simp only [Bool.false_eq_true, if_false]
  refine EXS_nil ?_
  refine EXS_cons ?_
  refine EX_If (ET_Compare (by rfl) (EV_Name F.toFK (by rfl) (EV_none (OV_is_none_int (TV_bool ?_)))))
  simp only [Bool.false_eq_true, if_false]
  refine EXS_nil ?_
  refine EXS_cons ?_
  refine EX_If (ET_Compare (by rfl) (EV_Name F.toFK (by rfl) (EV_none (OV_is_none_none (TV_bool ?_)))))
  simp only [if_true]
  refine EXS_cons ?_
  refine sWhile (fun (s : Nat × Nat) => [("a", sa), ("x", .val x), ("lo", .val (.int s.1)), ("hi", .val (.int s.2))]) (fun s => s.2 - s.1) (fun s => lo ≤ s.1 ∧ s.1 ≤ m ∧ m ≤ s.2 ∧ s.2 ≤ hi) (lo, hi) ⟨Nat.le_refl _, c1, c2, Nat.le_refl _⟩ (.put (by rfl) (.put (by rfl) (.put (by rfl) (.put (by rfl) (.nil _))))) ?_
  rintro ⟨l, h⟩ ⟨b1, b2, b3, b4⟩
  refine ET_Compare (by rfl) (EV_Name F.toFK (by rfl) (EV_Name F.toFK (by rfl) (OV_lt_int (TV_bool ?_))))
  split
  · rename_i hlt
    have hlt : l < h := by have := of_decide_eq_true hlt; dsimp only at this; exact om220 this
    refine EXS_cons ?_
    refine @sEx W _ _ _ _ _ _ _ _ F.toFK ?_ (.inl (by kernel_rfl)) (by kernel_rfl)
    refine EV_BinOp (EV_BinOp (EV_Name F.toFK (by rfl) (EV_Name F.toFK (by rfl) (OV_add_int (EV_int (OV_fdiv_int (by decide) (PyProof.noPylong_of_log2 (by decide)) ?_))))))
    dsimp only
    rw [mid_int]
    obtain ⟨y, hy, hdy, hly⟩ := hp ((l + h) / 2) (by exact om452 b1 c1 b3) (by exact om393 hlt b4)
    refine EXS_cons ?_
    refine EX_If (ET_Compare (by rfl) (EV_Name F.toFK (by rfl) ?_))
    refine EV_Item (EVP_slot F (by rfl) hs (EV_Name F.toFK (by rfl) ⟨(((l + h) / 2 : Nat) : Int), rfl, by exact om342, by exact om474 b2 b4 c2 hhi hsz, y, hy, OV_lt_list F hx hdy hly (TV_bool ?_)⟩))
    cases hpt : p ((l + h) / 2) with
    | false =>
      have hm : m ≤ (l + h) / 2 := by
        rcases Nat.lt_or_ge ((l + h) / 2) m with q | q
        · rw [c3 _ (by exact om450 b1 q b3) q] at hpt; cases hpt
        · exact q
      simp only [Bool.not_false, if_true]
      refine EXS_cons ?_
      refine @sEx W _ _ _ _ _ _ _ _ F.toFK ?_ (.inl (by kernel_rfl)) (by kernel_rfl)
      refine EV_Name F.toFK (by rfl) ?_
      exact EXS_nil (EXS_nil ⟨(l, (l + h) / 2), ⟨b1, b2, hm, by dsimp only; exact om394 hlt b4⟩, by dsimp only; exact om264 hlt, .put (by rfl) (.put (by rfl) (.put (by rfl) (.put (by rfl) (.nil _))))⟩)
    | true =>
      have hm : (l + h) / 2 < m := by
        rcases Nat.lt_or_ge ((l + h) / 2) m with q | q
        · exact q
        · rw [c4 _ q (by exact om393 hlt b4)] at hpt; cases hpt
      simp only [Bool.not_true, Bool.false_eq_true, if_false]
      refine EXS_cons ?_
      refine @sEx W _ _ _ _ _ _ _ _ F.toFK ?_ (.inl (by kernel_rfl)) (by kernel_rfl)
      refine EV_BinOp (EV_Name F.toFK (by rfl) (EV_int (OV_add_int ?_)))
      exact EXS_nil (EXS_nil ⟨((l + h) / 2 + 1, h), ⟨by dsimp only; exact om451 b1 c1 b3, hm, b3, b4⟩, by dsimp only; exact om306 hlt, .put (by rfl) (.put (by rfl) (.put (by rfl) (.put (by rfl) (.nil _))))⟩)
  · rename_i hlt
    have hlt : ¬ l < h := fun q => hlt (decide_eq_true (by dsimp only; exact om265 q))
    dsimp only at b2 b3
    refine EXS_nil ?_
    refine EXS_cons ?_
    refine EX_Return (EV_Name F.toFK (by rfl) ?_)
    obtain rfl : l = m := by exact om402 b2 b3 hlt
    exact ⟨rfl, by rfl⟩
end
end Mine
end
section
open PySem PySem.W PyProof.Rows PySem.Builtin.Str
namespace Mine
section
variable {W : Wd} {ad : Str → Addr} {fd : Str → FuncData}
theorem FNm_go {W : Wd} {k : Nat} {a : Addr} {fd : FuncData} {name : Str} {i : Nat} {xs : List V} {args : List V} {kw : List (Str × V)} {ρ₀ : List (Str × V)} {Q : V → List V → Prop} (x0 : Str) (ns : List Str) (X : FnAt W a fd name (scopeOf i) (bodyOf i)) (hlim : W.H0.NoLimit)
    (hb : ∀ G l vals kvals, Reps G vals args → Reps G kvals (kw.map (·.2)) → ∃ bv, Binds W fd ⟨.ref l :: vals, (kw.map (·.1)).zip kvals⟩ ((x0, .ref l) :: bv) ∧ bv.map (·.1) = ns ∧ Reps G (bv.map (·.2)) (ρ₀.map (·.2)))
    (h : ∀ L cd A h₀ G ex l, FOk k (fx name (scopeOf i) L a cd A h₀ G ex [(x0, l)]) → EXS W (fx name (scopeOf i) L a cd A h₀ G ex [(x0, l)]) ((x0, .own xs) :: ρ₀.map fun p => (p.1, .val p.2)) (bodyOf i) (fun ρ => ∃ ys, ρ.lookup x0 = some (.own ys) ∧ Q .none ys) fun v ρ => ∃ ys, ρ.lookup x0 = some (.own ys) ∧ Q v ys)
    (hns : ρ₀.map (·.1) = ns := by rfl) (hnd : nodupB (x0 :: ns) = true := by kernel_rfl) (hkind : kindsOk (scopeOf i) (x0 :: ns) = true := by kernel_rfl)
    (hco : (scopeOf i).isCoroutine = false := by rfl) (hgen : (scopeOf i).isGenerator = false := by rfl) (hk : (scopeOf i).kind = .function := by rfl) :
    FNm W (k + 1) (.ref a) xs args kw Q := by
  subst hns
  exact FNm_intro X hlim hb (nodup_of hnd) (kinds_of hkind) h hco hgen hk
theorem fn_left (P : PwOk W ad fd) {k : Nat} {xs : List V} {x : V} {lo m hi : Nat} {p : Nat → Bool} (hhi : hi ≤ xs.length) (hsz : xs.length ≤ 1000000) (hx : dv 60 x = true)
    (hp : ∀ i, lo ≤ i → i < hi → ∃ y, xs[i]? = some y ∧ dv 60 y = true ∧ LtV y x (p i)) (hc : Cut p lo m hi) : FN W (k + 1) (.ref (ad "bisect_left")) [.list xs, x, .int lo, .int hi] [] (fun v => v = .int m) := by
  refine FN_go (ρ₀ := [("a", .list xs), ("x", x), ("lo", .int lo), ("hi", .int hi), ("key", .none)]) ["a", "x", "lo", "hi", "key"] P.f_left.2 P.lim (fun G vals kvals r r' => ?_) (fun L cd A h₀ G F => ?_)
  · cases r with | cons r1 r => cases r with | cons r2 r => cases r with | cons r3 r => cases r with | cons r4 r => cases r; cases r'; exact ⟨_, P.b_left _ _ _ _, rfl, .cons r1 (.cons r2 (.cons r3 (.cons r4 (.cons .none .nil))))⟩
  · exact EXS.mono (body_left F (.inr rfl) hhi hsz hx hp hc) (fun _ h => h.elim) fun _ _ h => h.1
theorem fn_right (P : PwOk W ad fd) {k : Nat} {xs : List V} {x : V} {lo m hi : Nat} {p : Nat → Bool} (hhi : hi ≤ xs.length) (hsz : xs.length ≤ 1000000) (hx : dv 60 x = true)
    (hp : ∀ i, lo ≤ i → i < hi → ∃ y, xs[i]? = some y ∧ dv 60 y = true ∧ LtV x y (!p i)) (hc : Cut p lo m hi) : FN W (k + 1) (.ref (ad "bisect_right")) [.list xs, x, .int lo, .int hi] [] (fun v => v = .int m) := by
  refine FN_go (ρ₀ := [("a", .list xs), ("x", x), ("lo", .int lo), ("hi", .int hi), ("key", .none)]) ["a", "x", "lo", "hi", "key"] P.f_right.2 P.lim (fun G vals kvals r r' => ?_) (fun L cd A h₀ G F => ?_)
  · cases r with | cons r1 r => cases r with | cons r2 r => cases r with | cons r3 r => cases r with | cons r4 r => cases r; cases r'; exact ⟨_, P.b_right _ _ _ _, rfl, .cons r1 (.cons r2 (.cons r3 (.cons r4 (.cons .none .nil))))⟩
  · exact EXS.mono (body_right F (.inr rfl) hhi hsz hx hp hc) (fun _ h => h.elim) fun _ _ h => h.1
theorem fnm_left (P : PwOk W ad fd) {k : Nat} {xs : List V} {x : V} {lo m hi : Nat} {p : Nat → Bool} (hhi : hi ≤ xs.length) (hsz : xs.length ≤ 1000000) (hx : dv 60 x = true)
    (hp : ∀ i, lo ≤ i → i < hi → ∃ y, xs[i]? = some y ∧ dv 60 y = true ∧ LtV y x (p i)) (hc : Cut p lo m hi) : FNm W (k + 1) (.ref (ad "bisect_left")) xs [x, .int lo, .int hi] [] (fun v ys => v = .int m ∧ ys = xs) := by
  refine FNm_go (ρ₀ := [("x", x), ("lo", .int lo), ("hi", .int hi), ("key", .none)]) "a" ["x", "lo", "hi", "key"] P.f_left.2 P.lim (fun G l vals kvals r r' => ?_) (fun L cd A h₀ G ex l F => ?_)
  · cases r with | cons r2 r => cases r with | cons r3 r => cases r with | cons r4 r => cases r; cases r'; exact ⟨_, P.b_left _ _ _ _, rfl, .cons r2 (.cons r3 (.cons r4 (.cons .none .nil)))⟩
  · exact EXS.mono (body_left F (.inl rfl) hhi hsz hx hp hc) (fun _ h => h.elim) fun _ _ h => ⟨xs, h.2, h.1, rfl⟩
theorem fnm_leftK (P : PwOk W ad fd) {k : Nat} {f : Addr} {xs : List V} {x : V} {lo m hi : Nat} {p : Nat → Bool} (hhi : hi ≤ xs.length) (hsz : xs.length ≤ 1000000) (hx : dv 60 x = true)
    (hf : IsFn W (.ref f)) (hp : ∀ i, lo ≤ i → i < hi → ∃ y z, xs[i]? = some y ∧ FN W k (.ref f) [y] [] (fun v => v = z) ∧ dv 60 z = true ∧ LtV z x (p i)) (hc : Cut p lo m hi) :
    FNm W (k + 1) (.ref (ad "bisect_left")) xs [x, .int lo, .int hi] [("key", .glob (.ref f))] (fun v ys => v = .int m ∧ ys = xs) := by
  refine FNm_go (ρ₀ := [("x", x), ("lo", .int lo), ("hi", .int hi), ("key", .glob (.ref f))]) "a" ["x", "lo", "hi", "key"] P.f_left.2 P.lim (fun G l vals kvals r r' => ?_) (fun L cd A h₀ G ex l F => ?_)
  · cases r with | cons r2 r => cases r with | cons r3 r => cases r with | cons r4 r => cases r; cases r' with | cons r5 r' => cases r'; cases r5; exact ⟨_, P.b_leftK _ _ _ _ _, rfl, .cons r2 (.cons r3 (.cons r4 (.cons (.glob _) .nil)))⟩
  · exact EXS.mono (body_leftK F (.inl rfl) hhi hsz hx hf hp hc) (fun _ h => h.elim) fun _ _ h => ⟨xs, h.2, h.1, rfl⟩
end
end Mine
end
section
open PySem PySem.W PyProof.Rows PySem.Builtin.Str
namespace Mine
section
variable {W : Wd} {ad : Str → Addr} {fd : Str → FuncData}
theorem EX_AssignX {c : Fx} {ρ : Rho} {x : Str} {px pos : Pos} {e : Expr} {Qn : Rho → Prop} {Qr : V → Rho → Prop} (F : FK c) (hk : Storable c x) (h : EVX W c ρ e fun v ρ' => Qn ((x, .val v) :: ρ'))
    (hs : swapsWith e (some (.Name x px)) pos.line c.env = pure false) : EX W c ρ (.Assign [.Name x px] e pos) Qn Qr := fun g s Qc E S hn hr => by
  refine wpAny_Assign_Name (h g s _ E S fun v val ρ' g' s' q hG S' r => ?_) hs
  exact wp_storeVal F S' hk r fun g'' s'' hG' hX _ S'' => hn _ g'' s'' q (hG.trans ⟨hG' ▸ .refl _, hX⟩) S''
theorem FNm.mono {k : Nat} {f : Value} {xs args : List V} {kw : List (Str × V)} {Q Q' : V → List V → Prop} (h : FNm W k f xs args kw Q) (hq : ∀ v ys, Q v ys → Q' v ys) : FNm W k f xs args kw Q' := fun A G s a vs n vals kvals Qc E h1 h2 h3 h4 h5 h6 h7 h8 h9 =>
  h A G s a vs n vals kvals Qc E h1 h2 h3 h4 h5 h6 h7 h8 fun v ys val G' s' vs' n' q => h9 v ys val G' s' vs' n' (hq v ys q)
theorem fnm_ins (P : PwOk W ad fd) {k : Nat} {xs : List V} {x : V} {lo m hi : Nat} {p : Nat → Bool} (hhi : hi ≤ xs.length) (hsz : xs.length ≤ 1000000) (hx : dv 60 x = true)
    (hp : ∀ i, lo ≤ i → i < hi → ∃ y, xs[i]? = some y ∧ dv 60 y = true ∧ LtV y x (p i)) (hc : Cut p lo m hi) : FNm W (k + 2) (.ref (ad "insort_left")) xs [x, .int lo, .int hi] [] (fun v ys => v = .none ∧ ys = xs.take m ++ x :: xs.drop m) := by
  refine FNm_go (ρ₀ := [("x", x), ("lo", .int lo), ("hi", .int hi), ("key", .none)]) "a" ["x", "lo", "hi", "key"] P.f_ins.2 P.lim (fun G l vals kvals r r' => ?_) (fun L cd A h₀ G ex l F => ?_)
  · cases r with | cons r2 r => cases r with | cons r3 r => cases r with | cons r4 r => cases r; cases r'; exact ⟨_, P.b_ins _ _ _ _, rfl, .cons r2 (.cons r3 (.cons r4 (.cons .none .nil)))⟩
  · refine EXS_cons ?_
    refine EX_If (ET_Compare (by rfl) (EV_Name F.toFK (by rfl) (EV_none (OV_is_none_none (TV_bool ?_)))))
    simp only [if_true]
    refine EXS_cons ?_
    refine @EX_AssignX W _ _ _ _ _ _ _ _ F.toFK (.inl (by kernel_rfl)) ?_ (by kernel_rfl)
    refine @EVX_CallM W _ _ (k + 1) _ _ _ _ _ _ _ _ _ _ (k + 1) _ F P.f_left.1 (by kernel_rfl) P.f_left.2.isFn (by rfl) (Nat.le_refl _) ?_ (by kernel_rfl) (by kernel_rfl) (by kernel_rfl) (by rfl) (by rfl) (by rfl) (by rfl)
    refine EVL_cons (EV_Name F.toFK (by rfl) (EVL_cons (EV_Name F.toFK (by rfl) (EVL_cons (EV_Name F.toFK (by rfl) (EVL_nil (EVK_nil ⟨rfl, ?_⟩)))))))
    refine FNm.mono (fnm_left P (k := k) hhi hsz hx hp hc) fun v ys h => ?_
    obtain ⟨rfl, hys⟩ := h
    rw [hys]
    refine EXS_nil ?_
    refine EXS_cons ?_
    refine @EX_insert W _ _ (k + 1) _ _ _ _ _ xs _ _ _ _ F (by rfl) (by rw [sizeLine_eq]; exact om139 hsz) ?_ (by rfl) (by rfl) (by rfl) (by rfl) (by rfl) (by kernel_rfl) (by kernel_rfl) (by rfl) (by rfl)
    refine EV_Name F.toFK (by rfl) ⟨m, rfl, by have := hc.2.1; exact om406 this hhi, EV_Name F.toFK (by rfl) ?_⟩
    exact EXS_nil ⟨_, by rfl, by simp, by simp⟩
theorem fnm_insK (P : PwOk W ad fd) {k : Nat} {f : Addr} {xs : List V} {x z : V} {lo m hi : Nat} {p : Nat → Bool} (hhi : hi ≤ xs.length) (hsz : xs.length ≤ 1000000) (hz : dv 60 z = true) (hf : IsFn W (.ref f)) (hfx : FN W k (.ref f) [x] [] (fun v => v = z))
    (hp : ∀ i, lo ≤ i → i < hi → ∃ y w, xs[i]? = some y ∧ FN W k (.ref f) [y] [] (fun v => v = w) ∧ dv 60 w = true ∧ LtV w z (p i)) (hc : Cut p lo m hi) :
    FNm W (k + 2) (.ref (ad "insort_left")) xs [x, .int lo, .int hi] [("key", .glob (.ref f))] (fun v ys => v = .none ∧ ys = xs.take m ++ x :: xs.drop m) := by
  refine FNm_go (ρ₀ := [("x", x), ("lo", .int lo), ("hi", .int hi), ("key", .glob (.ref f))]) "a" ["x", "lo", "hi", "key"] P.f_ins.2 P.lim (fun G l vals kvals r r' => ?_) (fun L cd A h₀ G ex l F => ?_)
  · cases r with | cons r2 r => cases r with | cons r3 r => cases r with | cons r4 r => cases r; cases r' with | cons r5 r' => cases r'; cases r5; exact ⟨_, P.b_insK _ _ _ _ _, rfl, .cons r2 (.cons r3 (.cons r4 (.cons (.glob _) .nil)))⟩
  · refine EXS_cons ?_
    refine EX_If (ET_Compare (by rfl) (EV_Name F.toFK (by rfl) (EV_none (OV_is_none_ref (TV_bool ?_)))))
    simp only [Bool.false_eq_true, if_false]
    refine EXS_cons ?_
    refine @EX_AssignX W _ _ _ _ _ _ _ _ F.toFK (.inl (by kernel_rfl)) ?_ (by kernel_rfl)
    refine @EVX_CallM W _ _ (k + 1) _ _ _ _ _ _ _ _ _ _ (k + 1) _ F P.f_left.1 (by kernel_rfl) P.f_left.2.isFn (by rfl) (Nat.le_refl _) ?_ (by kernel_rfl) (by kernel_rfl) (by kernel_rfl) (by rfl) (by rfl) (by rfl) (by rfl)
    refine EVL_cons (@EV_CallL W _ _ (k + 1) _ _ _ _ _ _ F (by rfl) hf (EVL_cons (EV_Name F.toFK (by rfl) (EVL_nil (CV_of_FN F (FN.mono hfx fun v hv => ?_) (Nat.le_succ _))))) (by kernel_rfl) (by kernel_rfl) (by rfl) (by intro e r h; cases h; rfl))
    subst hv
    refine EVL_cons (EV_Name F.toFK (by rfl) (EVL_cons (EV_Name F.toFK (by rfl) (EVL_nil (EVK_one (EV_Name F.toFK (by rfl) ⟨rfl, ?_⟩))))))
    refine FNm.mono (fnm_leftK P (k := k) hhi hsz hz hf hp hc) fun v ys h => ?_
    obtain ⟨rfl, hys⟩ := h
    rw [hys]
    refine EXS_nil ?_
    refine EXS_cons ?_
    refine @EX_insert W _ _ (k + 1) _ _ _ _ _ xs _ _ _ _ F (by rfl) (by rw [sizeLine_eq]; exact om139 hsz) ?_ (by rfl) (by rfl) (by rfl) (by rfl) (by rfl) (by kernel_rfl) (by kernel_rfl) (by rfl) (by rfl)
    refine EV_Name F.toFK (by rfl) ⟨m, rfl, by have := hc.2.1; exact om406 this hhi, EV_Name F.toFK (by rfl) ?_⟩
    exact EXS_nil ⟨_, by rfl, by simp, by simp⟩
end
end Mine
end
section
open PySem PySem.W PyProof.Rows PySem.Builtin.Str
namespace Mine
noncomputable def clGo (env : Env) : List (Str × NameKind) → List (Str × Addr) → List (Str × Addr)
  | [], acc => acc
  | (n, kd) :: r, acc => clGo env r (if kd == .free then (n, (env.cells.lookup n).getD 0) :: acc else acc)
noncomputable def clOf (sc : Scope) (env : Env) : List (Str × Addr) := clGo env sc.names []
noncomputable def freesOk (sc : Scope) (env : Env) : Prop := ∀ p ∈ sc.names, p.2 = .free → (env.cells.lookup p.1).isSome = true
theorem closure_go (env : Env) : ∀ (l : List (Str × NameKind)) (acc : List (Str × Addr)), (∀ p ∈ l, p.2 = .free → (env.cells.lookup p.1).isSome = true) →
    (forIn l acc fun (p : Str × NameKind) (cs : List (Str × Addr)) => if (p.2 == .free) = true then (do let a ← cellOf env p.1; pure (ForInStep.yield ((p.1, a) :: cs))) else (pure (ForInStep.yield cs) : Sem (ForInStep (List (Str × Addr))))) = pure (clGo env l acc)
  | [], acc, h => by rw [List.forIn_nil]; rfl
  | (n, kd) :: r, acc, h => by
    rw [List.forIn_cons]
    unfold clGo
    have ih := closure_go env r
    cases hk : kd == .free with
    | true =>
      obtain ⟨a, ha⟩ := Option.isSome_iff_exists.mp (h (n, kd) List.mem_cons_self (beq_iff_eq.mp hk))
      have ha : env.cells.lookup n = some a := ha
      have hc : cellOf env n = pure a := by unfold cellOf; rw [ha]
      simp only [if_true, hc, pure_bind, ha, Option.getD_some]
      exact ih _ fun p hp => h p (List.mem_cons_of_mem _ hp)
    | false =>
      simp only [Bool.false_eq_true, if_false, pure_bind]
      exact ih _ fun p hp => h p (List.mem_cons_of_mem _ hp)
theorem closure_of {sc : Scope} {env : Env} (h : freesOk sc env) : closureFor sc env = pure (clOf sc env) := by
  unfold closureFor
  have := closure_go env sc.names [] h
  simp only [] at this ⊢
  exact (congrArg (· >>= fun r => pure r) this).trans (by rw [pure_bind]; rfl)
theorem clGo_mem {env : Env} : ∀ {l : List (Str × NameKind)} {acc : List (Str × Addr)} {n : Str} {a : Addr}, (∀ p ∈ l, p.2 = .free → (env.cells.lookup p.1).isSome = true) → (∀ n a, (n, a) ∈ acc → env.cells.lookup n = some a) → (n, a) ∈ clGo env l acc → env.cells.lookup n = some a
  | [], acc, n, a, h, h2, hm => h2 n a hm
  | (m, kd) :: r, acc, n, a, h, h2, hm => by
    unfold clGo at hm
    refine clGo_mem (fun p hp => h p (List.mem_cons_of_mem _ hp)) (fun n' a' hm' => ?_) hm
    split at hm'
    · rename_i hk
      rcases List.mem_cons.mp hm' with e | hm'
      · obtain ⟨b, hb⟩ := Option.isSome_iff_exists.mp (h (m, kd) List.mem_cons_self (beq_iff_eq.mp hk))
        have hb : env.cells.lookup m = some b := hb
        injection e with e1 e2
        rw [e1, e2, hb]; rfl
      · exact h2 n' a' hm'
    · exact h2 n' a' hm'
theorem clGo_some {env : Env} : ∀ {l : List (Str × NameKind)} {acc : List (Str × Addr)} {n : Str}, ((n, NameKind.free) ∈ l ∨ (acc.lookup n).isSome = true) → ((clGo env l acc).lookup n).isSome = true
  | [], acc, n, h => by
    rcases h with h | h
    · cases h
    · exact h
  | (m, kd) :: r, acc, n, h => by
    unfold clGo
    refine clGo_some ?_
    rcases h with h | h
    · rcases List.mem_cons.mp h with e | h
      · cases e; right; simp
      · exact .inl h
    · right
      split
      · rw [List.lookup_cons]; split
        · rfl
        · exact h
      · exact h
theorem clOf_lookup {sc : Scope} {env : Env} (h : freesOk sc env) {n : Str} {a : Addr} (e : (clOf sc env).lookup n = some a) : env.cells.lookup n = some a := clGo_mem h (fun _ _ q => by cases q) (mem_of_lookup e)
theorem clOf_free {sc : Scope} {env : Env} (h : freesOk sc env) {n : Str} (hm : (n, NameKind.free) ∈ sc.names) : (clOf sc env).lookup n = env.cells.lookup n := by
  obtain ⟨a, ha⟩ := Option.isSome_iff_exists.mp (clGo_some (env := env) (acc := []) (.inl hm))
  have ha : (clOf sc env).lookup n = some a := ha
  rw [ha, clOf_lookup h ha]
noncomputable def compB (env : Env) (sc : Scope) (x : Str) (ns : List Str) : Bool :=
  sc.kind == .function && sc.names.all (fun p => p.2 != .local || sc.names.lookup p.1 == some .local) && (relabel sc env).names.lookup x == some .local && sc.names.all (fun p => p.2 != .cell) &&
  ns.all (fun n => (env.kindOf n == some .cell || env.kindOf n == some .free) && sc.names.lookup n == some .free && ((relabel sc env).names.lookup n == some .cell || (relabel sc env).names.lookup n == some .free))
theorem cells_none : ∀ (l : List (Str × NameKind)) (n : Nat) (acc : List (Str × Addr)), l.all (fun p => p.2 != .cell) = true → cellsFrom n l acc = acc
  | [], _, _, _ => rfl
  | (m, kd) :: r, n, acc, h => by
    rw [List.all_cons] at h
    obtain ⟨h1, h2⟩ := Bool.and_eq_true_iff.mp h
    unfold cellsFrom
    rw [if_neg (by intro q; rw [bne_iff_ne] at h1; exact h1 (beq_iff_eq.mp q))]
    exact cells_none r n acc h2
theorem push_none : ∀ (l : List (Str × NameKind)) (h : Heap), l.all (fun p => p.2 != .cell) = true → pushCells h l = h
  | [], _, _ => rfl
  | (m, kd) :: r, h, hh => by
    rw [List.all_cons] at hh
    obtain ⟨h1, h2⟩ := Bool.and_eq_true_iff.mp hh
    unfold pushCells
    rw [if_neg (by intro q; rw [bne_iff_ne] at h1; exact h1 (beq_iff_eq.mp q))]
    exact push_none r h h2
section
variable {W : Wd} {c : Fx} {ρ : Rho} {k : Nat}
theorem comp_parts {sc : Scope} {x : Str} {fv : List (Str × V)} (hf : freesOk sc c.env) (hb : compB c.env sc x (fv.map (·.1)) = true) (hs : ∀ n v, fv.lookup n = some v → ρ.lookup n = some (.val v)) :
    closureFor sc c.env = pure (clOf sc c.env) ∧ sc.kind = .function ∧ (∀ y ∈ sc.names, y.2 = .local → sc.names.lookup y.1 = some .local) ∧ (∀ n a, (clOf sc c.env).lookup n = some a → ∃ y, c.env.cells.lookup y = some a) ∧ LoopVar c sc (clOf sc c.env) x ∧ FreeVars c ρ sc (clOf sc c.env) x fv := by
  unfold compB at hb
  simp only [Bool.and_eq_true, beq_iff_eq] at hb
  obtain ⟨⟨⟨⟨b1, b2⟩, b3⟩, b4⟩, b5⟩ := hb
  refine ⟨closure_of hf, b1, fun y hy hl => ?_, fun n a e => ⟨n, clOf_lookup hf e⟩, .inl ⟨b3, fun n => cells_none _ _ _ b4, fun h => push_none _ _ b4⟩, fun n v e hx => ?_⟩
  · have := List.all_eq_true.mp b2 y hy
    rcases Bool.or_eq_true_iff.mp this with q | q
    · rw [hl] at q; cases q
    · exact beq_iff_eq.mp q
  · have := List.all_eq_true.mp b5 n (List.mem_map.mpr ⟨_, mem_of_lookup e, rfl⟩)
    simp only [Bool.and_eq_true, Bool.or_eq_true, beq_iff_eq] at this
    obtain ⟨⟨q1, q2⟩, q3⟩ := this
    exact ⟨hs n v e, q1, clOf_free hf (mem_of_lookup q2), q3⟩
end
end Mine
end
section
open PySem PySem.W PyProof.Rows PySem.Builtin.Str
namespace Mine
theorem freesOk_fx {name : Str} {sc0 sc : Scope} {L a : Addr} {cd : Value} (h : sc.names.all (fun p => p.2 != .free || sc0.names.lookup p.1 == some .cell) = true) : freesOk sc (envOfC name sc0 L a cd) := fun p hp hk => by
  have := List.all_eq_true.mp h p hp
  rw [hk] at this
  have e : sc0.names.lookup p.1 = some .cell := by
    rcases Bool.or_eq_true_iff.mp this with q | q
    · cases q
    · exact beq_iff_eq.mp q
  exact cells_some sc0.names (L + 1) [] p.1 (.inl (mem_of_lookup e))
theorem stCell {name : Str} {sc : Scope} {L a : Addr} {cd : Value} {A : Around} {h₀ G : GM} {ex : Addr → Prop} {pin : List (Str × Addr)} {x : Str} (h : sc.names.lookup x = some .cell) : Storable (fx name sc L a cd A h₀ G ex pin) x :=
  .inr ⟨h, rfl, Option.isSome_iff_exists.mp (cells_some sc.names (L + 1) [] x (.inl (mem_of_lookup h)))⟩
section
variable {W : Wd} {c : Fx} {ρ : Rho} {k : Nat}
theorem sub_fv {fv : List (Str × V)} (h : Sub (fv.map fun p => (p.1, Slot.val p.2)) ρ) : ∀ n v, fv.lookup n = some v → ρ.lookup n = some (.val v) := fun n v e => h n (.val v) (by rw [lookup_rev_map Slot.val, e]; rfl)
theorem cList {fz : Prop} {elt iter : Expr} {x : Str} {px pos : Pos} {ifs : List Expr} {sc : Scope} {Q : List V → Prop} (fv : List (Str × V)) (F : FOk k c) (hf : freesOk sc c.env) (hb : compB c.env sc x (fv.map (·.1)) = true) (hs : Sub (fv.map fun p => (p.1, Slot.val p.2)) ρ)
    (h : EVI W c ρ fz iter (CompJ W c k sc (clOf sc c.env) x fv ifs elt Q)) (hfold : ∀ x, foldedSetIterable iter c.env x = pure x) : EVF W c ρ (.ListComp elt [⟨.Name x px, iter, ifs, 0⟩] sc pos) Q := by
  obtain ⟨p1, p2, p3, p4, p5, p6⟩ := comp_parts (ρ := ρ) hf hb (sub_fv hs)
  exact EVF_ListComp F p1 p2 p3 p4 p5 p6 h hfold
theorem cAssign {fz : Prop} {elt iter : Expr} {x y : Str} {px py pos spos : Pos} {ifs : List Expr} {sc : Scope} {Qn : Rho → Prop} {Qr : V → Rho → Prop} (fv : List (Str × V)) (F : FOk k c) (hf : freesOk sc c.env) (hb : compB c.env sc x (fv.map (·.1)) = true) (hs : Sub (fv.map fun p => (p.1, Slot.val p.2)) ρ) (hy : c.env.kindOf y = some .local)
    (hsw : swapsWith (.ListComp elt [⟨.Name x px, iter, ifs, 0⟩] sc pos) (some (.Name y py)) spos.line c.env = pure true) (hfold : ∀ x, foldedSetIterable iter c.env x = pure x)
    (h : EVI W c ρ fz iter (CompJ W c k sc (clOf sc c.env) x fv ifs elt fun ys => Qn ((y, .val (.list ys)) :: ρ))) : EX W c ρ (.Assign [.Name y py] (.ListComp elt [⟨.Name x px, iter, ifs, 0⟩] sc pos) spos) Qn Qr := by
  obtain ⟨p1, p2, p3, p4, p5, p6⟩ := comp_parts (ρ := ρ) hf hb (sub_fv hs)
  exact EX_AssignComp F hy p1 p2 p3 p4 p5 p6 h hsw hfold
theorem cMap {sc : Scope} {cl : List (Str × Addr)} {x : Str} {fv : List (Str × V)} {elt : Expr} {Q : List V → Prop} {xs : List V} (res : List V) (hl : res.length = xs.length) (hsz : xs.length ≤ sizeLine)
    (h : ∀ (i : Nat) (v w : V) C h₀ G₀, xs[i]? = some v → res[i]? = some w → FOk k (compFx c sc (cellsFrom (C + 1) sc.names cl) C h₀ G₀) → EV W (compFx c sc (cellsFrom (C + 1) sc.names cl) C h₀ G₀) ((x, .val v) :: fv.map fun p => (p.1, .val p.2)) elt fun r => r = w) (hq : Q res) :
    CompJ W c k sc cl x fv [] elt Q xs := by
  refine ⟨hsz, fun i ys => ys = res.take i, by simp, fun i v ys C h₀ G₀ hv hy F => ?_, fun ys hy => ?_⟩
  · have hi : i < xs.length := by
      rcases Nat.lt_or_ge i xs.length with q | q
      · exact q
      · rw [List.getElem?_eq_none q] at hv; cases hv
    obtain ⟨w, hw⟩ : ∃ w, res[i]? = some w := ⟨res[i]'(by exact om396 hi hl), List.getElem?_eq_getElem (by exact om396 hi hl)⟩
    show EV _ _ _ _ _
    refine (h i v w C h₀ G₀ hv hw F).mono fun r hr => ?_
    rw [hr, hy]; show _ = List.take (i + 1) res; rw [List.take_add_one, hw]; rfl
  · have hy : ys = List.take xs.length res := hy
    rw [hy, List.take_of_length_le (by exact om280 hl)]; exact hq
theorem cFilter {sc : Scope} {cl : List (Str × Addr)} {x : Str} {fv : List (Str × V)} {t elt : Expr} {Q : List V → Prop} {α : Type} {l : List α} {f : α → V} (p : α → Bool) (hsz : l.length ≤ sizeLine)
    (h : ∀ u C h₀ G₀, u ∈ l → FOk k (compFx c sc (cellsFrom (C + 1) sc.names cl) C h₀ G₀) → ET W (compFx c sc (cellsFrom (C + 1) sc.names cl) C h₀ G₀) ((x, .val (f u)) :: fv.map fun p => (p.1, .val p.2)) t (fun b => b = p u))
    (g : α → V) (he : ∀ u C h₀ G₀, u ∈ l → FOk k (compFx c sc (cellsFrom (C + 1) sc.names cl) C h₀ G₀) → EV W (compFx c sc (cellsFrom (C + 1) sc.names cl) C h₀ G₀) ((x, .val (f u)) :: fv.map fun p => (p.1, .val p.2)) elt fun r => r = g u) (hq : Q ((l.filter p).map g)) :
    CompJ W c k sc cl x fv [t] elt Q (l.map f) := by
  refine ⟨by rw [List.length_map]; exact hsz, fun i ys => ys = (((l.take i).filter p).map g), by simp, fun i v ys C h₀ G₀ hv hy F => ?_, fun ys hy => ?_⟩
  · obtain ⟨u, hu, rfl, htake, _⟩ := map_get hv
    have hm : u ∈ l := List.mem_of_getElem? hu
    refine fun gg s Qc E S hq' => h u C h₀ G₀ hm F gg s Qc E S fun b G' s' hb => hq' b G' s' ?_
    subst hb
    dsimp only
    rw [htake, List.filter_append, List.map_append]
    cases hp : p u with
    | true =>
      simp only [if_true]
      refine (he u C h₀ G₀ hm F).mono fun r hr => ?_
      rw [hr, hy]; simp [hp]
    | false =>
      simp only [Bool.false_eq_true, if_false]
      rw [hy]; simp [hp]
  · have hy : ys = List.map g (List.filter p (List.take (l.map f).length l)) := hy
    rw [List.length_map, List.take_of_length_le (Nat.le_refl _)] at hy; rw [hy]; exact hq
end
end Mine
end
section
open PySem PySem.W PyProof.Rows PySem.Builtin.Str
namespace Mine
section
variable {W : Wd} {ad : Str → Addr} {fd : Str → FuncData}
noncomputable abbrev Let4 := Int × Str × Int × Str
@[reducible] noncomputable def let0 : Let4 := (0, "", 0, "")
noncomputable def textOf (p : Let4) : Str := p.2.1 ++ p.2.2.2
noncomputable def kOrd : List Nat := [0, 2, 1, 3]
noncomputable def textsOf (l : List Let4) : List Str := kOrd.map fun k => textOf (l.getD k let0)
noncomputable def tellOf (a b : Str) : Str := itext (substV a b) ++ itext (substV b a)
noncomputable def tellsOf (l : List Let4) : List Str := (textsOf l).map fun t => tellOf ((textsOf l).getD 0 "") t
noncomputable def oddGo : Nat → List Int
  | 0 => [0]
  | n + 1 => oddGo n ++ (oddGo n).map fun b => 1 - b
noncomputable def par (n : Nat) : Int := (oddGo 6).getD n 0
noncomputable def perp (changes : List Nat) (w : Nat) : Bool := (changes.filter fun c => par (w &&& c) == 1).isEmpty
noncomputable def costAt (places : List (List Let4)) (w : Nat) : List Str := (List.range 3).map fun i => (tellsOf (places.getD i [])).getD ((w >>> (2 * i)) &&& 3) ""
noncomputable def costsOf (changes : List Nat) (places : List (List Let4)) : List (List Str) := ((List.range 64).filter (perp changes)).map (costAt places)
@[reducible] noncomputable def placesV (places : List (List Let4)) : V := .list (places.map fun l => .list (l.map letV))
@[reducible] noncomputable def natV (l : List Nat) : V := .list (l.map fun (x : Nat) => .int (x : Int))
@[reducible] noncomputable def strsV (l : List Str) : V := .list (l.map .str)
@[reducible] noncomputable def strssV (l : List (List Str)) : V := .list (l.map strsV)
structure LetOk (l : List Let4) : Prop where
  len : l.length = 4
  short : ∀ p ∈ l, p.2.1.length ≤ 100 ∧ p.2.2.2.length ≤ 100
  low : ∀ t ∈ textsOf l, tooLong (Txt.lower t).length = false
  num : ∀ p ∈ l, 0 ≤ p.1 ∧ p.1 < 200 ∧ 0 ≤ p.2.2.1 ∧ p.2.2.1 ≤ 200
theorem substV_lt (x y : Str) : 0 ≤ substV x y ∧ substV x y < 3 := by
  unfold substV
  split
  · decide
  · split <;> decide
theorem itext_len2 {n : Int} (h : 0 ≤ n ∧ n < 3) : (itext n).length ≤ 3 := itext_len' h.1 (by exact om21 h)
theorem band_nat (a b : Nat) : Builtin.bitAnd (a : Int) (b : Int) = ((a &&& b : Nat) : Int) := by
  rw [bitAnd_pp (Int.natCast_nonneg a) (Int.natCast_nonneg b)]; rfl
theorem shr_nat (a b : Nat) : (a : Int).fdiv (2 ^ b) = ((a >>> b : Nat) : Int) := by
  rw [Nat.shiftRight_eq_div_pow, Int.fdiv_eq_ediv_of_nonneg _ (Int.pow_nonneg (by decide))]
  norm_cast
theorem imul_small {a b : Int} (ha : a.natAbs < 2 ^ 64) (hb : b.natAbs < 2 ^ 64) : IntMulOk a b := IntMulOk.of_le (intBits_le_iff.mpr ha) (intBits_le_iff.mpr hb) (by decide)
theorem odd_len : ∀ n, (oddGo n).length = 2 ^ n
  | 0 => rfl
  | n + 1 => by unfold oddGo; rw [List.length_append, List.length_map, odd_len n, Nat.pow_succ]; exact om196
theorem veq_nil (l : List V) : veq (.list l) (.list []) = l.isEmpty := by
  cases l with
  | nil => exact veq_true rfl
  | cons x r => exact veq_false (by intro h; cases h)
theorem and_lt {a b : Nat} (h : b < 64) : a &&& b < 64 := Nat.lt_of_le_of_lt Nat.and_le_right h
theorem fn_costs (P : PwOk W ad fd) {k : Nat} {changes : List Nat} {places : List (List Let4)} (hc : ∀ x ∈ changes, x < 64) (hcl : changes.length = 3) (hpl : places.length = 3)
    (hp : ∀ l ∈ places, LetOk l) :
    FN W (k + 2) (.ref (ad "_law_costs")) [natV changes, placesV places] [] (fun v => v = strssV (costsOf changes places)) := by
  refine FN_go (ρ₀ := [("changes", natV changes), ("places", placesV places)]) ["changes", "places"] P.f_costs.2 P.lim (fun G vals kvals r r' => ?_) (fun L cd A h₀ G F => ?_)
  · obtain ⟨v, w, rfl, r1, r2⟩ := r.two
    cases r'
    exact ⟨_, P.b_costs v w, rfl, .cons r1 (.cons r2 .nil)⟩
  · refine EXS_cons ?_
    refine @sOwn W _ _ (k + 1) _ _ _ _ _ _ F (EVF_List (EVL_nil ⟨by decide, ?_⟩)) (stCell (by kernel_rfl)) (by rfl) (by kernel_rfl)
    refine EXS_cons ?_
    refine @sFor W _ _ (k + 1) _ _ _ _ _ _ F ?_ (by intro _; rfl)
    refine EVI_of F (EV_Name F.toFK (by rfl) ⟨_, rfl, ?_⟩)
    refine ⟨fun i => [("tells", .own ((places.take i).map fun l => strsV (tellsOf l))), ("changes", .val (natV changes)), ("places", .val (placesV places))], .put (by rfl) (.put (by rfl) (.put (by rfl) (.nil _))), ?_, ?_⟩
    · intro i x hx
      obtain ⟨l, hl, rfl, htake, hi⟩ := map_get hx
      have hlo := hp l (List.mem_of_getElem? hl)
      refine ASG_Name F (stCell (by kernel_rfl)) ?_
      refine EXS_cons ?_
      refine @cAssign W _ _ (k + 1) True _ _ _ _ _ _ _ _ _ _ _ _ [("letters", .list (l.map letV))] F (freesOk_fx (by kernel_rfl)) (by kernel_rfl) (.put (by rfl) (.nil _)) (by kernel_rfl) (by kernel_rfl) (by intro _; rfl) ?_
      refine EVI_of F ((EV_lit (n := 50)).1 (v := natV kOrd) (by kernel_rfl) ⟨_, rfl, ?_⟩)
      refine cMap ((textsOf l).map .str) (by rfl) (by show 4 ≤ _; rw [sizeLine_eq]; decide) (fun j v w C h₀' G₀' hv hw F' => ?_) ?_
      · obtain ⟨kk, hk, rfl, _, _⟩ := map_get hv
        obtain ⟨t, ht, rfl, _, _⟩ := map_get hw
        obtain ⟨kk', hk', rfl, _, _⟩ := map_get ht
        rw [hk] at hk'; cases hk'
        have h4 : kk < 4 := (show ∀ x ∈ kOrd, x < 4 by decide) kk (List.mem_of_getElem? hk)
        have hg : ((l.map letV)[kk]?) = some (letV (l.getD kk let0)) := getmap letV let0 (by rw [hlo.len]; exact h4)
        have hs := hlo.short (l.getD kk let0) (by rw [List.getD_eq_getElem?_getD, List.getElem?_eq_getElem (by rw [hlo.len]; exact h4)]; exact List.getElem_mem _)
        refine EV_BinOp ?_
        refine EV_Item (EVP_of (EV_Item (EVP_of (EV_Name F'.toFK (by rfl) ⟨_, rfl, EV_Name F'.toFK (by rfl) ⟨(kk : Int), rfl, by exact om183, by exact om101 h4, _, hg, ?_⟩⟩))))
        refine ⟨_, rfl, EV_int ⟨1, rfl, by decide, by decide, _, rfl, ?_⟩⟩
        refine EV_Item (EVP_of (EV_Item (EVP_of (EV_Name F'.toFK (by rfl) ⟨_, rfl, EV_Name F'.toFK (by rfl) ⟨(kk : Int), rfl, by exact om183, by exact om101 h4, _, hg, ?_⟩⟩))))
        refine ⟨_, rfl, EV_int ⟨3, rfl, by decide, by decide, _, rfl, ?_⟩⟩
        exact OV_add_str (by rw [sizeLine_eq]; exact om238 hs) rfl
      · refine EXS_cons ?_
        refine @sEx W _ _ _ _ _ _ _ _ F.toFK ?_ (stCell (by kernel_rfl)) (by kernel_rfl)
        refine EV_Item (EVP_of (EV_Name F.toFK (by rfl) ⟨_, rfl, EV_int ⟨0, rfl, by decide, by decide, .str ((textsOf l).getD 0 ""), rfl, ?_⟩⟩))
        refine EXS_cons ?_
        refine @EX_append W _ _ (k + 1) _ _ _ _ _ _ _ _ _ F (by rfl) ?_ ?_ (by rfl) (by rfl) (by rfl) (by rfl) (by rfl) (by kernel_rfl) (by kernel_rfl) (by rfl)
        · rw [List.length_map, List.length_take, sizeLine_eq]; exact om313 hpl
        refine EV.of_fresh ?_
        refine @cList W _ _ (k + 1) True _ _ _ _ _ _ _ _ [("here", .str ((textsOf l).getD 0 ""))] F (freesOk_fx (by kernel_rfl)) (by kernel_rfl) (.put (by rfl) (.nil _)) ?_ (by intro _; rfl)
        refine EVI_of F (EV_Name F.toFK (by rfl) ⟨(textsOf l).map .str, rfl, ?_⟩)
        refine cMap ((tellsOf l).map .str) (by rfl) (by show 4 ≤ _; rw [sizeLine_eq]; decide) (fun j v w C h₀' G₀' hv hw F' => ?_) ?_
        · obtain ⟨t, ht, rfl, _, _⟩ := map_get hv
          obtain ⟨u, hu, rfl, _, _⟩ := map_get hw
          obtain ⟨t', ht', rfl, _, _⟩ := map_get hu
          rw [ht] at ht'; cases ht'
          have hlt := hlo.low t (List.mem_of_getElem? ht)
          have hlh := hlo.low ((textsOf l).getD 0 "") (show textOf (l.getD 0 let0) ∈ _ from List.mem_cons_self)
          have b1 := substV_lt ((textsOf l).getD 0 "") t
          have b2 := substV_lt t ((textsOf l).getD 0 "")
          refine EV_BinOp ?_
          refine @EV_Call W _ _ (k + 1) _ _ _ _ _ _ _ _ F' P.str_ (by kernel_rfl) (.inr (.inr ⟨_, rfl⟩)) ?_ (by kernel_rfl) (by rfl) (by rfl) (by rfl) (by intro e r h; cases h; rfl)
          refine EVL_cons (@EV_Call W _ _ (k + 1) _ _ _ _ _ _ _ _ F' P.f_subst.1 (by kernel_rfl) P.f_subst.2.isFn ?_ (by kernel_rfl) (by rfl) (by rfl) (by rfl) (by intro e r h; cases h; rfl))
          refine EVL_cons (EV_Name F'.toFK (by rfl) (EVL_cons (EV_Name F'.toFK (by rfl) (EVL_nil (EVK_nil ⟨rfl, CV_of_FN F' (FN.mono (fn_subst P (k := k) hlh hlt) fun v hv => ?_) (Nat.le_refl _)⟩)))))
          subst hv
          refine EVL_nil (EVK_nil ⟨rfl, CV_str_int (log2_small (by exact om19 b1)) ?_⟩)
          refine @EV_Call W _ _ (k + 1) _ _ _ _ _ _ _ _ F' P.str_ (by kernel_rfl) (.inr (.inr ⟨_, rfl⟩)) ?_ (by kernel_rfl) (by rfl) (by rfl) (by rfl) (by intro e r h; cases h; rfl)
          refine EVL_cons (@EV_Call W _ _ (k + 1) _ _ _ _ _ _ _ _ F' P.f_subst.1 (by kernel_rfl) P.f_subst.2.isFn ?_ (by kernel_rfl) (by rfl) (by rfl) (by rfl) (by intro e r h; cases h; rfl))
          refine EVL_cons (EV_Name F'.toFK (by rfl) (EVL_cons (EV_Name F'.toFK (by rfl) (EVL_nil (EVK_nil ⟨rfl, CV_of_FN F' (FN.mono (fn_subst P (k := k) hlt hlh) fun v hv => ?_) (Nat.le_refl _)⟩)))))
          subst hv
          refine EVL_nil (EVK_nil ⟨rfl, CV_str_int (log2_small (by exact om19 b2)) ?_⟩)
          refine OV_add_str ?_ rfl
          have e1 := itext_len2 b1
          have e2 := itext_len2 b2
          unfold itext at e1 e2
          rw [sizeLine_eq]; exact om294 e1 e2
        · refine EXS_nil (.put ?_ (.put (by rfl) (.put (by rfl) (.nil _))))
          show some _ = some _
          rw [htake, List.map_append]; rfl
    · intro ρ' hρ
      refine EXS_sub hρ ?_
      dsimp only
      rw [List.length_map, List.take_of_length_le (l := places) (Nat.le_refl _)]
      refine EXS_freeze (x := "tells") (by rfl) (by rfl) ?_
      refine EXS_cons ?_
      refine @sEx W _ _ _ _ _ _ _ _ F.toFK ?_ (stCell (by kernel_rfl)) (by kernel_rfl)
      refine EV.of_fresh (EVF_List (EVL_cons (EV_int (EVL_nil ⟨by decide, ?_⟩)) (by rfl)))
      refine EXS_cons ?_
      refine @sFor W _ _ (k + 1) _ _ _ _ _ _ F ?_ (by intro _; rfl)
      refine @EVI_range W _ _ (k + 1) _ _ _ _ _ F P.range_ (by kernel_rfl) (EV_int ⟨6, rfl, by rw [sizeLine_eq]; decide, ?_⟩) (by kernel_rfl) (by rfl)
      refine ⟨fun i => [("odd", .val (.list ((oddGo i).map .int))), ("tells", .val (.list (places.map fun l => strsV (tellsOf l)))), ("changes", .val (natV changes))], .put (by rfl) (.put (by rfl) (.put (by rfl) (.nil _))), ?_, ?_⟩
      · intro i x hx
        obtain ⟨hi, rfl⟩ := range_get hx
        refine ASG_Name F (.inl (by kernel_rfl)) ?_
        refine EXS_cons ?_
        refine @sEx W _ _ _ _ _ _ _ _ F.toFK ?_ (stCell (by kernel_rfl)) (by kernel_rfl)
        have hpow : 2 ^ i ≤ 32 := (show ∀ i, i < 6 → 2 ^ i ≤ 32 by decide) i hi
        refine EV.of_fresh (EVF_AddList (EVP_of (EV_Name F.toFK (by rfl) ⟨_, rfl, ?_⟩)))
        refine EVP_of (EV.of_fresh ?_)
        refine @cList W _ _ (k + 1) True _ _ _ _ _ _ _ _ [] F (freesOk_fx (by kernel_rfl)) (by kernel_rfl) (.nil _) ?_ (by intro _; rfl)
        refine EVI_of F (EV_Name F.toFK (by rfl) ⟨(oddGo i).map .int, rfl, ?_⟩)
        refine cMap (((oddGo i).map fun b => 1 - b).map .int) (by rw [List.length_map, List.length_map, List.length_map]) (by rw [List.length_map, odd_len, sizeLine_eq]; exact om154 hpow) (fun j v w C h₀' G₀' hv hw F' => ?_) ?_
        · obtain ⟨t, ht, rfl, _, _⟩ := map_get hv
          obtain ⟨u, hu, rfl, _, _⟩ := map_get hw
          obtain ⟨t', ht', rfl, _, _⟩ := map_get hu
          rw [ht] at ht'; cases ht'
          exact EV_BinOp (EV_int (EV_Name F'.toFK (by rfl) (OV_sub_int rfl)))
        · refine ⟨_, rfl, ?_, ?_⟩
          · rw [List.length_map, List.length_map, List.length_map, odd_len, sizeLine_eq]; exact om153 hpow
          · refine EXS_nil (.put ?_ (.put (by rfl) (.put (by rfl) (.nil _))))
            show some _ = some _
            rw [← List.map_append]; rfl
      · intro ρ' hρ
        refine EXS_sub hρ ?_
        rw [List.length_map, List.length_range]
        refine EXS_cons ?_
        refine @sOwn W _ _ (k + 1) _ _ _ _ _ _ F (EVF_List (EVL_nil ⟨by decide, ?_⟩)) (.inl (by kernel_rfl)) (by rfl) (by kernel_rfl)
        refine EXS_cons ?_
        refine @sFor W _ _ (k + 1) _ _ _ _ _ _ F ?_ (by intro _; rfl)
        refine @EVI_range W _ _ (k + 1) _ _ _ _ _ F P.range_ (by kernel_rfl) (EV_int ⟨64, rfl, by rw [sizeLine_eq]; decide, ?_⟩) (by kernel_rfl) (by rfl)
        refine ⟨fun i => [("costs", .own ((((List.range i).filter (perp changes)).map (costAt places)).map strsV)), ("odd", .val (.list ((oddGo 6).map .int))), ("tells", .val (.list (places.map fun l => strsV (tellsOf l)))), ("changes", .val (natV changes))], .put (by rfl) (.put (by rfl) (.put (by rfl) (.put (by rfl) (.nil _)))), ?_, ?_⟩
        · intro i x hx
          obtain ⟨hi, rfl⟩ := range_get hx
          refine ASG_Name F (stCell (by kernel_rfl)) ?_
          refine EXS_cons ?_
          refine EX_If (ET_Compare (by rfl) ?_)
          refine EV.of_fresh ?_
          refine @cList W _ _ (k + 1) True _ _ _ _ _ _ _ _ [("odd", .list ((oddGo 6).map .int)), ("word", .int (i : Int))] F (freesOk_fx (by kernel_rfl)) (by kernel_rfl) (.put (by rfl) (.put (by rfl) (.nil _))) ?_ (by intro _; rfl)
          refine EVI_of F (EV_Name F.toFK (by rfl) ⟨changes.map fun (x : Nat) => .int (x : Int), rfl, ?_⟩)
          refine cFilter (f := fun (x : Nat) => V.int (x : Int)) (fun c => par (i &&& c) == 1) (by rw [hcl, sizeLine_eq]; decide) (fun u C h₀' G₀' hu F' => ?_) (fun (x : Nat) => V.int (x : Int)) (fun u C h₀' G₀' hu F' => EV_Name F'.toFK (by rfl) rfl) ?_
          · refine ET_Compare (by rfl) (EV_Item (EVP_of (EV_Name F'.toFK (by rfl) ⟨_, rfl, ?_⟩)))
            refine EV_BinOp (EV_Name F'.toFK (by rfl) (EV_Name F'.toFK (by rfl) (OV_and_int ?_)))
            rw [band_nat]
            have hlt := and_lt (a := i) (hc u hu)
            refine ⟨_, rfl, Int.natCast_nonneg _, by exact om105 hlt, .int (par (i &&& u)), getmap V.int 0 (by rw [odd_len]; exact hlt), ?_⟩
            exact EV_int (OV_eq_int (TV_bool rfl))
          · refine EV.of_fresh (EVF_List (EVL_nil ⟨by decide, ?_⟩))
            refine OV_eq_list F ?_ (by rfl) (TV_bool ?_)
            · show List.all _ _ = true
              rw [List.all_eq_true]
              intro v hv
              obtain ⟨y, _, rfl⟩ := List.mem_map.mp hv
              rfl
            · rw [veq_nil, List.isEmpty_map]
              show if perp changes i = true then _ else _
              split
              · rename_i hpp
                refine EXS_cons ?_
                refine @EX_append W _ _ (k + 1) _ _ _ _ _ _ _ _ _ F (by rfl) ?_ ?_ (by rfl) (by rfl) (by rfl) (by rfl) (by rfl) (by kernel_rfl) (by kernel_rfl) (by rfl)
                · rw [List.length_map, List.length_map, sizeLine_eq]
                  have := List.length_filter_le (perp changes) (List.range i)
                  rw [List.length_range] at this; exact om298 this hi
                refine EV.of_fresh ?_
                refine @cList W _ _ (k + 1) True _ _ _ _ _ _ _ _ [("tells", .list (places.map fun l => strsV (tellsOf l))), ("word", .int (i : Int))] F (freesOk_fx (by kernel_rfl)) (by kernel_rfl) (.put (by rfl) (.put (by rfl) (.nil _))) ?_ (by intro _; rfl)
                refine @EVI_range W _ _ (k + 1) _ _ _ _ _ F P.range_ (by kernel_rfl) (EV_int ⟨3, rfl, by rw [sizeLine_eq]; decide, ?_⟩) (by kernel_rfl) (by rfl)
                refine cMap ((costAt places i).map .str) (by rfl) (by show 3 ≤ _; rw [sizeLine_eq]; decide) (fun j v w C h₀' G₀' hv hw F' => ?_) ?_
                · obtain ⟨hj, rfl⟩ := range_get hv
                  obtain ⟨u, hu, rfl, _, _⟩ := map_get hw
                  obtain ⟨j', hj', rfl, _, _⟩ := map_get hu
                  rw [List.getElem?_range hj] at hj'; cases hj'
                  have hlt : i >>> (2 * j) &&& 3 < 4 := Nat.lt_of_le_of_lt Nat.and_le_right (by decide)
                  refine EV_Item (EVP_of (EV_Item (EVP_of (EV_Name F'.toFK (by rfl) ⟨_, rfl, ?_⟩))))
                  refine EV_Name F'.toFK (by rfl) ⟨(j : Int), rfl, by exact om183, by exact om96 hj, _, getmap (fun l => strsV (tellsOf l)) [] (by rw [hpl]; exact hj), ?_⟩
                  refine ⟨_, rfl, ?_⟩
                  refine EV_BinOp (EV_BinOp (EV_Name F'.toFK (by rfl) (EV_BinOp (EV_int (EV_Name F'.toFK (by rfl) (OV_mul_int (imul_small (by decide) (by exact om98 hj)) ?_))))))
                  have e2 : (2 : Int) * (j : Int) = ((2 * j : Nat) : Int) := by exact om173
                  rw [e2]
                  refine OV_shr_int (Int.natCast_nonneg _) ?_
                  rw [Int.toNat_natCast, shr_nat]
                  refine EV_int (OV_and_int ?_)
                  rw [show (3 : Int) = ((3 : Nat) : Int) from rfl, band_nat]
                  exact ⟨_, rfl, by exact om183, by exact om101 hlt, .str ((tellsOf (places.getD j [])).getD (i >>> (2 * j) &&& 3) ""), getmap V.str "" hlt, rfl⟩
                · refine EXS_nil (EXS_nil (.put ?_ (.put (by rfl) (.put (by rfl) (.put (by rfl) (.nil _))))))
                  show some _ = some _
                  rw [List.range_succ, List.filter_append]
                  simp [hpp]
              · rename_i hpp
                refine EXS_nil (EXS_nil (.put ?_ (.put (by rfl) (.put (by rfl) (.put (by rfl) (.nil _))))))
                show some _ = some _
                rw [List.range_succ, List.filter_append]
                simp [hpp]
        · intro ρ' hρ
          refine EXS_sub hρ ?_
          refine EXS_freeze (x := "costs") (by rfl) (by rfl) ?_
          refine EXS_cons ?_
          refine EX_Return (EV_Name F.toFK (by rfl) ?_)
          rw [List.length_map, List.length_range]
          rfl
end
end Mine
end
section
open PySem PySem.W PyProof.Rows PySem.Builtin.Str
namespace Mine
theorem pick_runL {α : Type} (xs : List α) (a : Nat) : ∀ k : Nat, ((List.range k).map (a + ·)).filterMap (xs[·]?) = (xs.drop a).take k
  | 0 => by simp
  | k + 1 => by
    rw [List.range_succ, List.map_append, List.filterMap_append, pick_runL xs a k, List.take_add_one]
    congr 1
    simp only [List.map_cons, List.map_nil, List.getElem?_drop]
    cases h : xs[a + k]? <;> simp [h]
theorem vslice_plain {α : Type} (xs : List α) (lo hi : Option Int) :
    vslice xs lo hi none = (xs.drop (lo.elim 0 (clipAt xs.length))).take (hi.elim xs.length (clipAt xs.length) - lo.elim 0 (clipAt xs.length)) := by
  unfold vslice
  rw [sliceBounds_plain]
  simp only [sliceRange_one, pick_runL]
theorem vslice_upto {α : Type} (xs : List α) (b : Nat) : vslice xs none (some (b : Int)) none = xs.take b := by
  rw [vslice_plain]
  show (xs.drop 0).take (clipAt xs.length b - 0) = _
  rw [clipAt_nat]
  exact (List.take_eq_take_min ..).symm
theorem vslice_from {α : Type} (xs : List α) (a : Nat) : vslice xs (some (a : Int)) none none = xs.drop a := by
  rw [vslice_plain]
  show (xs.drop (clipAt xs.length a)).take (xs.length - clipAt xs.length a) = _
  rw [clipAt_nat, ← List.length_drop, List.take_length]
  exact (List.drop_eq_drop_min ..).symm
theorem vslice_mid {α : Type} (xs : List α) (a b : Nat) (hab : a ≤ b) (hb : b ≤ xs.length) : vslice xs (some (a : Int)) (some (b : Int)) none = (xs.drop a).take (b - a) := by
  rw [vslice_plain]
  simp only [Option.elim, clipAt_nat]
  rw [Nat.min_eq_left hb, Nat.min_eq_left (by exact om406 hab hb)]
noncomputable def valAt (p i : Nat) : Nat := (p >>> (2 * i)) &&& 3
theorem valAt_lt (p i : Nat) : valAt p i < 4 := Nat.lt_of_le_of_lt Nat.and_le_right (by decide)
noncomputable def letAt (places : List (List Let4)) (p i : Nat) : Let4 := (places.getD i []).getD (valAt p i) let0
noncomputable def bitsC (d v : Nat) : List V := [V.int ((v >>> 1 : Nat) : Int), V.int ((v &&& 1 : Nat) : Int)].take d
noncomputable def keyC (d : Nat) (l : Let4) : List V := [V.int 100, .int l.1, .int l.2.2.1, .str l.2.2.2].take (2 * d)
noncomputable def toldC (d : Nat) (l : Let4) : Str := Txt.join "" ([l.2.1, l.2.2.2].take d)
noncomputable def strOf : V → Str
  | .int i => itext i
  | .str s => s
  | _ => ""
section
variable (places : List (List Let4)) (depths : List Nat) (turn p : Nat)
noncomputable def bitsTo (n : Nat) : List V := (List.range n).flatMap fun i => bitsC (depths.getD i 0) (valAt p i)
noncomputable def keyTo (n : Nat) : List V := (List.range n).flatMap fun i => keyC (depths.getD i 0) (letAt places p i)
noncomputable def toldTo (n : Nat) : List Str := (List.range n).map fun i => toldC (depths.getD i 0) (letAt places p i)
noncomputable def cutTold (told : List Str) : List Str := if turn % 4 = 1 ∧ depths.getD 2 0 = 0 then told.take 2 else told
noncomputable def numQ (n : Nat) : Bool := decide (depths.take n = List.replicate n 1) && !([3, 4, 6, 7].contains turn)
noncomputable def lastTold : List Str := if numQ depths turn (cutTold depths turn (toldTo places depths p 3)).length = true then (vslice (keyTo places depths p 3) (some 1) none (some 2)).map strOf else cutTold depths turn (toldTo places depths p 3)
noncomputable def textAt : Str := Txt.join "." (lastTold places depths turn p)
noncomputable def keyAt : List V := keyTo places depths p 3
noncomputable def itemV : V := .list [.list (keyAt places depths p), .list ((keyAt places depths p).map fun v => .str (strOf v)), .str (textAt places depths turn p), .int (turn : Int)]
noncomputable def dueV : V := .list [.list (bitsTo depths p 3), .int (-(turn : Int)), itemV places depths turn p]
end
theorem bitsTo_succ (depths : List Nat) (p n : Nat) : bitsTo depths p (n + 1) = bitsTo depths p n ++ bitsC (depths.getD n 0) (valAt p n) := by
  unfold bitsTo; rw [List.range_succ, List.flatMap_append]; simp
theorem keyTo_succ (places : List (List Let4)) (depths : List Nat) (p n : Nat) : keyTo places depths p (n + 1) = keyTo places depths p n ++ keyC (depths.getD n 0) (letAt places p n) := by
  unfold keyTo; rw [List.range_succ, List.flatMap_append]; simp
theorem toldTo_succ (places : List (List Let4)) (depths : List Nat) (p n : Nat) : toldTo places depths p (n + 1) = toldTo places depths p n ++ [toldC (depths.getD n 0) (letAt places p n)] := by
  unfold toldTo; rw [List.range_succ, List.map_append]; simp
theorem flat_len {α : Type} {f : Nat → List α} {m : Nat} (h : ∀ i, (f i).length ≤ m) : ∀ n, ((List.range n).flatMap f).length ≤ m * n
  | 0 => by simp
  | n + 1 => by
    rw [List.range_succ, List.flatMap_append, List.length_append]
    simp only [List.flatMap_cons, List.flatMap_nil, List.append_nil, Nat.mul_add]; exact Nat.add_le_add (flat_len h n) (Nat.le_trans (h n) (Nat.le_of_eq (Nat.mul_one m).symm))
theorem bitsTo_len (depths : List Nat) (p n : Nat) : (bitsTo depths p n).length ≤ 2 * n := flat_len (fun i => by unfold bitsC; rw [List.length_take]; exact Nat.min_le_right _ _) n
theorem keyTo_len (places : List (List Let4)) (depths : List Nat) (p n : Nat) : (keyTo places depths p n).length ≤ 4 * n := flat_len (fun i => by unfold keyC; rw [List.length_take]; exact Nat.min_le_right _ _) n
noncomputable def PartOk (v : V) : Prop := (∃ i : Int, v = .int i ∧ 0 ≤ i ∧ i ≤ 200) ∨ ∃ s, v = .str s ∧ s.length ≤ 100
theorem itext_len3 : ∀ n : Nat, n ≤ 200 → (itext (n : Int)).length ≤ 3 := by decide +kernel
theorem PartOk.len {v : V} (h : PartOk v) : (strOf v).length ≤ 100 := by
  rcases h with ⟨i, rfl, h0, h1⟩ | ⟨s, rfl, h⟩
  · obtain ⟨m, rfl⟩ := Int.eq_ofNat_of_zero_le h0
    have := itext_len3 m (by exact om53 h1)
    show (itext (m : Int)).length ≤ 100; exact om147 this
  · exact h
theorem PartOk.dv {v : V} (h : PartOk v) (n : Nat) : dv n v = true := by
  rcases h with ⟨i, rfl, h0, h1⟩ | ⟨s, rfl, h⟩ <;> cases n <;> rfl
structure PlOk (places : List (List Let4)) (depths : List Nat) : Prop where
  pl : places.length = 3
  ok : ∀ l ∈ places, LetOk l
  dl : depths.length = 3
  d3 : ∀ d ∈ depths, d < 3
theorem PlOk.letAt_mem {places depths} (h : PlOk places depths) (p : Nat) {i : Nat} (hi : i < 3) : ∃ l, places[i]? = some l ∧ LetOk l ∧ letAt places p i ∈ l ∧ (l.map letV)[valAt p i]? = some (letV (letAt places p i)) := by
  have hi' : i < places.length := by rw [h.pl]; exact hi
  have hl := h.ok _ (List.getElem_mem hi')
  have hg : places.getD i [] = places[i] := by rw [List.getD_eq_getElem?_getD, List.getElem?_eq_getElem hi']; rfl
  have hv : valAt p i < places[i].length := by rw [hl.len]; exact valAt_lt p i
  refine ⟨places[i], List.getElem?_eq_getElem hi', hl, ?_, ?_⟩
  · unfold letAt; rw [hg, List.getD_eq_getElem?_getD, List.getElem?_eq_getElem hv]; exact List.getElem_mem _
  · unfold letAt; rw [hg]; exact getmap letV let0 hv
theorem PlOk.part {places depths} (h : PlOk places depths) (p : Nat) : ∀ n, n ≤ 3 → ∀ v ∈ keyTo places depths p n, PartOk v
  | 0, _, v, hv => by simp [keyTo] at hv
  | n + 1, hn, v, hv => by
    rw [keyTo_succ] at hv
    rcases List.mem_append.mp hv with hv | hv
    · exact h.part p n (by exact om64 hn) v hv
    · obtain ⟨l, _, hl, hm, _⟩ := h.letAt_mem p (i := n) (by exact om63 hn)
      have hn := hl.num _ hm
      have hs := hl.short _ hm
      have hv := List.mem_of_mem_take hv
      simp only [List.mem_cons, List.not_mem_nil, or_false] at hv
      rcases hv with rfl | rfl | rfl | rfl
      · exact .inl ⟨_, rfl, by decide, by decide⟩
      · exact .inl ⟨_, rfl, hn.1, by exact om30 hn⟩
      · exact .inl ⟨_, rfl, hn.2.2.1, hn.2.2.2⟩
      · exact .inr ⟨_, rfl, hs.2⟩
theorem mem_vslice {α : Type} {xs : List α} {l u t : Option Int} {x : α} (h : x ∈ vslice xs l u t) : x ∈ xs := by
  unfold vslice at h
  obtain ⟨i, _, hi⟩ := List.mem_filterMap.mp h
  exact List.mem_of_getElem? hi
theorem join2_len (x : Str) : ∀ {l : List Str} {m : Nat}, (∀ s ∈ l, s.length ≤ m) → (l.map (·.length)).sum ≤ m * l.length
  | [], m, _ => by simp
  | s :: r, m, h => by
    have q := join2_len x (l := r) fun s hs => h s (List.mem_cons_of_mem _ hs)
    simp only [List.map_cons, List.sum_cons, List.length_cons, Nat.mul_add]; rw [Nat.add_comm]; exact Nat.add_le_add q (Nat.le_trans (h s List.mem_cons_self) (Nat.le_of_eq (Nat.mul_one m).symm))
end Mine
end
section
open PySem PySem.W PyProof.Rows PySem.Builtin.Str
namespace Mine
theorem LtV_refl : ∀ xs : List V, LtV (.list xs) (.list xs) false
  | [] => .nn
  | x :: xs => .eq x xs xs false (LtV_refl xs)
theorem LtV_pre {ys ys' : List V} {r : Bool} (h : LtV (.list ys) (.list ys') r) : ∀ xs : List V, LtV (.list (xs ++ ys)) (.list (xs ++ ys')) r
  | [] => h
  | x :: xs => .eq x _ _ r (LtV_pre h xs)
theorem LtV_app {ys ys' : List V} : ∀ {xs xs' : List V} {r : Bool}, xs.length = xs'.length → xs ≠ xs' → LtV (.list xs) (.list xs') r → LtV (.list (xs ++ ys)) (.list (xs' ++ ys')) r
  | [], [], _, _, h, _ => absurd rfl h
  | [], _ :: _, _, h, _, _ => by cases h
  | _ :: _, [], _, h, _, _ => by cases h
  | x :: xs, y :: ys, r, hl, hn, h => by
    cases h with
    | eq _ _ _ _ h => exact .eq _ _ _ _ (LtV_app (by simpa using hl) (fun e => hn (by rw [e])) h)
    | ne _ _ _ _ _ h1 h2 => exact .ne _ _ _ _ _ h1 h2
theorem LtV_cast {a b : V} {r r' : Bool} (h : LtV a b r) (e : r = r') : LtV a b r' := e ▸ h
structure Pc (a b : List V) (q q' : Nat) : Prop where
  len : a.length = b.length
  eq : q = q' → a = b
  ne : q ≠ q' → a ≠ b ∧ LtV (.list a) (.list b) (decide (q < q'))
theorem Pc.app {a b a' b' : List V} {q q' u u' m : Nat} (h : Pc a b q q') (k : Pc a' b' u u') (hu : u < m) (hu' : u' < m) : Pc (a ++ a') (b ++ b') (m * q + u) (m * q' + u') where
  len := by rw [List.length_append, List.length_append, h.len, k.len]
  eq := fun e => by
    have hq : q = q' := by
      rcases Nat.lt_trichotomy q q' with x | x | x
      · have : m * (q + 1) ≤ m * q' := Nat.mul_le_mul_left m x
        rw [Nat.mul_add] at this; exact om468 this hu e
      · exact x
      · have : m * (q' + 1) ≤ m * q := Nat.mul_le_mul_left m x
        rw [Nat.mul_add] at this; exact om469 this hu' e
    subst hq
    rw [h.eq rfl, k.eq (by exact om432 e)]
  ne := fun e => by
    by_cases hq : q = q'
    · subst hq
      have hu2 : u ≠ u' := fun z => e (by rw [z])
      obtain ⟨k1, k2⟩ := k.ne hu2
      rw [h.eq rfl]
      exact ⟨fun z => k1 (List.append_cancel_left z), LtV_cast (LtV_pre k2 b) (by simp)⟩
    · obtain ⟨h1, h2⟩ := h.ne hq
      refine ⟨fun z => h1 (List.append_inj_left z h.len), LtV_cast (LtV_app h.len h1 h2) ?_⟩
      rw [decide_eq_decide]
      rcases Nat.lt_or_ge q q' with x | x
      · have : m * (q + 1) ≤ m * q' := Nat.mul_le_mul_left m x
        rw [Nat.mul_add] at this; exact ⟨fun _ => om467 this hu, fun _ => x⟩
      · have : m * (q' + 1) ≤ m * q := Nat.mul_le_mul_left m (by exact om321 x hq)
        rw [Nat.mul_add] at this; exact ⟨fun z => absurd z (Nat.not_lt_of_le x), fun z => (omA1 this hu' z).elim⟩
theorem Pc.lt {a b : List V} {q q' : Nat} (h : Pc a b q q') : LtV (.list a) (.list b) (decide (q < q')) := by
  by_cases e : q = q'
  · rw [h.eq e, decide_eq_false (by exact om281 e)]; exact LtV_refl _
  · exact (h.ne e).2
theorem Pc.nil : Pc [] [] 0 0 := ⟨rfl, fun _ => rfl, fun h => absurd rfl h⟩
noncomputable def qOf (d v : Nat) : Nat := v >>> (2 - d)
noncomputable def rkOf (depths : List Nat) (p : Nat) : Nat := 4 * (4 * (4 * 0 + qOf (depths.getD 0 0) (valAt p 0)) + qOf (depths.getD 1 0) (valAt p 1)) + qOf (depths.getD 2 0) (valAt p 2)
theorem qOf_lt {d v : Nat} (h : v < 4) : qOf d v < 4 := Nat.lt_of_le_of_lt (Nat.shiftRight_le v _) h
theorem qOf0 {v : Nat} (h : v < 4) : qOf 0 v = 0 := by show v >>> 2 = 0; rw [Nat.shiftRight_eq_div_pow]; exact om102 h
theorem qOf1 (v : Nat) : qOf 1 v = v / 2 := by show v >>> 1 = _; rw [Nat.shiftRight_eq_div_pow]
theorem qOf2 (v : Nat) : qOf 2 v = v := rfl
theorem Pc_bits {d v v' : Nat} (hd : d < 3) (hv : v < 4) (hv' : v' < 4) : Pc (bitsC d v) (bitsC d v') (qOf d v) (qOf d v') := by
  have e1 : ∀ v, v >>> 1 = v / 2 := fun v => by rw [Nat.shiftRight_eq_div_pow]
  have e2 : ∀ v, v &&& 1 = v % 2 := fun v => Nat.and_two_pow_sub_one_eq_mod v 1
  have : d = 0 ∨ d = 1 ∨ d = 2 := by exact om99 hd
  rcases this with rfl | rfl | rfl
  · rw [qOf0 hv, qOf0 hv']; exact Pc.nil
  · rw [qOf1, qOf1]
    unfold bitsC
    rw [e1, e1]
    refine ⟨rfl, fun e => by rw [e]; rfl, fun e => ⟨fun z => ?_, LtV_cast (.ne _ _ _ _ _ (fun z => ?_) (.int _ _)) ?_⟩⟩
    · simp at z; exact om216 z e
    · simp at z; exact om216 z e
    · rw [decide_eq_decide]; exact om334
  · unfold bitsC
    rw [e1, e1, e2, e2, qOf2, qOf2]
    refine ⟨rfl, fun e => by rw [e], fun e => ⟨fun z => ?_, ?_⟩⟩
    · simp at z; exact om214 z e
    · by_cases h : v / 2 = v' / 2
      · rw [h]
        refine LtV_cast (.eq _ _ _ _ (.ne _ _ _ _ _ (fun z => ?_) (.int _ _))) ?_
        · simp at z; exact om215 z h e
        · rw [decide_eq_decide]; exact om236 h
      · refine LtV_cast (.ne _ _ _ _ _ (fun z => ?_) (.int _ _)) ?_
        · simp at z; exact om217 z h
        · rw [decide_eq_decide]; exact om324 h
theorem PlOk.d {places depths} (h : PlOk places depths) (i : Nat) : depths.getD i 0 < 3 := by
  rw [List.getD_eq_getElem?_getD]
  rcases Nat.lt_or_ge i depths.length with q | q
  · rw [List.getElem?_eq_getElem q]; exact h.d3 _ (List.getElem_mem q)
  · rw [List.getElem?_eq_none q]; decide
theorem Pc_3 {places : List (List Let4)} {depths : List Nat} {p p' : Nat} {f : Nat → Nat → List V} (g : Nat → List V) (g' : Nat → List V) (h : ∀ i, i < 3 → Pc (g i) (g' i) (qOf (depths.getD i 0) (valAt p i)) (qOf (depths.getD i 0) (valAt p' i))) :
    Pc ((List.range 3).flatMap g) ((List.range 3).flatMap g') (rkOf depths p) (rkOf depths p') := by
  have e : ∀ f : Nat → List V, (List.range 3).flatMap f = ((([] ++ f 0) ++ f 1) ++ f 2) := fun f => by simp [List.range_succ]
  rw [e, e]
  exact ((Pc.nil.app (h 0 (by decide)) (qOf_lt (valAt_lt _ _)) (qOf_lt (valAt_lt _ _))).app (h 1 (by decide)) (qOf_lt (valAt_lt _ _)) (qOf_lt (valAt_lt _ _))).app (h 2 (by decide)) (qOf_lt (valAt_lt _ _)) (qOf_lt (valAt_lt _ _))
theorem Pc_bits3 {places : List (List Let4)} {depths : List Nat} (h : PlOk places depths) (p p' : Nat) : Pc (bitsTo depths p 3) (bitsTo depths p' 3) (rkOf depths p) (rkOf depths p') :=
  Pc_3 (places := places) (f := fun _ _ => []) _ _ fun i hi => Pc_bits (h.d i) (valAt_lt _ _) (valAt_lt _ _)
noncomputable def ltB (r : Nat → Nat) (i j : Nat) : Bool := decide (r i < r j ∨ (r i = r j ∧ j < i))
theorem ltB_iff {r : Nat → Nat} {i j : Nat} : ltB r i j = true ↔ (r i < r j ∨ (r i = r j ∧ j < i)) := decide_eq_true_iff
noncomputable def ins (r : Nat → Nat) (t : Nat) : List Nat → List Nat
  | [] => [t]
  | u :: s => if r u < r t then u :: ins r t s else t :: u :: s
noncomputable def ord (r : Nat → Nat) : Nat → List Nat
  | 0 => []
  | n + 1 => ins r n (ord r n)
noncomputable def cutAt (r : Nat → Nat) (t : Nat) : List Nat → Nat
  | [] => 0
  | u :: s => if r u < r t then cutAt r t s + 1 else 0
theorem ins_perm (r : Nat → Nat) (t : Nat) : ∀ s, (ins r t s).Perm (t :: s)
  | [] => .refl _
  | u :: s => by
    unfold ins
    split
    · exact ((ins_perm r t s).cons u).trans (.swap t u s)
    · exact .refl _
theorem ord_perm (r : Nat → Nat) : ∀ n, (ord r n).Perm (List.range n)
  | 0 => .refl _
  | n + 1 => by
    rw [List.range_succ]
    exact (ins_perm r n _).trans (((ord_perm r n).cons n).trans (by simpa using (List.perm_append_comm (l₁ := [n]) (l₂ := List.range n))))
theorem ord_len (r : Nat → Nat) (n : Nat) : (ord r n).length = n := by rw [(ord_perm r n).length_eq, List.length_range]
theorem ord_mem {r : Nat → Nat} {n u : Nat} (h : u ∈ ord r n) : u < n := by simpa using (ord_perm r n).mem_iff.mp h
theorem ins_take (r : Nat → Nat) (t : Nat) : ∀ s, ins r t s = s.take (cutAt r t s) ++ t :: s.drop (cutAt r t s)
  | [] => rfl
  | u :: s => by
    unfold ins cutAt
    split
    · rw [ins_take r t s]; simp
    · simp
theorem cutAt_le (r : Nat → Nat) (t : Nat) : ∀ s, cutAt r t s ≤ s.length
  | [] => Nat.le_refl _
  | u :: s => by
    unfold cutAt
    split
    · have := cutAt_le r t s; simp only [List.length_cons]; exact om302 this
    · exact Nat.zero_le _
theorem cutAt_below {r : Nat → Nat} {t : Nat} : ∀ {s : List Nat} {i u : Nat}, s[i]? = some u → i < cutAt r t s → r u < r t
  | [], i, u, h, _ => by cases h
  | w :: s, i, u, h, hi => by
    unfold cutAt at hi
    split at hi
    · rename_i hw
      cases i with
      | zero => cases h; exact hw
      | succ i => exact cutAt_below (s := s) h (by exact om228 hi)
    · exact om417 hi
theorem cutAt_above {r : Nat → Nat} {t : Nat} : ∀ {s : List Nat} {i u : Nat}, s.Pairwise (fun i j => ltB r i j = true) → s[i]? = some u → cutAt r t s ≤ i → r t ≤ r u
  | [], i, u, _, h, _ => by cases h
  | w :: s, i, u, hs, h, hi => by
    rw [List.pairwise_cons] at hs
    unfold cutAt at hi
    split at hi
    · cases i with
      | zero => exact om381 hi
      | succ i => exact cutAt_above (s := s) hs.2 h (by exact om229 hi)
    · rename_i hw
      cases i with
      | zero => cases h; exact om332 hw
      | succ i =>
        have := ltB_iff.mp (hs.1 u (List.mem_of_getElem? (by simpa using h)))
        exact om476 hw this
theorem ins_sorted {r : Nat → Nat} {t : Nat} : ∀ {s : List Nat}, s.Pairwise (fun i j => ltB r i j = true) → (∀ u ∈ s, u < t) → (ins r t s).Pairwise fun i j => ltB r i j = true
  | [], _, _ => by unfold ins; exact List.pairwise_singleton _ _
  | w :: s, hs, ht => by
    have hs' := hs
    rw [List.pairwise_cons] at hs
    unfold ins
    split
    · rename_i hw
      rw [List.pairwise_cons]
      refine ⟨fun u hu => ?_, ins_sorted hs.2 fun u hu => ht u (List.mem_cons_of_mem _ hu)⟩
      rcases List.mem_cons.mp ((ins_perm r t s).mem_iff.mp hu) with rfl | hu
      · exact ltB_iff.mpr (.inl hw)
      · exact hs.1 u hu
    · rename_i hw
      rw [List.pairwise_cons]
      refine ⟨fun u hu => ?_, hs'⟩
      have hwt := ht w List.mem_cons_self
      have h1 : ltB r t w = true := ltB_iff.mpr (by exact om463 hwt hw)
      rcases List.mem_cons.mp hu with rfl | hu
      · exact h1
      · have h2 := ltB_iff.mp (hs.1 u hu)
        have h3 := ht u (List.mem_cons_of_mem _ hu)
        exact ltB_iff.mpr (by exact om481 h3 hw h2)
theorem ord_sorted (r : Nat → Nat) : ∀ n, (ord r n).Pairwise fun i j => ltB r i j = true
  | 0 => .nil
  | n + 1 => ins_sorted (ord_sorted r n) fun u hu => ord_mem hu
theorem ltOk_ltB (r : Nat → Nat) (n : Nat) : LtOk n (ltB r) where
  irr := fun i _ => by unfold ltB; exact decide_eq_false (by exact om350)
  trans := fun i j k _ _ _ h1 h2 => ltB_iff.mpr (omA2 (ltB_iff.mp h1) (ltB_iff.mp h2))
  tri := fun i j _ _ h => by
    rcases Nat.lt_trichotomy (r i) (r j) with x | x | x
    · exact .inl (ltB_iff.mpr (.inl x))
    · rcases Nat.lt_or_ge i j with y | y
      · exact .inr (ltB_iff.mpr (.inr ⟨x.symm, y⟩))
      · exact .inl (ltB_iff.mpr (.inr ⟨x, by exact om316 h y⟩))
    · exact .inr (ltB_iff.mpr (.inl x))
theorem ord_unique {r : Nat → Nat} {n : Nat} {p : Array Nat} (hp : IsP n p) (hs : Srt (ltB r) p n) : p.toList = ord r n := by
  have hperm : p.toList.Perm (ord r n) := ((Array.perm_iff_toList_perm.mp hp).trans (by simp)).trans (ord_perm r n).symm
  refine List.Perm.eq_of_pairwise (le := fun i j => ltB r i j = true) (fun a b _ _ h1 h2 => ?_) ?_ (ord_sorted r n) hperm
  · exact (omA3 (ltB_iff.mp h1) (ltB_iff.mp h2)).elim
  · rw [List.pairwise_iff_getElem]
    intro i j hi hj hij
    have hsz : p.size = n := hp.size
    have := hs i j hij (by simpa [hsz] using hj)
    simp only [Array.length_toList] at hi hj
    rw [Array.getElem_toList, Array.getElem_toList]
    have e : ∀ k (h : k < p.size), p.getD k 0 = p[k] := fun k h => by rw [Array.getD_eq_getD_getElem?, Array.getElem?_eq_getElem h]; rfl
    rwa [e i hi, e j hj] at this
end Mine
end
section
open PySem PySem.W PyProof.Rows PySem.Builtin.Str
namespace Mine
section
variable {W : Wd} {ad : Str → Addr} {fd : Str → FuncData}
theorem sIf {c : Fx} {ρ : Rho} {test : Expr} {body orelse : List Stmt} {pos : Pos} {Qn : Rho → Prop} {Qr : V → Rho → Prop} (ρ1 : Rho) (h : ET W c ρ test fun b => if b then EXS W c ρ body (Sub ρ1) Qr else EXS W c ρ orelse (Sub ρ1) Qr)
    (hn : ∀ r, Sub ρ1 r → Qn r) : EX W c ρ (.If test body orelse pos) Qn Qr := EX.mono (EX_If h) hn fun _ _ x => x
theorem int_shift2 {n i : Nat} (h : i < 3) {Q : V → Prop} {c : Fx} {ρ : Rho} {e1 : Expr} {p1 p2 p3 : Pos} (F : FOk k c) (hp : EV W c ρ e1 fun v => v = .int (n : Int)) (hi : ρ.lookup ("i" : Str) = some (.val (.int (i : Int)))) (hq : Q (.int (valAt n i : Int))) :
    EV W c ρ (.BinOp (.BinOp e1 .RShift (.BinOp (.Constant (.int 2) 0 q1) .Mult (.Name "i" q2) p3) p1) .BitAnd (.Constant (.int 3) 0 q3) p2) Q := by
  refine EV_BinOp (EV_BinOp (hp.mono fun v hv => ?_))
  subst hv
  refine EV_BinOp (EV_int (EV_Name F.toFK hi (OV_mul_int (imul_small (by decide) (by exact om98 h)) ?_)))
  have e2 : (2 : Int) * (i : Int) = ((2 * i : Nat) : Int) := by exact om173
  rw [e2]
  refine OV_shr_int (Int.natCast_nonneg _) ?_
  rw [Int.toNat_natCast, shr_nat]
  refine EV_int (OV_and_int ?_)
  rw [show (3 : Int) = ((3 : Nat) : Int) from rfl, band_nat]
  exact hq
theorem int_and1 (v : Nat) : Builtin.bitAnd (v : Int) 1 = ((v &&& 1 : Nat) : Int) := band_nat v 1
theorem veq_ints {l m : List Nat} : veq (.list (l.map fun (x : Nat) => V.int (x : Int))) (.list (m.map fun (x : Nat) => V.int (x : Int))) = decide (l = m) := by
  by_cases h : l = m
  · subst h; rw [veq_true rfl, decide_eq_true rfl]
  · rw [decide_eq_false h]
    refine veq_false fun e => h ?_
    injection e with e
    have inj : ∀ {l m : List Nat}, (l.map fun (x : Nat) => V.int (x : Int)) = (m.map fun (x : Nat) => V.int (x : Int)) → l = m := by
      intro l
      induction l with
      | nil => intro m e; cases m with
        | nil => rfl
        | cons y r => cases e
      | cons x l ih => intro m e; cases m with
        | nil => cases e
        | cons y r =>
          simp only [List.map_cons, List.cons.injEq, V.int.injEq] at e
          rw [ih e.2]; have := e.1; congr 1; exact om489 e
    exact inj e
theorem ones_eq (n : Nat) : (List.replicate n [V.int 1]).flatten = (List.replicate n 1).map fun (x : Nat) => V.int (x : Int) := by
  induction n with
  | zero => rfl
  | succ n ih => simp [List.replicate_succ, ih]
theorem in_turns (t : Nat) : (([3, 4, 6, 7].map fun (x : Nat) => V.int (x : Int)).any fun y => veq y (.int (t : Int))) = [3, 4, 6, 7].contains t := by
  have e : ∀ a : Nat, veq (.int (a : Int)) (.int (t : Int)) = (a == t) := fun a => by
    by_cases h : a = t
    · subst h; rw [veq_true rfl]; simp
    · rw [veq_false (by intro z; injection z with z; exact om221 z h)]; simp [h]
  simp only [List.map_cons, List.map_nil, List.any_cons, List.any_nil, e, List.contains_cons, List.contains_nil]
  have s : ∀ a : Nat, (a == t) = (t == a) := fun a => by rw [Bool.eq_iff_iff, beq_iff_eq, beq_iff_eq]; exact eq_comm
  rw [s 3, s 4, s 6, s 7]
theorem EV_strPart {c : Fx} {ρ : Rho} {k : Nat} {x : Str} {p p1 pos : Pos} {v : V} {Q : V → Prop} (F : FOk k c) (hs : Glo W "str" (.type "str")) (hk : c.env.kindOf "str" = some .globalImplicit) (hx : ρ.lookup x = some (.val v)) (hv : PartOk v) (hq : Q (.str (strOf v)))
    (hd : (x == ("__debug__" : Str)) = false) (hc : (x == ("__classdict__" : Str)) = false) :
    EV W c ρ (.Call (.Name "str" p) [.Name x p1] [] pos) Q := by
  refine @EV_Call W _ _ k _ _ _ _ _ _ _ _ F hs hk (.inr (.inr ⟨_, rfl⟩)) ?_ (by kernel_rfl) (by rfl) (by rfl) (by rfl) (by intro e r h; cases h; rfl)
  refine EVL_cons (EV_Name F.toFK hx (EVL_nil (EVK_nil ⟨rfl, ?_⟩)) hd hc) rfl
  rcases hv with ⟨i, rfl, h0, h1⟩ | ⟨s, rfl, h⟩
  · exact CV_str_int (log2_small (by exact om28 h0 h1)) hq
  · exact CV_str_str hq
end
end Mine
end
section
open PySem PySem.W PyProof.Rows PySem.Builtin.Str
namespace Mine
section
variable {W : Wd} {ad : Str → Addr} {fd : Str → FuncData}
theorem toldC_len {d : Nat} {l : Let4} (h1 : l.2.1.length ≤ 100) (h2 : l.2.2.2.length ≤ 100) : (toldC d l).length ≤ 200 := by
  show (glued "" _).length ≤ 200
  rw [size_glued]
  have hz : ((("" : Str)).length) = 0 := rfl
  rw [hz, Nat.mul_zero, Nat.add_zero]
  have : ∀ s ∈ [l.2.1, l.2.2.2].take d, s.length ≤ 100 := fun s hs => by
    have := List.mem_of_mem_take hs
    simp only [List.mem_cons, List.not_mem_nil, or_false] at this
    rcases this with rfl | rfl <;> assumption
  have e := join2_len "" this
  have : ([l.2.1, l.2.2.2].take d).length ≤ 2 := by rw [List.length_take]; exact Nat.min_le_right _ _
  exact Nat.le_trans e (Nat.mul_le_mul_left _ this)
theorem toldTo_short {places depths} (h : PlOk places depths) (p : Nat) : ∀ n, n ≤ 3 → ∀ s ∈ toldTo places depths p n, s.length ≤ 200
  | 0, _, s, hs => by simp [toldTo] at hs
  | n + 1, hn, s, hs => by
    rw [toldTo_succ] at hs
    rcases List.mem_append.mp hs with hs | hs
    · exact toldTo_short h p n (by exact om64 hn) s hs
    · obtain ⟨l, _, hl, hm, _⟩ := h.letAt_mem p (i := n) (by exact om63 hn)
      have q := hl.short _ hm
      rw [List.mem_singleton.mp hs]
      exact toldC_len q.1 q.2
theorem toldTo_len (places : List (List Let4)) (depths : List Nat) (p n : Nat) : (toldTo places depths p n).length = n := by unfold toldTo; rw [List.length_map, List.length_range]
theorem cutTold_len {depths : List Nat} {turn : Nat} {l : List Str} (h : l.length = 3) : (cutTold depths turn l).length ≤ 3 := by
  unfold cutTold; split
  · rw [List.length_take]; exact om202
  · exact om116 h
theorem cutTold_mem {depths : List Nat} {turn : Nat} {l : List Str} {s : Str} (h : s ∈ cutTold depths turn l) : s ∈ l := by
  unfold cutTold at h; split at h
  · exact List.mem_of_mem_take h
  · exact h
theorem vslice_le {α : Type} (xs : List α) : (vslice xs (some 1) none (some 2)).length ≤ xs.length + 1 := by
  unfold vslice
  refine Nat.le_trans (List.length_filterMap_le _ _) ?_
  refine Nat.le_trans (sliceRange_len_le _ _ _ (by simp [sliceBounds])) ?_
  simp only [sliceBounds]
  split <;> first | exact om213 | exact om42
theorem lastTold_ok {places depths} (h : PlOk places depths) (turn p : Nat) : (lastTold places depths turn p).length ≤ 13 ∧ ∀ s ∈ lastTold places depths turn p, s.length ≤ 200 := by
  unfold lastTold
  split
  · refine ⟨?_, fun s hs => ?_⟩
    · rw [List.length_map]
      exact omA6 (vslice_le (keyTo places depths p 3)) (keyTo_len places depths p 3)
    · obtain ⟨v, hv, rfl⟩ := List.mem_map.mp hs
      have := (h.part p 3 (by exact om4) v (mem_vslice hv)).len
      exact om133 this
  · refine ⟨?_, fun s hs => toldTo_short h p 3 (by exact om4) s (cutTold_mem hs)⟩
    have := cutTold_len (turn := turn) (depths := depths) (toldTo_len places depths p 3)
    exact om149 this
theorem dv_list_of {n : Nat} {xs : List V} (h : ∀ x ∈ xs, dv n x = true) : dv (n + 1) (.list xs) = true := by rw [dv, List.all_eq_true]; exact h
theorem dv_bits (depths : List Nat) (p m : Nat) : ∀ n, ∀ x ∈ bitsTo depths p n, dv m x = true
  | 0, x, hx => by simp [bitsTo] at hx
  | n + 1, x, hx => by
    rw [bitsTo_succ] at hx
    rcases List.mem_append.mp hx with hx | hx
    · exact dv_bits depths p m n x hx
    · have := List.mem_of_mem_take hx
      simp only [List.mem_cons, List.not_mem_nil, or_false] at this
      rcases this with rfl | rfl <;> cases m <;> rfl
theorem dv_item {places depths} (h : PlOk places depths) (turn p n : Nat) : dv (n + 2) (itemV places depths turn p) = true := by
  refine dv_list_of fun x hx => ?_
  simp only [List.mem_cons, List.not_mem_nil, or_false] at hx
  rcases hx with rfl | rfl | rfl | rfl
  · exact dv_list_of fun v hv => (h.part p 3 (by exact om4) v hv).dv n
  · refine dv_list_of fun v hv => ?_
    obtain ⟨y, _, rfl⟩ := List.mem_map.mp hv
    cases n <;> rfl
  · rfl
  · rfl
theorem dv_due {places depths} (h : PlOk places depths) (turn p n : Nat) : dv (n + 3) (dueV places depths turn p) = true := by
  refine dv_list_of fun x hx => ?_
  simp only [List.mem_cons, List.not_mem_nil, or_false] at hx
  rcases hx with rfl | rfl | rfl
  · exact dv_list_of fun v hv => dv_bits depths p _ 3 v hv
  · rfl
  · exact dv_item h turn p n
theorem ltV_due {places depths} (h : PlOk places depths) (t u : Nat) (f : Nat → Nat) : LtV (dueV places depths t (f t)) (dueV places depths u (f u)) (ltB (fun t => rkOf depths (f t)) t u) := by
  have pc := Pc_bits3 h (f t) (f u)
  unfold dueV
  by_cases e : rkOf depths (f t) = rkOf depths (f u)
  · rw [pc.eq e]
    by_cases e2 : t = u
    · subst e2
      exact LtV_cast (LtV_refl _) (by unfold ltB; exact (decide_eq_false (by exact om350)).symm)
    · refine LtV_cast (.eq _ _ _ _ (.ne _ _ _ _ _ (fun z => ?_) (.int _ _))) ?_
      · injection z with z; exact om222 z e2
      · unfold ltB; rw [decide_eq_decide]; dsimp only; exact om465 e
  · obtain ⟨h1, h2⟩ := pc.ne e
    refine LtV_cast (.ne _ _ _ _ _ (fun z => h1 (by injection z)) h2) ?_
    unfold ltB; rw [decide_eq_decide]; dsimp only; exact om466 e
theorem fn_due (P : PwOk W ad fd) {k : Nat} {points : List Nat} {places : List (List Let4)} {depths : List Nat} (hpo : points.length = 8) (hok : PlOk places depths) :
    FN W (k + 1) (.ref (ad "_law_due")) [natV points, placesV places, natV depths] [] (fun v => v = .list ((ord (fun t => rkOf depths (points.getD t 0)) 8).map fun t => itemV places depths t (points.getD t 0))) := by
  refine FN_go (ρ₀ := [("points", natV points), ("places", placesV places), ("depths", natV depths)]) ["points", "places", "depths"] P.f_due.2 P.lim (fun G vals kvals r r' => ?_) (fun L cd A h₀ G F => ?_)
  · cases r with | cons r1 r => cases r with | cons r2 r => cases r with | cons r3 r => cases r; cases r'; exact ⟨_, P.b_due _ _ _, rfl, .cons r1 (.cons r2 (.cons r3 .nil))⟩
  · refine EXS_cons ?_
    refine @sOwn W _ _ k _ _ _ _ _ _ F (EVF_List (EVL_nil ⟨by decide, ?_⟩)) (.inl (by kernel_rfl)) (by rfl) (by kernel_rfl)
    refine EXS_cons ?_
    refine @sFor W _ _ k _ _ _ _ _ _ F ?_ (by intro _; rfl)
    refine @EVI_range W _ _ k _ _ _ _ _ F P.range_ (by kernel_rfl) (EV_int ⟨8, rfl, by rw [sizeLine_eq]; decide, ?_⟩) (by kernel_rfl) (by rfl)
    refine ⟨fun i => [("due", .own ((List.range i).map fun t => dueV places depths t (points.getD t 0))), ("points", .val (natV points)), ("places", .val (placesV places)), ("depths", .val (natV depths))], .put (by rfl) (.put (by rfl) (.put (by rfl) (.put (by rfl) (.nil _)))), ?_, ?_⟩
    · intro t x hx
      obtain ⟨ht, rfl⟩ := range_get hx
      generalize hp : points.getD t 0 = p
      have hpt : (points.map fun (x : Nat) => V.int (x : Int))[t]? = some (.int (p : Int)) := by rw [← hp]; exact getmap (fun (x : Nat) => V.int (x : Int)) 0 (by rw [hpo]; exact ht)
      refine ASG_Name F (.inl (by kernel_rfl)) ?_
      refine EXS_cons ?_
      refine @EX_Assign3 W _ _ k _ _ _ _ _ _ _ _ _ _ _ _ _ _ _ _ F (.inl (by kernel_rfl)) (.inl (by kernel_rfl)) (.inl (by kernel_rfl)) (by decide) (by decide) (by decide) (fun n => rfl) ?_ (by kernel_rfl) (by kernel_rfl)
      refine EXS_cons ?_
      refine @sFor W _ _ k _ _ _ _ _ _ F ?_ (by intro _; rfl)
      refine @EVI_range W _ _ k _ _ _ _ _ F P.range_ (by kernel_rfl) (EV_int ⟨3, rfl, by rw [sizeLine_eq]; decide, ?_⟩) (by kernel_rfl) (by rfl)
      refine ⟨fun i => [("bits", .own (bitsTo depths p i)), ("key", .own (keyTo places depths p i)), ("told", .own ((toldTo places depths p i).map .str)), ("turn", .val (.int (t : Int))), ("due", .own ((List.range t).map fun t => dueV places depths t (points.getD t 0))), ("points", .val (natV points)), ("places", .val (placesV places)), ("depths", .val (natV depths))],
        .put (by rfl) (.put (by rfl) (.put (by rfl) (.put (by rfl) (.put (by rfl) (.put (by rfl) (.put (by rfl) (.put (by rfl) (.nil _)))))))), ?_, ?_⟩
      · intro i x hx
        obtain ⟨hi, rfl⟩ := range_get hx
        obtain ⟨l, hl, hlo, hm, hg⟩ := hok.letAt_mem p hi
        have hsh := hlo.short _ hm
        have hnm := hlo.num _ hm
        have hv4 := valAt_lt p i
        have hd3 := hok.d i
        have hdg : (depths.map fun (x : Nat) => V.int (x : Int))[i]? = some (.int (depths.getD i 0 : Nat)) := getmap (fun (x : Nat) => V.int (x : Int)) 0 (by rw [hok.dl]; exact hi)
        refine ASG_Name F (.inl (by kernel_rfl)) ?_
        refine EXS_cons ?_
        refine @sEx W _ _ _ _ _ _ _ _ F.toFK ?_ (.inl (by kernel_rfl)) (by kernel_rfl)
        refine int_shift2 hi F (EV_Item (EVP_of (EV_Name F.toFK (by rfl) ⟨_, rfl, EV_Name F.toFK (by rfl) ⟨(t : Int), rfl, by exact om183, by exact om110 ht, _, hpt, rfl⟩⟩))) (by rfl) ?_
        refine EXS_cons ?_
        refine @EX_AssignTuple W _ _ k _ _ _ _ _ _ _ F ?_ (by kernel_rfl) (by kernel_rfl)
        refine EV_Item (EVP_of (EV_Item (EVP_of (EV_Name F.toFK (by rfl) ⟨_, rfl, EV_Name F.toFK (by rfl) ⟨(i : Int), rfl, by exact om183, by exact om96 hi, .list (l.map letV), by rw [Int.toNat_natCast, List.getElem?_map, hl]; rfl, ?_⟩⟩))))
        refine ⟨_, rfl, EV_Name F.toFK (by rfl) ⟨(valAt p i : Int), rfl, by exact om183, by exact om101 hv4, _, hg, ?_⟩⟩
        refine @ASG_Tuple W _ _ k _ _ _ _ _ F rfl (ASG_Name F (.inl (by kernel_rfl)) (ASG_Name F (.inl (by kernel_rfl)) (ASG_Name F (.inl (by kernel_rfl)) (ASG_Name F (.inl (by kernel_rfl)) ?_)))) (by rfl) (by rfl)
        generalize hlt : letAt places p i = lt at hm hg hsh hnm
        refine EXS_cons ?_
        refine @EX_extend_list W _ _ k _ _ _ _ _ _ _ _ _ F (by rfl) ?_ (by rfl) (by rfl) (by rfl) (by rfl) (by kernel_rfl) (by kernel_rfl) (by rfl)
        refine EV.of_fresh (EVF_Slice (EVP_of (EV.of_fresh (EVF_List ?_))) (fun _ _ => ⟨_, rfl⟩))
        refine EVL_cons (EV_BinOp (EV_Name F.toFK (by rfl) (EV_int (OV_shr_int (by decide) (EVL_cons (EV_BinOp (EV_Name F.toFK (by rfl) (EV_int (OV_and_int (EVL_nil ⟨by show 2 ≤ _; rw [sizeLine_eq]; decide, ?_⟩))))))))))
        refine ⟨_, rfl, EV_Item (EVP_of (EV_Name F.toFK (by rfl) ⟨_, rfl, EV_Name F.toFK (by rfl) ⟨(i : Int), rfl, by exact om183, by exact om96 hi, _, hdg, ?_⟩⟩))⟩
        have hsl : vslice [V.int ((valAt p i : Int).fdiv (2 ^ (1 : Int).toNat)), V.int (Builtin.bitAnd (valAt p i : Int) 1)] none (some ((depths.getD i 0 : Nat) : Int)) none = bitsC (depths.getD i 0) (valAt p i) := by
          rw [vslice_upto, int_and1, show (1 : Int).toNat = 1 from rfl, shr_nat]; rfl
        refine ⟨_, rfl, by decide, by show 2 ≤ _; rw [sizeLine_eq]; decide, _, rfl, ?_, ?_⟩
        · rw [hsl]
          have e1 := bitsTo_len depths p i
          have e2 : (bitsC (depths.getD i 0) (valAt p i)).length ≤ 2 := by unfold bitsC; rw [List.length_take]; exact Nat.min_le_right _ _
          rw [sizeLine_eq]; exact om412 e2 e1 hi
        rw [hsl, ← bitsTo_succ]
        refine EXS_cons ?_
        refine @EX_extend_list W _ _ k _ _ _ _ _ _ _ _ _ F (by rfl) ?_ (by rfl) (by rfl) (by rfl) (by rfl) (by kernel_rfl) (by kernel_rfl) (by rfl)
        refine EV.of_fresh (EVF_Slice (EVP_of (EV.of_fresh (EVF_List ?_))) (fun _ _ => ⟨_, rfl⟩))
        refine EVL_cons (EV_int (EVL_cons (EV_Name F.toFK (by rfl) (EVL_cons (EV_Name F.toFK (by rfl) (EVL_cons (EV_Name F.toFK (by rfl) (EVL_nil ⟨by show 4 ≤ _; rw [sizeLine_eq]; decide, ?_⟩))))))))
        refine ⟨_, rfl, EV_BinOp (EV_int (EV_Item (EVP_of (EV_Name F.toFK (by rfl) ⟨_, rfl, EV_Name F.toFK (by rfl) ⟨(i : Int), rfl, by exact om183, by exact om96 hi, _, hdg, OV_mul_int (imul_small (by decide) (by exact om98 hd3)) ?_⟩⟩))))⟩
        have hsl2 : vslice [V.int 100, V.int lt.1, V.int lt.2.2.1, V.str lt.2.2.2] none (some (2 * ((depths.getD i 0 : Nat) : Int))) none = keyC (depths.getD i 0) lt := by
          rw [show (2 : Int) * ((depths.getD i 0 : Nat) : Int) = ((2 * depths.getD i 0 : Nat) : Int) by exact om173, vslice_upto]; rfl
        refine ⟨_, rfl, by decide, by show 4 ≤ _; rw [sizeLine_eq]; decide, _, rfl, ?_, ?_⟩
        · rw [hsl2]
          have e1 := keyTo_len places depths p i
          have e2 : (keyC (depths.getD i 0) lt).length ≤ 4 := by unfold keyC; rw [List.length_take]; exact Nat.min_le_right _ _
          rw [sizeLine_eq]; exact om413 e2 e1 hi
        rw [hsl2]
        refine EXS_cons ?_
        refine @EX_append W _ _ k _ _ _ _ _ _ _ _ _ F (by rfl) ?_ ?_ (by rfl) (by rfl) (by rfl) (by rfl) (by rfl) (by kernel_rfl) (by kernel_rfl) (by rfl)
        · rw [List.length_map, toldTo_len, sizeLine_eq]; exact om100 hi
        refine @EV_Meth W _ _ _ _ _ _ _ _ _ _ PySem.F.plainAttrs_str PySem.F.slot_str_join PySem.F.type_str_join ?_ (by rfl) (by rfl) (by rfl) (by rfl) (by intro e r h; cases h; rfl)
        refine EV_str ⟨TyOk_str _, EVL_cons ?_ (by rfl)⟩
        refine EV.of_fresh (EVF_Slice (EVP_of (EV.of_fresh (EVF_List ?_))) (fun _ _ => ⟨_, rfl⟩))
        refine EVL_cons (EV_Name F.toFK (by rfl) (EVL_cons (EV_Name F.toFK (by rfl) (EVL_nil ⟨by show 2 ≤ _; rw [sizeLine_eq]; decide, ?_⟩))))
        refine ⟨_, rfl, EV_Item (EVP_of (EV_Name F.toFK (by rfl) ⟨_, rfl, EV_Name F.toFK (by rfl) ⟨(i : Int), rfl, by exact om183, by exact om96 hi, _, hdg, ?_⟩⟩))⟩
        refine ⟨_, rfl, by decide, by show 2 ≤ _; rw [sizeLine_eq]; decide, EVL_nil ?_⟩
        have hsl3 : vslice [V.str lt.2.1, V.str lt.2.2.2] none (some ((depths.getD i 0 : Nat) : Int)) none = ([lt.2.1, lt.2.2.2].take (depths.getD i 0)).map V.str := by
          rw [vslice_upto, List.map_take]; rfl
        rw [hsl3]
        refine OV_join ?_ ?_
        · have hz : ((("" : Str)).length) = 0 := rfl
          rw [hz, Nat.mul_zero, Nat.add_zero]
          have : ∀ s ∈ [lt.2.1, lt.2.2.2].take (depths.getD i 0), s.length ≤ 100 := fun s hs => by
            have := List.mem_of_mem_take hs
            simp only [List.mem_cons, List.not_mem_nil, or_false] at this
            rcases this with rfl | rfl
            · exact hsh.1
            · exact hsh.2
          have e := join2_len "" this
          have : ([lt.2.1, lt.2.2.2].take (depths.getD i 0)).length ≤ 2 := by rw [List.length_take]; exact Nat.min_le_right _ _
          exact omA5 e (Nat.mul_le_mul_left _ this)
        refine EXS_nil (.put (by rfl) (.put ?_ (.put ?_ (.put (by rfl) (.put (by rfl) (.put (by rfl) (.put (by rfl) (.put (by rfl) (.nil _)))))))))
        · show some _ = some _
          rw [keyTo_succ, hlt]
        · show some _ = some _
          rw [toldTo_succ, hlt, List.map_append]; rfl
      · intro ρ' hρ
        refine EXS_sub hρ ?_
        rw [List.length_map, List.length_range]
        dsimp only
        refine EXS_freeze (x := "bits") (by rfl) (by rfl) (EXS_freeze (x := "key") (by rfl) (by rfl) (EXS_freeze (x := "told") (by rfl) (by rfl) ?_))
        refine EXS_cons ?_
        refine sIf [("told", .val (strsV (cutTold depths t (toldTo places depths p 3)))), ("bits", .val (.list (bitsTo depths p 3))), ("key", .val (.list (keyTo places depths p 3))), ("turn", .val (.int (t : Int))), ("due", .own ((List.range t).map fun t => dueV places depths t (points.getD t 0))), ("points", .val (natV points)), ("places", .val (placesV places)), ("depths", .val (natV depths))] ?_ (fun ρ1 h1 => EXS_sub h1 ?_)
        · refine ET_And (ET_Compare (by rfl) (EV_BinOp (EV_Name F.toFK (by rfl) (EV_int (OV_mod_int (by decide) (EV_int (OV_eq_int (TV_bool ?_))))))))
          rw [show (t : Int).fmod 4 = ((t % 4 : Nat) : Int) from fmod_nat t 4]
          cases h4 : ((((t % 4 : Nat) : Int) == 1)) with
          | false =>
            simp only [Bool.false_eq_true, if_false]
            have h4' : t % 4 ≠ 1 := fun q => by rw [q] at h4; cases h4
            refine EXS_nil (.put ?_ (.put (by rfl) (.put (by rfl) (.put (by rfl) (.put (by rfl) (.put (by rfl) (.put (by rfl) (.put (by rfl) (.nil _)))))))))
            show some _ = some _
            unfold cutTold
            rw [if_neg (fun q => h4' q.1)]
          | true =>
            simp only [if_true]
            have h4' : t % 4 = 1 := by have := beq_iff_eq.mp h4; exact om45 this
            refine ET_Compare (by rfl) (EV_Item (EVP_of (EV_Name F.toFK (by rfl) ⟨_, rfl, EV_int ⟨2, rfl, by decide, by decide, .int (depths.getD 2 0 : Nat), getmap (fun (x : Nat) => V.int (x : Int)) 0 (by rw [hok.dl]; decide), EV_int (OV_eq_int (TV_bool ?_))⟩⟩)))
            cases h0 : ((((depths.getD 2 0 : Nat) : Int) == 0)) with
            | false =>
              simp only [Bool.false_eq_true, if_false]
              have h0' : depths.getD 2 0 ≠ 0 := fun q => by rw [q] at h0; cases h0
              refine EXS_nil (.put ?_ (.put (by rfl) (.put (by rfl) (.put (by rfl) (.put (by rfl) (.put (by rfl) (.put (by rfl) (.put (by rfl) (.nil _)))))))))
              show some _ = some _
              unfold cutTold
              rw [if_neg (fun q => h0' q.2)]
            | true =>
              simp only [if_true]
              have h0' : depths.getD 2 0 = 0 := by have := beq_iff_eq.mp h0; exact om51 this
              refine EXS_cons ?_
              refine @sEx W _ _ _ _ _ _ _ _ F.toFK ?_ (.inl (by kernel_rfl)) (by kernel_rfl)
              refine EV.of_fresh (EVF_Slice (EVP_of (EV_Name F.toFK (by rfl) ⟨_, rfl, EV_int ⟨2, rfl, by decide, by rw [List.length_map, toldTo_len, sizeLine_eq]; decide, ?_⟩⟩)) (fun _ _ => ⟨_, rfl⟩))
              refine EXS_nil (.put ?_ (.put (by rfl) (.put (by rfl) (.put (by rfl) (.put (by rfl) (.put (by rfl) (.put (by rfl) (.put (by rfl) (.nil _)))))))))
              show some _ = some _
              unfold cutTold
              rw [if_pos ⟨h4', h0'⟩, show (2 : Int) = ((2 : Nat) : Int) from rfl, vslice_upto, ← List.map_take]
        · generalize hT : cutTold depths t (toldTo places depths p 3) = T
          have hTl : T.length ≤ 3 := by rw [← hT]; exact cutTold_len (toldTo_len places depths p 3)
          refine EXS_cons ?_
          refine sIf [("told", .val (strsV (lastTold places depths t p))), ("bits", .val (.list (bitsTo depths p 3))), ("key", .val (.list (keyTo places depths p 3))), ("turn", .val (.int (t : Int))), ("due", .own ((List.range t).map fun t => dueV places depths t (points.getD t 0))), ("points", .val (natV points)), ("places", .val (placesV places)), ("depths", .val (natV depths))] ?_ (fun ρ2 h2 => EXS_sub h2 ?_)
          · have stay : numQ depths t T.length = false → EXS W (fx "_law_due" (scopeOf 21) L (ad "_law_due") cd A h₀ G (fun _ => False) []) [("told", .val (strsV T)), ("bits", .val (.list (bitsTo depths p 3))), ("key", .val (.list (keyTo places depths p 3))), ("turn", .val (.int (t : Int))), ("due", .own ((List.range t).map fun t => dueV places depths t (points.getD t 0))), ("points", .val (natV points)), ("places", .val (placesV places)), ("depths", .val (natV depths))] [] (Sub [("told", .val (strsV (lastTold places depths t p))), ("bits", .val (.list (bitsTo depths p 3))), ("key", .val (.list (keyTo places depths p 3))), ("turn", .val (.int (t : Int))), ("due", .own ((List.range t).map fun t => dueV places depths t (points.getD t 0))), ("points", .val (natV points)), ("places", .val (placesV places)), ("depths", .val (natV depths))]) (fun v r => v = .list ((ord (fun t => rkOf depths (points.getD t 0)) 8).map fun t => itemV places depths t (points.getD t 0))) := fun hq => by
              refine EXS_nil (.put ?_ (.put (by rfl) (.put (by rfl) (.put (by rfl) (.put (by rfl) (.put (by rfl) (.put (by rfl) (.put (by rfl) (.nil _)))))))))
              show some _ = some _
              unfold lastTold
              rw [hT, hq, if_neg (by decide)]
            refine ET_And (ET_Compare (by rfl) (EV.of_fresh (EVF_Slice (EVP_of (EV_Name F.toFK (by rfl) ⟨_, rfl, ?_⟩)) (fun _ _ => ⟨_, rfl⟩))))
            refine @EV_len W _ _ k _ _ _ _ _ F P.len_ (by kernel_rfl) (EVP_of (EV_Name F.toFK (by rfl) ⟨T.map .str, rfl, by rw [List.length_map, sizeLine_eq]; exact om150 hTl, ?_⟩)) (by kernel_rfl) (by rfl)
            rw [List.length_map]
            refine ⟨_, rfl, by decide, by rw [List.length_map, hok.dl, sizeLine_eq]; decide, ?_⟩
            rw [vslice_upto]
            refine EV.of_fresh (EVF_MulList (EVP_of (EV.of_fresh (EVF_List (EVL_cons (EV_int (EVL_nil ⟨by show 1 ≤ _; rw [sizeLine_eq]; decide, ?_⟩)))))))
            refine ⟨_, rfl, @EV_len W _ _ k _ _ _ _ _ F P.len_ (by kernel_rfl) (EVP_of (EV_Name F.toFK (by rfl) ⟨T.map .str, rfl, by rw [List.length_map, sizeLine_eq]; exact om150 hTl, ?_⟩)) (by kernel_rfl) (by rfl)⟩
            rw [List.length_map]
            refine ⟨T.length, rfl, by exact om146 hTl, by show 1 * T.length ≤ _; exact om145 hTl, by simp, ?_⟩
            rw [← List.map_take, ones_eq]
            refine OV_eq_list F (by rw [dv, List.all_eq_true]; intro v hv; obtain ⟨y, _, rfl⟩ := List.mem_map.mp hv; rfl) (by rw [dv, List.all_eq_true]; intro v hv; obtain ⟨y, _, rfl⟩ := List.mem_map.mp hv; rfl) (TV_bool ?_)
            rw [veq_ints]
            cases hd1 : decide (List.take T.length depths = List.replicate T.length 1) with
            | false =>
              simp only [Bool.false_eq_true, if_false]
              exact stay (by unfold numQ; rw [hd1]; rfl)
            | true =>
              simp only [if_true]
              refine ET_Compare (by rfl) (EV_Name F.toFK (by rfl) ((EV_lit (n := 50)).1 (v := .list ([3, 4, 6, 7].map fun (x : Nat) => V.int (x : Int))) (by kernel_rfl) ?_))
              refine OV_notIn_list F (by rfl) (by intro y hy; obtain ⟨z, _, rfl⟩ := List.mem_map.mp hy; rfl) (TV_bool ?_)
              rw [in_turns]
              cases hd2 : [3, 4, 6, 7].contains t with
              | true =>
                simp only [Bool.not_true, Bool.false_eq_true, if_false]
                exact stay (by unfold numQ; rw [hd1, hd2]; rfl)
              | false =>
                simp only [Bool.not_false, if_true]
                have hq : numQ depths t T.length = true := by unfold numQ; rw [hd1, hd2]; rfl
                refine EXS_cons ?_
                refine @cAssign W _ _ k True _ _ _ _ _ _ _ _ _ _ _ _ [] F (freesOk_fx (by kernel_rfl)) (by kernel_rfl) (.nil _) (by kernel_rfl) (by kernel_rfl) (by intro _; rfl) ?_
                refine EVI_of F (EV.of_fresh (EVF_Slice (EVP_of (EV_Name F.toFK (by rfl) ⟨_, rfl, EV_int ⟨1, rfl, EV_int ⟨2, rfl, by decide, ?_, ?_⟩⟩⟩)) (fun _ _ => ⟨_, rfl⟩)))
                · have := keyTo_len places depths p 3
                  rw [sizeLine_eq]; exact om125 this
                refine ⟨_, rfl, ?_⟩
                refine cMap (((vslice (keyTo places depths p 3) (some 1) none (some 2)).map strOf).map .str) (by rw [List.length_map, List.length_map]) ?_ (fun j v w C h₀' G₀' hv hw F' => ?_) ?_
                · rw [sizeLine_eq]; exact omA9 (vslice_le (keyTo places depths p 3)) (keyTo_len places depths p 3)
                · obtain ⟨u, hu, rfl, _, _⟩ := map_get hw
                  obtain ⟨v', hv', rfl, _, _⟩ := map_get hu
                  rw [hv] at hv'; cases hv'
                  have hpart := hok.part p 3 (by exact om4) v (mem_vslice (List.mem_of_getElem? hv))
                  exact EV_strPart F' P.str_ (by kernel_rfl) (by rfl) hpart rfl (by kernel_rfl) (by kernel_rfl)
                · refine EXS_nil (.put ?_ (.put (by rfl) (.put (by rfl) (.put (by rfl) (.put (by rfl) (.put (by rfl) (.put (by rfl) (.put (by rfl) (.nil _)))))))))
                  show some _ = some _
                  unfold lastTold
                  rw [hT, hq, if_pos rfl]
          · refine EXS_cons ?_
            obtain ⟨hL1, hL2⟩ := lastTold_ok hok t p
            refine @EX_append W _ _ k _ _ _ _ _ _ _ _ _ F (by rfl) ?_ ?_ (by rfl) (by rfl) (by rfl) (by rfl) (by rfl) (by kernel_rfl) (by kernel_rfl) (by rfl)
            · rw [List.length_map, List.length_range, sizeLine_eq]; exact om113 ht
            refine EV.of_fresh (EVF_List (EVL_cons (EV_Name F.toFK (by rfl) (EVL_cons (EV_UnaryOp (EV_Name F.toFK (by rfl) (OV_neg_int ?_)))))))
            refine EVL_cons (EV.of_fresh (EVF_List (EVL_cons (EV_Name F.toFK (by rfl) ?_))))
            refine EVL_cons (EV.of_fresh (@cList W _ _ k True _ _ _ _ _ _ _ _ [] F (freesOk_fx (by kernel_rfl)) (by kernel_rfl) (.nil _) ?_ (by intro _; rfl))) (by rfl)
            refine EVI_of F (EV_Name F.toFK (by rfl) ⟨_, rfl, ?_⟩)
            refine cMap ((keyTo places depths p 3).map fun v => .str (strOf v)) (by rw [List.length_map]) ?_ (fun j v w C h₀' G₀' hv hw F' => ?_) ?_
            · have := keyTo_len places depths p 3
              rw [sizeLine_eq]; exact om125 this
            · obtain ⟨v', hv', rfl, _, _⟩ := map_get hw
              rw [hv] at hv'; cases hv'
              have hpart := hok.part p 3 (by exact om4) v (List.mem_of_getElem? hv)
              exact EV_strPart F' P.str_ (by kernel_rfl) (by rfl) hpart rfl (by kernel_rfl) (by kernel_rfl)
            refine EVL_cons (@EV_Meth W _ _ _ _ _ _ _ _ _ _ PySem.F.plainAttrs_str PySem.F.slot_str_join PySem.F.type_str_join ?_ (by rfl) (by rfl) (by rfl) (by rfl) (by intro e r h; cases h; rfl)) (by rfl)
            refine EV_str ⟨TyOk_str _, EVL_cons (EV_Name F.toFK (by rfl) (EVL_nil ?_))⟩
            refine OV_join ?_ ?_
            · have e := join2_len "." hL2
              have : 200 * (lastTold places depths t p).length ≤ 200 * 13 := Nat.mul_le_mul_left _ hL1
              have hz : ((("." : Str)).length) = 1 := rfl
              rw [hz]; exact om289 e hL1
            refine EVL_cons (EV_Name F.toFK (by rfl) (EVL_nil ⟨by show 4 ≤ _; rw [sizeLine_eq]; decide, EVL_nil ⟨by show 3 ≤ _; rw [sizeLine_eq]; decide, ?_⟩⟩))
            refine EXS_nil (.put ?_ (.put (by rfl) (.put (by rfl) (.put (by rfl) (.nil _)))))
            show some _ = some _
            rw [List.range_succ, List.map_append]
            simp only [List.map_cons, List.map_nil, hp]
            rfl
    · intro ρ' hρ
      refine EXS_sub hρ ?_
      rw [List.length_map, List.length_range]
      refine EXS_cons ?_
      refine EX_Return (EV.of_fresh (@cList W _ _ k True _ _ _ _ _ _ _ _ [] F (freesOk_fx (by kernel_rfl)) (by kernel_rfl) (.nil _) ?_ (by intro _; rfl)))
      refine EVI_of F (EV.of_fresh (@EVF_sorted W _ _ k _ _ _ _ _ F P.sorted_ (by kernel_rfl) ?_ (by kernel_rfl) (by rfl)))
      refine EVP_own F (xs := (List.range 8).map fun t => dueV places depths t (points.getD t 0)) (by rfl) ?_
      have hlen : ((List.range 8).map fun t => dueV places depths t (points.getD t 0)).length = 8 := by rw [List.length_map, List.length_range]
      have hget : ∀ i, i < 8 → ((List.range 8).map fun t => dueV places depths t (points.getD t 0)).getD i .none = dueV places depths i (points.getD i 0) := fun i hi => by
        rw [List.getD_eq_getElem?_getD, List.getElem?_map, List.getElem?_range hi]; rfl
      refine ⟨by rw [hlen]; decide, by rw [hlen]; decide, fun x hx => ?_, ltB (fun t => rkOf depths (points.getD t 0)), ltOk_ltB _ _, fun i j hi hj => ?_, fun q hq hs => ?_⟩
      · obtain ⟨t, _, rfl⟩ := List.mem_map.mp hx
        exact ⟨dv_due hok t _ 57, _, rfl⟩
      · rw [hlen] at hi hj
        rw [hget i hi, hget j hj]
        exact ltV_due hok i j fun t => points.getD t 0
      · rw [hlen] at hq hs
        have hmap : (q.toList.map fun i => ((List.range 8).map fun t => dueV places depths t (points.getD t 0)).getD i .none) = (ord (fun t => rkOf depths (points.getD t 0)) 8).map fun t => dueV places depths t (points.getD t 0) := by
          rw [ord_unique hq hs]
          exact List.map_congr_left fun i hi => hget i (ord_mem hi)
        rw [hmap]
        refine ⟨_, rfl, ?_⟩
        refine cMap ((ord (fun t => rkOf depths (points.getD t 0)) 8).map fun t => itemV places depths t (points.getD t 0)) (by rw [List.length_map, List.length_map]) (by rw [List.length_map, ord_len, sizeLine_eq]; decide) (fun j v w C h₀' G₀' hv hw F' => ?_) rfl
        obtain ⟨t, ht, rfl, _, _⟩ := map_get hv
        obtain ⟨t', ht', rfl, _, _⟩ := map_get hw
        rw [ht] at ht'; cases ht'
        exact EV_Item (EVP_of (EV_Name F'.toFK (by rfl) ⟨_, rfl, EV_int ⟨2, rfl, by decide, by decide, _, rfl, rfl⟩⟩))
end
end Mine
end
section
open PySem PySem.W PyProof.Rows PySem.Builtin.Str
namespace Mine
noncomputable def stageList : List (Str × Int) := [("dev", 10), ("alpha", 20), ("a", 20), ("beta", 30), ("b", 30), ("c", 40), ("RC", 50), ("rc", 50), ("pl", 200), ("p", 200)]
noncomputable def stageOf (x : Str) : Int := (stageList.lookup x).getD 0
noncomputable def StagesAt (W : Wd) (a : Addr) : Prop := (a == sysModules) = false ∧ ∃ f : Str → Option Value, W.H0.MapOf (strKind W.prog W.w) a f ∧ ∀ x, match stageList.lookup x with | some n => ∃ t, f x = some (.int n t) | none => f x = none
structure PwK (W : Wd) (ad : Str → Addr) (fd : Str → FuncData) : Prop extends PwOk W ad fd where
  stages : ∃ a, Glo W "_ver_stages" (.ref a) ∧ StagesAt W a
section
variable {W : Wd} {c : Fx} {ρ : Rho} {k : Nat}
theorem TyOk_stages {a : Addr} (h : StagesAt W a) : TyOk W "dict" (.glob (.ref a)) := fun G s val r hb => by
  obtain ⟨_, f, ⟨o, es, ep, ho, he, _⟩, _⟩ := h
  cases r
  exact ⟨⟨o, hb _ _ ho, he.1⟩, fun b e => by injection e with e; subst e; exact ⟨_, hb _ _ ho, he.2.1⟩⟩
theorem OV_stage {a : Addr} {x : Str} {Q : V → Prop} (hst : StagesAt W a) (h : Q (.int (stageOf x))) : OV W c ρ [.glob (.ref a), .str x, .int 0] (fun l => call (.builtin "dict.get") l) Q := fun g s vals Qc E S r hq => by
  obtain ⟨hds, f, ⟨o, es, ep, ho, he⟩, hf⟩ := hst
  have hm : s.heap.MapOf (strKind W.prog W.w) a f := ⟨o, es, ep, S.base _ _ ho, he⟩
  cases r with | cons r1 r => cases r with | cons r2 r => cases r with | cons r3 r =>
    cases r; cases r1; cases r2; cases r3
    rename_i t u
    refine call_meetsIn PySem.F.slot_dict_get hm.typeIs PySem.F.entry_dict_get (PySem.F.args_dict_get_3 _ _ _) (meets_dict_get_default (strKind W.prog W.w) a (k := x) (by show Value.isStrOf x (.str x t) = true; simp [Value.isStrOf]) hds (.int 0 u)) ⟨f, hm, ?_⟩
    have hfx := hf x
    unfold stageOf at h
    cases hl : stageList.lookup x with
    | some n =>
      rw [hl] at hfx h
      obtain ⟨t', e⟩ := hfx
      rw [e]
      exact hq (.int n) _ g.G _ h (.refl _) (S.tok _) (.int _ _)
    | none =>
      rw [hl] at hfx h
      rw [hfx]
      exact hq (.int 0) _ g.G _ h (.refl _) (S.tok _) (.int _ _)
theorem TV_str {x : Str} {Q : Bool → Prop} (hs : x.length < 2 ^ 62) (h : Q (!(x == ""))) : TV W c ρ (.str x) Q := fun g s val Qc E S r hq => by
  cases r
  refine PySem.P.truthy_str (by exact om83 hs) ?_
  have e : ((x.length : Int) != 0) = !(x == "") := by
    cases q : x == "" with
    | true => rw [beq_iff_eq.mp q]; rfl
    | false =>
      have : x.length ≠ 0 := fun z => by
        have : x = "" := by
          cases x with | mk c =>
          have : c = #[] := Array.eq_empty_of_size_eq_zero z
          rw [this]; rfl
        rw [this] at q; simp at q
      simp only [Bool.not_false, bne_iff_ne]; exact om121 this
  rw [e]
  exact hq _ _ h (S.tok _)
theorem KFN_go {a : Addr} {fd : FuncData} {name : Str} {i : Nat} {args : List V} {kw : List (Str × V)} {ρ₀ : List (Str × V)} {Q : V → Prop} (ns : List Str) (X : FnAt W a fd name (scopeOf i) (bodyOf i)) (hlim : W.H0.NoLimit)
    (hb : ∀ G vals kvals, Reps G vals args → Reps G kvals (kw.map (·.2)) → ∃ bv, Binds W fd ⟨vals, (kw.map (·.1)).zip kvals⟩ bv ∧ bv.map (·.1) = ns ∧ Reps G (bv.map (·.2)) (ρ₀.map (·.2)))
    (h : ∀ L cd A h₀ G, FOk k (fx name (scopeOf i) L a cd A h₀ G (fun _ => False) []) → KEXS W (fx name (scopeOf i) L a cd A h₀ G (fun _ => False) []) (ρ₀.map fun p => (p.1, .val p.2)) (bodyOf i) (fun _ => Q .none) fun v _ => Q v)
    (hns : ρ₀.map (·.1) = ns := by rfl) (hnd : nodupB ns = true := by kernel_rfl) (hkind : kindsOk (scopeOf i) ns = true := by kernel_rfl)
    (hco : (scopeOf i).isCoroutine = false := by rfl) (hgen : (scopeOf i).isGenerator = false := by rfl) (hk : (scopeOf i).kind = .function := by rfl) :
    KFN W (k + 1) (.ref a) args kw Q := by
  subst hns
  exact KFN_intro X hlim hb (nodup_of hnd) (kinds_of hkind) h hco hgen hk
theorem KFNm_go {a : Addr} {fd : FuncData} {name : Str} {i : Nat} {xs : List V} {args : List V} {kw : List (Str × V)} {ρ₀ : List (Str × V)} {Q : V → List V → Prop} (x0 : Str) (ns : List Str) (X : FnAt W a fd name (scopeOf i) (bodyOf i)) (hlim : W.H0.NoLimit)
    (hb : ∀ G l vals kvals, Reps G vals args → Reps G kvals (kw.map (·.2)) → ∃ bv, Binds W fd ⟨.ref l :: vals, (kw.map (·.1)).zip kvals⟩ ((x0, .ref l) :: bv) ∧ bv.map (·.1) = ns ∧ Reps G (bv.map (·.2)) (ρ₀.map (·.2)))
    (h : ∀ L cd A h₀ G ex l, FOk k (fx name (scopeOf i) L a cd A h₀ G ex [(x0, l)]) → KEXS W (fx name (scopeOf i) L a cd A h₀ G ex [(x0, l)]) ((x0, .own xs) :: ρ₀.map fun p => (p.1, .val p.2)) (bodyOf i) (fun ρ => ∃ ys, ρ.lookup x0 = some (.own ys) ∧ Q .none ys) fun v ρ => ∃ ys, ρ.lookup x0 = some (.own ys) ∧ Q v ys)
    (hns : ρ₀.map (·.1) = ns := by rfl) (hnd : nodupB (x0 :: ns) = true := by kernel_rfl) (hkind : kindsOk (scopeOf i) (x0 :: ns) = true := by kernel_rfl)
    (hco : (scopeOf i).isCoroutine = false := by rfl) (hgen : (scopeOf i).isGenerator = false := by rfl) (hk : (scopeOf i).kind = .function := by rfl) :
    KFNm W (k + 1) (.ref a) xs args kw Q := by
  subst hns
  exact KFNm_intro X hlim hb (nodup_of hnd) (kinds_of hkind) h hco hgen hk
theorem KFN.mono {f : Value} {args : List V} {kw : List (Str × V)} {Q Q' : V → Prop} (h : KFN W k f args kw Q) (hq : ∀ v, Q v → Q' v) : KFN W k f args kw Q' := fun A G s vals kvals Qc E a b c d e => h A G s vals kvals Qc E a b c d fun v val G' s' q => e v val G' s' (hq v q)
theorem KFNm.mono {f : Value} {xs args : List V} {kw : List (Str × V)} {Q Q' : V → List V → Prop} (h : KFNm W k f xs args kw Q) (hq : ∀ v ys, Q v ys → Q' v ys) : KFNm W k f xs args kw Q' := fun A G s a vs n vals kvals Qc E h1 h2 h3 h4 h5 h6 h7 h8 h9 =>
  h A G s a vs n vals kvals Qc E h1 h2 h3 h4 h5 h6 h7 h8 fun v ys val G' s' vs' n' q => h9 v ys val G' s' vs' n' (hq v ys q)
theorem KEX.mono {st} {Qn Qn' : Rho → Prop} {Qr Qr' : V → Rho → Prop} (h : KEX W c ρ st Qn Qr) (k : ∀ r, Qn r → Qn' r) (k' : ∀ v r, Qr v r → Qr' v r) : KEX W c ρ st Qn' Qr' := fun g s Qc E S hn hr =>
  h g s Qc E S (fun ρ' g' s' q => hn ρ' g' s' (k _ q)) fun v val ρ' g' s' q => hr v val ρ' g' s' (k' _ _ q)
theorem ksTry {body : List Stmt} {x : Str} {np hpos pos : Pos} {b₀ : Stmt} {suite : List Stmt} {Qn : Rho → Prop} {Qr : V → Rho → Prop} (ρ1 : Rho) (F : FK c) (hown : c.own = true) (hve : Glo W x (.type "ValueError")) (hk : c.env.kindOf x = some .globalImplicit)
    (h : KE W c ρ body (Sub ρ1) fun ρ' => ∀ e, FK (markFx c e) → EXS W (markFx c e) ρ' (b₀ :: suite) (Sub ρ1) Qr) (hn : ∀ r, Sub ρ1 r → Qn r) (hd : (x == ("__debug__" : Str)) = false) :
    KEX W c ρ (.Try body [.ExceptHandler (some (.Name x np)) none (b₀ :: suite) hpos] [] [] pos) Qn Qr := KEX.mono (KEX_Try F hown hve hk h hd) hn fun _ _ x => x
theorem ksFor {target iter : Expr} {body : List Stmt} {pos : Pos} {Qn : Rho → Prop} {Qr : V → Rho → Prop} (F : FOk k c)
    (h : EVI W c ρ True iter fun xs => ∃ conc : Nat → Rho, Sub (conc 0) ρ ∧ (∀ i x, xs[i]? = some x → ASG W c (conc i) target x fun ρ'' => KEXS W c ρ'' body (Sub (conc (i + 1))) Qr) ∧ ∀ ρ', Sub (conc xs.length) ρ' → Qn ρ')
    (hs : ∀ x, foldedSetIterable iter c.env x = pure x) : KEX W c ρ (.For target iter body [] pos) Qn Qr := by
  refine KEX_For F (fun g s Qc E S hq => h g s Qc E S fun xs I dep G' s' P St q => hq xs I dep G' s' P St ?_) hs
  obtain ⟨conc, h0, h1, h2⟩ := q
  exact ⟨fun i ρ' => Sub (conc i) ρ', h0, fun i x ρ' hx hj => ASG_sub hj (h1 i x hx), h2⟩
theorem kEx {x : Str} {px pos : Pos} {e : Expr} {Qn : Rho → Prop} {Qr : V → Rho → Prop} (F : FK c) (h : KEV W c ρ e fun v => Qn ((x, .val v) :: ρ)) (hk : Storable c x)
    (hs : swapsWith e (some (.Name x px)) pos.line c.env = pure false) : KEX W c ρ (.Assign [.Name x px] e pos) Qn Qr := KEX_Assign F hk h hs
theorem kReturn {e pos Qn Qr} (h : KEV W c ρ e fun v => Qr v ρ) : KEX W c ρ (.Return (some e) pos) Qn Qr := KEX_Return h fun _ _ _ => wpK_Return
end
end Mine
end
section
open PySem PySem.W PyProof.Rows PySem.Builtin.Str
namespace Mine
noncomputable def normSs (parts : List Str) : List Str := match parts.mapM PySem.intText? with | some ns => ns.map itext | none => parts
noncomputable def normOf (parts : List Str) : Str := Txt.join "." ((normSs parts).take 3)
structure PartsOk (parts : List Str) : Prop where
  n : parts.length ≤ 10
  each : ∀ x ∈ parts, IntOk x ∧ x.length ≤ 1000
  nums : ∀ ns, parts.mapM PySem.intText? = some ns → ∀ n ∈ ns, (itext n).length ≤ 1000
theorem normSs_short {parts : List Str} (h : PartsOk parts) : ∀ s ∈ normSs parts, s.length ≤ 1000 := fun s hs => by
  unfold normSs at hs
  cases e : parts.mapM PySem.intText? with
  | some ns =>
    rw [e] at hs
    obtain ⟨n, hn, rfl⟩ := List.mem_map.mp hs
    exact h.nums ns e n hn
  | none => rw [e] at hs; exact (h.each s hs).2
theorem mapM_some_len {α β : Type} (f : α → Option β) : ∀ {l : List α} {r : List β}, l.mapM f = some r → r.length = l.length
  | [], r, h => by cases h; rfl
  | x :: l, r, h => by
    rw [List.mapM_cons] at h
    cases h1 : f x with
    | none => rw [h1] at h; cases h
    | some y =>
      rw [h1] at h
      cases h2 : l.mapM f with
      | none => rw [h2] at h; cases h
      | some ys =>
        rw [h2] at h
        cases h
        rw [List.length_cons, List.length_cons, mapM_some_len f h2]
theorem normSs_len {parts : List Str} (h : PartsOk parts) : (normSs parts).length ≤ 10 := by
  unfold normSs
  cases e : parts.mapM PySem.intText? with
  | some ns => show (ns.map itext).length ≤ 10; rw [List.length_map, mapM_some_len _ e]; exact h.n
  | none => exact h.n
section
variable {W : Wd} {ad : Str → Addr} {fd : Str → FuncData}
theorem body_norm (P : PwK W ad fd) {k : Nat} {L a : Addr} {cd : Value} {A : Around} {h₀ G : GM} {ex : Addr → Prop} {v b : Str} {parts : List Str}
    (F : FOk k (fx "_norm_version" (scopeOf 5) L a cd A h₀ G ex [])) (hv : v.length ≤ 100000) (hb : b.length ≤ 100000) (hp : parts = Txt.split v "." ++ (if b == "" then [] else [b])) (hok : PartsOk parts) :
    KEXS W (fx "_norm_version" (scopeOf 5) L a cd A h₀ G ex []) [("version", .val (.str v)), ("build", .val (.str b))] (bodyOf 5) (fun ρ => False) (fun val _ => val = .str (normOf parts)) := by
  refine KEXS_consA ?_
  refine @sOwn W _ _ k _ _ _ _ _ _ F ?_ (.inl (by kernel_rfl)) (by rfl) (by kernel_rfl)
  refine @EVF_Meth W _ _ _ _ _ _ _ _ _ _ PySem.F.plainAttrs_str PySem.F.slot_str_split PySem.F.type_str_split ?_ (by rfl) (by rfl) (by rfl) (by rfl) (by intro e r h; cases h; rfl)
  refine EV_Name F.toFK (by rfl) ⟨TyOk_str _, EVL_cons (EV_str (EVL_nil (OVF_split (by rfl) (by rw [sizeLine_eq]; exact om136 hv) ?_)))⟩
  refine KEXS_consA ?_
  have hsl : (Txt.split v ".").length ≤ 10 := by
    have := hok.n
    rw [hp, List.length_append] at this; exact om233 this
  refine sIf [("l", .own (parts.map .str)), ("version", .val (.str v)), ("build", .val (.str b))] ?_ (fun ρ1 h1 => KEXS_sub h1 ?_)
  · refine ET_value (fun _ => rfl) (EV_Name F.toFK (by rfl) (TV_str (by exact om137 hb) ?_))
    cases hbe : b == "" with
    | true =>
      simp only [Bool.not_true, Bool.false_eq_true, if_false]
      refine EXS_nil (.put ?_ (.put (by rfl) (.put (by rfl) (.nil _))))
      rw [hbe] at hp
      simp only [if_true, List.append_nil] at hp
      rw [hp]; rfl
    | false =>
      simp only [Bool.not_false, if_true]
      refine EXS_cons ?_
      refine @EX_append W _ _ k _ _ _ _ _ _ _ _ _ F (by rfl) ?_ ?_ (by rfl) (by rfl) (by rfl) (by rfl) (by rfl) (by kernel_rfl) (by kernel_rfl) (by rfl)
      · rw [List.length_map, sizeLine_eq]; exact om130 hsl
      refine EV_Name F.toFK (by rfl) (EXS_nil (.put ?_ (.put (by rfl) (.put (by rfl) (.nil _)))))
      rw [hbe] at hp
      simp only [Bool.false_eq_true, if_false] at hp
      show some _ = some _
      rw [hp, List.map_append]; rfl
  · refine KEXS_freeze (x := "l") (by rfl) (by rfl) ?_
    refine KEXS_cons ?_
    refine ksTry [("strings", .val (strsV (normSs parts)))] F.toFK rfl P.verr_ (by kernel_rfl) ?_ (fun ρ2 h2 => KEXS_sub h2 ?_) (by kernel_rfl)
    · refine KE_Assign F.toFK (.inl (by kernel_rfl)) ?_ (by kernel_rfl)
      refine @KEVE_listmap W _ _ k _ _ _ _ _ _ _ _ _ _ parts _ _ F (by rfl) P.list_ P.map_ P.str_ P.int_ (by kernel_rfl) (by kernel_rfl) (by kernel_rfl) (by kernel_rfl) (fun x hx => (hok.each x hx).1) (by have := hok.n; rw [sizeLine_eq]; exact om130 this) ?_ (by kernel_rfl) (by kernel_rfl)
      cases hm : parts.mapM PySem.intText? with
      | some ns =>
        refine EXS_nil (.put ?_ (.nil _))
        show some _ = some _
        unfold normSs
        rw [hm, strsV, List.map_map]; rfl
      | none =>
        refine fun e F' => ?_
        refine EXS_cons ?_
        refine @sEx W _ _ _ _ _ _ _ _ F' (EV_Name F' (by rfl) ?_) (.inl (by kernel_rfl)) (by kernel_rfl)
        refine EXS_nil (.put ?_ (.nil _))
        show some _ = some _
        unfold normSs
        rw [hm]
    · have hss := normSs_short hok
      have hsn := normSs_len hok
      refine KEXS_of ?_
      refine EXS_cons ?_
      refine @sEx W _ _ _ _ _ _ _ _ F.toFK ?_ (.inl (by kernel_rfl)) (by kernel_rfl)
      refine @EV_Meth W _ _ _ _ _ _ _ _ _ _ PySem.F.plainAttrs_str PySem.F.slot_str_join PySem.F.type_str_join ?_ (by rfl) (by rfl) (by rfl) (by rfl) (by intro e r h; cases h; rfl)
      refine EV_str ⟨TyOk_str _, EVL_cons ?_ (by rfl)⟩
      refine EV.of_fresh (EVF_Slice (EVP_of (EV_Name F.toFK (by rfl) ⟨_, rfl, EV_int ⟨3, rfl, by decide, by rw [List.length_map, sizeLine_eq]; exact om130 hsn, EVL_nil ?_⟩⟩)) (fun _ _ => ⟨_, rfl⟩))
      rw [show (3 : Int) = ((3 : Nat) : Int) from rfl, vslice_upto, ← List.map_take]
      refine OV_join ?_ ?_
      · have e := join2_len "." (l := (normSs parts).take 3) (m := 1000) fun s hs => hss s (List.mem_of_mem_take hs)
        have : ((normSs parts).take 3).length ≤ 3 := by rw [List.length_take]; exact Nat.min_le_left _ _
        have hz : ((("." : Str)).length) = 1 := rfl
        rw [hz]; exact om287 e this
      · exact EXS_cons (EX_Return (EV_Name F.toFK (by rfl) rfl))
theorem fn_norm2 (P : PwK W ad fd) {k : Nat} {v b : Str} {parts : List Str} (hv : v.length ≤ 100000) (hb : b.length ≤ 100000) (hp : parts = Txt.split v "." ++ (if b == "" then [] else [b])) (hok : PartsOk parts) :
    KFN W (k + 1) (.ref (ad "_norm_version")) [.str v, .str b] [] (fun val => val = .str (normOf parts)) := by
  refine KFN_go (ρ₀ := [("version", .str v), ("build", .str b)]) ["version", "build"] P.f_norm.2 P.lim (fun G vals kvals r r' => ?_) (fun L cd A h₀ G F => ?_)
  · obtain ⟨v, w, rfl, r1, r2⟩ := r.two
    cases r'
    exact ⟨_, P.b_norm2 v w, rfl, .cons r1 (.cons r2 .nil)⟩
  · exact fun g s Qc E S hn hr => body_norm P F hv hb hp hok g s Qc E S (fun _ _ _ q => q.elim) hr
theorem fn_norm1 (P : PwK W ad fd) {k : Nat} {v : Str} (hv : v.length ≤ 100000) (hok : PartsOk (Txt.split v ".")) :
    KFN W (k + 1) (.ref (ad "_norm_version")) [.str v] [] (fun val => val = .str (normOf (Txt.split v "."))) := by
  refine KFN_go (ρ₀ := [("version", .str v), ("build", .str "")]) ["version", "build"] P.f_norm.2 P.lim (fun G vals kvals r r' => ?_) (fun L cd A h₀ G F => ?_)
  · obtain ⟨v, rfl, r1⟩ := r.one
    cases r'
    obtain ⟨t, ht⟩ := P.b_norm1 v
    exact ⟨_, ht, rfl, .cons r1 (.cons (.str _ _) .nil)⟩
  · exact fun g s Qc E S hn hr => body_norm P F hv (by decide) (by simp) hok g s Qc E S (fun _ _ _ q => q.elim) hr
end
end Mine
end
section
open PySem PySem.W PyProof.Rows PySem.Builtin.Str
namespace Mine
noncomputable def seps : Str := "._+-"
noncomputable def inSeps (s : Str) : Bool := !(occurrences seps s 0 seps.length 1).isEmpty
noncomputable def part2 (s : Str) : V × V := match PySem.intText? s with | some n => (.int 100, .int n) | none => (.int (stageOf s), .str s)
noncomputable def partOf (s : Str) : List V := if inSeps s then [] else [(part2 s).1, (part2 s).2]
noncomputable def compOf (pieces : List Str) : List V := pieces.flatMap partOf
noncomputable def piecesOf (v : Str) : List Str := pcs v.cps (2 * v.length + 3) 0
theorem compOf_len : ∀ l : List Str, (compOf l).length ≤ 2 * l.length
  | [] => Nat.le_refl _
  | s :: r => by
    have := compOf_len r
    have h : (partOf s).length ≤ 2 := by unfold partOf; split <;> simp
    unfold compOf at this ⊢
    rw [List.flatMap_cons, List.length_append, List.length_cons]; exact om401 h this
theorem piecesOf_len (v : Str) : (piecesOf v).length ≤ 4 * v.length + 7 := by
  have := pcs_len v.cps (2 * v.length + 3) 0
  unfold piecesOf; exact om283 this
section
variable {W : Wd} {ad : Str → Addr} {fd : Str → FuncData}
theorem fn_comp (P : PwK W ad fd) {k : Nat} {v : Str} (hv : v.length ≤ 100000) (hok : ∀ s ∈ piecesOf v, inSeps s = false → IntOk s) :
    KFN W (k + 1) (.ref (ad "_comparable_version")) [.str v] [] (fun val => val = .list (compOf (piecesOf v))) := by
  refine KFN_go (ρ₀ := [("version", .str v)]) ["version"] P.f_comp.2 P.lim (fun G vals kvals r r' => ?_) (fun L cd A h₀ G F => ?_)
  · obtain ⟨v, rfl, r1⟩ := r.one
    cases r'
    exact ⟨_, P.b_comp v, rfl, .cons r1 .nil⟩
  · obtain ⟨arx, hrx1, hrx2⟩ := P.rx
    obtain ⟨ast, hst1, hst2⟩ := P.stages
    refine KEXS_consA ?_
    refine @sEx W _ _ _ _ _ _ _ _ F.toFK (EV_Glo F.toFK hrx1 (by kernel_rfl) (fun G => .glob _) ?_ (by kernel_rfl)) (.inl (by kernel_rfl)) (by kernel_rfl)
    refine KEXS_consA ?_
    refine @sOwn W _ _ k _ _ _ _ _ _ F (EVF_List (EVL_nil ⟨by decide, ?_⟩)) (.inl (by kernel_rfl)) (by rfl) (by kernel_rfl)
    refine KEXS_cons ?_
    refine @ksFor W _ _ k _ _ _ _ _ _ F ?_ (by intro _; rfl)
    refine EVI_of F (EV.of_fresh (@EVF_Meth W _ _ _ _ _ _ _ _ _ _ plainAttrs_rx slot_rx_split type_rx_split ?_ (by rfl) (by rfl) (by rfl) (by rfl) (by intro e r h; cases h; rfl)))
    refine EV_Name F.toFK (by rfl) ⟨TyOk_rx hrx2, EVL_cons (EV_Name F.toFK (by rfl) (EVL_nil (OVF_rxsplit hrx2 (by exact om138 hv) ?_)))⟩
    refine ⟨(piecesOf v).map .str, rfl, ?_⟩
    refine ⟨fun i => [("result", .own (compOf ((piecesOf v).take i)))], .put (by rfl) (.nil _), ?_, ?_⟩
    · intro i x hx
      obtain ⟨s, hs, rfl, htake, hi⟩ := map_get hx
      have hmem : s ∈ piecesOf v := List.mem_of_getElem? hs
      refine ASG_Name F (.inl (by kernel_rfl)) ?_
      refine KEXS_cons ?_
      refine KEX_If (ET_Compare (by rfl) (EV_Name F.toFK (by rfl) (EV_str (OV_notIn_str (TV_bool ?_)))))
      have hstep : compOf ((piecesOf v).take (i + 1)) = compOf ((piecesOf v).take i) ++ partOf s := by
        unfold compOf; rw [htake, List.flatMap_append]; simp
      show if (!inSeps s) = true then _ else _
      cases hin : inSeps s with
      | true =>
        simp only [Bool.not_true, Bool.false_eq_true, if_false]
        refine KEXS_nil (KEXS_nil (.put ?_ (.nil _)))
        show some _ = some _
        rw [hstep]; unfold partOf; rw [hin]; simp
      | false =>
        simp only [Bool.not_false, if_true]
        have hio := hok s hmem hin
        refine KEXS_cons ?_
        refine ksTry [("t", .val (part2 s).1), ("v", .val (part2 s).2), ("result", .own (compOf ((piecesOf v).take i)))] F.toFK rfl P.verr_ (by kernel_rfl) ?_ (fun ρ2 h2 => KEXS_sub h2 ?_) (by kernel_rfl)
        · refine KE_Assign F.toFK (.inl (by kernel_rfl)) ?_ (by kernel_rfl)
          refine @KEVE_Call W _ _ _ _ _ _ _ _ _ _ _ F.toFK P.int_ (by kernel_rfl) (.inr (.inr ⟨_, rfl⟩)) ?_ (by kernel_rfl) (by rfl) (by rfl) (by rfl) (by intro e r h; cases h; rfl)
          refine EVL_cons (EV_Name F.toFK (by rfl) (EVL_cons (EV_int (EVL_nil (EVK_nil ⟨rfl, KCV_int2 F hio.len hio.seen hio.repr ?_⟩)))))
          cases hm : PySem.intText? s with
          | some n =>
            refine EXS_cons ?_
            refine @sEx W _ _ _ _ _ _ _ _ F.toFK (EV_int ?_) (.inl (by kernel_rfl)) (by kernel_rfl)
            refine EXS_nil (.put ?_ (.put ?_ (.put (by rfl) (.nil _))))
            · show some _ = some _; unfold part2; rw [hm]
            · show some _ = some _; unfold part2; rw [hm]
          | none =>
            refine fun e F' => ?_
            refine EXS_cons ?_
            refine @sEx W _ _ _ _ _ _ _ _ F' ?_ (.inl (by kernel_rfl)) (by kernel_rfl)
            refine @EV_Meth W _ _ _ _ _ _ _ _ _ _ PySem.F.plainAttrs_dict PySem.F.slot_dict_get PySem.F.type_dict_get ?_ (by rfl) (by rfl) (by rfl) (by rfl) (by intro e r h; cases h; rfl)
            refine EV_Glo F' hst1 (by kernel_rfl) (fun G => .glob _) ⟨TyOk_stages hst2, ?_⟩ (by kernel_rfl)
            refine EVL_cons (EV_Name F' (by rfl) (EVL_cons (EV_int (EVL_nil (OV_stage hst2 ?_)))))
            refine EXS_nil (.put ?_ (.put ?_ (.put (by rfl) (.nil _))))
            · show some _ = some _; unfold part2; rw [hm]
            · show some _ = some _; unfold part2; rw [hm]
        · refine KEXS_consA ?_
          refine @EX_extend_tup W _ _ k _ _ _ _ _ _ _ _ _ _ _ F (by rfl) ?_ (by rfl) (by rfl) (by rfl) (by rfl) (by kernel_rfl) (by kernel_rfl)
          refine EVL_cons (EV_Name F.toFK (by rfl) (EVL_cons (EV_Name F.toFK (by rfl) (EVL_nil ⟨by show 2 ≤ _; rw [sizeLine_eq]; decide, ?_, ?_⟩))))
          · have e1 := compOf_len ((piecesOf v).take i)
            have e2 := piecesOf_len v
            rw [List.length_take] at e1
            show _ + 2 ≤ _
            rw [sizeLine_eq]; exact om460 hv e2 e1
          · refine KEXS_nil (KEXS_nil (.put ?_ (.nil _)))
            show some _ = some _
            rw [hstep]; unfold partOf; rw [hin]; simp
    · intro ρ' hρ
      refine KEXS_sub hρ ?_
      dsimp only
      rw [List.length_map, List.take_of_length_le (l := piecesOf v) (Nat.le_refl _)]
      refine KEXS_freeze (x := "result") (by rfl) (by rfl) ?_
      exact KEXS_of (EXS_cons (EX_Return (EV_Name F.toFK (by rfl) rfl)))
end
end Mine
end
section
open PySem PySem.W PyProof.Rows PySem.Builtin.Str
namespace Mine
noncomputable def NoDot (s : Str) : Prop := 46 ∉ s.cps.toList
theorem cut_inj {c : Nat} : ∀ {x y r r' : List Nat}, c ∉ x → c ∉ y → x ++ c :: r = y ++ c :: r' → x = y ∧ r = r'
  | [], [], r, r', _, _, h => ⟨rfl, by simpa using h⟩
  | [], b :: y, r, r', _, hy, h => by
    simp only [List.nil_append, List.cons_append, List.cons.injEq] at h
    exact absurd (by rw [h.1]; exact List.mem_cons_self) hy
  | a :: x, [], r, r', hx, _, h => by
    simp only [List.nil_append, List.cons_append, List.cons.injEq] at h
    exact absurd (by rw [← h.1]; exact List.mem_cons_self) hx
  | a :: x, b :: y, r, r', hx, hy, h => by
    simp only [List.cons_append, List.cons.injEq] at h
    obtain ⟨h1, h2⟩ := cut_inj (fun z => hx (List.mem_cons_of_mem _ z)) (fun z => hy (List.mem_cons_of_mem _ z)) h.2
    exact ⟨by rw [h.1, h1], h2⟩
theorem str_list {x y : Str} (h : x.cps.toList = y.cps.toList) : x = y := by
  cases x; cases y; simp only [Str.mk.injEq]; exact Array.toList_inj.mp h
theorem app_list (x y : Str) : (x ++ y).cps.toList = x.cps.toList ++ y.cps.toList := Array.toList_append
theorem join_inj : ∀ {l m : List Str}, l ≠ [] → m ≠ [] → (∀ s ∈ l, NoDot s) → (∀ s ∈ m, NoDot s) → Str.join "." l = Str.join "." m → l = m
  | [], _, h, _, _, _, _ => absurd rfl h
  | _, [], _, h, _, _, _ => absurd rfl h
  | [x], [y], _, _, _, _, h => by have : x = y := h; rw [this]
  | [x], y :: z :: m, _, _, hl, hm, h => by
    have h : x = y ++ "." ++ Str.join "." (z :: m) := h
    refine absurd ?_ (hl x List.mem_cons_self)
    rw [h, app_list, app_list]; exact List.mem_append.mpr (.inl (List.mem_append.mpr (.inr (show 46 ∈ [46] from List.mem_cons_self))))
  | x :: z :: l, [y], _, _, hl, hm, h => by
    have h : x ++ "." ++ Str.join "." (z :: l) = y := h
    refine absurd ?_ (hm y List.mem_cons_self)
    rw [← h, app_list, app_list]; exact List.mem_append.mpr (.inl (List.mem_append.mpr (.inr (show 46 ∈ [46] from List.mem_cons_self))))
  | x :: z :: l, y :: u :: m, _, _, hl, hm, h => by
    have h : x ++ "." ++ Str.join "." (z :: l) = y ++ "." ++ Str.join "." (u :: m) := h
    have h := congrArg (fun s : Str => s.cps.toList) h
    simp only [app_list] at h
    have e : ("." : Str).cps.toList = [46] := rfl
    rw [e, List.append_assoc, List.append_assoc, List.singleton_append, List.singleton_append] at h
    obtain ⟨h1, h2⟩ := cut_inj (hl x List.mem_cons_self) (hm y List.mem_cons_self) h
    have := join_inj (l := z :: l) (m := u :: m) (by simp) (by simp) (fun s hs => hl s (List.mem_cons_of_mem _ hs)) (fun s hs => hm s (List.mem_cons_of_mem _ hs)) (str_list h2)
    rw [str_list h1, this]
theorem split_ne (x y : Str) : Txt.split x y ≠ [] := by
  unfold Txt.split
  split
  · simp
  · split
    · simp
    · rw [StrLaws.partsBetween_eq]
      obtain ⟨p, r, e⟩ := StrLaws.partsFrom_ne x y.length 0 (occurrences x y 0 x.length (x.length + 1))
      rw [e]; simp
theorem split_join {l : List Str} (hn : l ≠ []) (hl : ∀ s ∈ l, NoDot s) : Txt.split (Txt.join "." l) "." = l := by
  refine join_inj (split_ne _ _) hn (fun s hs => ?_) hl ?_
  · exact StrLaws.split_free (Txt.join "." l) 46 s hs
  · rw [StrLaws.join_split]; exact StrLaws.glued_eq_join _ _
noncomputable def moreOf (turn : Nat) : Str := (["0", "2", "b4", "6rc"] : List Str).getD (turn / 2) ""
noncomputable def partsN (fields : List Str) (turn : Nat) : List Str :=
  if turn % 4 = 0 then fields ++ [moreOf turn] else
  if turn = 5 ∧ fields.getD 2 "" = "" then fields.take 2 else
  if turn % 4 = 1 then fields.take 2 ++ (if fields.getD 2 "" == "" then [] else [fields.getD 2 ""]) else
  if turn % 4 = 2 then fields ++ [moreOf turn] else
  [fields.getD 0 "", Txt.join "." (fields.drop 1)]
theorem more_get {t : Nat} (h : t / 2 < 4) : ((["0", "2", "b4", "6rc"] : List Str).map V.str)[t / 2]? = some (.str (moreOf t)) := by
  have := getmap (l := (["0", "2", "b4", "6rc"] : List Str)) V.str "" h
  unfold moreOf; exact this
structure FieldsOk (fields : List Str) : Prop where
  n : fields.length = 3
  each : ∀ s ∈ fields, s.length ≤ 1000 ∧ NoDot s
theorem moreOf_ok : ∀ t, t < 8 → (moreOf t).length ≤ 10 ∧ NoDot (moreOf t) ∧ (moreOf t == "") = false := by
  have : ∀ t, t < 8 → (moreOf t).length ≤ 10 ∧ ¬ (46 ∈ (moreOf t).cps.toList) ∧ (moreOf t == "") = false := by decide
  exact this
theorem join_len {l : List Str} {m n : Nat} (h : ∀ s ∈ l, s.length ≤ m) (hn : l.length ≤ n) : (Txt.join "." l).length ≤ m * n + n := by
  show (glued "." l).length ≤ _
  rw [size_glued]
  have e := join2_len "." h
  have hz : ((("." : Str)).length) = 1 := rfl
  have : m * l.length ≤ m * n := Nat.mul_le_mul_left _ hn
  rw [hz]; exact om437 this e hn
theorem FieldsOk.get {fields : List Str} (h : FieldsOk fields) {i : Nat} (hi : i < 3) : (fields.map V.str)[i]? = some (.str (fields.getD i "")) ∧ (fields.getD i "").length ≤ 1000 ∧ NoDot (fields.getD i "") := by
  have hi' : i < fields.length := by rw [h.n]; exact hi
  have e : fields.getD i "" = fields[i] := by rw [List.getD_eq_getElem?_getD, List.getElem?_eq_getElem hi']; rfl
  refine ⟨getmap V.str "" hi', ?_⟩
  rw [e]; exact h.each _ (List.getElem_mem _)
theorem join_ok {l : List Str} (h : ∀ s ∈ l, s.length ≤ 1000) (hn : l.length ≤ 10) : (l.map (·.length)).sum + l.length * (("." : Str)).length ≤ 16777216 := by
  have e := join2_len "." h
  have hz : ((("." : Str)).length) = 1 := rfl
  have : 1000 * l.length ≤ 1000 * 10 := Nat.mul_le_mul_left _ hn
  rw [hz]; exact om286 e hn
section
variable {W : Wd} {ad : Str → Addr} {fd : Str → FuncData}
set_option maxHeartbeats 4000000 in
theorem fn_normed (P : PwK W ad fd) {k : Nat} {fields : List Str} {turn : Nat} (ht : turn < 8) (hf : FieldsOk fields) (hok : PartsOk (partsN fields turn)) :
    KFN W (k + 2) (.ref (ad "_law_normed")) [strsV fields, .int (turn : Int)] [] (fun val => val = .str (normOf (partsN fields turn))) := by
  refine KFN_go (ρ₀ := [("fields", strsV fields), ("turn", .int (turn : Int))]) ["fields", "turn"] P.f_normed.2 P.lim (fun G vals kvals r r' => ?_) (fun L cd A h₀ G F => ?_)
  · obtain ⟨v, w, rfl, r1, r2⟩ := r.two
    cases r'
    exact ⟨_, P.b_normed v w, rfl, .cons r1 (.cons r2 .nil)⟩
  · obtain ⟨m1, m2, m3⟩ := moreOf_ok turn ht
    have hfl : fields.length ≤ 10 := by rw [hf.n]; decide
    have hfs : ∀ s ∈ fields, s.length ≤ 1000 := fun s hs => (hf.each s hs).1
    have hfd : ∀ s ∈ fields, NoDot s := fun s hs => (hf.each s hs).2
    have e4 : (turn : Int).fmod 4 = ((turn % 4 : Nat) : Int) := fmod_nat turn 4
    refine KEXS_consA ?_
    refine @sEx W _ _ _ _ _ _ _ _ F.toFK ?_ (.inl (by kernel_rfl)) (by kernel_rfl)
    refine EV_Item (EVP_of ((EV_lit (n := 50)).1 (v := strsV ["0", "2", "b4", "6rc"]) (by kernel_rfl) ⟨_, rfl, EV_BinOp (EV_Name F.toFK (by rfl) (EV_int (OV_fdiv_int (by decide) (PyProof.noPylong_of_log2 (by decide)) ?_)))⟩))
    rw [show (turn : Int).fdiv 2 = ((turn / 2 : Nat) : Int) by rw [Int.fdiv_eq_ediv_of_nonneg _ (by decide)]; rfl]
    refine ⟨_, rfl, by exact om181, by exact om109 ht, .str (moreOf turn), by rw [Int.toNat_natCast]; exact more_get (by exact om111 ht), ?_⟩
    refine KEXS_cons ?_
    refine KEX_If (ET_Compare (by rfl) (EV_BinOp (EV_Name F.toFK (by rfl) (EV_int (OV_mod_int (by decide) (EV_int (OV_eq_int (TV_bool ?_))))))))
    rw [e4]
    cases h0 : (((turn % 4 : Nat) : Int) == 0) with
    | true =>
      simp only [if_true]
      have h0 : turn % 4 = 0 := by have := beq_iff_eq.mp h0; exact om44 this
      have hpn : partsN fields turn = fields ++ [moreOf turn] := by unfold partsN; rw [if_pos h0]
      refine KEXS_cons (kReturn (KEV_of_E ?_))
      refine @KEVE_Call W _ _ _ _ _ _ _ _ _ _ _ F.toFK P.f_norm.1 (by kernel_rfl) P.f_norm.2.isFn ?_ (by kernel_rfl) (by rfl) (by rfl) (by rfl) (by intro e r h; cases h; rfl)
      refine EVL_cons (@EV_Meth W _ _ _ _ _ _ _ _ _ _ PySem.F.plainAttrs_str PySem.F.slot_str_join PySem.F.type_str_join ?_ (by rfl) (by rfl) (by rfl) (by rfl) (by intro e r h; cases h; rfl)) (by rfl)
      refine EV_str ⟨TyOk_str _, EVL_cons (EV_Name F.toFK (by rfl) (EVL_nil (OV_join (join_ok hfs hfl) ?_)))⟩
      refine EVL_cons (EV_Name F.toFK (by rfl) (EVL_nil (EVK_nil ⟨rfl, KCV_of_KFN F (KFN.mono (fn_norm2 P (k := k) (parts := partsN fields turn) ?_ ?_ ?_ hok) fun v hv => hv) (Nat.le_refl _)⟩)))
      · have := join_len hfs hfl; exact om122 this
      · exact om129 m1
      · rw [split_join (by intro z; have := hf.n; rw [z] at this; cases this) hfd, m3, hpn]; rfl
    | false =>
      simp only [Bool.false_eq_true, if_false]
      have h0 : turn % 4 ≠ 0 := fun q => by rw [q] at h0; cases h0
      refine KEXS_nil (KEXS_cons ?_)
      obtain ⟨g1, g2, g3⟩ := hf.get (i := 2) (by decide)
      obtain ⟨q1, q2, q3⟩ := hf.get (i := 0) (by decide)
      have hnd : ∀ s ∈ fields.take 2, NoDot s := fun s hs => hfd s (List.mem_of_mem_take hs)
      have hns : ∀ s ∈ fields.take 2, s.length ≤ 1000 := fun s hs => hfs s (List.mem_of_mem_take hs)
      have hn2 : fields.take 2 ≠ [] := fun z => by have := congrArg List.length z; rw [List.length_take, hf.n] at this; cases this
      have hl2 : (fields.take 2).length ≤ 10 := by rw [List.length_take]; exact om201
      have hj2 := join_len hns hl2
      refine KEX.mono (Qn := fun r => Sub [("fields", .val (strsV fields)), ("turn", .val (.int (turn : Int))), ("more", .val (.str (moreOf turn)))] r ∧ ¬ (turn = 5 ∧ fields.getD 2 "" = "")) (Qr := fun v _ => v = .str (normOf (partsN fields turn))) (KEX_If (ET_And (ET_Compare (by rfl) (EV_Name F.toFK (by rfl) (EV_int (OV_eq_int (TV_bool ?_))))))) (fun r hr => KEXS_sub hr.1 ?_) (fun _ _ x => x)
      · cases h5 : ((turn : Int) == 5) with
        | false =>
          simp only [Bool.false_eq_true, if_false]
          exact KEXS_nil ⟨.put (by rfl) (.put (by rfl) (.put (by rfl) (.nil _))), fun q => by rw [q.1] at h5; cases h5⟩
        | true =>
          simp only [if_true]
          have h5 : turn = 5 := by have := beq_iff_eq.mp h5; exact om52 this
          refine ET_Compare (by rfl) (EV_Item (EVP_of (EV_Name F.toFK (by rfl) ⟨_, rfl, EV_int ⟨2, rfl, by decide, by decide, _, g1, EV_str (OV_eq_str (TV_bool ?_))⟩⟩)))
          cases hfe : (fields.getD 2 "" == "") with
          | false =>
            simp only [Bool.false_eq_true, if_false]
            exact KEXS_nil ⟨.put (by rfl) (.put (by rfl) (.put (by rfl) (.nil _))), fun q => by rw [q.2] at hfe; simp at hfe⟩
          | true =>
            simp only [if_true]
            have hfe := beq_iff_eq.mp hfe
            have hpn : partsN fields turn = fields.take 2 := by unfold partsN; rw [if_neg h0, if_pos ⟨h5, hfe⟩]
            refine KEXS_cons (kReturn (KEV_of_E ?_))
            refine @KEVE_Call W _ _ _ _ _ _ _ _ _ _ _ F.toFK P.f_norm.1 (by kernel_rfl) P.f_norm.2.isFn ?_ (by kernel_rfl) (by rfl) (by rfl) (by rfl) (by intro e r h; cases h; rfl)
            refine EVL_cons (@EV_Meth W _ _ _ _ _ _ _ _ _ _ PySem.F.plainAttrs_str PySem.F.slot_str_join PySem.F.type_str_join ?_ (by rfl) (by rfl) (by rfl) (by rfl) (by intro e r h; cases h; rfl)) (by rfl)
            refine EV_str ⟨TyOk_str _, EVL_cons (EV.of_fresh (EVF_Slice (EVP_of (EV_Name F.toFK (by rfl) ⟨_, rfl, EV_int ⟨2, rfl, by decide, by rw [List.length_map, sizeLine_eq]; exact om130 hfl, EVL_nil ?_⟩⟩)) (fun _ _ => ⟨_, rfl⟩))) (by rfl)⟩
            rw [show (2 : Int) = ((2 : Nat) : Int) from rfl, vslice_upto, ← List.map_take]
            refine OV_join (join_ok hns hl2) ?_
            refine EVL_nil (EVK_nil ⟨rfl, KCV_of_KFN F (KFN.mono (fn_norm1 P (k := k) (v := Txt.join "." (fields.take 2)) ?_ ?_) fun v hv => ?_) (Nat.le_refl _)⟩)
            · exact om122 hj2
            · rw [split_join hn2 hnd, ← hpn]; exact hok
            · rw [hv, split_join hn2 hnd, hpn]
      · have hc := hr.2
        refine KEXS_cons ?_
        refine KEX_If (ET_Compare (by rfl) (EV_BinOp (EV_Name F.toFK (by rfl) (EV_int (OV_mod_int (by decide) (EV_int (OV_eq_int (TV_bool ?_))))))))
        rw [e4]
        cases h1 : (((turn % 4 : Nat) : Int) == 1) with
        | true =>
          simp only [if_true]
          have h1 : turn % 4 = 1 := by have := beq_iff_eq.mp h1; exact om45 this
          have hpn : partsN fields turn = fields.take 2 ++ (if fields.getD 2 "" == "" then [] else [fields.getD 2 ""]) := by unfold partsN; rw [if_neg h0, if_neg hc, if_pos h1]
          refine KEXS_cons (kReturn (KEV_of_E ?_))
          refine @KEVE_Call W _ _ _ _ _ _ _ _ _ _ _ F.toFK P.f_norm.1 (by kernel_rfl) P.f_norm.2.isFn ?_ (by kernel_rfl) (by rfl) (by rfl) (by rfl) (by intro e r h; cases h; rfl)
          refine EVL_cons (@EV_Meth W _ _ _ _ _ _ _ _ _ _ PySem.F.plainAttrs_str PySem.F.slot_str_join PySem.F.type_str_join ?_ (by rfl) (by rfl) (by rfl) (by rfl) (by intro e r h; cases h; rfl)) (by rfl)
          refine EV_str ⟨TyOk_str _, EVL_cons (EV.of_fresh (EVF_Slice (EVP_of (EV_Name F.toFK (by rfl) ⟨_, rfl, EV_int ⟨2, rfl, by decide, by rw [List.length_map, sizeLine_eq]; exact om130 hfl, EVL_nil ?_⟩⟩)) (fun _ _ => ⟨_, rfl⟩))) (by rfl)⟩
          rw [show (2 : Int) = ((2 : Nat) : Int) from rfl, vslice_upto, ← List.map_take]
          refine OV_join (join_ok hns hl2) ?_
          refine EVL_cons (EV_Item (EVP_of (EV_Name F.toFK (by rfl) ⟨_, rfl, EV_int ⟨2, rfl, by decide, by decide, _, g1, ?_⟩⟩))) (by rfl)
          refine EVL_nil (EVK_nil ⟨rfl, KCV_of_KFN F (KFN.mono (fn_norm2 P (k := k) (v := Txt.join "." (fields.take 2)) (parts := partsN fields turn) ?_ ?_ ?_ hok) fun v hv => hv) (Nat.le_refl _)⟩)
          · exact om122 hj2
          · exact om134 g2
          · rw [split_join hn2 hnd, hpn]
        | false =>
          simp only [Bool.false_eq_true, if_false]
          have h1 : turn % 4 ≠ 1 := fun q => by rw [q] at h1; cases h1
          refine KEXS_nil (KEXS_cons ?_)
          refine KEX_If (ET_Compare (by rfl) (EV_BinOp (EV_Name F.toFK (by rfl) (EV_int (OV_mod_int (by decide) (EV_int (OV_eq_int (TV_bool ?_))))))))
          rw [e4]
          cases h2 : (((turn % 4 : Nat) : Int) == 2) with
          | true =>
            simp only [if_true]
            have h2 : turn % 4 = 2 := by have := beq_iff_eq.mp h2; exact om46 this
            have hpn : partsN fields turn = fields ++ [moreOf turn] := by unfold partsN; rw [if_neg h0, if_neg hc, if_neg h1, if_pos h2]
            have hfm : ∀ s ∈ fields ++ [moreOf turn], s.length ≤ 1000 := fun s hs => by
              rcases List.mem_append.mp hs with hs | hs
              · exact hfs s hs
              · rw [List.mem_singleton.mp hs]; exact om128 m1
            have hfn : (fields ++ [moreOf turn]).length ≤ 10 := by rw [List.length_append, hf.n]; show 3 + 1 ≤ 10; decide
            have hjm := join_len hfm hfn
            have hsp : Txt.split (Txt.join "." (fields ++ [moreOf turn])) "." = fields ++ [moreOf turn] := split_join (by simp) fun s hs => by
              rcases List.mem_append.mp hs with hs | hs
              · exact hfd s hs
              · rw [List.mem_singleton.mp hs]; exact m2
            refine KEXS_cons (kReturn (KEV_of_E ?_))
            refine @KEVE_Call W _ _ _ _ _ _ _ _ _ _ _ F.toFK P.f_norm.1 (by kernel_rfl) P.f_norm.2.isFn ?_ (by kernel_rfl) (by rfl) (by rfl) (by rfl) (by intro e r h; cases h; rfl)
            refine EVL_cons (@EV_Meth W _ _ _ _ _ _ _ _ _ _ PySem.F.plainAttrs_str PySem.F.slot_str_join PySem.F.type_str_join ?_ (by rfl) (by rfl) (by rfl) (by rfl) (by intro e r h; cases h; rfl)) (by rfl)
            refine EV_str ⟨TyOk_str _, EVL_cons (EV.of_fresh ?_) (by rfl)⟩
            refine EVF_AddList (EVP_of (EV_Name F.toFK (by rfl) ⟨_, rfl, ?_⟩))
            refine EVP_of (EV.of_fresh (EVF_List ?_))
            refine EVL_cons (EV_Name F.toFK (by rfl) (EVL_nil ⟨by show 1 ≤ _; rw [sizeLine_eq]; decide, ?_⟩))
            refine ⟨_, rfl, ?_, EVL_nil ?_⟩
            · rw [List.length_map, hf.n, sizeLine_eq]; show 3 + 1 ≤ _; decide
            rw [show (fields.map V.str ++ [V.str (moreOf turn)]) = (fields ++ [moreOf turn]).map V.str by rw [List.map_append]; rfl]
            refine OV_join (join_ok hfm hfn) ?_
            refine EVL_nil (EVK_nil ⟨rfl, KCV_of_KFN F (KFN.mono (fn_norm1 P (k := k) (v := Txt.join "." (fields ++ [moreOf turn])) ?_ ?_) fun v hv => ?_) (Nat.le_refl _)⟩)
            · exact om122 hjm
            · rw [hsp, ← hpn]; exact hok
            · rw [hv, hsp, hpn]
          | false =>
            simp only [Bool.false_eq_true, if_false]
            have h2 : turn % 4 ≠ 2 := fun q => by rw [q] at h2; cases h2
            have hpn : partsN fields turn = [fields.getD 0 "", Txt.join "." (fields.drop 1)] := by unfold partsN; rw [if_neg h0, if_neg hc, if_neg h1, if_neg h2]
            have hds : ∀ s ∈ fields.drop 1, s.length ≤ 1000 := fun s hs => hfs s (List.mem_of_mem_drop hs)
            have hdn : (fields.drop 1).length ≤ 10 := by rw [List.length_drop]; exact om126 hfl
            have hjd := join_len hds hdn
            refine KEXS_nil (KEXS_cons (kReturn (KEV_of_E ?_)))
            refine @KEVE_Call W _ _ _ _ _ _ _ _ _ _ _ F.toFK P.f_norm.1 (by kernel_rfl) P.f_norm.2.isFn ?_ (by kernel_rfl) (by rfl) (by rfl) (by rfl) (by intro e r h; cases h; rfl)
            refine EVL_cons (EV_Item (EVP_of (EV_Name F.toFK (by rfl) ⟨_, rfl, EV_int ⟨0, rfl, by decide, by decide, _, q1, ?_⟩⟩))) (by rfl)
            refine EVL_cons (@EV_Meth W _ _ _ _ _ _ _ _ _ _ PySem.F.plainAttrs_str PySem.F.slot_str_join PySem.F.type_str_join ?_ (by rfl) (by rfl) (by rfl) (by rfl) (by intro e r h; cases h; rfl)) (by rfl)
            refine EV_str ⟨TyOk_str _, EVL_cons (EV.of_fresh (EVF_Slice (EVP_of (EV_Name F.toFK (by rfl) ⟨_, rfl, EV_int ⟨1, rfl, by decide, by rw [List.length_map, sizeLine_eq]; exact om130 hfl, EVL_nil ?_⟩⟩)) (fun _ _ => ⟨_, rfl⟩))) (by rfl)⟩
            rw [show (1 : Int) = ((1 : Nat) : Int) from rfl, vslice_from, ← List.map_drop]
            refine OV_join (join_ok hds hdn) ?_
            refine EVL_nil (EVK_nil ⟨rfl, KCV_of_KFN F (KFN.mono (fn_norm2 P (k := k) (v := fields.getD 0 "") (b := Txt.join "." (fields.drop 1)) (parts := partsN fields turn) ?_ ?_ ?_ hok) fun v hv => hv) (Nat.le_refl _)⟩)
            · exact om134 q2
            · exact om122 hjd
            · rw [hpn]
              have hne : (Txt.join "." (fields.drop 1) == "") = false := by
                cases hz : Txt.join "." (fields.drop 1) == "" with
                | false => rfl
                | true =>
                  have hz := beq_iff_eq.mp hz
                  have hlen : (Txt.join "." (fields.drop 1)).length = _ := size_glued "." (fields.drop 1)
                  rw [hz, List.length_drop, hf.n] at hlen
                  have e0 : ("" : Str).length = 0 := rfl
                  have e1 : ("." : Str).length = 1 := rfl
                  rw [e0, e1] at hlen; exact (om68 hlen).elim
              have h1 : Txt.split (fields.getD 0 "") "." = [fields.getD 0 ""] := by
                have := split_join (l := [fields.getD 0 ""]) (by simp) (by intro s hs; rw [List.mem_singleton.mp hs]; exact q3)
                exact this
              rw [hne, h1]; rfl
end
end Mine
end
section
open PySem PySem.W PyProof.Rows PySem.Builtin.Str
namespace Mine
noncomputable def fieldC (d : Nat) (l : Let4) : Str := ([("" : Str), l.2.1, l.2.1 ++ l.2.2.2] : List Str).getD d ""
noncomputable def fieldsTo (places : List (List Let4)) (depths : List Nat) (p n : Nat) : List Str := (List.range n).map fun i => fieldC (depths.getD i 0) (letAt places p i)
theorem fieldsTo_succ (places : List (List Let4)) (depths : List Nat) (p n : Nat) : fieldsTo places depths p (n + 1) = fieldsTo places depths p n ++ [fieldC (depths.getD n 0) (letAt places p n)] := by
  unfold fieldsTo; rw [List.range_succ, List.map_append]; simp
structure TurnOk (places : List (List Let4)) (depths : List Nat) (t p : Nat) : Prop where
  fields : FieldsOk (fieldsTo places depths p 3)
  parts : PartsOk (partsN (fieldsTo places depths p 3) t)
  text : normOf (partsN (fieldsTo places depths p 3) t) = textAt places depths t p
  len : (textAt places depths t p).length ≤ 100000
  pieces : ∀ s ∈ piecesOf (textAt places depths t p), inSeps s = false → IntOk s
  comp : compOf (piecesOf (textAt places depths t p)) = keyAt places depths p
noncomputable def rowTo (places : List (List Let4)) (depths : List Nat) (points : List Nat) (pre : List V) (str : V) (n : Nat) : List V :=
  pre ++ ((ord (fun t => rkOf depths (points.getD t 0)) n).map fun t => itemV places depths t (points.getD t 0)) ++ [str]
theorem fieldC_get {d : Nat} (h : d < 3) (l : Let4) : [V.str "", V.str l.2.1, V.str (l.2.1 ++ l.2.2.2)][d]? = some (.str (fieldC d l)) := by
  have : d = 0 ∨ d = 1 ∨ d = 2 := by exact om99 h
  rcases this with rfl | rfl | rfl <;> rfl
section
variable {W : Wd} {ad : Str → Addr} {fd : Str → FuncData}
set_option maxHeartbeats 4000000 in
theorem fn_laid (P : PwK W ad fd) {k : Nat} {points : List Nat} {places : List (List Let4)} {depths : List Nat} {pre : List V} {str : V} (hpo : points.length = 8) (hok : PlOk places depths) (hpre : pre.length ≤ 100)
    (ht : ∀ t, t < 8 → TurnOk places depths t (points.getD t 0)) (hpc : ∀ p q, Pc (keyAt places depths p) (keyAt places depths q) (rkOf depths p) (rkOf depths q)) :
    KFNm W (k + 4) (.ref (ad "_law_laid")) (rowTo places depths points pre str 0) [.int (pre.length : Int), natV points, placesV places, natV depths] [] (fun v ys => v = .bool true ∧ ys = rowTo places depths points pre str 8) := by
  refine KFNm_go (ρ₀ := [("start", .int (pre.length : Int)), ("points", natV points), ("places", placesV places), ("depths", natV depths)]) "row" ["start", "points", "places", "depths"] P.f_laid.2 P.lim (fun G l vals kvals r r' => ?_) (fun L cd A h₀ G ex l F => ?_)
  · cases r with | cons r1 r => cases r with | cons r2 r => cases r with | cons r3 r => cases r with | cons r4 r => cases r; cases r'; exact ⟨_, P.b_laid _ _ _ _ _, rfl, .cons r1 (.cons r2 (.cons r3 (.cons r4 .nil)))⟩
  · refine KEXS_cons ?_
    refine @ksFor W _ _ (k + 3) _ _ _ _ _ _ F ?_ (by intro _; rfl)
    refine @EVI_range W _ _ (k + 3) _ _ _ _ _ F P.range_ (by kernel_rfl) (EV_int ⟨8, rfl, by rw [sizeLine_eq]; decide, ?_⟩) (by kernel_rfl) (by rfl)
    refine ⟨fun i => [("row", .own (rowTo places depths points pre str i)), ("start", .val (.int (pre.length : Int))), ("points", .val (natV points)), ("places", .val (placesV places)), ("depths", .val (natV depths))], .put (by rfl) (.put (by rfl) (.put (by rfl) (.put (by rfl) (.put (by rfl) (.nil _))))), ?_, ?_⟩
    · intro t x hx
      obtain ⟨ht8, rfl⟩ := range_get hx
      have htk := ht t ht8
      generalize hp : points.getD t 0 = p at htk
      have hpt : (points.map fun (x : Nat) => V.int (x : Int))[t]? = some (.int (p : Int)) := by rw [← hp]; exact getmap (fun (x : Nat) => V.int (x : Int)) 0 (by rw [hpo]; exact ht8)
      refine ASG_Name F (.inl (by kernel_rfl)) ?_
      refine KEXS_consA ?_
      refine @sOwn W _ _ (k + 3) _ _ _ _ _ _ F (EVF_List (EVL_nil ⟨by decide, ?_⟩)) (.inl (by kernel_rfl)) (by rfl) (by kernel_rfl)
      refine KEXS_consA ?_
      refine @sFor W _ _ (k + 3) _ _ _ _ _ _ F ?_ (by intro _; rfl)
      refine @EVI_range W _ _ (k + 3) _ _ _ _ _ F P.range_ (by kernel_rfl) (EV_int ⟨3, rfl, by rw [sizeLine_eq]; decide, ?_⟩) (by kernel_rfl) (by rfl)
      refine ⟨fun i => [("fields", .own ((fieldsTo places depths p i).map .str)), ("turn", .val (.int (t : Int))), ("row", .own (rowTo places depths points pre str t)), ("start", .val (.int (pre.length : Int))), ("points", .val (natV points)), ("places", .val (placesV places)), ("depths", .val (natV depths))],
        .put (by rfl) (.put (by rfl) (.put (by rfl) (.put (by rfl) (.put (by rfl) (.put (by rfl) (.put (by rfl) (.nil _))))))), ?_, ?_⟩
      · intro i x hx
        obtain ⟨hi, rfl⟩ := range_get hx
        obtain ⟨l, hl, hlo, hm, hg⟩ := hok.letAt_mem p hi
        have hsh := hlo.short _ hm
        have hv4 := valAt_lt p i
        have hd3 := hok.d i
        have hdg : (depths.map fun (x : Nat) => V.int (x : Int))[i]? = some (.int (depths.getD i 0 : Nat)) := getmap (fun (x : Nat) => V.int (x : Int)) 0 (by rw [hok.dl]; exact hi)
        refine ASG_Name F (.inl (by kernel_rfl)) ?_
        refine EXS_cons ?_
        refine @EX_AssignTuple W _ _ (k + 3) _ _ _ _ _ _ _ F ?_ (by kernel_rfl) (by kernel_rfl)
        refine EV_Item (EVP_of (EV_Item (EVP_of (EV_Name F.toFK (by rfl) ⟨_, rfl, EV_Name F.toFK (by rfl) ⟨(i : Int), rfl, by exact om183, by exact om96 hi, .list (l.map letV), by rw [Int.toNat_natCast, List.getElem?_map, hl]; rfl, ?_⟩⟩))))
        refine ⟨_, rfl, ?_⟩
        refine int_shift2 hi F (EV_Item (EVP_of (EV_Name F.toFK (by rfl) ⟨_, rfl, EV_Name F.toFK (by rfl) ⟨(t : Int), rfl, by exact om183, by exact om110 ht8, _, hpt, rfl⟩⟩))) (by rfl) ?_
        refine ⟨(valAt p i : Int), rfl, by exact om183, by exact om101 hv4, _, hg, ?_⟩
        refine @ASG_Tuple W _ _ (k + 3) _ _ _ _ _ F rfl (ASG_Name F (.inl (by kernel_rfl)) (ASG_Name F (.inl (by kernel_rfl)) (ASG_Name F (.inl (by kernel_rfl)) (ASG_Name F (.inl (by kernel_rfl)) ?_)))) (by rfl) (by rfl)
        generalize hlt : letAt places p i = lt at hm hg hsh
        refine EXS_cons ?_
        refine @EX_append W _ _ (k + 3) _ _ _ _ _ _ _ _ _ F (by rfl) ?_ ?_ (by rfl) (by rfl) (by rfl) (by rfl) (by rfl) (by kernel_rfl) (by kernel_rfl) (by rfl)
        · rw [List.length_map, sizeLine_eq]; unfold fieldsTo; rw [List.length_map, List.length_range]; exact om100 hi
        refine EV_Item (EVP_of (EV.of_fresh (EVF_List ?_)))
        refine EVL_cons (EV_str ?_)
        refine EVL_cons (EV_Name F.toFK (by rfl) ?_)
        refine EVL_cons (EV_BinOp (EV_Name F.toFK (by rfl) (EV_Name F.toFK (by rfl) (OV_add_str (by rw [sizeLine_eq]; exact om238 hsh) ?_))))
        refine EVL_nil ⟨by show 3 ≤ _; rw [sizeLine_eq]; decide, ?_⟩
        refine ⟨_, rfl, EV_Item (EVP_of (EV_Name F.toFK (by rfl) ⟨_, rfl, EV_Name F.toFK (by rfl) ⟨(i : Int), rfl, by exact om183, by exact om96 hi, _, hdg, ?_⟩⟩))⟩
        refine ⟨_, rfl, by exact om183, by exact om96 hd3, .str (fieldC (depths.getD i 0) lt), by rw [Int.toNat_natCast]; exact fieldC_get hd3 lt, ?_⟩
        refine EXS_nil (.put ?_ (.put (by rfl) (.put (by rfl) (.put (by rfl) (.put (by rfl) (.put (by rfl) (.put (by rfl) (.nil _))))))))
        show some _ = some _
        rw [fieldsTo_succ, hlt, List.map_append]; rfl
      · intro ρ' hρ
        refine KEXS_sub hρ ?_
        rw [List.length_map, List.length_range]
        dsimp only
        refine KEXS_freeze (x := "fields") (by rfl) (by rfl) ?_
        refine KEXS_cons ?_
        refine @kEx W _ _ _ _ _ _ _ _ F.toFK (KEV_of_E ?_) (.inl (by kernel_rfl)) (by kernel_rfl)
        refine @KEVE_Call W _ _ _ _ _ _ _ _ _ _ _ F.toFK P.f_normed.1 (by kernel_rfl) P.f_normed.2.isFn ?_ (by kernel_rfl) (by rfl) (by rfl) (by rfl) (by intro e r h; cases h; rfl)
        refine EVL_cons (EV_Name F.toFK (by rfl) (EVL_cons (EV_Name F.toFK (by rfl) (EVL_nil (EVK_nil ⟨rfl, KCV_of_KFN F (KFN.mono (fn_normed P (k := k + 1) ht8 htk.fields htk.parts) fun v hv => ?_) (Nat.le_refl _)⟩)))))
        rw [htk.text] at hv
        subst hv
        refine KEXS_cons ?_
        refine @kEx W _ _ _ _ _ _ _ _ F.toFK (KEV_of_E ?_) (.inl (by kernel_rfl)) (by kernel_rfl)
        refine @KEVE_Call W _ _ _ _ _ _ _ _ _ _ _ F.toFK P.f_comp.1 (by kernel_rfl) P.f_comp.2.isFn ?_ (by kernel_rfl) (by rfl) (by rfl) (by rfl) (by intro e r h; cases h; rfl)
        refine EVL_cons (EV_Name F.toFK (by rfl) (EVL_nil (EVK_nil ⟨rfl, KCV_of_KFN F (KFN.mono (fn_comp P (k := k + 2) htk.len htk.pieces) fun v hv => ?_) (Nat.le_refl _)⟩)))
        rw [htk.comp] at hv
        subst hv
        refine KEXS_consA ?_
        refine @sEx W _ _ _ _ _ _ _ _ F.toFK ?_ (.inl (by kernel_rfl)) (by kernel_rfl)
        refine EV.of_fresh (EVF_List (EVL_cons (EV_Name F.toFK (by rfl) ?_)))
        refine EVL_cons (EV.of_fresh (@cList W _ _ (k + 3) True _ _ _ _ _ _ _ _ [] F (freesOk_fx (by kernel_rfl)) (by kernel_rfl) (.nil _) ?_ (by intro _; rfl))) (by rfl)
        refine EVI_of F (EV_Name F.toFK (by rfl) ⟨_, rfl, ?_⟩)
        have hkl : (keyAt places depths p).length ≤ 12 := keyTo_len places depths p 3
        refine cMap ((keyAt places depths p).map fun v => .str (strOf v)) (by rw [List.length_map]) (by rw [sizeLine_eq]; exact om140 hkl) (fun j v w C h₀' G₀' hv hw F' => ?_) ?_
        · obtain ⟨v', hv', rfl, _, _⟩ := map_get hw
          rw [hv] at hv'; cases hv'
          have hpart := hok.part p 3 (by exact om4) v (List.mem_of_getElem? hv)
          exact EV_strPart F' P.str_ (by kernel_rfl) (by rfl) hpart rfl (by kernel_rfl) (by kernel_rfl)
        refine EVL_cons (EV_Name F.toFK (by rfl) (EVL_cons (EV_Name F.toFK (by rfl) (EVL_nil ⟨by show 4 ≤ _; rw [sizeLine_eq]; decide, ?_⟩))))
        have hrl : (rowTo places depths points pre str t).length = pre.length + t + 1 := by
          unfold rowTo; rw [List.length_append, List.length_append, List.length_map, ord_len]; rfl
        refine KEXS_cons (KEX_of ?_)
        refine EX_IfX ?_
        refine @ETX_Compare W _ _ _ _ _ _ _ (by rfl) ?_
        refine @EVX_CallM W _ _ (k + 3) _ _ _ _ _ _ _ _ _ _ (k + 3) _ F P.f_ins.1 (by kernel_rfl) P.f_ins.2.isFn (by rfl) (Nat.le_refl _) ?_ (by kernel_rfl) (by kernel_rfl) (by kernel_rfl) (by rfl) (by rfl) (by rfl) (by rfl)
        refine EVL_cons (EV_Name F.toFK (by rfl) ?_)
        refine EVL_cons (EV_Name F.toFK (by rfl) ?_)
        refine EVL_cons (EV_BinOp ?_) (by rfl)
        refine @EV_len W _ _ (k + 3) _ _ _ _ _ F P.len_ (by kernel_rfl) (EVP_own F (xs := rowTo places depths points pre str t) (by rfl) ⟨by rw [hrl, sizeLine_eq]; exact om290 hpre ht8, EV_int (OV_sub_int (EVL_nil (EVK_one (EV_Glo F.toFK P.f_first.1 (by kernel_rfl) (fun G => .glob _) ⟨rfl, ?_⟩ (by kernel_rfl)))))⟩) (by kernel_rfl) (by rfl)
        have hri : ((rowTo places depths points pre str t).length : Int) - 1 = ((pre.length + t : Nat) : Int) := by rw [hrl]; exact om333
        rw [hri]
        have hsl := ord_len (fun t => rkOf depths (points.getD t 0)) t
        have hitem : V.list [.list (keyAt places depths p), .list ((keyAt places depths p).map fun v => V.str (strOf v)), .str (textAt places depths t p), .int (t : Int)] = itemV places depths t (points.getD t 0) := by rw [hp]; rfl
        have hget : ∀ i, i < t → (rowTo places depths points pre str t)[pre.length + i]? = some (itemV places depths ((ord (fun t => rkOf depths (points.getD t 0)) t).getD i 0) (points.getD ((ord (fun t => rkOf depths (points.getD t 0)) t).getD i 0) 0)) := fun i hi => by
          unfold rowTo
          rw [List.append_assoc, List.getElem?_append_right (Nat.le_add_right _ _), Nat.add_sub_cancel_left, List.getElem?_append_left (by rw [List.length_map, hsl]; exact hi)]
          exact getmap _ 0 (by rw [hsl]; exact hi)
        refine FNm.mono (fnm_insK P.toPwOk (k := k + 1) (f := ad "_law_first") (z := .list (keyAt places depths p)) (m := pre.length + cutAt (fun t => rkOf depths (points.getD t 0)) t (ord (fun t => rkOf depths (points.getD t 0)) t)) (p := fun i => decide (rkOf depths (points.getD ((ord (fun t => rkOf depths (points.getD t 0)) t).getD (i - pre.length) 0) 0) < rkOf depths (points.getD t 0)))
          (by exact om423 hrl) (by exact om408 ht8 hrl hpre) ?_ P.f_first.2.isFn ?_ ?_ ?_) fun v ys h => ?_
        · exact dv_list_of fun v hv => (hok.part p 3 (by exact om4) v hv).dv _
        · rw [hitem]
          refine FN.mono (fn_first P.toPwOk (k := k)) fun v hv => ?_
          rw [hv, hp]
        · intro i h1 h2
          obtain ⟨j, rfl⟩ : ∃ j, i = pre.length + j := ⟨i - pre.length, by exact om319 h1⟩
          have hj : j < t := by exact om383 h2
          refine ⟨_, _, hget j hj, fn_first P.toPwOk (k := k), dv_list_of fun v hv => (hok.part _ 3 (by exact om4) v hv).dv _, ?_⟩
          rw [Nat.add_sub_cancel_left, hp]
          exact (hpc _ p).lt
        · refine ⟨Nat.le_add_right _ _, ?_, fun i h1 h2 => ?_, fun i h1 h2 => ?_⟩
          · have := cutAt_le (fun t => rkOf depths (points.getD t 0)) t (ord (fun t => rkOf depths (points.getD t 0)) t)
            rw [hsl] at this; exact om416 this
          · refine decide_eq_true ?_
            have hlt : i - pre.length < (ord (fun t => rkOf depths (points.getD t 0)) t).length := by
              have := cutAt_le (fun t => rkOf depths (points.getD t 0)) t (ord (fun t => rkOf depths (points.getD t 0)) t)
              exact om462 h1 h2 this
            exact cutAt_below (r := fun t => rkOf depths (points.getD t 0)) (s := ord (fun t => rkOf depths (points.getD t 0)) t) (i := i - pre.length) (by rw [List.getD_eq_getElem?_getD, List.getElem?_eq_getElem hlt]; rfl) (by exact om391 h2 h1)
          · refine decide_eq_false (Nat.not_lt.mpr ?_)
            have hlt : i - pre.length < (ord (fun t => rkOf depths (points.getD t 0)) t).length := by exact om471 h1 h2 hsl
            exact cutAt_above (r := fun t => rkOf depths (points.getD t 0)) (s := ord (fun t => rkOf depths (points.getD t 0)) t) (i := i - pre.length) (ord_sorted _ t) (by rw [List.getD_eq_getElem?_getD, List.getElem?_eq_getElem hlt]; rfl) (by exact om384 h1)
        · obtain ⟨rfl, hys⟩ := h
          refine EV_none (OV_isNot_none (TV_bool ?_))
          simp only [Bool.false_eq_true, if_false]
          refine EXS_nil (KEXS_nil (.put ?_ (.put (by rfl) (.put (by rfl) (.put (by rfl) (.put (by rfl) (.nil _)))))))
          show some (Slot.own ys) = some _
          rw [hys, hitem]
          congr 2
          have hcl := cutAt_le (fun t => rkOf depths (points.getD t 0)) t (ord (fun t => rkOf depths (points.getD t 0)) t)
          unfold rowTo
          have ho : ord (fun t => rkOf depths (points.getD t 0)) (t + 1) = _ := ins_take _ t (ord (fun t => rkOf depths (points.getD t 0)) t)
          rw [ho]
          generalize cutAt (fun t => rkOf depths (points.getD t 0)) t (ord (fun t => rkOf depths (points.getD t 0)) t) = m at hcl
          generalize ord (fun t => rkOf depths (points.getD t 0)) t = s at hcl
          rw [List.append_assoc, List.take_append, List.drop_append, Nat.add_sub_cancel_left, List.take_of_length_le (Nat.le_add_right _ _), List.drop_of_length_le (Nat.le_add_right _ _), List.take_append_of_le_length (by rw [List.length_map]; exact hcl), List.drop_append_of_le_length (by rw [List.length_map]; exact hcl)]
          simp only [List.map_append, List.map_cons, List.map_take, List.map_drop, List.nil_append, List.append_assoc, List.cons_append]
    · intro ρ' hρ
      refine KEXS_sub hρ ?_
      rw [List.length_map, List.length_range]
      exact KEXS_of (EXS_cons (EX_Return (EV_bool ⟨_, by rfl, rfl, rfl⟩)))
end
end Mine
end
section
open PySem PySem.W PyProof.Rows PySem.Builtin.Str
namespace Mine
noncomputable def compB2 (env : Env) (sc : Scope) (ns : List Str) : Bool :=
  sc.kind == .function && sc.names.all (fun p => p.2 != .local || sc.names.lookup p.1 == some .local) &&
  ns.all (fun n => (env.kindOf n == some .cell || env.kindOf n == some .free) && sc.names.lookup n == some .free && ((relabel sc env).names.lookup n == some .cell || (relabel sc env).names.lookup n == some .free))
theorem freesOk_all {sc : Scope} {env : Env} (h : sc.names.all (fun p => p.2 != .free || (env.cells.lookup p.1).isSome) = true) : freesOk sc env := fun p hp hk => by
  have := List.all_eq_true.mp h p hp
  rw [hk] at this
  rcases Bool.or_eq_true_iff.mp this with q | q
  · cases q
  · exact q
section
variable {W : Wd} {c : Fx} {ρ : Rho} {k : Nat}
theorem comp_parts2 {sc : Scope} {x : Str} {fv : List (Str × V)} (hf : freesOk sc c.env) (hb : compB2 c.env sc (fv.map (·.1)) = true) (hs : ∀ n v, fv.lookup n = some v → ρ.lookup n = some (.val v)) :
    closureFor sc c.env = pure (clOf sc c.env) ∧ sc.kind = .function ∧ (∀ y ∈ sc.names, y.2 = .local → sc.names.lookup y.1 = some .local) ∧ (∀ n a, (clOf sc c.env).lookup n = some a → ∃ y, c.env.cells.lookup y = some a) ∧ FreeVars c ρ sc (clOf sc c.env) x fv := by
  unfold compB2 at hb
  simp only [Bool.and_eq_true, beq_iff_eq] at hb
  obtain ⟨⟨b1, b2⟩, b5⟩ := hb
  refine ⟨closure_of hf, b1, fun y hy hl => ?_, fun n a e => ⟨n, clOf_lookup hf e⟩, fun n v e hx => ?_⟩
  · have := List.all_eq_true.mp b2 y hy
    rcases Bool.or_eq_true_iff.mp this with q | q
    · rw [hl] at q; cases q
    · exact beq_iff_eq.mp q
  · have := List.all_eq_true.mp b5 n (List.mem_map.mpr ⟨_, mem_of_lookup e, rfl⟩)
    simp only [Bool.and_eq_true, Bool.or_eq_true, beq_iff_eq] at this
    obtain ⟨⟨q1, q2⟩, q3⟩ := this
    exact ⟨hs n v e, q1, clOf_free hf (mem_of_lookup q2), q3⟩
theorem cAssign2 {fz : Prop} {elt iter : Expr} {x y : Str} {px py pos spos : Pos} {ifs : List Expr} {sc : Scope} {Qn : Rho → Prop} {Qr : V → Rho → Prop} (fv : List (Str × V)) (F : FOk k c) (hf : freesOk sc c.env) (hb : compB2 c.env sc (fv.map (·.1)) = true) (hvar : LoopVar c sc (clOf sc c.env) x) (hs : Sub (fv.map fun p => (p.1, Slot.val p.2)) ρ) (hy : c.env.kindOf y = some .local)
    (hsw : swapsWith (.ListComp elt [⟨.Name x px, iter, ifs, 0⟩] sc pos) (some (.Name y py)) spos.line c.env = pure true) (hfold : ∀ x, foldedSetIterable iter c.env x = pure x)
    (h : EVI W c ρ fz iter (CompJ W c k sc (clOf sc c.env) x fv ifs elt fun ys => Qn ((y, .val (.list ys)) :: ρ))) : EX W c ρ (.Assign [.Name y py] (.ListComp elt [⟨.Name x px, iter, ifs, 0⟩] sc pos) spos) Qn Qr := by
  obtain ⟨p1, p2, p3, p4, p6⟩ := comp_parts2 (ρ := ρ) (x := x) hf hb (sub_fv hs)
  exact EX_AssignComp F hy p1 p2 p3 p4 hvar p6 h hsw hfold
theorem kIfX {test body orelse pos} {Qn : Rho → Prop} {Qr : V → Rho → Prop} (h : KETX W c ρ test fun b ρ' => if b then KEXS W c ρ' body Qn Qr else KEXS W c ρ' orelse Qn Qr) : KEX W c ρ (.If test body orelse pos) Qn Qr := KEX_IfX h
end
theorem veq_str (a b : Str) : veq (.str a) (.str b) = (a == b) := by
  by_cases h : a = b
  · subst h; rw [veq_true rfl]; simp
  · rw [veq_false (by intro z; injection z with z; exact h z)]; simp [h]
theorem any_strs (l : List Str) (s : Str) : ((l.map V.str).any fun y => veq y (.str s)) = l.contains s := by
  induction l with
  | nil => rfl
  | cons a l ih =>
    rw [List.map_cons, List.any_cons, ih, veq_str, List.contains_cons]
    congr 1
    rw [Bool.eq_iff_iff, beq_iff_eq, beq_iff_eq]; exact eq_comm
theorem count_cut {f : Nat → Bool} : ∀ {s : List Nat}, s.Pairwise (fun a b => f b = true → f a = true) → ∀ {i u : Nat}, s[i]? = some u → f u = decide (i < s.countP f)
  | [], _, i, u, h => by cases h
  | w :: s, hs, i, u, h => by
    rw [List.pairwise_cons] at hs
    rw [List.countP_cons]
    cases hw : f w with
    | true =>
      cases i with
      | zero => cases h; rw [hw]; simp
      | succ i => rw [count_cut (s := s) hs.2 h]; simp
    | false =>
      have h0 : s.countP f = 0 := List.countP_eq_zero.mpr fun b hb hfb => by
        have := hs.1 b hb hfb
        rw [hw] at this; cases this
      rw [h0]
      cases i with
      | zero => cases h; rw [hw]; simp
      | succ i =>
        have hu : u ∈ s := List.mem_of_getElem? (by simpa using h)
        have : f u = false := by
          cases q : f u with
          | false => rfl
          | true => have := hs.1 u hu q; rw [hw] at this; cases this
        rw [this]; simp
theorem ord_mono {r : Nat → Nat} {n : Nat} {f : Nat → Bool} (hf : ∀ a b, r a ≤ r b → f b = true → f a = true) : (ord r n).Pairwise fun a b => f b = true → f a = true :=
  (ord_sorted r n).imp fun {a b} h => hf a b (by have := ltB_iff.mp h; exact om436 this)
theorem ord_count (r : Nat → Nat) (n : Nat) (f : Nat → Bool) : (ord r n).countP f = (List.range n).countP f := (ord_perm r n).countP_eq f
theorem count_le_split (r : Nat → Nat) (R : Nat) : ∀ l : List Nat, l.countP (fun u => decide (r u ≤ R)) = l.countP (fun u => decide (r u < R)) + l.countP (fun u => r u == R)
  | [] => rfl
  | u :: l => by
    rw [List.countP_cons, List.countP_cons, List.countP_cons, count_le_split r R l]
    by_cases h1 : r u < R
    · have h2 : r u ≤ R := by exact om270 h1
      have h3 : (r u == R) = false := by simpa using (show ¬ r u = R by exact om271 h1)
      simp [h1, h2, h3]; exact om340
    · by_cases h4 : r u = R
      · simp [h1, h4]; exact om341
      · have h2 : ¬ r u ≤ R := by exact om326 h1 h4
        have h3 : (r u == R) = false := by simpa using h4
        simp [h1, h2, h3]
theorem keyC_shape (d : Nat) (l : Let4) : keyC d l = [] ∨ ∃ r, keyC d l = .int 100 :: r := by
  cases d with
  | zero => exact .inl rfl
  | succ d =>
    refine .inr ⟨([V.int l.1, .int l.2.2.1, .str l.2.2.2].take (2 * d + 1)), ?_⟩
    unfold keyC
    rw [Nat.mul_add]; rfl
theorem keyAt_shape (places : List (List Let4)) (depths : List Nat) (p : Nat) : ∀ n, keyTo places depths p n = [] ∨ ∃ r, keyTo places depths p n = .int 100 :: r
  | 0 => .inl rfl
  | n + 1 => by
    rw [keyTo_succ]
    rcases keyAt_shape places depths p n with h | ⟨r, h⟩
    · rw [h, List.nil_append]; exact keyC_shape _ _
    · exact .inr ⟨_, by rw [h]; rfl⟩
theorem key_lt_300 (places : List (List Let4)) (depths : List Nat) (p : Nat) : LtV (.list (keyAt places depths p)) (.list [.int 300]) true := by
  unfold keyAt
  rcases keyAt_shape places depths p 3 with h | ⟨r, h⟩
  · rw [h]; exact .nc _ _
  · rw [h]; exact .ne _ _ _ _ _ (by intro z; injection z with z; exact om8 z) (.int 100 300)
theorem not_lt_nil (xs : List V) : LtV (.list xs) (.list []) false := by
  cases xs with
  | nil => exact .nn
  | cons x xs => exact .cn _ _
end Mine
end
section
open PySem PySem.W PyProof.Rows PySem.Builtin.Str
namespace Mine
noncomputable def cellsOf (script : List Int) : List Int := cellsGo script script.length
noncomputable def changesOf (C : List Int) : List Nat := (C.take 3).map fun x => (x.fmod 64).toNat
noncomputable def placesOf (C : List Int) : List (List Let4) := (C.drop 6).map letters
noncomputable def pointsGo (changes : List Nat) (p0 : Nat) : Nat → List Nat
  | 0 => [p0]
  | n + 1 => pointsGo changes p0 n ++ (pointsGo changes p0 n).map fun p => p ^^^ changes.getD n 0
noncomputable def pointsOf (C : List Int) : List Nat := pointsGo (changesOf C) ((C.getD 3 0).fmod 64).toNat 3
noncomputable def depthsOf (C : List Int) (turn : Nat) : List Nat := (List.range 3).map fun i => (((C.getD (4 + turn) 0).fdiv (3 ^ i)).fmod 3).toNat
noncomputable def rkT (C : List Int) (turn t : Nat) : Nat := rkOf (depthsOf C turn) ((pointsOf C).getD t 0)
noncomputable def srt (C : List Int) (turn : Nat) : List V := (ord (rkT C turn) 8).map fun t => itemV (placesOf C) (depthsOf C turn) t ((pointsOf C).getD t 0)
noncomputable def srtK (C : List Int) (turn : Nat) : List V := (ord (rkT C turn) 8).map fun t => .list (keyAt (placesOf C) (depthsOf C turn) ((pointsOf C).getD t 0))
noncomputable def duesTo (C : List Int) (n : Nat) : List V := (List.range n).flatMap (srt C)
noncomputable def keysTo (C : List Int) (n : Nat) : List V := (List.range n).flatMap (srtK C)
noncomputable def stranger : V := .list [.list [], .list [], .str "stranger", .int 8]
noncomputable def withinOf (depths : List Nat) : List (List Str) := depths.map fun d => (["00", "11", "22"] : List Str).take (d + 1)
noncomputable def nearB (depths : List Nat) (told : List Str) : Bool := ((List.range 3).filter fun i => !((withinOf depths).getD i []).contains (told.getD i "")).isEmpty
noncomputable def nearOf (C : List Int) (turn : Nat) : List (List Str) := (costsOf (changesOf C) (placesOf C)).filter (nearB (depthsOf C turn))
structure LawOk (C : List Int) : Prop where
  len : C.length = 9
  places : ∀ turn, turn < 2 → PlOk (placesOf C) (depthsOf C turn)
  turns : ∀ turn, turn < 2 → ∀ t, t < 8 → TurnOk (placesOf C) (depthsOf C turn) t ((pointsOf C).getD t 0)
  pc : ∀ turn, turn < 2 → ∀ p q, Pc (keyAt (placesOf C) (depthsOf C turn) p) (keyAt (placesOf C) (depthsOf C turn) q) (rkOf (depthsOf C turn) p) (rkOf (depthsOf C turn) q)
  dual : ∀ turn, turn < 2 → ∀ j, j < 8 → ((List.range 8).countP fun u => rkT C turn u == rkT C turn j) * 2 ^ (depthsOf C turn).sum = 8 * (nearOf C turn).length
theorem srt_len (C : List Int) (t : Nat) : (srt C t).length = 8 := by unfold srt; rw [List.length_map, ord_len]
theorem srtK_len (C : List Int) (t : Nat) : (srtK C t).length = 8 := by unfold srtK; rw [List.length_map, ord_len]
theorem duesTo_succ (C : List Int) (n : Nat) : duesTo C (n + 1) = duesTo C n ++ srt C n := by unfold duesTo; rw [List.range_succ, List.flatMap_append]; simp
theorem keysTo_succ (C : List Int) (n : Nat) : keysTo C (n + 1) = keysTo C n ++ srtK C n := by unfold keysTo; rw [List.range_succ, List.flatMap_append]; simp
theorem duesTo_len (C : List Int) : ∀ n, (duesTo C n).length = 8 * n
  | 0 => rfl
  | n + 1 => by rw [duesTo_succ, List.length_append, duesTo_len C n, srt_len]; exact om174
theorem keysTo_len (C : List Int) : ∀ n, (keysTo C n).length = 8 * n
  | 0 => rfl
  | n + 1 => by rw [keysTo_succ, List.length_append, keysTo_len C n, srtK_len]; exact om174
theorem rowTo_0 (C : List Int) (t : Nat) : rowTo (placesOf C) (depthsOf C t) (pointsOf C) (duesTo C t) stranger 0 = duesTo C t ++ [stranger] := by unfold rowTo; simp [ord]
theorem rowTo_8 (C : List Int) (t : Nat) : rowTo (placesOf C) (depthsOf C t) (pointsOf C) (duesTo C t) stranger 8 = duesTo C (t + 1) ++ [stranger] := by rw [duesTo_succ]; rfl
theorem points_len (changes : List Nat) (p0 : Nat) : ∀ n, (pointsGo changes p0 n).length = 2 ^ n
  | 0 => rfl
  | n + 1 => by unfold pointsGo; rw [List.length_append, List.length_map, points_len changes p0 n, Nat.pow_succ]; exact om196
inductive HeadOf : List V → List V → Prop
  | nil : HeadOf [] []
  | cons (x : V) (r xs ys : List V) : HeadOf xs ys → HeadOf (.list (x :: r) :: xs) (x :: ys)
theorem HeadOf.append {a b c d : List V} (h : HeadOf a b) (k : HeadOf c d) : HeadOf (a ++ c) (b ++ d) := by
  induction h with
  | nil => exact k
  | cons x r xs ys _ ih => exact .cons x r _ _ ih
theorem HeadOf.len {a b : List V} (h : HeadOf a b) : b.length = a.length := by
  induction h with
  | nil => rfl
  | cons x r xs ys _ ih => simp [ih]
theorem HeadOf.get {a b : List V} (h : HeadOf a b) : ∀ {i : Nat} {v w : V}, a[i]? = some v → b[i]? = some w → ∃ r, v = .list (w :: r) := by
  induction h with
  | nil => intro i v w h; cases h
  | cons x r xs ys _ ih =>
    intro i v w h1 h2
    cases i with
    | zero => cases h1; cases h2; exact ⟨r, rfl⟩
    | succ i => exact ih (by simpa using h1) (by simpa using h2)
theorem head_srt (C : List Int) (t : Nat) : HeadOf (srt C t) (srtK C t) := by
  unfold srt srtK
  induction ord (rkT C t) 8 with
  | nil => exact .nil
  | cons x r ih => exact .cons _ _ _ _ ih
theorem head_dues (C : List Int) : ∀ n, HeadOf (duesTo C n) (keysTo C n)
  | 0 => .nil
  | n + 1 => by rw [duesTo_succ, keysTo_succ]; exact (head_dues C n).append (head_srt C n)
theorem head_row (C : List Int) (n : Nat) : HeadOf (duesTo C n ++ [stranger]) (keysTo C n ++ [.list []]) := (head_dues C n).append (.cons _ _ _ _ .nil)
theorem dv_keys {C : List Int} (h : LawOk C) : ∀ n, n ≤ 2 → ∀ v ∈ keysTo C n, ∃ t, t < 2 ∧ ∃ p, v = .list (keyAt (placesOf C) (depthsOf C t) p)
  | 0, _, v, hv => by simp [keysTo] at hv
  | n + 1, hn, v, hv => by
    rw [keysTo_succ] at hv
    rcases List.mem_append.mp hv with hv | hv
    · exact dv_keys h n (by exact om62 hn) v hv
    · obtain ⟨t, _, rfl⟩ := List.mem_map.mp hv
      exact ⟨n, by exact om61 hn, _, rfl⟩
theorem dv_key {C : List Int} (h : LawOk C) {t : Nat} (ht : t < 2) (p m : Nat) : dv (m + 1) (.list (keyAt (placesOf C) (depthsOf C t) p)) = true :=
  dv_list_of fun v hv => ((h.places t ht).part p 3 (by exact om4) v hv).dv m
theorem dv_heads {C : List Int} (h : LawOk C) {n : Nat} (hn : n ≤ 2) (m : Nat) : ∀ v ∈ keysTo C n ++ [.list []], dv (m + 1) v = true := fun v hv => by
  rcases List.mem_append.mp hv with hv | hv
  · obtain ⟨t, ht, p, rfl⟩ := dv_keys h n hn v hv
    exact dv_key h ht p m
  · rw [List.mem_singleton.mp hv]; rfl
theorem dv_rows {C : List Int} (h : LawOk C) (m : Nat) : ∀ n, n ≤ 2 → ∀ v ∈ duesTo C n, dv (m + 2) v = true
  | 0, _, v, hv => by simp [duesTo] at hv
  | n + 1, hn, v, hv => by
    rw [duesTo_succ] at hv
    rcases List.mem_append.mp hv with hv | hv
    · exact dv_rows h m n (by exact om62 hn) v hv
    · obtain ⟨t, _, rfl⟩ := List.mem_map.mp hv
      exact dv_item (h.places n (by exact om61 hn)) _ _ _
end Mine
end
section
open PySem PySem.W PyProof.Rows PySem.Builtin.Str
namespace Mine
noncomputable def KFC (W : Wd) (k : Nat) (f : Value) (args : List V) (kw : List (Str × V)) (Q : V → Prop) : Prop :=
  ∀ (A : Around) (G : GM) (s : Shared) (vals kvals : List Value) (R : Result → Shared → Prop), AOk k A → At W A G s → Reps G vals args → Reps G kvals (kw.map (·.2)) →
    (∀ v val G' s', Q v → Aft W A (fun _ => False) G s G' s' → Rep G' val v → R (.ok (.ret val)) s') → codeK (model W.prog W.w) A (.call f ⟨vals, (kw.map (·.1)).zip kvals⟩) R s
theorem KFC_intro {W : Wd} {k : Nat} {a : Addr} {fd : FuncData} {name : Str} {scope : Scope} {body : List Stmt} {args : List V} {kw : List (Str × V)} {ρ₀ : List (Str × V)} {Q : V → Prop} (X : FnAt W a fd name scope body) (hlim : W.H0.NoLimit)
    (hb : ∀ G vals kvals, Reps G vals args → Reps G kvals (kw.map (·.2)) → ∃ bv, Binds W fd ⟨vals, (kw.map (·.1)).zip kvals⟩ bv ∧ bv.map (·.1) = ρ₀.map (·.1) ∧ Reps G (bv.map (·.2)) (ρ₀.map (·.2)))
    (hnd : (ρ₀.map (·.1)).Nodup) (hkind : ∀ x ∈ ρ₀.map (·.1), scope.names.lookup x = some .local ∨ (scope.names.lookup x = some .cell ∧ ∀ n, ((cellsFrom n scope.names []).lookup x).isSome = true))
    (h : ∀ L cd A h₀ G, FOk k (fx name scope L a cd A h₀ G (fun _ => False) []) → KEXS W (fx name scope L a cd A h₀ G (fun _ => False) []) (ρ₀.map fun p => (p.1, .val p.2)) body (fun _ => Q .none) fun v _ => Q v)
    (hco : scope.isCoroutine = false := by rfl) (hgen : scope.isGenerator = false := by rfl) (hk : scope.kind = .function := by rfl) :
    KFC W (k + 1) (.ref a) args kw Q := fun A G s vals kvals R hA h0 r r' hq => by
  obtain ⟨bv, hb1, hb2, hb3⟩ := hb G vals kvals r r'
  refine wp_enterK (ex := fun _ => False) (pin := []) X hlim hA h0 hb1 hb2 hb3 hnd hkind (fun L cd g s₁ F S hg hL hL0 hfs hk1 => ?_) hco hgen hk
  have fin : ∀ {v val ρ' g' s'}, Q v → g.le g' → Sim W (fx name scope L a cd (A.deeper (envOfC name scope L a cd)) s.heap.get? G (fun _ => False) []) ρ' g' s' → Rep g'.G val v → R (.ok (.ret val)) s' := fun {v val ρ' g' s'} q hG S' rr => by
    refine hq v val g'.G s' q ⟨⟨S'.gens, S'.os, S'.base, ?_, S'.fr, S'.glist⟩, ?_, S'.gin, S'.gnew⟩ rr
    · intro env henv
      obtain ⟨l, hl⟩ := hA.frames
      exact S'.frames env (by simp only [Around.deeper, hl, Option.map_some, Option.getD_some]; rw [hl] at henv; exact List.mem_cons_of_mem _ henv)
    · intro b o e
      obtain ⟨o', e', p⟩ := S'.keep b o e
      refine ⟨o', e', fun hx => ?_⟩
      obtain ⟨p1, p2⟩ := p hx
      refine ⟨fun hm => p1 fun hm' => ?_, p2⟩
      rw [show Fx.fs (fx name scope L a cd (A.deeper (envOfC name scope L a cd)) s.heap.get? G (fun _ => False) []) = fsOf (A.deeper (envOfC name scope L a cd)) from rfl, hfs] at hm'
      rcases List.mem_cons.mp hm' with rfl | hm'
      · rw [hL0] at e; cases e
      · exact hm hm'
  refine h L cd _ _ G F g s₁ _ _ S (fun ρ' g' s' q hG S' => ?_) fun v val ρ' g' s' q hG S' rr => ?_
  · exact fin q hG S' .none
  · exact fin q hG S' rr
theorem KFC_go {W : Wd} {k : Nat} {a : Addr} {fd : FuncData} {name : Str} {i : Nat} {args : List V} {kw : List (Str × V)} {ρ₀ : List (Str × V)} {Q : V → Prop} (ns : List Str) (X : FnAt W a fd name (scopeOf i) (bodyOf i)) (hlim : W.H0.NoLimit)
    (hb : ∀ G vals kvals, Reps G vals args → Reps G kvals (kw.map (·.2)) → ∃ bv, Binds W fd ⟨vals, (kw.map (·.1)).zip kvals⟩ bv ∧ bv.map (·.1) = ns ∧ Reps G (bv.map (·.2)) (ρ₀.map (·.2)))
    (h : ∀ L cd A h₀ G, FOk k (fx name (scopeOf i) L a cd A h₀ G (fun _ => False) []) → KEXS W (fx name (scopeOf i) L a cd A h₀ G (fun _ => False) []) (ρ₀.map fun p => (p.1, .val p.2)) (bodyOf i) (fun _ => Q .none) fun v _ => Q v)
    (hns : ρ₀.map (·.1) = ns := by rfl) (hnd : nodupB ns = true := by kernel_rfl) (hkind : kindsOk (scopeOf i) ns = true := by kernel_rfl)
    (hco : (scopeOf i).isCoroutine = false := by rfl) (hgen : (scopeOf i).isGenerator = false := by rfl) (hk : (scopeOf i).kind = .function := by rfl) :
    KFC W (k + 1) (.ref a) args kw Q := by
  subst hns
  exact KFC_intro X hlim hb (nodup_of hnd) (kinds_of hkind) h hco hgen hk
end Mine
end
section
open PySem PySem.W PyProof.Rows PySem.Builtin.Str
namespace Mine
section
variable {W : Wd} {ad : Str → Addr} {fd : Str → FuncData}
theorem fmod_nat64 (x : Int) (m : Nat) (hm : 0 < m) : x.fmod (m : Int) = (((x.fmod (m : Int)).toNat : Nat) : Int) := by
  have := fmod_lt x (m := (m : Int)) (by exact om67 hm)
  exact om41 this
theorem mod64 (x : Int) : (((x.fmod 64).toNat : Nat) : Int) = x.fmod 64 := (fmod_nat64 x 64 (by decide)).symm
theorem xor_and : ∀ a, a < 64 → ∀ b, b < 64 → (a ^^^ b) + 2 * (a &&& b) = a + b := by decide +kernel
theorem bxor_nat {a b : Nat} (ha : a < 64) (hb : b < 64) : Builtin.bitXor (a : Int) (b : Int) = ((a ^^^ b : Nat) : Int) := by
  rw [bitXor_and, band_nat]
  have := xor_and a ha b hb
  exact om442 this
theorem points_lt {changes : List Nat} (hc : ∀ x ∈ changes, x < 64) {p0 : Nat} (hp : p0 < 64) : ∀ n, ∀ x ∈ pointsGo changes p0 n, x < 64
  | 0, x, hx => by rw [List.mem_singleton.mp hx]; exact hp
  | n + 1, x, hx => by
    unfold pointsGo at hx
    rcases List.mem_append.mp hx with hx | hx
    · exact points_lt hc hp n x hx
    · obtain ⟨y, hy, rfl⟩ := List.mem_map.mp hx
      refine Nat.xor_lt_two_pow (n := 6) (points_lt hc hp n y hy) ?_
      rw [List.getD_eq_getElem?_getD]
      rcases Nat.lt_or_ge n changes.length with q | q
      · rw [List.getElem?_eq_getElem q]; exact hc _ (List.getElem_mem q)
      · rw [List.getElem?_eq_none q]; decide
theorem sum_cast : ∀ l : List Nat, (l.map fun (x : Nat) => (x : Int)).sum = ((l.sum : Nat) : Int)
  | [] => rfl
  | a :: l => by rw [List.map_cons, List.sum_cons, sum_cast l, List.sum_cons]; exact om337
theorem sExprCall {c : Fx} {ρ : Rho} {f : Expr} {args : List Expr} {kws : List Keyword} {p pos : Pos} {Qn : Rho → Prop} {Qr : V → Rho → Prop} (h : EVX W c ρ (.Call f args kws p) fun _ ρ' => Qn ρ') (hi : interactive c.env = false) : EX W c ρ (.Expr (.Call f args kws p) pos) Qn Qr :=
  @EX_Expr W c ρ _ _ _ _ h hi fun Q E s h => wpAny_Expr_any h hi rfl
theorem sum_le3 : ∀ {l : List Nat}, (∀ d ∈ l, d < 3) → l.sum ≤ 2 * l.length
  | [], _ => Nat.le_refl _
  | d :: l, h => by
    rw [List.sum_cons, List.length_cons]; exact omA7 (sum_le3 (l := l) fun d hd => h d (List.mem_cons_of_mem _ hd)) (h d List.mem_cons_self)
theorem cut_ord {r : Nat → Nat} {f : Nat → Bool} (hf : ∀ a b, r a ≤ r b → f b = true → f a = true) (lo : Nat) : Cut (fun i => f ((ord r 8).getD (i - lo) 0)) lo (lo + (ord r 8).countP f) (lo + 8) := by
  have hl := ord_len r 8
  have hc := List.countP_le_length (p := f) (l := ord r 8)
  have key : ∀ i, lo ≤ i → i < lo + 8 → f ((ord r 8).getD (i - lo) 0) = decide (i - lo < (ord r 8).countP f) := fun i h1 h2 => by
    have hlt : i - lo < (ord r 8).length := by exact om390 h2 hl
    exact count_cut (ord_mono (r := r) (n := 8) hf) (i := i - lo) (by rw [List.getD_eq_getElem?_getD, List.getElem?_eq_getElem hlt]; rfl)
  refine ⟨Nat.le_add_right _ _, by exact om414 hc hl, fun i h1 h2 => ?_, fun i h1 h2 => ?_⟩
  · dsimp only; rw [key i h1 (by exact om444 h2 hc hl)]; exact decide_eq_true (by exact om391 h2 h1)
  · dsimp only; rw [key i (by exact om371 h1) h2]; exact decide_eq_false (by exact om377 h1)
set_option maxHeartbeats 8000000 in
theorem fn_law (P : PwK W ad fd) {k : Nat} {script : List Int} (hs : script.length ≤ 63) (hL : LawOk (cellsOf script)) :
    KFC W (k + 5) (.ref (ad "law")) [.list (script.map .int)] [] (fun v => v = .bool true) := by
  refine KFC_go (ρ₀ := [("script", .list (script.map .int))]) ["script"] P.f_law.2 P.lim (fun G vals kvals r r' => ?_) (fun L cd A h₀ G F => ?_)
  · obtain ⟨v, rfl, r1⟩ := r.one
    cases r'
    exact ⟨_, P.b_law v, rfl, .cons r1 .nil⟩
  · have hcl := hL.len
    refine KEXS_consA ?_
    refine @sEx W _ _ _ _ _ _ _ _ F.toFK ?_ (stCell (by kernel_rfl)) (by kernel_rfl)
    refine @EV_Call W _ _ (k + 4) _ _ _ _ _ _ _ _ F P.f_cells.1 (by kernel_rfl) P.f_cells.2.isFn ?_ (by kernel_rfl) (by rfl) (by rfl) (by rfl) (by intro e r h; cases h; rfl)
    refine EVL_cons (EV_Name F.toFK (by rfl) (EVL_nil (EVK_nil ⟨rfl, CV_of_FN F (FN.mono (fn_cells P.toPwOk (k := k + 3) hs) fun v hv => ?_) (Nat.le_refl _)⟩)))
    have hv : v = .list ((cellsOf script).map .int) := hv
    subst hv
    generalize cellsOf script = C at hL hcl
    refine KEXS_consA ?_
    refine @cAssign W _ _ (k + 4) True _ _ _ _ _ _ _ _ _ _ _ _ [] F (freesOk_fx (by kernel_rfl)) (by kernel_rfl) (.nil _) (by kernel_rfl) (by kernel_rfl) (by intro _; rfl) ?_
    refine EVI_of F (EV.of_fresh (EVF_Slice (EVP_of (EV_Name F.toFK (by rfl) ⟨_, rfl, EV_int ⟨3, rfl, by decide, by rw [List.length_map, hcl, sizeLine_eq]; decide, _, rfl, ?_⟩⟩)) (fun _ _ => ⟨_, rfl⟩)))
    rw [show (3 : Int) = ((3 : Nat) : Int) from rfl, vslice_upto, ← List.map_take]
    refine cMap ((changesOf C).map fun (x : Nat) => .int (x : Int)) (by unfold changesOf; rw [List.length_map, List.length_map, List.length_map]) (by rw [List.length_map, List.length_take, sizeLine_eq]; exact om203) (fun j v w C' h₀' G₀' hv hw F' => ?_) ?_
    · obtain ⟨x, hx, rfl, _, _⟩ := map_get hv
      obtain ⟨y, hy, rfl, _, _⟩ := map_get hw
      obtain ⟨x', hx', rfl, _, _⟩ := map_get hy
      rw [hx] at hx'; cases hx'
      refine EV_BinOp (EV_Name F'.toFK (by rfl) (EV_int (OV_mod_int (by decide) ?_)))
      exact congrArg V.int (mod64 x).symm
    refine KEXS_consA ?_
    refine @cAssign W _ _ (k + 4) True _ _ _ _ _ _ _ _ _ _ _ _ [] F (freesOk_fx (by kernel_rfl)) (by kernel_rfl) (.nil _) (by kernel_rfl) (by kernel_rfl) (by intro _; rfl) ?_
    refine EVI_of F (EV.of_fresh (EVF_Slice (EVP_of (EV_Name F.toFK (by rfl) ⟨_, rfl, EV_int ⟨6, rfl, by decide, by rw [List.length_map, hcl, sizeLine_eq]; decide, _, rfl, ?_⟩⟩)) (fun _ _ => ⟨_, rfl⟩)))
    rw [show (6 : Int) = ((6 : Nat) : Int) from rfl, vslice_from, ← List.map_drop]
    refine cMap ((placesOf C).map fun l => .list (l.map letV)) (by unfold placesOf; rw [List.length_map, List.length_map, List.length_map]) (by rw [List.length_map, List.length_drop, sizeLine_eq]; exact om118 hcl) (fun j v w C' h₀' G₀' hv hw F' => ?_) ?_
    · obtain ⟨x, hx, rfl, _, _⟩ := map_get hv
      obtain ⟨y, hy, rfl, _, _⟩ := map_get hw
      obtain ⟨x', hx', rfl, _, _⟩ := map_get hy
      rw [hx] at hx'; cases hx'
      refine @EV_Call W _ _ (k + 4) _ _ _ _ _ _ _ _ F' P.f_letters.1 (by kernel_rfl) P.f_letters.2.isFn ?_ (by kernel_rfl) (by rfl) (by rfl) (by rfl) (by intro e r h; cases h; rfl)
      exact EVL_cons (EV_Name F'.toFK (by rfl) (EVL_nil (EVK_nil ⟨rfl, CV_of_FN F' (fn_letters P.toPwOk (k := k + 2)) (Nat.le_refl _)⟩)))
    refine KEXS_consA ?_
    refine @sEx W _ _ _ _ _ _ _ _ F.toFK ?_ (.inl (by kernel_rfl)) (by kernel_rfl)
    refine EV.of_fresh (EVF_List (EVL_cons (EV_BinOp (EV_Item (EVP_of (EV_Name F.toFK (by rfl) ⟨_, rfl, EV_int ⟨3, rfl, by decide, by decide, .int (C.getD 3 0), getmap V.int 0 (by rw [hcl]; decide), EV_int (OV_mod_int (by decide) (EVL_nil ⟨by show 1 ≤ _; rw [sizeLine_eq]; decide, ?_⟩))⟩⟩))))))
    refine KEXS_consA ?_
    refine @sFor W _ _ (k + 4) _ _ _ _ _ _ F ?_ (by intro _; rfl)
    refine EVI_of F (EV_Name F.toFK (by rfl) ⟨_, rfl, ?_⟩)
    have hmod64 : ∀ x : Int, (x.fmod 64).toNat < 64 := fun x => by
      have := fmod_lt x (m := 64) (by decide); exact om25 this
    have hch64 : ∀ x ∈ changesOf C, x < 64 := fun x hx => by
      obtain ⟨y, _, rfl⟩ := List.mem_map.mp hx
      exact hmod64 y
    have hp64 := hmod64 (C.getD 3 0)
    have hchl : (changesOf C).length = 3 := by unfold changesOf; rw [List.length_map, List.length_take, hcl]; rfl
    refine ⟨fun i => [("points", .val (natV (pointsGo (changesOf C) ((C.getD 3 0).fmod 64).toNat i))), ("places", .val (placesV (placesOf C))), ("changes", .val (natV (changesOf C))), ("cells", .val (.list (C.map .int)))], .put ?_ (.put (by rfl) (.put (by rfl) (.put (by rfl) (.nil _)))), ?_, ?_⟩
    · show some (Slot.val (V.list [V.int _])) = some (Slot.val (V.list [V.int _]))
      rw [mod64]
    · intro i x hx
      obtain ⟨ch, hch, rfl, htake, hi⟩ := map_get hx
      have hchd : (changesOf C).getD i 0 = ch := by rw [List.getD_eq_getElem?_getD, hch]; rfl
      have hi3 : i < 3 := by exact om259 hi hchl
      have hpl := points_len (changesOf C) ((C.getD 3 0).fmod 64).toNat i
      have hpow : 2 ^ i ≤ 4 := (show ∀ i, i < 3 → 2 ^ i ≤ 4 by decide) i hi3
      refine ASG_Name F (stCell (by kernel_rfl)) ?_
      refine EXS_cons ?_
      refine @sEx W _ _ _ _ _ _ _ _ F.toFK ?_ (.inl (by kernel_rfl)) (by kernel_rfl)
      refine EV.of_fresh (EVF_AddList (EVP_of (EV_Name F.toFK (by rfl) ⟨_, rfl, ?_⟩)))
      refine EVP_of (EV.of_fresh ?_)
      refine @cList W _ _ (k + 4) True _ _ _ _ _ _ _ _ [("change", .int (ch : Int))] F (freesOk_fx (by kernel_rfl)) (by kernel_rfl) (.put (by rfl) (.nil _)) ?_ (by intro _; rfl)
      refine EVI_of F (EV_Name F.toFK (by rfl) ⟨_, rfl, ?_⟩)
      refine cMap (((pointsGo (changesOf C) ((C.getD 3 0).fmod 64).toNat i).map fun p => p ^^^ ch).map fun (x : Nat) => .int (x : Int)) (by rw [List.length_map, List.length_map, List.length_map]) (by rw [List.length_map, hpl, sizeLine_eq]; exact om156 hpow) (fun j v w C' h₀' G₀' hv hw F' => ?_) ?_
      · obtain ⟨x, hx, rfl, _, _⟩ := map_get hv
        obtain ⟨y, hy, rfl, _, _⟩ := map_get hw
        obtain ⟨x', hx', rfl, _, _⟩ := map_get hy
        rw [hx] at hx'; cases hx'
        exact EV_BinOp (EV_Name F'.toFK (by rfl) (EV_Name F'.toFK (by rfl) (OV_xor_int (by rw [bxor_nat (points_lt hch64 hp64 i _ (List.mem_of_getElem? hx)) (hch64 ch (List.mem_of_getElem? hch))]))))
      · refine ⟨_, rfl, by rw [List.length_map, List.length_map, List.length_map, hpl, sizeLine_eq]; exact om155 hpow, ?_⟩
        refine EXS_nil (.put ?_ (.put (by rfl) (.put (by rfl) (.put (by rfl) (.nil _)))))
        show some _ = some _
        rw [← List.map_append]
        show _ = some (Slot.val (natV (pointsGo (changesOf C) ((C.getD 3 0).fmod 64).toNat i ++ (pointsGo (changesOf C) ((C.getD 3 0).fmod 64).toNat i).map fun p => p ^^^ (changesOf C).getD i 0)))
        rw [hchd]
    · intro ρ' hρ
      refine KEXS_sub hρ ?_
      rw [List.length_map, hchl]
      show KEXS W _ [("points", .val (natV (pointsOf C))), ("places", .val (placesV (placesOf C))), ("changes", .val (natV (changesOf C))), ("cells", .val (.list (C.map .int)))] _ _ _
      have hpo : (pointsOf C).length = 8 := points_len _ _ 3
      refine KEXS_consA ?_
      refine @sEx W _ _ _ _ _ _ _ _ F.toFK ?_ (.inl (by kernel_rfl)) (by kernel_rfl)
      refine @EV_Call W _ _ (k + 4) _ _ _ _ _ _ _ _ F P.f_costs.1 (by kernel_rfl) P.f_costs.2.isFn ?_ (by kernel_rfl) (by rfl) (by rfl) (by rfl) (by intro e r h; cases h; rfl)
      refine EVL_cons (EV_Name F.toFK (by rfl) (EVL_cons (EV_Name F.toFK (by rfl) (EVL_nil (EVK_nil ⟨rfl, CV_of_FN F (FN.mono (fn_costs P.toPwOk (k := k + 2) hch64 hchl (hL.places 0 (by decide)).pl (hL.places 0 (by decide)).ok) fun v hv => ?_) (Nat.le_refl _)⟩)))))
      subst hv
      refine KEXS_consA ?_
      refine @sOwn W _ _ (k + 4) _ _ _ _ _ _ F (EVF_List (EVL_cons ((EV_lit (n := 50)).1 (v := stranger) (by kernel_rfl) (EVL_nil ⟨by show 1 ≤ _; rw [sizeLine_eq]; decide, ?_⟩)) (by rfl))) (.inl (by kernel_rfl)) (by rfl) (by kernel_rfl)
      refine KEXS_consA ?_
      refine @sEx W _ _ _ _ _ _ _ _ F.toFK (EV.of_fresh (EVF_List (EVL_nil ⟨by decide, ?_⟩))) (.inl (by kernel_rfl)) (by kernel_rfl)
      refine KEXS_cons ?_
      refine @ksFor W _ _ (k + 4) _ _ _ _ _ _ F ?_ (by intro _; rfl)
      refine @EVI_range W _ _ (k + 4) _ _ _ _ _ F P.range_ (by kernel_rfl) (EV_int ⟨2, rfl, by rw [sizeLine_eq]; decide, ?_⟩) (by kernel_rfl) (by rfl)
      refine ⟨fun t => [("due", .val (.list (duesTo C t))), ("row", .own (duesTo C t ++ [stranger])), ("costs", .val (strssV (costsOf (changesOf C) (placesOf C)))), ("points", .val (natV (pointsOf C))), ("places", .val (placesV (placesOf C))), ("cells", .val (.list (C.map .int)))], .put (by rfl) (.put (by rfl) (.put (by rfl) (.put (by rfl) (.put (by rfl) (.put (by rfl) (.nil _)))))), ?_, ?_⟩
      · intro t x hx
        obtain ⟨ht, rfl⟩ := range_get hx
        have hpk := hL.places t ht
        refine ASG_Name F (stCell (by kernel_rfl)) ?_
        refine KEXS_consA ?_
        refine @cAssign W _ _ (k + 4) True _ _ _ _ _ _ _ _ _ _ _ _ [("cells", .list (C.map .int)), ("turn", .int (t : Int))] F (freesOk_fx (by kernel_rfl)) (by kernel_rfl) (.put (by rfl) (.put (by rfl) (.nil _))) (by kernel_rfl) (by kernel_rfl) (by intro _; rfl) ?_
        refine @EVI_range W _ _ (k + 4) _ _ _ _ _ F P.range_ (by kernel_rfl) (EV_int ⟨3, rfl, by rw [sizeLine_eq]; decide, ?_⟩) (by kernel_rfl) (by rfl)
        refine cMap ((depthsOf C t).map fun (x : Nat) => .int (x : Int)) (by rfl) (by show 3 ≤ _; rw [sizeLine_eq]; decide) (fun j v w C' h₀' G₀' hv hw F' => ?_) ?_
        · obtain ⟨hj, rfl⟩ := range_get hv
          obtain ⟨y, hy, rfl, _, _⟩ := map_get hw
          obtain ⟨j', hj', rfl, _, _⟩ := map_get hy
          rw [List.getElem?_range hj] at hj'; cases hj'
          refine EV_BinOp (EV_BinOp (EV_Item (EVP_of (EV_Name F'.toFK (by rfl) ⟨_, rfl, EV_BinOp (EV_int (EV_Name F'.toFK (by rfl) (OV_add_int ?_)))⟩))))
          refine ⟨(4 : Int) + (t : Int), rfl, by exact om182, by exact om90 ht, .int (C.getD (4 + t) 0), by rw [show ((4 : Int) + (t : Int)).toNat = 4 + t by exact om189]; exact getmap V.int 0 (by exact om251 ht hcl), ?_⟩
          refine EV_BinOp (EV_int (EV_Name F'.toFK (by rfl) (OV_pow_int (by exact om183) (by exact om97 hj) (by decide) ?_)))
          rw [Int.toNat_natCast]
          have h3 : ∀ j, j < 3 → ((3 : Int) ^ j ≠ 0 ∧ ((3 : Int) ^ j).natAbs.log2 < 9000) := by decide
          refine OV_fdiv_int (h3 j hj).1 (PyProof.noPylong_of_log2 (h3 j hj).2) (EV_int (OV_mod_int (by decide) ?_))
          have := fmod_lt ((C.getD (4 + t) 0).fdiv (3 ^ j)) (m := 3) (by decide)
          exact congrArg V.int (Int.toNat_of_nonneg this.1).symm
        refine KEXS_consA ?_
        refine @sEx W _ _ _ _ _ _ _ _ F.toFK (EV_BinOp (EV_int (EV_Name F.toFK (by rfl) (OV_mul_int (imul_small (by decide) (by exact om94 ht)) ?_)))) (.inl (by kernel_rfl)) (by kernel_rfl)
        rw [show (8 : Int) * (t : Int) = ((8 * t : Nat) : Int) by exact om176]
        refine KEXS_cons (kIfX (KETX_Not (KETX_value (fun _ => rfl) ?_)))
        refine @KEVX_CallM W _ _ (k + 4) _ _ _ _ _ _ _ _ _ _ (k + 4) _ F P.f_laid.1 (by kernel_rfl) P.f_laid.2.isFn (by rfl) (Nat.le_refl _) ?_ (by kernel_rfl) (by kernel_rfl) (by kernel_rfl) (by rfl) (by rfl) (by rfl) (by rfl)
        refine EVL_cons (EV_Name F.toFK (by rfl) (EVL_cons (EV_Name F.toFK (by rfl) (EVL_cons (EV_Name F.toFK (by rfl) (EVL_cons (EV_Name F.toFK (by rfl) (EVL_nil (EVK_nil ⟨rfl, ?_⟩)))))))))
        rw [← rowTo_0]
        have hlaid := fn_laid P (k := k) (str := stranger) (pre := duesTo C t) hpo hpk (by rw [duesTo_len]; exact om93 ht) (hL.turns t ht) (hL.pc t ht)
        rw [duesTo_len] at hlaid
        refine KFNm.mono hlaid fun v ys h => ?_
        obtain ⟨rfl, hys⟩ := h
        rw [rowTo_8] at hys
        subst hys
        refine TV_bool ?_
        simp only [Bool.not_true, Bool.false_eq_true, if_false]
        refine KEXS_nil ?_
        refine KEXS_of ?_
        refine EXS_cons ?_
        refine @sEx W _ _ _ _ _ _ _ _ F.toFK ?_ (.inl (by kernel_rfl)) (by kernel_rfl)
        refine EV.of_fresh (EVF_AddList (EVP_of (EV_Name F.toFK (by rfl) ⟨_, rfl, EVP_of ?_⟩)))
        refine @EV_Call W _ _ (k + 4) _ _ _ _ _ _ _ _ F P.f_due.1 (by kernel_rfl) P.f_due.2.isFn ?_ (by kernel_rfl) (by rfl) (by rfl) (by rfl) (by intro e r h; cases h; rfl)
        refine EVL_cons (EV_Name F.toFK (by rfl) (EVL_cons (EV_Name F.toFK (by rfl) (EVL_cons (EV_Name F.toFK (by rfl) (EVL_nil (EVK_nil ⟨rfl, CV_of_FN F (FN.mono (fn_due P.toPwOk (k := k + 3) hpo hpk) fun v hv => ?_) (Nat.le_refl _)⟩)))))))
        have hv : v = .list (srt C t) := hv
        subst hv
        refine ⟨_, rfl, by rw [duesTo_len, srt_len, sizeLine_eq]; exact om92 ht, ?_⟩
        rw [← duesTo_succ]
        have hdl := hpk.dl
        refine EXS_cons ?_
        refine @sEx W _ _ _ _ _ _ _ _ F.toFK ?_ (stCell (by kernel_rfl)) (by kernel_rfl)
        refine EV.of_fresh (@cList W _ _ (k + 4) True _ _ _ _ _ _ _ _ [] F (freesOk_fx (by kernel_rfl)) (by kernel_rfl) (.nil _) ?_ (by intro _; rfl))
        refine EVI_of F (EV_Name F.toFK (by rfl) ⟨_, rfl, ?_⟩)
        refine cMap ((withinOf (depthsOf C t)).map strsV) (by unfold withinOf; rw [List.length_map, List.length_map, List.length_map]) (by rw [List.length_map, hdl, sizeLine_eq]; decide) (fun j v w C' h₀' G₀' hv hw F' => ?_) ?_
        · obtain ⟨d, hd, rfl, _, _⟩ := map_get hv
          obtain ⟨y, hy, rfl, _, _⟩ := map_get hw
          obtain ⟨d', hd', rfl, _, _⟩ := map_get hy
          rw [hd] at hd'; cases hd'
          refine EV.of_fresh (EVF_Slice (EVP_of ((EV_lit (n := 50)).1 (v := strsV ["00", "11", "22"]) (by kernel_rfl) ⟨_, rfl, ?_⟩)) (fun _ _ => ⟨_, rfl⟩))
          refine EV_BinOp (EV_Name F'.toFK (by rfl) (EV_int (OV_add_int ⟨_, rfl, by decide, by show 3 ≤ _; rw [sizeLine_eq]; decide, ?_⟩)))
          rw [show (d : Int) + 1 = ((d + 1 : Nat) : Int) by exact om170, vslice_upto, ← List.map_take]
        refine EXS_cons ?_
        refine @cAssign2 W _ _ (k + 4) True _ _ _ _ _ _ _ _ _ _ _ _ [("within", .list ((withinOf (depthsOf C t)).map strsV))] F (freesOk_fx (by kernel_rfl)) (by kernel_rfl) (.inr ⟨by kernel_rfl, fun _ => rfl, fun _ => rfl⟩) (.put (by rfl) (.nil _)) (by kernel_rfl) (by kernel_rfl) (by intro _; rfl) ?_
        refine EVI_of F (EV_Name F.toFK (by rfl) ⟨_, rfl, ?_⟩)
        have hcl64 : (costsOf (changesOf C) (placesOf C)).length ≤ 64 := by
          unfold costsOf
          rw [List.length_map]
          have := List.length_filter_le (perp (changesOf C)) (List.range 64)
          rw [List.length_range] at this; exact this
        refine cFilter (f := strsV) (nearB (depthsOf C t)) (by rw [sizeLine_eq]; exact om161 hcl64) (fun u C' h₀' G₀' hu F' => ?_) strsV (fun u C' h₀' G₀' hu F' => EV_Name F'.toFK (by rfl) rfl) ?_
        · have hu3 : u.length = 3 := by
            unfold costsOf at hu
            obtain ⟨w, _, rfl⟩ := List.mem_map.mp hu
            rfl
          refine ET_Compare (by rfl) (EV.of_fresh ?_)
          refine @cList W _ _ (k + 4) True _ _ _ _ _ _ _ _ [("told", strsV u), ("within", .list ((withinOf (depthsOf C t)).map strsV))] F' (freesOk_all (by kernel_rfl)) (by kernel_rfl) (.put (by rfl) (.put (by rfl) (.nil _))) ?_ (by intro _; rfl)
          refine @EVI_range W _ _ (k + 4) _ _ _ _ _ F' P.range_ (by kernel_rfl) (EV_int ⟨3, rfl, by rw [sizeLine_eq]; decide, ?_⟩) (by kernel_rfl) (by rfl)
          refine cFilter (f := fun (x : Nat) => V.int (x : Int)) (fun i => !((withinOf (depthsOf C t)).getD i []).contains (u.getD i "")) (by show 3 ≤ _; rw [sizeLine_eq]; decide) (fun i C'' h₀'' G₀'' hi F'' => ?_) (fun (x : Nat) => V.int (x : Int)) (fun i C'' h₀'' G₀'' hi F'' => EV_Name F''.toFK (by rfl) rfl) ?_
          · have hi : i < 3 := by simpa using hi
            have hwl : (withinOf (depthsOf C t)).length = 3 := by unfold withinOf; rw [List.length_map]; exact hdl
            refine ET_Compare (by rfl) ?_
            refine EV_Item (EVP_of (EV_Name F''.toFK (by rfl) ⟨_, rfl, EV_Name F''.toFK (by rfl) ⟨(i : Int), rfl, by exact om183, by exact om96 hi, .str (u.getD i ""), getmap V.str "" (by exact om255 hi hu3), ?_⟩⟩))
            refine EV_Item (EVP_of (EV_Name F''.toFK (by rfl) ⟨_, rfl, EV_Name F''.toFK (by rfl) ⟨(i : Int), rfl, by exact om183, by exact om96 hi, strsV ((withinOf (depthsOf C t)).getD i []), getmap strsV [] (by exact om255 hi hwl), ?_⟩⟩))
            refine OV_notIn_list F'' (by rfl) (by intro y hy; obtain ⟨z, _, rfl⟩ := List.mem_map.mp hy; rfl) (TV_bool ?_)
            rw [any_strs]
          · refine EV.of_fresh (EVF_List (EVL_nil ⟨by decide, ?_⟩))
            refine OV_eq_list F' ?_ (by rfl) (TV_bool ?_)
            · exact dv_list_of fun v hv => by obtain ⟨y, _, rfl⟩ := List.mem_map.mp hv; rfl
            · rw [veq_nil, List.isEmpty_map]; rfl
        refine EXS_cons ?_
        refine @cAssign W _ _ (k + 4) False _ _ _ _ _ _ _ _ _ _ _ _ [] F (freesOk_fx (by kernel_rfl)) (by kernel_rfl) (.nil _) (by kernel_rfl) (by kernel_rfl) (by intro _; rfl) ?_
        refine EVI_own F (xs := duesTo C (t + 1) ++ [stranger]) (by rfl) ?_
        have hH := head_row C (t + 1)
        have hHl : (keysTo C (t + 1) ++ [V.list []]).length = 8 * (t + 1) + 1 := by rw [List.length_append, keysTo_len]; rfl
        refine cMap (keysTo C (t + 1) ++ [.list []]) hH.len (by rw [List.length_append, duesTo_len, sizeLine_eq]; show 8 * (t + 1) + 1 ≤ _; exact om91 ht) (fun j v w C' h₀' G₀' hv hw F' => ?_) ?_
        · obtain ⟨r, rfl⟩ := hH.get hv hw
          exact EV_Item (EVP_of (EV_Name F'.toFK (by rfl) ⟨_, rfl, EV_int ⟨0, rfl, by decide, by decide, _, rfl, rfl⟩⟩))
        generalize hHH : keysTo C (t + 1) ++ [V.list []] = H at hHl
        have hdv : ∀ m, ∀ v ∈ H, dv (m + 1) v = true := fun m => hHH ▸ dv_heads hL (n := t + 1) (by exact om95 ht) m
        have hHg : ∀ j, j < 8 → H[8 * t + j]? = some (.list (keyAt (placesOf C) (depthsOf C t) ((pointsOf C).getD ((ord (rkT C t) 8).getD j 0) 0))) := fun j hj => by
          rw [← hHH, keysTo_succ, List.append_assoc, List.getElem?_append_right (by rw [keysTo_len]; exact om343), keysTo_len, Nat.add_sub_cancel_left, List.getElem?_append_left (by rw [srtK_len]; exact hj)]
          exact getmap _ 0 (by rw [ord_len]; exact hj)
        have hHs : H.length ≤ sizeLine := by rw [hHl, sizeLine_eq]; exact om91 ht
        have hst8 : ((8 * t : Nat) : Int) + 8 = ((8 * t + 8 : Nat) : Int) := by exact om166
        refine EXS_cons ?_
        refine @sFor W _ _ (k + 4) _ _ _ _ _ _ F ?_ (by intro _; rfl)
        refine EVI_of F (EV.of_fresh (EVF_Slice (EVP_of (EV_Name F.toFK (by rfl) ⟨_, rfl, ?_⟩)) (fun _ _ => ⟨_, rfl⟩)))
        refine EV_Name F.toFK (by rfl) ⟨_, rfl, EV_BinOp (EV_Name F.toFK (by rfl) (EV_int (OV_add_int ⟨_, rfl, by decide, hHs, _, rfl, ?_⟩)))⟩
        rw [hst8, vslice_mid _ _ _ (by exact om185) (by exact om310 hHl)]
        refine ⟨fun _ => [("heads", .val (.list H)), ("near", .val (strssV (nearOf C t))), ("due", .val (.list (duesTo C (t + 1)))), ("row", .own (duesTo C (t + 1) ++ [stranger])), ("start", .val (.int ((8 * t : Nat) : Int))), ("depths", .val (natV (depthsOf C t))), ("turn", .val (.int (t : Int))), ("costs", .val (strssV (costsOf (changesOf C) (placesOf C)))), ("points", .val (natV (pointsOf C))), ("places", .val (placesV (placesOf C))), ("cells", .val (.list (C.map .int)))], ?_, ?_, ?_⟩
        · exact .put (by rfl) (.put (by rfl) (.put (by rfl) (.put (by rfl) (.put (by rfl) (.put (by rfl) (.put (by rfl) (.put (by rfl) (.put (by rfl) (.put (by rfl) (.put (by rfl) (.nil _)))))))))))
        · intro i x hx
          have hi : i < 8 := by
            rcases Nat.lt_or_ge i 8 with q | q
            · exact q
            · rw [List.getElem?_eq_none (by rw [List.length_take]; exact om427 q)] at hx; cases hx
          have hxk : H[8 * t + i]? = some x := by
            rw [List.getElem?_take, if_pos (by exact om258 hi), List.getElem?_drop] at hx; exact hx
          have hxe := hHg i hi
          rw [hxk] at hxe
          injection hxe with hxe
          generalize hu : (ord (rkT C t) 8).getD i 0 = u at hxe
          have hu8 : u < 8 := by
            have hlt : i < (ord (rkT C t) 8).length := by rw [ord_len]; exact hi
            rw [List.getD_eq_getElem?_getD, List.getElem?_eq_getElem hlt] at hu
            have hu' : (ord (rkT C t) 8)[i] = u := hu
            rw [← hu']; exact ord_mem (List.getElem_mem hlt)
          have hdx : dv 60 x = true := by rw [hxe]; exact dv_key hL ht _ 59
          have hlk : ∀ i, 8 * t ≤ i → i < 8 * t + 8 → H[i]? = some (.list (keyAt (placesOf C) (depthsOf C t) ((pointsOf C).getD ((ord (rkT C t) 8).getD (i - 8 * t) 0) 0))) := fun i h1 h2 => by
            have := hHg (i - 8 * t) (by exact om245 h2)
            rwa [show 8 * t + (i - 8 * t) = i by exact om224 h1] at this
          have hR := cut_ord (r := rkT C t) (f := fun v => decide (rkT C t v ≤ rkT C t u)) (fun a b h1 h2 => by simp only [decide_eq_true_eq] at h2 ⊢; exact om406 h1 h2) (8 * t)
          have hLc := cut_ord (r := rkT C t) (f := fun v => decide (rkT C t v < rkT C t u)) (fun a b h1 h2 => by simp only [decide_eq_true_eq] at h2 ⊢; exact om405 h1 h2) (8 * t)
          rw [ord_count] at hR hLc
          refine ASG_Name F (.inl (by kernel_rfl)) ?_
          refine EXS_cons ?_
          refine @sEx W _ _ _ _ _ _ _ _ F.toFK ?_ (.inl (by kernel_rfl)) (by kernel_rfl)
          refine EV_BinOp ?_
          refine @EV_Call W _ _ (k + 4) _ _ _ _ _ _ _ _ F P.f_right.1 (by kernel_rfl) P.f_right.2.isFn ?_ (by kernel_rfl) (by rfl) (by rfl) (by rfl) (by intro e r h; cases h; rfl)
          refine EVL_cons (EV_Name F.toFK (by rfl) (EVL_cons (EV_Name F.toFK (by rfl) (EVL_cons (EV_Name F.toFK (by rfl) ?_)))))
          refine EVL_cons (EV_BinOp (EV_Name F.toFK (by rfl) (EV_int (OV_add_int (EVL_nil (EVK_nil ⟨rfl, ?_⟩)))))) (by rfl)
          rw [hst8]
          refine CV_of_FN F (FN.mono (fn_right P.toPwOk (k := k + 3) (by exact om310 hHl) (by exact om273 hHl ht) hdx (fun j h1 h2 => ⟨_, hlk j h1 h2, dv_key hL ht _ 59, ?_⟩) hR) fun v hv => ?_) (Nat.le_refl _)
          · rw [hxe]
            refine LtV_cast (hL.pc t ht _ _).lt ?_
            rw [← decide_not, decide_eq_decide]
            exact Nat.not_le.symm
          subst hv
          refine @EV_Call W _ _ (k + 4) _ _ _ _ _ _ _ _ F P.f_left.1 (by kernel_rfl) P.f_left.2.isFn ?_ (by kernel_rfl) (by rfl) (by rfl) (by rfl) (by intro e r h; cases h; rfl)
          refine EVL_cons (EV_Name F.toFK (by rfl) (EVL_cons (EV_Name F.toFK (by rfl) (EVL_cons (EV_Name F.toFK (by rfl) ?_)))))
          refine EVL_cons (EV_BinOp (EV_Name F.toFK (by rfl) (EV_int (OV_add_int (EVL_nil (EVK_nil ⟨rfl, ?_⟩)))))) (by rfl)
          rw [hst8]
          refine CV_of_FN F (FN.mono (fn_left P.toPwOk (k := k + 3) (by exact om310 hHl) (by exact om273 hHl ht) hdx (fun j h1 h2 => ⟨_, hlk j h1 h2, dv_key hL ht _ 59, ?_⟩) hLc) fun v hv => ?_) (Nat.le_refl _)
          · rw [hxe]
            exact (hL.pc t ht _ _).lt
          subst hv
          refine OV_sub_int ?_
          have hcnt := count_le_split (rkT C t) (rkT C t u) (List.range 8)
          have hc8 : (List.range 8).countP (fun v => rkT C t v == rkT C t u) ≤ 8 := by
            have := List.countP_le_length (p := fun v => rkT C t v == rkT C t u) (l := List.range 8); rwa [List.length_range] at this
          have hdual := hL.dual t ht u hu8
          have hsub : ((8 * t + (List.range 8).countP fun v => decide (rkT C t v ≤ rkT C t u) : Nat) : Int) - ((8 * t + (List.range 8).countP fun v => decide (rkT C t v < rkT C t u) : Nat) : Int) = (((List.range 8).countP fun v => rkT C t v == rkT C t u : Nat) : Int) := by exact om458 hcnt
          rw [hsub]
          generalize (List.range 8).countP (fun v => rkT C t v == rkT C t u) = cnt at hc8 hdual
          have hds : (depthsOf C t).sum ≤ 6 := by
            have := sum_le3 hpk.d3; exact om288 this hdl
          refine EXS_cons ?_
          refine EX_If (ET_Compare (by rfl) (EV_BinOp (EV_Name F.toFK (by rfl) (EV_BinOp (EV_int ?_)))))
          refine @EV_Call W _ _ (k + 4) _ _ _ _ _ _ _ _ F P.sum_ (by kernel_rfl) (.inr (.inl ⟨_, rfl⟩)) ?_ (by kernel_rfl) (by rfl) (by rfl) (by rfl) (by intro e r h; cases h; rfl)
          refine EVL_cons (EV_Name F.toFK (by rfl) (EVL_nil (EVK_nil ⟨rfl, ?_⟩)))
          rw [show natV (depthsOf C t) = .list (((depthsOf C t).map fun (x : Nat) => (x : Int)).map V.int) by rw [List.map_map]; rfl]
          refine CV_sum F ?_
          rw [sum_cast]
          refine OV_pow_int (Int.natCast_nonneg _) (by exact om158 hds) (by decide) ?_
          rw [Int.toNat_natCast]
          have hnl : (nearOf C t).length ≤ 64 := by
            unfold nearOf
            exact Nat.le_trans (List.length_filter_le _ _) hcl64
          have hp64 : 2 ^ (depthsOf C t).sum ≤ 64 := Nat.le_trans (Nat.pow_le_pow_right (by decide) hds) (by decide)
          have hpc : ((2 : Int) ^ (depthsOf C t).sum) = ((2 ^ (depthsOf C t).sum : Nat) : Int) := by norm_cast
          rw [hpc]
          generalize 2 ^ (depthsOf C t).sum = pw at hp64 hdual
          refine OV_mul_int (imul_small (by exact om163 hc8) (by exact om160 hp64)) ?_
          refine EV_BinOp (EV_int ?_)
          refine @EV_len W _ _ (k + 4) _ _ _ _ _ F P.len_ (by kernel_rfl) (EVP_of (EV_Name F.toFK (by rfl) ⟨_, rfl, by rw [List.length_map, sizeLine_eq]; exact om161 hnl, ?_⟩)) (by kernel_rfl) (by rfl)
          rw [List.length_map]
          refine OV_mul_int (imul_small (by decide) (by exact om160 hnl)) (OV_ne_int (TV_bool ?_))
          have heq : (((cnt : Nat) : Int) * ((pw : Nat) : Int) != 8 * (((nearOf C t).length : Nat) : Int)) = false := by
            rw [← Int.natCast_mul, hdual]
            simp
          rw [heq]
          simp only [Bool.false_eq_true, if_false]
          refine EXS_nil (EXS_nil ?_)
          exact .put (by rfl) (.put (by rfl) (.put (by rfl) (.put (by rfl) (.put (by rfl) (.put (by rfl) (.put (by rfl) (.put (by rfl) (.put (by rfl) (.put (by rfl) (.put (by rfl) (.nil _)))))))))))
        · intro ρ' hρ
          refine EXS_sub hρ ?_
          refine EXS_cons ?_
          refine @sOwn W _ _ (k + 4) _ _ _ _ _ _ F (@EVF_list W _ _ (k + 4) _ _ _ _ _ F P.list_ (by kernel_rfl) (EVP_of (EV_Name F.toFK (by rfl) ⟨_, rfl, hHs, ?_⟩)) (by kernel_rfl) (by rfl)) (.inl (by kernel_rfl)) (by rfl) (by kernel_rfl)
          refine EXS_cons ?_
          refine @sExprCall W _ _ _ _ _ _ _ _ _ ?_ (by rfl)
          refine @EVX_CallM W _ _ (k + 4) _ _ _ _ _ _ _ _ _ _ (k + 4) _ F P.f_ins.1 (by kernel_rfl) P.f_ins.2.isFn (by rfl) (Nat.le_refl _) ?_ (by kernel_rfl) (by kernel_rfl) (by kernel_rfl) (by rfl) (by rfl) (by rfl) (by rfl)
          refine EVL_cons ((EV_lit (n := 50)).1 (v := .list [.int 300]) (by kernel_rfl) (EVL_cons (EV_Name F.toFK (by rfl) ?_))) (by rfl)
          refine EVL_cons (EV_BinOp (EV_Name F.toFK (by rfl) (EV_int (OV_add_int (EVL_nil (EVK_nil ⟨rfl, ?_⟩)))))) (by rfl)
          rw [hst8]
          have hlk : ∀ i, 8 * t ≤ i → i < 8 * t + 8 → H[i]? = some (.list (keyAt (placesOf C) (depthsOf C t) ((pointsOf C).getD ((ord (rkT C t) 8).getD (i - 8 * t) 0) 0))) := fun i h1 h2 => by
            have := hHg (i - 8 * t) (by exact om245 h2)
            rwa [show 8 * t + (i - 8 * t) = i by exact om224 h1] at this
          refine FNm.mono (fnm_ins P.toPwOk (k := k + 2) (m := 8 * t + 8) (p := fun _ => true) (by exact om310 hHl) (by exact om273 hHl ht) (by rfl) (fun j h1 h2 => ⟨_, hlk j h1 h2, dv_key hL ht _ 59, key_lt_300 _ _ _⟩) ⟨by exact om185, Nat.le_refl _, fun _ _ _ => rfl, fun i h1 h2 => by exact (om218 h1 h2).elim⟩) fun v ys h => ?_
          obtain ⟨_, rfl⟩ := h
          have hA : (H.take (8 * t + 8) ++ V.list [V.int 300] :: H.drop (8 * t + 8)).length = 8 * (t + 1) + 2 := by
            rw [List.length_append, List.length_cons, List.length_take, List.length_drop, hHl]; exact om177
          have hAl : ∀ i, 8 * t ≤ i → i < 8 * t + 9 → ∃ ys, (H.take (8 * t + 8) ++ V.list [V.int 300] :: H.drop (8 * t + 8))[i]? = some (.list ys) ∧ dv 60 (.list ys) = true := fun i h1 h2 => by
            rcases Nat.lt_or_ge i (8 * t + 8) with q | q
            · refine ⟨_, by rw [List.getElem?_append_left (by rw [List.length_take]; exact om386 q hHl), List.getElem?_take, if_pos q]; exact hlk i h1 q, dv_key hL ht _ 59⟩
            · obtain rfl : i = 8 * t + 8 := by exact om246 h2 q
              refine ⟨[.int 300], ?_, by rfl⟩
              rw [List.getElem?_append_right (by rw [List.length_take]; exact om347), List.length_take, hHl, Nat.min_eq_left (by exact om175), Nat.sub_self]; rfl
          have hst9 : ((8 * t : Nat) : Int) + 9 = ((8 * t + 9 : Nat) : Int) := by exact om167
          refine EXS_cons ?_
          refine @sExprCall W _ _ _ _ _ _ _ _ _ ?_ (by rfl)
          refine @EVX_CallM W _ _ (k + 4) _ _ _ _ _ _ _ _ _ _ (k + 4) _ F P.f_ins.1 (by kernel_rfl) P.f_ins.2.isFn (by rfl) (Nat.le_refl _) ?_ (by kernel_rfl) (by kernel_rfl) (by kernel_rfl) (by rfl) (by rfl) (by rfl) (by rfl)
          refine EVL_cons ((EV_lit (n := 50)).1 (v := .list []) (by kernel_rfl) (EVL_cons (EV_Name F.toFK (by rfl) ?_))) (by rfl)
          refine EVL_cons (EV_BinOp (EV_Name F.toFK (by rfl) (EV_int (OV_add_int (EVL_nil (EVK_nil ⟨rfl, ?_⟩)))))) (by rfl)
          rw [hst9]
          refine FNm.mono (fnm_ins P.toPwOk (k := k + 2) (m := 8 * t) (p := fun _ => false) (by exact om311 hA) (by exact om274 hA ht) (by rfl) (fun j h1 h2 => ?_) ⟨Nat.le_refl _, by exact om186, fun i h1 h2 => by exact (om223 h1 h2).elim, fun _ _ _ => rfl⟩) fun v ys h => ?_
          · obtain ⟨ys, h3, h4⟩ := hAl j h1 h2
            exact ⟨_, h3, h4, not_lt_nil _⟩
          obtain ⟨_, hys⟩ := h
          have hys2 : ys = H.take (8 * t) ++ [V.list []] ++ ((H.drop (8 * t)).take (8 * t + 8 - 8 * t)) ++ [V.list [V.int 300]] ++ H.drop (8 * t + 8) := by
            rw [hys]
            have e1 : (H.take (8 * t + 8)).length = 8 * t + 8 := by rw [List.length_take, hHl]; exact om200
            rw [List.take_append_of_le_length (by exact om312 e1), List.drop_append_of_le_length (by exact om312 e1), List.take_take, Nat.min_eq_left (by exact om185), List.drop_take]
            simp
          clear hys
          have hyl : ys.length ≤ 100 := by
            rw [hys2]
            simp only [List.length_append, List.length_take, List.length_drop, List.length_cons, List.length_nil, hHl]; exact om89 ht
          have hyd : dv 60 (.list ys) = true := dv_list_of fun v hv => by
            rw [hys2] at hv
            simp only [List.mem_append, List.mem_singleton] at hv
            rcases hv with (((hv | rfl) | hv) | rfl) | hv
            · exact hdv 58 v (List.mem_of_mem_take hv)
            · rfl
            · exact hdv 58 v (List.mem_of_mem_drop (List.mem_of_mem_take hv))
            · rfl
            · exact hdv 58 v (List.mem_of_mem_drop hv)
          refine EXS_freeze (x := "again") (by rfl) (by rfl) ?_
          refine EXS_cons ?_
          refine EX_If (ET_Compare (by rfl) (EV_Name F.toFK (by rfl) ?_))
          refine EV.of_fresh (EVF_AddList ?_)
          refine EVP_of (EV.of_fresh (EVF_AddList ?_))
          refine EVP_of (EV.of_fresh (EVF_AddList ?_))
          refine EVP_of (EV.of_fresh (EVF_AddList ?_))
          refine EVP_of (EV.of_fresh (EVF_Slice (EVP_of (EV_Name F.toFK (by rfl) ⟨_, rfl, EV_Name F.toFK (by rfl) ⟨_, rfl, by decide, hHs, _, rfl, ?_⟩⟩)) (fun _ _ => ⟨_, rfl⟩)))
          rw [vslice_upto]
          refine EVP_of ((EV_lit (n := 50)).1 (v := .list [.list []]) (by kernel_rfl) ⟨_, rfl, ?_, _, rfl, ?_⟩)
          · rw [List.length_take, sizeLine_eq]; show _ + 1 ≤ _; exact om254 ht
          refine EVP_of (EV.of_fresh (EVF_Slice (EVP_of (EV_Name F.toFK (by rfl) ⟨_, rfl, EV_Name F.toFK (by rfl) ⟨_, rfl, EV_BinOp (EV_Name F.toFK (by rfl) (EV_int (OV_add_int ⟨_, rfl, by decide, hHs, _, rfl, ?_⟩)))⟩⟩)) (fun _ _ => ⟨_, rfl⟩)))
          rw [hst8, vslice_mid _ _ _ (by exact om185) (by exact om310 hHl)]
          refine ⟨?_, _, rfl, ?_⟩
          · simp only [List.length_append, List.length_take, List.length_drop, List.length_cons, List.length_nil, sizeLine_eq]; exact om253 ht
          refine EVP_of ((EV_lit (n := 50)).1 (v := .list [.list [.int 300]]) (by kernel_rfl) ⟨_, rfl, ?_, _, rfl, ?_⟩)
          · simp only [List.length_append, List.length_take, List.length_drop, List.length_cons, List.length_nil, sizeLine_eq]; exact om252 ht
          refine EVP_of (EV.of_fresh (EVF_Slice (EVP_of (EV_Name F.toFK (by rfl) ⟨_, rfl, EV_BinOp (EV_Name F.toFK (by rfl) (EV_int (OV_add_int ⟨_, rfl, by decide, hHs, _, rfl, ?_⟩)))⟩)) (fun _ _ => ⟨_, rfl⟩)))
          rw [hst8, vslice_from]
          refine ⟨?_, ?_⟩
          · simp only [List.length_append, List.length_take, List.length_drop, List.length_cons, List.length_nil, sizeLine_eq]; exact om250 ht hHl
          rw [← hys2]
          refine OV_ne_list F hyd hyd (TV_bool ?_)
          rw [veq_true rfl]
          simp only [Bool.not_true, Bool.false_eq_true, if_false]
          refine EXS_nil (EXS_nil ?_)
          exact .put (by rfl) (.put (by rfl) (.put (by rfl) (.put (by rfl) (.put (by rfl) (.put (by rfl) (.nil _))))))
      · intro ρ' hρ
        refine KEXS_sub hρ ?_
        rw [List.length_map, List.length_range]
        dsimp only
        refine KEXS_freeze (x := "row") (by rfl) (by rfl) ?_
        refine KEXS_of (EXS_cons (EX_Return (EV_Compare (by rfl) (EV_Name F.toFK (by rfl) ?_))))
        refine EV.of_fresh (EVF_AddList (EVP_of (EV_Name F.toFK (by rfl) ⟨_, rfl, EVP_of ((EV_lit (n := 50)).1 (v := .list [stranger]) (by kernel_rfl) ⟨_, rfl, ?_, ?_⟩)⟩)))
        · rw [duesTo_len, sizeLine_eq]; show 8 * 2 + 1 ≤ _; decide
        have hdv : dv 60 (.list (duesTo C 2 ++ [stranger])) = true := dv_list_of fun v hv => by
          rcases List.mem_append.mp hv with hv | hv
          · exact dv_rows hL 57 2 (by decide) v hv
          · rw [List.mem_singleton.mp hv]; rfl
        refine OV_eq_list F hdv hdv ?_
        rw [veq_true rfl]
end
end Mine
end
section
open PySem PySem.W PyProof.Rows PySem.Builtin.Str
namespace Mine
noncomputable def adList : List (Str × Addr) := [("_comparable_version", 44), ("_norm_version", 52), ("bisect_right", 61), ("insort_left", 70), ("bisect_left", 79), ("_substitution_cost", 86), ("_law_pairs", 93), ("_law_cells", 100), ("_law_letters", 107), ("_law_first", 114), ("_law_normed", 121), ("_law_laid", 126), ("_law_due", 131), ("_law_costs", 136), ("law", 141)]
noncomputable def adOf (n : Str) : Addr := (adList.lookup n).getD 0
noncomputable def fdIn (K : Frag) (a : Addr) : FuncData := match K.lookup a with
  | some ⟨_, _, .func fd, _⟩ => fd
  | _ => default
noncomputable def fnThere (K : Frag) (a : Addr) : Bool := match K.lookup a with
  | some ⟨_, _, .func fd, _⟩ => true
  | _ => false
theorem fnThere_out {K : Frag} {a : Addr} (h : fnThere K a = true) : ∃ o, K.lookup a = some o ∧ o.data = .func (fdIn K a) := by
  unfold fnThere at h
  unfold fdIn
  generalize K.lookup a = z at h ⊢
  split at h
  · exact ⟨_, rfl, rfl⟩
  · cases h
noncomputable def cdOk (K : Frag) (cd : Value) (q : Str) : Bool := match cd with
  | .ref c => (match K.lookup c with
    | some ⟨_, _, Data.fields vs, _⟩ => (match vs[1]? with | some (Value.str x _) => x == q | _ => false)
    | _ => false)
  | _ => false
theorem cdOk_out {K : Frag} {h : Heap} (X : K.In h) {cd : Value} {q : Str} (e : cdOk K cd q = true) : h.CodeRec cd q := by
  unfold cdOk at e
  cases cd with
  | ref c =>
    dsimp only at e
    cases hk : K.lookup c with
    | none => rw [hk] at e; cases e
    | some o =>
      rw [hk] at e
      obtain ⟨cl, d, dt, sl⟩ := o
      cases dt with
      | fields vs =>
        dsimp only at e
        cases hv : vs[1]? with
        | none => rw [hv] at e; cases e
        | some v =>
          rw [hv] at e
          cases v with
          | str x t => exact ⟨c, _, vs, t, rfl, X _ _ hk, rfl, by rw [hv, beq_iff_eq.mp e]⟩
          | _ => cases e
      | _ => cases e
  | _ => cases e
theorem binds_of {W : Wd} {K : Frag} {fd : FuncData} {args : Args} {bv : List (Str × Value)} (X : K.In W.H0) (e : ∀ S, peek K S (bindArgs fd args) = some bv) : Binds W fd args bv := fun M A E Q s _ hb hq => (Looks.of_peek (M := M) (X.keeps hb) (e _)).here (hq s.toks)
theorem binds_at {W : Wd} {K : Frag} {n : Str} {args : Args} {bv : List (Str × Value)} (a : Addr) (ha : adOf n = a) (X : K.In W.H0) (h : ∀ S, peek K S (bindArgs (fdIn K a) args) = some bv) : Binds W ((fun n => fdIn K (adOf n)) n) args bv := by
  subst ha; exact binds_of X h
noncomputable def mgK (K : Frag) (n : Str) : Option Value := match K.lookup mainGlobals with
  | some ⟨_, _, .dict es _, _⟩ => nsFind es n
  | _ => none
noncomputable def mgThere (K : Frag) : Bool := match K.lookup mainGlobals with
  | some ⟨_, _, .dict es _, _⟩ => true
  | _ => false
theorem mg_of {h : Heap} {K : Frag} {mg : Str → Option Value} (X : K.In h) (N : h.Ns mainGlobals mg) (hk : mgThere K = true) (n : Str) : mg n = mgK K n := by
  obtain ⟨o, es', ep', ho, hd, _, hm⟩ := N
  unfold mgThere at hk
  unfold mgK
  generalize e : K.lookup mainGlobals = z at hk ⊢
  cases z with
  | none => cases hk
  | some o2 =>
    have := X _ _ e
    rw [this] at ho; cases ho
    obtain ⟨cl, d, dt, sl⟩ := o
    cases hd
    exact (hm n).symm
theorem glo_main {W : Wd} {K : Frag} {mg mb : Str → Option Value} (X : K.In W.H0) (N : W.H0.Ns mainGlobals mg) (B : W.H0.Ns builtinsNs mb) (hk : mgThere K = true) {n : Str} {v : Value} (e : mgK K n = some v) : Glo W n v :=
  ⟨mg, mb, N, B, .inl (by rw [mg_of X N hk, e])⟩
theorem glo_blt {W : Wd} {K : Frag} {mg mb : Str → Option Value} (X : K.In W.H0) (N : W.H0.Ns mainGlobals mg) (B : W.H0.Ns builtinsNs mb) (hk : mgThere K = true) (hb : ∀ x : Str, x ≠ "__name__" → mb x = bootBuiltins x) {n : Str} {v : Value} (e : mgK K n = none) (hn : n ≠ "__name__") (e2 : bootBuiltins n = some v) : Glo W n v :=
  ⟨mg, mb, N, B, .inr ⟨by rw [mg_of X N hk, e], by rw [hb n hn, e2]⟩⟩
theorem fnok_of {W : Wd} {K : Frag} {mg mb : Str → Option Value} (X : K.In W.H0) (N : W.H0.Ns mainGlobals mg) (B : W.H0.Ns builtinsNs mb) (hk : mgThere K = true) (n : Str) (i : Nat) (a : Addr) (ha : adOf n = a) (h1 : fnThere K a = true) (hg : mgK K n = some (.ref a)) (h2 : (fdIn K a).qualname = n) (h3 : (fdIn K a).body = .stmts (bodyOf i)) (h4 : (fdIn K a).scope = scopeOf i)
    (h5 : (fdIn K a).globals = mainGlobals) (h6 : (fdIn K a).builtins = builtinsNs) (h7 : (fdIn K a).closure = []) (h8 : cdOk K (fdIn K a).code n = true) : FnOk W adOf (fun n => fdIn K (adOf n)) n i := by
  subst ha
  refine ⟨glo_main X N B hk hg, ?_⟩
  obtain ⟨o, ho, hd⟩ := fnThere_out h1
  exact { there := ⟨o, X _ _ ho, hd⟩, code := by rw [h2]; exact cdOk_out X h8, body := h3, scope := h4, qual := h2, globals := h5, builtins := h6, closure := h7 }
end Mine
namespace Mine
open MineTop
noncomputable def stTok : List ((Str × Int) × (Nat × Nat)) := [(("dev", 10), (331, 332)), (("alpha", 20), (333, 334)), (("a", 20), (335, 336)), (("beta", 30), (337, 338)), (("b", 30), (339, 340)), (("c", 40), (341, 342)), (("RC", 50), (343, 344)), (("rc", 50), (345, 346)), (("pl", 200), (347, 348)), (("p", 200), (349, 350))]
noncomputable def stMk (P : Params) (e : (Str × Int) × (Nat × Nat)) : DictEntry := { hash := PyData.keyHash P e.1.1, key := .str e.1.1 e.2.1, val := .int e.1.2 e.2.2 }
theorem st_find (P : Params) (x : Str) : ∀ l : List ((Str × Int) × (Nat × Nat)), match (l.map (·.1)).lookup x with | some n => ∃ t, ((l.map (stMk P)).find? fun e => Value.isStrOf x e.key).map (·.val) = some (.int n t) | none => ((l.map (stMk P)).find? fun e => Value.isStrOf x e.key).map (·.val) = none
  | [] => rfl
  | ((n, v), (t, u)) :: l => by
    simp only [List.map_cons, List.lookup_cons, List.find?_cons]
    have e : Value.isStrOf x (stMk P ((n, v), (t, u))).key = (n == x) := rfl
    rw [e]
    have e2 : (n == x) = (x == n) := by rw [Bool.eq_iff_iff, beq_iff_eq, beq_iff_eq]; exact eq_comm
    rw [e2]
    cases h : x == n with
    | true => exact ⟨u, rfl⟩
    | false => exact st_find P x l
theorem stages_of {W : Wd} (X : (hd.heap_39 W.w.params).In W.H0) : StagesAt W 37 := by
  have hk : (hd.heap_39 W.w.params).lookup 37 = some { cls := .type "dict", data := .dict (stTok.map (stMk W.w.params)).toArray 10 } := by kernel_rfl
  refine ⟨by decide, fun k => findBy Value.isStrOf (stTok.map (stMk W.w.params)).toArray k, ⟨_, _, 10, X _ _ hk, ⟨rfl, rfl, rfl⟩, rfl, ?_, fun k => rfl⟩, fun x => ?_⟩
  · intro e he
    rw [List.mem_toArray] at he
    obtain ⟨y, _, rfl⟩ := List.mem_map.mp he
    exact ⟨y.1.1, by show (y.1.1 == y.1.1) = true; simp, rfl⟩
  · have e : findBy Value.isStrOf (stTok.map (stMk W.w.params)).toArray x = ((stTok.map (stMk W.w.params)).find? fun e => Value.isStrOf x e.key).map (·.val) := by
      unfold findBy
      rw [List.find?_toArray]
    have h := st_find W.w.params x stTok
    rw [← e] at h
    exact h
theorem rx_of {W : Wd} {P : Params} (X : (hd.heap_39 P).In W.H0) : IsRx W.H0 36 := by
  have h1 : (hd.heap_39 P).lookup 36 = some { cls := .type "re.Pattern", data := .fields #[.str "([0-9]+|[._+-])" 285, .int 32 329, .int 1 0, .none, .none, .ref 35, .int 0 0] } := by kernel_rfl
  have h2 : (hd.heap_39 P).lookup 35 = some { cls := .type "tuple", data := .seq (rxCode.map fun (i : Nat) => Value.int (i : Int) 0) } := by kernel_rfl
  exact ⟨_, _, _, X _ _ h1, X _ _ h2⟩
section
variable {W : Wd} {mg mb : Str → Option Value} (X : (hd.heap_39 W.w.params).In W.H0) (N : W.H0.Ns mainGlobals mg) (B : W.H0.Ns builtinsNs mb)
include X N B
theorem jf_comp : FnOk W adOf (fun n => fdIn (hd.heap_39 W.w.params) (adOf n)) "_comparable_version" 4 :=
  fnok_of X N B (by kernel_rfl) _ _ 44 (by kernel_rfl) (by kernel_rfl) (by kernel_rfl) (by kernel_rfl) (by kernel_rfl) (by kernel_rfl) (by kernel_rfl) (by kernel_rfl) (by kernel_rfl) (by kernel_rfl)
theorem jf_norm : FnOk W adOf (fun n => fdIn (hd.heap_39 W.w.params) (adOf n)) "_norm_version" 5 :=
  fnok_of X N B (by kernel_rfl) _ _ 52 (by kernel_rfl) (by kernel_rfl) (by kernel_rfl) (by kernel_rfl) (by kernel_rfl) (by kernel_rfl) (by kernel_rfl) (by kernel_rfl) (by kernel_rfl) (by kernel_rfl)
theorem jf_right : FnOk W adOf (fun n => fdIn (hd.heap_39 W.w.params) (adOf n)) "bisect_right" 7 :=
  fnok_of X N B (by kernel_rfl) _ _ 61 (by kernel_rfl) (by kernel_rfl) (by kernel_rfl) (by kernel_rfl) (by kernel_rfl) (by kernel_rfl) (by kernel_rfl) (by kernel_rfl) (by kernel_rfl) (by kernel_rfl)
theorem jf_ins : FnOk W adOf (fun n => fdIn (hd.heap_39 W.w.params) (adOf n)) "insort_left" 8 :=
  fnok_of X N B (by kernel_rfl) _ _ 70 (by kernel_rfl) (by kernel_rfl) (by kernel_rfl) (by kernel_rfl) (by kernel_rfl) (by kernel_rfl) (by kernel_rfl) (by kernel_rfl) (by kernel_rfl) (by kernel_rfl)
theorem jf_left : FnOk W adOf (fun n => fdIn (hd.heap_39 W.w.params) (adOf n)) "bisect_left" 9 :=
  fnok_of X N B (by kernel_rfl) _ _ 79 (by kernel_rfl) (by kernel_rfl) (by kernel_rfl) (by kernel_rfl) (by kernel_rfl) (by kernel_rfl) (by kernel_rfl) (by kernel_rfl) (by kernel_rfl) (by kernel_rfl)
theorem jf_subst : FnOk W adOf (fun n => fdIn (hd.heap_39 W.w.params) (adOf n)) "_substitution_cost" 13 :=
  fnok_of X N B (by kernel_rfl) _ _ 86 (by kernel_rfl) (by kernel_rfl) (by kernel_rfl) (by kernel_rfl) (by kernel_rfl) (by kernel_rfl) (by kernel_rfl) (by kernel_rfl) (by kernel_rfl) (by kernel_rfl)
theorem jf_pairs : FnOk W adOf (fun n => fdIn (hd.heap_39 W.w.params) (adOf n)) "_law_pairs" 15 :=
  fnok_of X N B (by kernel_rfl) _ _ 93 (by kernel_rfl) (by kernel_rfl) (by kernel_rfl) (by kernel_rfl) (by kernel_rfl) (by kernel_rfl) (by kernel_rfl) (by kernel_rfl) (by kernel_rfl) (by kernel_rfl)
theorem jf_cells : FnOk W adOf (fun n => fdIn (hd.heap_39 W.w.params) (adOf n)) "_law_cells" 16 :=
  fnok_of X N B (by kernel_rfl) _ _ 100 (by kernel_rfl) (by kernel_rfl) (by kernel_rfl) (by kernel_rfl) (by kernel_rfl) (by kernel_rfl) (by kernel_rfl) (by kernel_rfl) (by kernel_rfl) (by kernel_rfl)
theorem jf_letters : FnOk W adOf (fun n => fdIn (hd.heap_39 W.w.params) (adOf n)) "_law_letters" 17 :=
  fnok_of X N B (by kernel_rfl) _ _ 107 (by kernel_rfl) (by kernel_rfl) (by kernel_rfl) (by kernel_rfl) (by kernel_rfl) (by kernel_rfl) (by kernel_rfl) (by kernel_rfl) (by kernel_rfl) (by kernel_rfl)
theorem jf_first : FnOk W adOf (fun n => fdIn (hd.heap_39 W.w.params) (adOf n)) "_law_first" 18 :=
  fnok_of X N B (by kernel_rfl) _ _ 114 (by kernel_rfl) (by kernel_rfl) (by kernel_rfl) (by kernel_rfl) (by kernel_rfl) (by kernel_rfl) (by kernel_rfl) (by kernel_rfl) (by kernel_rfl) (by kernel_rfl)
theorem jf_normed : FnOk W adOf (fun n => fdIn (hd.heap_39 W.w.params) (adOf n)) "_law_normed" 19 :=
  fnok_of X N B (by kernel_rfl) _ _ 121 (by kernel_rfl) (by kernel_rfl) (by kernel_rfl) (by kernel_rfl) (by kernel_rfl) (by kernel_rfl) (by kernel_rfl) (by kernel_rfl) (by kernel_rfl) (by kernel_rfl)
theorem jf_laid : FnOk W adOf (fun n => fdIn (hd.heap_39 W.w.params) (adOf n)) "_law_laid" 20 :=
  fnok_of X N B (by kernel_rfl) _ _ 126 (by kernel_rfl) (by kernel_rfl) (by kernel_rfl) (by kernel_rfl) (by kernel_rfl) (by kernel_rfl) (by kernel_rfl) (by kernel_rfl) (by kernel_rfl) (by kernel_rfl)
theorem jf_due : FnOk W adOf (fun n => fdIn (hd.heap_39 W.w.params) (adOf n)) "_law_due" 21 :=
  fnok_of X N B (by kernel_rfl) _ _ 131 (by kernel_rfl) (by kernel_rfl) (by kernel_rfl) (by kernel_rfl) (by kernel_rfl) (by kernel_rfl) (by kernel_rfl) (by kernel_rfl) (by kernel_rfl) (by kernel_rfl)
theorem jf_costs : FnOk W adOf (fun n => fdIn (hd.heap_39 W.w.params) (adOf n)) "_law_costs" 22 :=
  fnok_of X N B (by kernel_rfl) _ _ 136 (by kernel_rfl) (by kernel_rfl) (by kernel_rfl) (by kernel_rfl) (by kernel_rfl) (by kernel_rfl) (by kernel_rfl) (by kernel_rfl) (by kernel_rfl) (by kernel_rfl)
theorem jf_law : FnOk W adOf (fun n => fdIn (hd.heap_39 W.w.params) (adOf n)) "law" 23 :=
  fnok_of X N B (by kernel_rfl) _ _ 141 (by kernel_rfl) (by kernel_rfl) (by kernel_rfl) (by kernel_rfl) (by kernel_rfl) (by kernel_rfl) (by kernel_rfl) (by kernel_rfl) (by kernel_rfl) (by kernel_rfl)
set_option maxHeartbeats 4000000 in
theorem pwk_of (hb : ∀ x : Str, x ≠ "__name__" → mb x = bootBuiltins x) (hlim : W.H0.NoLimit) : PwK W adOf fun n => fdIn (hd.heap_39 W.w.params) (adOf n) where
  lim := hlim
  f_comp := jf_comp X N B
  f_norm := jf_norm X N B
  f_right := jf_right X N B
  f_ins := jf_ins X N B
  f_left := jf_left X N B
  f_subst := jf_subst X N B
  f_pairs := jf_pairs X N B
  f_cells := jf_cells X N B
  f_letters := jf_letters X N B
  f_first := jf_first X N B
  f_normed := jf_normed X N B
  f_laid := jf_laid X N B
  f_due := jf_due X N B
  f_costs := jf_costs X N B
  f_law := jf_law X N B
  b_comp := fun v => @binds_at W (hd.heap_39 W.w.params) _ _ _ 44 (by kernel_rfl) X (fun _ => by kernel_rfl)
  b_norm1 := fun v => ⟨373, @binds_at W (hd.heap_39 W.w.params) _ _ _ 52 (by kernel_rfl) X (fun _ => by kernel_rfl)⟩
  b_norm2 := fun v w => @binds_at W (hd.heap_39 W.w.params) _ _ _ 52 (by kernel_rfl) X (fun _ => by kernel_rfl)
  b_right := fun a x l h => @binds_at W (hd.heap_39 W.w.params) _ _ _ 61 (by kernel_rfl) X (fun _ => by kernel_rfl)
  b_left := fun a x l h => @binds_at W (hd.heap_39 W.w.params) _ _ _ 79 (by kernel_rfl) X (fun _ => by kernel_rfl)
  b_leftK := fun a x l h f => @binds_at W (hd.heap_39 W.w.params) _ _ _ 79 (by kernel_rfl) X (fun _ => by kernel_rfl)
  b_ins := fun a x l h => @binds_at W (hd.heap_39 W.w.params) _ _ _ 70 (by kernel_rfl) X (fun _ => by kernel_rfl)
  b_insK := fun a x l h f => @binds_at W (hd.heap_39 W.w.params) _ _ _ 70 (by kernel_rfl) X (fun _ => by kernel_rfl)
  b_subst := fun v w => @binds_at W (hd.heap_39 W.w.params) _ _ _ 86 (by kernel_rfl) X (fun _ => by kernel_rfl)
  b_pairs := @binds_at W (hd.heap_39 W.w.params) _ _ _ 93 (by kernel_rfl) X (fun _ => by kernel_rfl)
  b_cells := fun v => @binds_at W (hd.heap_39 W.w.params) _ _ _ 100 (by kernel_rfl) X (fun _ => by kernel_rfl)
  b_letters := fun v => @binds_at W (hd.heap_39 W.w.params) _ _ _ 107 (by kernel_rfl) X (fun _ => by kernel_rfl)
  b_first := fun v => @binds_at W (hd.heap_39 W.w.params) _ _ _ 114 (by kernel_rfl) X (fun _ => by kernel_rfl)
  b_normed := fun v w => @binds_at W (hd.heap_39 W.w.params) _ _ _ 121 (by kernel_rfl) X (fun _ => by kernel_rfl)
  b_laid := fun a b c d e => @binds_at W (hd.heap_39 W.w.params) _ _ _ 126 (by kernel_rfl) X (fun _ => by kernel_rfl)
  b_due := fun a b c => @binds_at W (hd.heap_39 W.w.params) _ _ _ 131 (by kernel_rfl) X (fun _ => by kernel_rfl)
  b_costs := fun a b => @binds_at W (hd.heap_39 W.w.params) _ _ _ 136 (by kernel_rfl) X (fun _ => by kernel_rfl)
  b_law := fun v => @binds_at W (hd.heap_39 W.w.params) _ _ _ 141 (by kernel_rfl) X (fun _ => by kernel_rfl)
  move := ⟨429, glo_main X N B (by kernel_rfl) (by kernel_rfl)⟩
  case_ := ⟨431, glo_main X N B (by kernel_rfl) (by kernel_rfl)⟩
  rx := ⟨36, glo_main X N B (by kernel_rfl) (by kernel_rfl), rx_of X⟩
  len_ := glo_blt X N B (by kernel_rfl) hb (by kernel_rfl) (by decide) (by kernel_rfl)
  sum_ := glo_blt X N B (by kernel_rfl) hb (by kernel_rfl) (by decide) (by kernel_rfl)
  sorted_ := glo_blt X N B (by kernel_rfl) hb (by kernel_rfl) (by decide) (by kernel_rfl)
  range_ := glo_blt X N B (by kernel_rfl) hb (by kernel_rfl) (by decide) (by kernel_rfl)
  int_ := glo_blt X N B (by kernel_rfl) hb (by kernel_rfl) (by decide) (by kernel_rfl)
  str_ := glo_blt X N B (by kernel_rfl) hb (by kernel_rfl) (by decide) (by kernel_rfl)
  list_ := glo_blt X N B (by kernel_rfl) hb (by kernel_rfl) (by decide) (by kernel_rfl)
  map_ := glo_blt X N B (by kernel_rfl) hb (by kernel_rfl) (by decide) (by kernel_rfl)
  verr_ := glo_blt X N B (by kernel_rfl) hb (by kernel_rfl) (by decide) (by kernel_rfl)
  stages := ⟨37, glo_main X N B (by kernel_rfl) (by kernel_rfl), stages_of X⟩
end
end Mine
end
section
open PySem PySem.W PyProof.Rows PySem.Builtin.Str
namespace Mine
open MineTop
theorem ints_all {R : WRecords} : ∀ xs : List WData, (∀ d ∈ xs, WShape.has R d .int = true) → ∃ ns : List Int, xs = ns.map WData.int
  | [], _ => ⟨[], rfl⟩
  | x :: xs, h => by
    obtain ⟨ns, e⟩ := ints_all xs fun d hd => h d (List.mem_cons_of_mem _ hd)
    obtain ⟨i, e2⟩ := hasW_int (h x List.mem_cons_self)
    exact ⟨i :: ns, by rw [e, e2]; rfl⟩
theorem ints_of_items {R : WRecords} (xs : List WData) (h : WShape.hasItems R xs .int = true) : ∃ ns : List Int, xs = ns.map WData.int := ints_all xs (hasItemsW_at h)
theorem reps_ints {P : Params} {h : Heap} {G : GM} : ∀ (ns : List Int) {vs : List Value}, WellAll P h vs (ns.map WData.int) → Reps G vs (ns.map V.int)
  | [], _, h => by cases h; exact .nil
  | n :: ns, _, h => by
    cases h with
    | cons r1 r => cases r1; exact .cons (.int _ _) (reps_ints ns r)
theorem pre_len {ns : List Int} (h : PySem.Challenge.rw_wn0066_01.row.toRowW.pre.holds PySem.Challenge.rw_wn0066_01.row.toRowW.records { args := [.list (ns.map WData.int)] } = true) : ns.length ≤ 63 := by
  have e : PySem.Challenge.rw_wn0066_01.row.toRowW.pre = .and (.not (.lt (.lit (.int 63)) (.len (.arg 0)))) (.lit (.bool true)) := rfl
  rw [e] at h
  rw [holdsW_of_value (w_and (w_not (w_lt w_lit (w_len_list (w_arg rfl)))) w_lit), Bool.and_true, Bool.not_eq_true', decide_eq_false_iff_not, List.length_map] at h
  exact om164 h
theorem post_true {args ds : List WData} : PySem.Challenge.rw_wn0066_01.row.toRowW.claim.post args (.bool true) ds = true := by
  show (WShape.has [] (.bool true) .bool && WTm.holds [] (.eq .res (.lit (.bool true))) _) = true
  rw [holdsW_of_value (w_eq_bool (k := true) (w_res rfl) w_lit)]
  have e : WShape.has [] (.bool true) .bool = true := by decide +kernel
  rw [e]; rfl
theorem caller_ok : AOk 5 callerA := ⟨rfl, by decide +kernel, by decide +kernel, ⟨[], rfl⟩⟩
theorem walkAll (hlaw : ∀ script : List Int, script.length ≤ 63 → LawOk (cellsOf script)) : PySem.Challenge.rw_wn0066_01.Holds := by
  refine hd fun w s₀ s₁ mg mb GR Y hgens a hmg args vals hpre hwell => ?_
  have X : (hd.heap_39 w.params).In s₁.heap := Y
  obtain ⟨h1, h2⟩ := pre_splitW hpre
  obtain ⟨d, r, rfl, h3, h4⟩ := hasAllW_cons h1
  obtain rfl := hasAllW_nil h4
  obtain ⟨xs, rfl, h5⟩ := hasW_list h3
  obtain ⟨ns, rfl⟩ := ints_of_items xs h5
  have hlen := pre_len h2
  have N : s₁.heap.Ns mainGlobals mg := GR.T.g
  have B : s₁.heap.Ns builtinsNs mb := GR.T.b
  have hmb : ∀ x : Str, x ≠ "__name__" → mb x = bootBuiltins x := GR.T.builtins
  have hlim : s₁.heap.NoLimit := GR.T.nolimit
  have ha : a = adOf "law" := by
    have e1 : mgK (hd.heap_39 w.params) "law" = some (.ref 141) := by kernel_rfl
    have e2 : mg "law" = some (.ref a) := hmg
    rw [mg_of X N (by kernel_rfl), e1] at e2
    injection e2 with e2; injection e2 with e2
    rw [← e2]; kernel_rfl
  cases hwell with
  | cons wl wn =>
    cases wn
    cases wl with
    | @list l vs _ hl hr =>
      have P := @pwk_of ⟨PySem.Challenge.rw_wn0066_01.row.toRowW.prog, w, s₁.os, s₁.heap⟩ mg mb X N B hmb hlim
      have fl := fn_law P (k := 0) hlen (hlaw ns hlen)
      have hG0 : ∀ b o, addG (fun _ => none) l (lobj vs.toArray 0) b = some o → b = l ∧ o = lobj vs.toArray 0 := fun b o e => by
        rcases addG_cases e with q | q
        · exact q
        · cases q
      rw [ha]
      refine fl callerA (addG (fun _ => none) l (lobj vs.toArray 0)) s₁ [.ref l] [] _ caller_ok ⟨hgens, rfl, fun _ _ e => e, fun env he => (by cases he), fun b o e => ?_, fun b o e => ?_⟩ (.cons (.list addG_self (reps_ints ns hr)) .nil) .nil fun v val G' s' q af rp => ?_
      · obtain ⟨rfl, rfl⟩ := hG0 b o e; exact hl
      · obtain ⟨rfl, rfl⟩ := hG0 b o e; exact ⟨_, _, rfl⟩
      · subst q
        cases rp
        refine ⟨.inl ⟨_, .bool true, [], rfl, fun cls => rfl, .bool true, ?_, fun _ => ⟨.nil, fun a ha => by cases ha⟩⟩, .of_keep fun b o e => af.keep.exact (fun x => x) (by intro z; cases z) e, af.os, ?_⟩
        · exact post_true
        · rw [af.gens]; exact .empty
end Mine
end
section
open PySem PySem.W PyProof.Rows PySem.Builtin.Str
namespace Mine
noncomputable def pairOk (q : (Int × Str) × (Int × Str)) : Bool :=
  decide (0 ≤ q.1.1) && decide (q.1.1 ≤ 200) && decide (0 ≤ q.2.1) && decide (q.2.1 ≤ 200) && decide (q.1.2.length ≤ 10) && decide (q.2.2.length ≤ 10) &&
  (decide (q.1.1 < q.2.1) || (q.1.1 == q.2.1 && decide (q.1.2.cps.toList < q.2.2.cps.toList) && !decide (q.2.2.cps.toList < q.1.2.cps.toList)))
theorem pairs_ok : ∀ q ∈ pairs, pairOk q = true := by decide +kernel
theorem pairOf_mem (d : Int) : pairOf d ∈ pairs := by
  have h := fmod_lt d (m := 12) (by decide)
  have hl : (d.fmod 12).toNat < pairs.length := by show _ < 12; exact om13 h
  unfold pairOf
  rw [List.getD_eq_getElem?_getD, List.getElem?_eq_getElem hl]
  exact List.getElem_mem hl
structure PairOk (q : (Int × Str) × (Int × Str)) : Prop where
  r0 : 0 ≤ q.1.1 ∧ q.1.1 ≤ 200
  r1 : 0 ≤ q.2.1 ∧ q.2.1 ≤ 200
  w0 : q.1.2.length ≤ 10
  w1 : q.2.2.length ≤ 10
  lt : LtV (.list [.int q.1.1, .str q.1.2]) (.list [.int q.2.1, .str q.2.2]) true
  gt : LtV (.list [.int q.2.1, .str q.2.2]) (.list [.int q.1.1, .str q.1.2]) false
  ne : [V.int q.1.1, V.str q.1.2] ≠ [V.int q.2.1, V.str q.2.2]
theorem pair_out {q : (Int × Str) × (Int × Str)} (h : pairOk q = true) : PairOk q := by
  unfold pairOk at h
  simp only [Bool.and_eq_true, Bool.or_eq_true, decide_eq_true_eq, beq_iff_eq, Bool.not_eq_true', decide_eq_false_iff_not] at h
  obtain ⟨⟨⟨⟨⟨⟨h1, h2⟩, h3⟩, h4⟩, h5⟩, h6⟩, h7⟩ := h
  refine ⟨⟨h1, h2⟩, ⟨h3, h4⟩, h5, h6, ?_, ?_, ?_⟩
  · rcases h7 with h | ⟨⟨h, h8⟩, h9⟩
    · exact LtV_cast (.ne _ _ _ _ _ (by intro z; injection z with z; exact om34 h z) (.int _ _)) (decide_eq_true h)
    · rw [h]
      refine .eq _ _ _ _ (LtV_cast (.ne _ _ _ _ _ ?_ (.str _ _)) (decide_eq_true h8))
      intro z; injection z with z; rw [z] at h8 h9; exact h9 h8
  · rcases h7 with h | ⟨⟨h, h8⟩, h9⟩
    · exact LtV_cast (.ne _ _ _ _ _ (by intro z; injection z with z; exact om35 h z) (.int _ _)) (decide_eq_false (by exact om38 h))
    · rw [h]
      refine .eq _ _ _ _ (LtV_cast (.ne _ _ _ _ _ ?_ (.str _ _)) (decide_eq_false h9))
      intro z; injection z with z; rw [z] at h8 h9; exact h9 h8
  · intro z
    simp only [List.cons.injEq, V.int.injEq, V.str.injEq] at z
    rcases h7 with h | ⟨⟨h, h8⟩, h9⟩
    · exact om40 h z
    · rw [z.2.1] at h8 h9; exact h9 h8
theorem pairOf_ok (d : Int) : PairOk (pairOf d) := pair_out (pairs_ok _ (pairOf_mem d))
noncomputable def numB (d : Int) (a : Nat) : Int := if a = 0 then lowOf d else highOf d
noncomputable def prB (d : Int) (b : Nat) : Int × Str := if b = 0 then (pairOf d).1 else (pairOf d).2
theorem letters_get (d : Int) {v : Nat} (hv : v < 4) : (letters d).getD v let0 = (numB d (v / 2), figs d (numB d (v / 2)), (prB d (v % 2)).1, (prB d (v % 2)).2) := by
  have : v = 0 ∨ v = 1 ∨ v = 2 ∨ v = 3 := by exact om104 hv
  rcases this with rfl | rfl | rfl | rfl <;> rfl
theorem letters_mem {d : Int} {p : Let4} (h : p ∈ letters d) : ∃ v, v < 4 ∧ p = (numB d (v / 2), figs d (numB d (v / 2)), (prB d (v % 2)).1, (prB d (v % 2)).2) := by
  obtain ⟨v, hv, e⟩ := List.getElem_of_mem h
  have hv4 : v < 4 := hv
  refine ⟨v, hv4, ?_⟩
  rw [← letters_get d hv4, List.getD_eq_getElem?_getD, List.getElem?_eq_getElem hv, ← e]; rfl
theorem numB_lt (d : Int) (a : Nat) : 0 ≤ numB d a ∧ numB d a < 130 := by
  have h1 := lowOf_lt d
  have h2 := fmod_lt (d.fdiv 360) (m := 100) (by decide)
  unfold numB
  split
  · exact om23 h1
  · unfold highOf; exact om31 h1 h2
theorem numB_iff (d : Int) {a a' : Nat} (h : a < 2) (h' : a' < 2) : (numB d a < numB d a' ↔ a < a') ∧ (numB d a = numB d a' ↔ a = a') := by
  have h1 := (highOf_lt d).1
  have : (a = 0 ∨ a = 1) ∧ (a' = 0 ∨ a' = 1) := by exact om249 h h'
  rcases this with ⟨rfl | rfl, rfl | rfl⟩ <;> simp [numB] <;> first | exact om36 h1 | exact om37 h1
theorem prB_lt (d : Int) {b b' : Nat} (h : b < 2) (h' : b' < 2) : LtV (.list [.int (prB d b).1, .str (prB d b).2]) (.list [.int (prB d b').1, .str (prB d b').2]) (decide (b < b')) ∧ ([V.int (prB d b).1, V.str (prB d b).2] = [V.int (prB d b').1, V.str (prB d b').2] ↔ b = b') := by
  have p := pairOf_ok d
  have : (b = 0 ∨ b = 1) ∧ (b' = 0 ∨ b' = 1) := by exact om249 h h'
  rcases this with ⟨rfl | rfl, rfl | rfl⟩
  · exact ⟨LtV_refl _, by simp⟩
  · exact ⟨p.lt, ⟨fun z => absurd z p.ne, fun z => by cases z⟩⟩
  · exact ⟨p.gt, ⟨fun z => absurd z.symm p.ne, fun z => by cases z⟩⟩
  · exact ⟨LtV_refl _, by simp⟩
theorem prB_ok (d : Int) (b : Nat) : 0 ≤ (prB d b).1 ∧ (prB d b).1 ≤ 200 ∧ (prB d b).2.length ≤ 10 := by
  have p := pairOf_ok d
  unfold prB; split
  · exact ⟨p.r0.1, p.r0.2, p.w0⟩
  · exact ⟨p.r1.1, p.r1.2, p.w1⟩
theorem Pc_key (dr : Int) {d v v' : Nat} (hd : d < 3) (hv : v < 4) (hv' : v' < 4) : Pc (keyC d ((letters dr).getD v let0)) (keyC d ((letters dr).getD v' let0)) (qOf d v) (qOf d v') := by
  rw [letters_get dr hv, letters_get dr hv']
  have hn := numB_iff dr (a := v / 2) (a' := v' / 2) (by exact om103 hv) (by exact om103 hv')
  have hp := prB_lt dr (b := v % 2) (b' := v' % 2) (by exact om190) (by exact om190)
  have : d = 0 ∨ d = 1 ∨ d = 2 := by exact om99 hd
  rcases this with rfl | rfl | rfl
  · rw [qOf0 hv, qOf0 hv']; exact Pc.nil
  · rw [qOf1, qOf1]
    show Pc [.int 100, .int (numB dr (v / 2))] [.int 100, .int (numB dr (v' / 2))] _ _
    refine ⟨rfl, fun e => by rw [e], fun e => ⟨fun z => ?_, .eq _ _ _ _ (LtV_cast (.ne _ _ _ _ _ (fun z => ?_) (.int _ _)) ?_)⟩⟩
    · simp only [List.cons.injEq, V.int.injEq] at z; exact e (hn.2.mp z.2.1)
    · injection z with z; exact e (hn.2.mp z)
    · rw [decide_eq_decide]; exact hn.1
  · rw [qOf2, qOf2]
    show Pc [.int 100, .int (numB dr (v / 2)), .int (prB dr (v % 2)).1, .str (prB dr (v % 2)).2] [.int 100, .int (numB dr (v' / 2)), .int (prB dr (v' % 2)).1, .str (prB dr (v' % 2)).2] _ _
    refine ⟨rfl, fun e => by rw [e], fun e => ⟨fun z => ?_, ?_⟩⟩
    · simp only [List.cons.injEq, V.int.injEq] at z
      have e1 := hn.2.mp z.2.1
      have e2 := hp.2.mp (by simp only [List.cons.injEq, V.int.injEq]; exact ⟨z.2.2.1, z.2.2.2⟩)
      exact om225 e2 e1 e
    · by_cases h : v / 2 = v' / 2
      · rw [h]
        refine .eq _ _ _ _ (.eq _ _ _ _ (LtV_cast hp.1 ?_))
        rw [decide_eq_decide]; exact om237 h
      · refine .eq _ _ _ _ (LtV_cast (.ne _ _ _ _ _ (fun z => ?_) (.int _ _)) ?_)
        · injection z with z; exact h (hn.2.mp z)
        · rw [decide_eq_decide, hn.1]; exact om325 h
theorem Pc_key3 {C : List Int} {depths : List Nat} (hd : ∀ i, depths.getD i 0 < 3) (hC : C.length = 9) (p p' : Nat) : Pc (keyAt (placesOf C) depths p) (keyAt (placesOf C) depths p') (rkOf depths p) (rkOf depths p') := by
  show Pc ((List.range 3).flatMap fun i => keyC (depths.getD i 0) (letAt (placesOf C) p i)) ((List.range 3).flatMap fun i => keyC (depths.getD i 0) (letAt (placesOf C) p' i)) _ _
  refine Pc_3 (places := placesOf C) (f := fun _ _ => []) _ _ fun i hi => ?_
  have e : (placesOf C).getD i [] = letters (C.getD (6 + i) 0) := by
    unfold placesOf
    rw [List.getD_eq_getElem?_getD, List.getElem?_map, List.getElem?_drop, List.getD_eq_getElem?_getD, List.getElem?_eq_getElem (by exact om256 hi hC)]; rfl
  unfold letAt
  rw [e]
  exact Pc_key _ (hd i) (valAt_lt _ _) (valAt_lt _ _)
end Mine
end
section
open PySem PySem.W PyProof.Rows PySem.Builtin.Str
namespace Mine
noncomputable def Rx (S : List Nat) (K : List V) : Prop := ∀ (text : Array Nat) (p f : Nat), text.toList.drop p = S → p ≤ text.size → S.length ≤ f → compOf (pcs text f p) = K ∧ ∀ s ∈ pcs text f p, inSeps s = false → IntOk s
theorem drop_len {text : Array Nat} {p : Nat} {S : List Nat} (h : text.toList.drop p = S) : text.size - p = S.length := by rw [← h, List.length_drop, Array.length_toList]
theorem drop_head {text : Array Nat} {p c : Nat} {S : List Nat} (h : text.toList.drop p = c :: S) : text.getD p 0 = c ∧ text.toList.drop (p + 1) = S ∧ p < text.size := by
  have hl := drop_len h
  rw [List.length_cons] at hl
  have hp : p < text.size := by exact om378 hl
  refine ⟨?_, ?_, hp⟩
  · have : text.toList[p]? = some c := by
      have := congrArg (fun l => l[0]?) h
      simp only [List.getElem?_drop, Nat.add_zero, List.getElem?_cons_zero] at this
      exact this
    rw [Array.getElem?_toList] at this
    rw [Array.getD_eq_getD_getElem?, this]; rfl
  · have := congrArg List.tail h
    rw [List.tail_drop, List.tail_cons] at this
    exact this
theorem extract_list (text : Array Nat) (p q : Nat) : (text.extract p q).toList = (text.toList.drop p).take (q - p) := by
  rw [Array.toList_extract]
theorem piece_eq {text : Array Nat} {p q : Nat} {l S : List Nat} (h : text.toList.drop p = l ++ S) (hq : q = p + l.length) : (⟨text.extract p q⟩ : Str) = ⟨l.toArray⟩ := by
  refine str_list ?_
  show (text.extract p q).toList = l
  rw [extract_list, h, hq, Nat.add_sub_cancel_left, List.take_left' rfl]
theorem drop_app {text : Array Nat} {p : Nat} {l S : List Nat} (h : text.toList.drop p = l ++ S) : text.toList.drop (p + l.length) = S := by
  have := congrArg (List.drop l.length) h
  rw [List.drop_drop, List.drop_left' rfl] at this
  exact this
theorem cnt_eq (text : Array Nat) : ∀ (S : List Nat) (p : Nat), text.toList.drop p = S → cnt text S.length p = (S.takeWhile isDig).length
  | [], p, h => rfl
  | c :: S, p, h => by
    obtain ⟨h1, h2, h3⟩ := drop_head h
    rw [List.length_cons]
    unfold cnt
    rw [h1, List.takeWhile_cons]
    cases hc : isDig c with
    | true => simp only [if_true, List.length_cons]; rw [cnt_eq text S (p + 1) h2]
    | false => simp
theorem nxt_sep {text : Array Nat} {p c : Nat} {S : List Nat} (h : text.toList.drop p = c :: S) (hd : isDig c = false) (hs : isSep c = true) : nxt text (text.size - p) p = some (p, p + 1) := by
  obtain ⟨h1, h2, h3⟩ := drop_head h
  rw [drop_len h, List.length_cons]
  unfold nxt
  rw [h1, hd, hs]; rfl
theorem takeWhile_app {ds S : List Nat} (hd : ∀ c ∈ ds, isDig c = true) (hS : ∀ c, S.head? = some c → isDig c = false) : (ds ++ S).takeWhile isDig = ds := by
  induction ds with
  | nil =>
    cases S with
    | nil => rfl
    | cons c S => rw [List.nil_append, List.takeWhile_cons, hS c rfl]; rfl
  | cons c ds ih =>
    rw [List.cons_append, List.takeWhile_cons, hd c List.mem_cons_self]
    simp only [if_true]
    rw [ih fun c hc => hd c (List.mem_cons_of_mem _ hc)]
theorem nxt_dig {text : Array Nat} {p c : Nat} {ds S : List Nat} (h : text.toList.drop p = (c :: ds) ++ S) (hd : ∀ x ∈ c :: ds, isDig x = true) (hS : ∀ x, S.head? = some x → isDig x = false) : nxt text (text.size - p) p = some (p, p + (c :: ds).length) := by
  have hh : text.toList.drop p = c :: (ds ++ S) := h
  obtain ⟨h1, h2, h3⟩ := drop_head hh
  have hc := cnt_eq text _ p h
  rw [takeWhile_app hd hS] at hc
  rw [drop_len h]
  rw [List.cons_append, List.length_cons] at hc ⊢
  unfold nxt
  rw [h1, hd c List.mem_cons_self, hc]; rfl
theorem nxt_word {text : Array Nat} {c : Nat} {S : List Nat} (hd : isDig c = false) (hs : isSep c = true) : ∀ (w : List Nat) (p : Nat), text.toList.drop p = w ++ c :: S → (∀ x ∈ w, isDig x = false ∧ isSep x = false) → nxt text (text.size - p) p = some (p + w.length, p + w.length + 1)
  | [], p, h, _ => by simpa using nxt_sep h hd hs
  | x :: w, p, h, hw => by
    have hh : text.toList.drop p = x :: (w ++ c :: S) := h
    obtain ⟨h1, h2, h3⟩ := drop_head hh
    have ih := nxt_word hd hs w (p + 1) h2 fun y hy => hw y (List.mem_cons_of_mem _ hy)
    rw [show text.size - p = (text.size - (p + 1)) + 1 by exact om308 h3]
    unfold nxt
    obtain ⟨w1, w2⟩ := hw x List.mem_cons_self
    rw [h1, w1, w2, ih]
    simp only [Bool.false_eq_true, if_false, List.length_cons]
    congr 2 <;> first | exact om339 | exact om336
theorem nxt_none {text : Array Nat} : ∀ (w : List Nat) (p : Nat), text.toList.drop p = w → (∀ x ∈ w, isDig x = false ∧ isSep x = false) → nxt text (text.size - p) p = none
  | [], p, h, _ => by rw [drop_len h]; rfl
  | x :: w, p, h, hw => by
    obtain ⟨h1, h2, h3⟩ := drop_head h
    have ih := nxt_none w (p + 1) h2 fun y hy => hw y (List.mem_cons_of_mem _ hy)
    rw [show text.size - p = (text.size - (p + 1)) + 1 by exact om308 h3]
    unfold nxt
    obtain ⟨w1, w2⟩ := hw x List.mem_cons_self
    rw [h1, w1, w2, ih]
    simp
theorem pcs_some {text : Array Nat} {p f q e : Nat} (h : nxt text (text.size - p) p = some (q, e)) : pcs text (f + 1) p = ⟨text.extract p q⟩ :: ⟨text.extract q e⟩ :: pcs text f e := by
  conv => lhs; unfold pcs
  rw [h]
theorem pcs_none {text : Array Nat} {p f : Nat} (h : nxt text (text.size - p) p = none) : pcs text f p = [⟨text.extract p text.size⟩] := by
  cases f with
  | zero => rfl
  | succ f => unfold pcs; rw [h]
theorem inSeps_nil : inSeps ⟨#[]⟩ = true := by decide +kernel
theorem partOf_nil : partOf ⟨#[]⟩ = [] := by unfold partOf; rw [inSeps_nil]; rfl
theorem inSeps_one {c : Nat} (h : isSep c = true) : inSeps ⟨#[c]⟩ = true := by
  have : c = 43 ∨ c = 45 ∨ c = 46 ∨ c = 95 := by simpa [isSep, or_assoc] using h
  rcases this with rfl | rfl | rfl | rfl <;> decide +kernel
theorem compOf_cons (s : Str) (l : List Str) : compOf (s :: l) = partOf s ++ compOf l := by unfold compOf; rw [List.flatMap_cons]
theorem Rx_end : Rx [] [] := fun text p f h hp hf => by
  have e := drop_len h
  have hn : nxt text (text.size - p) p = none := nxt_none [] p h (fun _ hx => by cases hx)
  rw [pcs_none hn]
  have ep : (⟨text.extract p text.size⟩ : Str) = ⟨#[]⟩ := piece_eq (l := []) (S := []) (by rw [h]; rfl) (by simp at e ⊢; exact om235 e hp)
  rw [ep]
  refine ⟨by rw [compOf_cons, partOf_nil]; rfl, fun s hs hin => ?_⟩
  rw [List.mem_singleton.mp hs, inSeps_nil] at hin; cases hin
theorem Rx_sep {c : Nat} {S : List Nat} {K : List V} (hs : isSep c = true) (h : Rx S K) : Rx (c :: S) K := fun text p f ht hp hf => by
  have hd : isDig c = false := by
    have : c = 43 ∨ c = 45 ∨ c = 46 ∨ c = 95 := by simpa [isSep, or_assoc] using hs
    rcases this with rfl | rfl | rfl | rfl <;> rfl
  obtain ⟨h1, h2, h3⟩ := drop_head ht
  cases f with
  | zero => rw [List.length_cons] at hf; exact om493 hf
  | succ f =>
    rw [pcs_some (nxt_sep ht hd hs)]
    obtain ⟨r1, r2⟩ := h text (p + 1) f h2 (by exact om267 h3) (by rw [List.length_cons] at hf; exact om229 hf)
    have e1 : (⟨text.extract p p⟩ : Str) = ⟨#[]⟩ := piece_eq (l := []) (S := c :: S) ht rfl
    have e2 : (⟨text.extract p (p + 1)⟩ : Str) = ⟨#[c]⟩ := piece_eq (l := [c]) (S := S) ht rfl
    rw [e1, e2]
    refine ⟨?_, fun s hm hin => ?_⟩
    · rw [compOf_cons, compOf_cons, partOf_nil, r1]
      unfold partOf
      rw [inSeps_one hs]; rfl
    · rcases List.mem_cons.mp hm with rfl | hm
      · rw [inSeps_nil] at hin; cases hin
      · rcases List.mem_cons.mp hm with rfl | hm
        · rw [inSeps_one hs] at hin; cases hin
        · exact r2 s hm hin
theorem Rx_dig {ds S : List Nat} {K : List V} {n : Int} (hne : ds ≠ []) (hd : ∀ x ∈ ds, isDig x = true) (hS : ∀ x, S.head? = some x → isDig x = false) (hn : PySem.intText? ⟨ds.toArray⟩ = some n) (hin : inSeps ⟨ds.toArray⟩ = false) (hok : IntOk ⟨ds.toArray⟩) (h : Rx S K) : Rx (ds ++ S) (.int 100 :: .int n :: K) := fun text p f ht hp hf => by
  cases ds with
  | nil => exact absurd rfl hne
  | cons c ds =>
    cases f with
    | zero => simp at hf
    | succ f =>
      rw [pcs_some (nxt_dig ht hd hS)]
      have hdr := drop_app ht
      have hl := drop_len ht
      rw [List.length_append] at hl hf
      obtain ⟨r1, r2⟩ := h text (p + (c :: ds).length) f hdr (by simp only [List.length_cons] at hl ⊢; exact om438 hl) (by simp only [List.length_cons] at hf; exact om361 hf)
      have e1 : (⟨text.extract p p⟩ : Str) = ⟨#[]⟩ := piece_eq (l := []) (S := (c :: ds) ++ S) ht rfl
      have e2 : (⟨text.extract p (p + (c :: ds).length)⟩ : Str) = ⟨(c :: ds).toArray⟩ := piece_eq ht rfl
      rw [e1, e2]
      refine ⟨?_, fun s hm hi => ?_⟩
      · rw [compOf_cons, compOf_cons, partOf_nil, r1]
        unfold partOf part2
        rw [hin, hn]; rfl
      · rcases List.mem_cons.mp hm with rfl | hm
        · rw [inSeps_nil] at hi; cases hi
        · rcases List.mem_cons.mp hm with rfl | hm
          · exact hok
          · exact r2 s hm hi
theorem Rx_word {w S : List Nat} {c : Nat} {K : List V} (hs : isSep c = true) (hw : ∀ x ∈ w, isDig x = false ∧ isSep x = false) (hn : PySem.intText? ⟨w.toArray⟩ = none) (hin : inSeps ⟨w.toArray⟩ = false) (hok : IntOk ⟨w.toArray⟩) (h : Rx S K) :
    Rx (w ++ c :: S) (.int (stageOf ⟨w.toArray⟩) :: .str ⟨w.toArray⟩ :: K) := fun text p f ht hp hf => by
  have hd : isDig c = false := by
    have : c = 43 ∨ c = 45 ∨ c = 46 ∨ c = 95 := by simpa [isSep, or_assoc] using hs
    rcases this with rfl | rfl | rfl | rfl <;> rfl
  have hl := drop_len ht
  rw [List.length_append, List.length_cons] at hl hf
  cases f with
  | zero => exact om494 hf
  | succ f =>
    rw [pcs_some (nxt_word hd hs w p ht hw)]
    have hdr := drop_app ht
    obtain ⟨h1, h2, h3⟩ := drop_head hdr
    obtain ⟨r1, r2⟩ := h text (p + w.length + 1) f h2 (by exact om369 h3) (by exact om380 hf)
    have e1 : (⟨text.extract p (p + w.length)⟩ : Str) = ⟨w.toArray⟩ := piece_eq ht rfl
    have e2 : (⟨text.extract (p + w.length) (p + w.length + 1)⟩ : Str) = ⟨#[c]⟩ := piece_eq (l := [c]) (S := S) hdr rfl
    rw [e1, e2]
    refine ⟨?_, fun s hm hi => ?_⟩
    · rw [compOf_cons, compOf_cons, r1]
      unfold partOf part2
      rw [hin, hn, inSeps_one hs]; rfl
    · rcases List.mem_cons.mp hm with rfl | hm
      · exact hok
      · rcases List.mem_cons.mp hm with rfl | hm
        · rw [inSeps_one hs] at hi; cases hi
        · exact r2 s hm hi
theorem Rx_last {w : List Nat} (hw : ∀ x ∈ w, isDig x = false ∧ isSep x = false) (hn : PySem.intText? ⟨w.toArray⟩ = none) (hin : inSeps ⟨w.toArray⟩ = false) (hok : IntOk ⟨w.toArray⟩) :
    Rx w [.int (stageOf ⟨w.toArray⟩), .str ⟨w.toArray⟩] := fun text p f ht hp hf => by
  rw [pcs_none (nxt_none w p ht hw)]
  have hl := drop_len ht
  have e1 : (⟨text.extract p text.size⟩ : Str) = ⟨w.toArray⟩ := piece_eq (S := []) (by rw [ht]; simp) (by exact om373 hl hp)
  rw [e1]
  refine ⟨?_, fun s hm hi => ?_⟩
  · rw [compOf_cons]
    unfold partOf part2
    rw [hin, hn]; rfl
  · rw [List.mem_singleton.mp hm]; exact hok
theorem Rx_out {v : Str} {K : List V} (h : Rx v.cps.toList K) : compOf (piecesOf v) = K ∧ ∀ s ∈ piecesOf v, inSeps s = false → IntOk s :=
  h v.cps 0 (2 * v.length + 3) rfl (Nat.zero_le _) (by rw [Array.length_toList]; show v.cps.size ≤ 2 * v.cps.size + 3; exact om208)
end Mine
end
section
open PySem PySem.W PyProof.Rows PySem.Builtin.Str PySem.NumText
namespace Mine
noncomputable def Bad (c : Nat) : Prop := c = 46 ∨ c = 63 ∨ (65 ≤ c ∧ c ≠ 95)
noncomputable def Chr (c : Nat) : Prop := (0 < c ∧ c < 127) ∨ c = 223 ∨ c = 7838
theorem step_bad {c : Nat} (h : Bad c) (q : Array Nat × Bool) : NumText.step 10 q c = none := by
  unfold Bad at h
  unfold NumText.step digit?
  rw [if_neg (by rw [beq_iff_eq]; exact om66 h)]
  by_cases h1 : 48 ≤ c ∧ c ≤ 57
  · exact (om55 h1 h).elim
  · rw [if_neg (by simpa using h1)]
    by_cases h2 : 97 ≤ c ∧ c ≤ 122
    · rw [if_pos (by simpa using h2)]
      exact if_neg (by exact om60 h2)
    · rw [if_neg (by simpa using h2)]
      by_cases h3 : 65 ≤ c ∧ c ≤ 90
      · rw [if_pos (by simpa using h3)]
        exact if_neg (by exact om59 h3)
      · rw [if_neg (by simpa using h3)]
theorem blank_bad {c : Nat} (h : Bad c) : blank c = false := by
  unfold Bad at h
  unfold blank
  simp; exact om65 h
theorem fold_bad {c : Nat} (h : Bad c) : ∀ (cs : List Nat) (p : Array Nat × Bool), c ∈ cs → cs.foldlM (NumText.step 10) p = none
  | [], _, hm => by cases hm
  | x :: cs, p, hm => by
    rw [List.foldlM_cons]
    rcases List.mem_cons.mp hm with rfl | hm
    · rw [step_bad h]; rfl
    · cases hs : NumText.step 10 p x with
      | none => rfl
      | some q => exact fold_bad h cs q hm
theorem mem_dropWhile {p : Nat → Bool} {c : Nat} (hp : p c = false) : ∀ {l : List Nat}, c ∈ l → c ∈ l.dropWhile p
  | [], h => by cases h
  | x :: l, h => by
    rw [List.dropWhile_cons]
    split
    · rename_i hx
      rcases List.mem_cons.mp h with rfl | h
      · rw [hp] at hx; cases hx
      · exact mem_dropWhile hp h
    · exact h
theorem mem_sign {c : Nat} (h : Bad c) {l : List Nat} (hm : c ∈ l) : c ∈ (sign l).2 := by
  unfold Bad at h
  unfold sign
  split
  · rcases List.mem_cons.mp hm with rfl | hm
    · exact (om10 h).elim
    · exact hm
  · rcases List.mem_cons.mp hm with rfl | hm
    · exact (om9 h).elim
    · exact hm
  · exact hm
theorem core_bad {c : Nat} (h : Bad c) {l : List Nat} (hm : c ∈ l) : digits? 10 (core l) = none := by
  unfold digits?
  rw [fold_bad h]
  · rfl
  · unfold core
    rw [List.mem_reverse]
    refine mem_dropWhile (blank_bad h) (List.mem_reverse.mpr (mem_sign h (mem_dropWhile (blank_bad h) hm)))
theorem num_bad : ∀ {l : List Nat}, (∀ c ∈ l, Chr c) → (∃ c ∈ l, Bad c) → ∃ c ∈ Unicode.numberText l, Bad c
  | [], _, ⟨c, h, _⟩ => by cases h
  | x :: l, hc, ⟨c, hm, hb⟩ => by
    have hx := hc x List.mem_cons_self
    have d1 : Unicode.isSpace 223 = false ∧ Unicode.decimalValue? 223 = none := by decide +kernel
    have d2 : Unicode.isSpace 7838 = false ∧ Unicode.decimalValue? 7838 = none := by decide +kernel
    rw [Unicode.numberText]
    rcases hx with hx | rfl | rfl
    · rw [if_pos hx.2]
      rcases List.mem_cons.mp hm with rfl | hm
      · exact ⟨_, List.mem_cons_self, hb⟩
      · obtain ⟨c', h1, h2⟩ := num_bad (fun y hy => hc y (List.mem_cons_of_mem _ hy)) ⟨c, hm, hb⟩
        exact ⟨c', List.mem_cons_of_mem _ h1, h2⟩
    · rw [if_neg (by decide), d1.1, d1.2]; exact ⟨63, List.mem_cons_self, .inr (.inl rfl)⟩
    · rw [if_neg (by decide), d2.1, d2.2]; exact ⟨63, List.mem_cons_self, .inr (.inl rfl)⟩
theorem num_pos : ∀ {l : List Nat}, (∀ c ∈ l, Chr c) → ∀ c ∈ Unicode.numberText l, c ≠ 0
  | [], _, c, h => by cases h
  | x :: l, hc, c, hm => by
    have hx := hc x List.mem_cons_self
    have d1 : Unicode.isSpace 223 = false ∧ Unicode.decimalValue? 223 = none := by decide +kernel
    have d2 : Unicode.isSpace 7838 = false ∧ Unicode.decimalValue? 7838 = none := by decide +kernel
    rw [Unicode.numberText] at hm
    rcases hx with hx | rfl | rfl
    · rw [if_pos hx.2] at hm
      rcases List.mem_cons.mp hm with rfl | hm
      · exact om54 hx
      · exact num_pos (fun y hy => hc y (List.mem_cons_of_mem _ hy)) c hm
    · rw [if_neg (by decide), d1.1, d1.2] at hm
      have := List.mem_singleton.mp hm; exact om117 this
    · rw [if_neg (by decide), d2.1, d2.2] at hm
      have := List.mem_singleton.mp hm; exact om117 this
theorem numText_pos {x : Str} (h : ∀ c ∈ x.cps.toList, Chr c) : ∀ c ∈ numTextOf x, c ≠ 0 := by
  show ∀ c ∈ (if x.cps.all (· < 128) then x.cps.toList else Unicode.numberText x.cps.toList), c ≠ 0
  split
  · intro c hc
    have := h c hc
    unfold Chr at this; exact om49 this
  · exact num_pos h
theorem numSeen_eq {x : Str} (h : ∀ c ∈ x.cps.toList, Chr c) : numSeenOf x = numTextOf x := by
  show (numTextOf x).takeWhile _ = _
  exact takeWhile_all fun c hc => bne_iff_ne.mpr (numText_pos h c hc)
theorem intText_bad {x : Str} (h : ∀ c ∈ x.cps.toList, Chr c) (hb : ∃ c ∈ x.cps.toList, Bad c) : PySem.intText? x = none := by
  have hm : ∃ c ∈ numTextOf x, Bad c := by
    show ∃ c ∈ (if x.cps.all (· < 128) then x.cps.toList else Unicode.numberText x.cps.toList), Bad c
    split
    · exact hb
    · exact num_bad h hb
  obtain ⟨c, hm, hc⟩ := hm
  unfold PySem.intText?
  rw [numSeen_eq h, if_pos (beq_self_eq_true _), core_bad hc hm]
structure Tok (x : Str) : Prop where
  len : x.length ≤ 300
  chr : ∀ c ∈ x.cps.toList, Chr c
  num : PySem.intText? x = none ∨ ∃ n : Nat, n ≤ 200 ∧ PySem.intText? x = some (n : Int)
theorem Tok.ok {x : Str} (h : Tok x) : IntOk x where
  len := by have := h.len; exact om152 this
  seen := by rw [numSeen_eq h.chr]; exact beq_self_eq_true _
  repr := by
    have := StrLaws.reprText_len x fun c hc => by
      have := h.chr c hc
      unfold Chr at this
      have e : (16 : Nat) ^ 8 = 4294967296 := by decide
      exact om48 this
    rw [sizeLine_eq]; exact omA8 this h.len
  small := fun n hn => by
    rcases h.num with e | ⟨m, hm, e⟩
    · rw [e] at hn; cases hn
    · rw [e] at hn; cases hn; exact log2_small (by exact om144 hm)
theorem parts_ok {parts : List Str} (hn : parts.length ≤ 10) (h : ∀ x ∈ parts, Tok x) : PartsOk parts where
  n := hn
  each := fun x hx => ⟨(h x hx).ok, by have := (h x hx).len; exact om151 this⟩
  nums := fun ns hns n hm => by
    have key : ∀ (l : List Str) (r : List Int), l.mapM PySem.intText? = some r → ∀ n ∈ r, ∃ x ∈ l, PySem.intText? x = some n := by
      intro l
      induction l with
      | nil => intro r h n hn; cases h; cases hn
      | cons x l ih =>
        intro r h n hn
        rw [List.mapM_cons] at h
        cases h1 : PySem.intText? x with
        | none => rw [h1] at h; cases h
        | some y =>
          rw [h1] at h
          cases h2 : l.mapM PySem.intText? with
          | none => rw [h2] at h; cases h
          | some ys =>
            rw [h2] at h
            cases h
            rcases List.mem_cons.mp hn with rfl | hn
            · exact ⟨x, List.mem_cons_self, h1⟩
            · obtain ⟨z, hz, e⟩ := ih ys h2 n hn
              exact ⟨z, List.mem_cons_of_mem _ hz, e⟩
    obtain ⟨x, hx, e⟩ := key parts ns hns n hm
    rcases (h x hx).num with e2 | ⟨m, hm2, e2⟩
    · rw [e] at e2; cases e2
    · rw [e] at e2; cases e2
      have := itext_len3 m hm2; exact om148 this
end Mine
end
section
open PySem PySem.W PyProof.Rows PySem.Builtin.Str PySem.NumText
namespace Mine
noncomputable def zsS (b n : Nat) : Str := Txt.mul "0" (b : Int) ++ itext (n : Int)
noncomputable def digB (b n : Nat) : Bool := (zsS b n).cps.toList.all isDig && !(zsS b n).cps.toList.isEmpty && decide ((zsS b n).length ≤ 10) && (PySem.intText? (zsS b n) == some (n : Int)) && !inSeps (zsS b n) &&
  (PySem.intText? ("+" ++ zsS b n) == some (n : Int))
theorem dig_fact : ∀ b, b < 3 → ∀ n, n < 130 → digB b n = true := by decide +kernel
noncomputable def wordB (r : Int) (w : Str) : Bool := w.cps.toList.all (fun c => !isDig c && !isSep c && ((decide (0 < c) && decide (c < 127)) || c == 223 || c == 7838) && decide (65 ≤ c) && c != 95) && !w.cps.toList.isEmpty && decide (w.length ≤ 10) && (stageOf w == r) && !inSeps w
theorem word_fact : ∀ q ∈ pairs, (wordB q.1.1 q.1.2 && wordB q.2.1 q.2.2) = true := by decide +kernel
structure DigOk (ds : Str) (n : Nat) : Prop where
  dig : ∀ c ∈ ds.cps.toList, isDig c = true
  ne : ds.cps.toList ≠ []
  len : ds.length ≤ 10
  num : PySem.intText? ds = some (n : Int)
  sep : inSeps ds = false
  plus : PySem.intText? ("+" ++ ds) = some (n : Int)
theorem digOk {b n : Nat} (hb : b < 3) (hn : n < 130) : DigOk (zsS b n) n := by
  have h := dig_fact b hb n hn
  unfold digB at h
  simp only [Bool.and_eq_true, List.all_eq_true, decide_eq_true_eq, beq_iff_eq, Bool.not_eq_true', List.isEmpty_eq_false_iff] at h
  obtain ⟨⟨⟨⟨⟨h1, h2⟩, h3⟩, h4⟩, h5⟩, h6⟩ := h
  exact ⟨h1, h2, h3, h4, h5, h6⟩
structure WordOk (r : Int) (w : Str) : Prop where
  chr : ∀ c ∈ w.cps.toList, (isDig c = false ∧ isSep c = false) ∧ Chr c ∧ Bad c
  ne : w.cps.toList ≠ []
  len : w.length ≤ 10
  stage : stageOf w = r
  sep : inSeps w = false
theorem wordOk {r : Int} {w : Str} (h : wordB r w = true) : WordOk r w := by
  unfold wordB at h
  simp only [Bool.and_eq_true, Bool.or_eq_true, List.all_eq_true, decide_eq_true_eq, beq_iff_eq, Bool.not_eq_true', List.isEmpty_eq_false_iff, bne_iff_ne] at h
  obtain ⟨⟨⟨⟨h1, h2⟩, h3⟩, h4⟩, h5⟩ := h
  refine ⟨fun c hc => ?_, h2, h3, h4, h5⟩
  obtain ⟨⟨⟨⟨a1, a2⟩, a3⟩, a4⟩, a5⟩ := h1 c hc
  refine ⟨⟨a1, a2⟩, ?_, .inr (.inr ⟨a4, a5⟩)⟩
  rcases a3 with (a3 | a3) | a3
  · exact .inl a3
  · exact .inr (.inl a3)
  · exact .inr (.inr a3)
theorem prB_word (d : Int) (b : Nat) : WordOk (prB d b).1 (prB d b).2 := by
  have h := word_fact _ (pairOf_mem d)
  obtain ⟨h1, h2⟩ := Bool.and_eq_true_iff.mp h
  unfold prB; split
  · exact wordOk h1
  · exact wordOk h2
theorem str_app_assoc (x y z : Str) : x ++ y ++ z = x ++ (y ++ z) := str_list (by rw [app_list, app_list, app_list, app_list, List.append_assoc])
theorem mul_zero_one (x : Str) (hx : x.length = 1) : Txt.mul x 0 = "" ∧ Txt.mul x 1 = x := by
  refine ⟨rfl, ?_⟩
  unfold Txt.mul
  rw [if_neg (by decide), if_pos (by rfl)]
theorem nil_app (x : Str) : "" ++ x = x := str_list (by rw [app_list]; rfl)
theorem figs_shape (d : Int) {n : Nat} (hn : n < 130) : ∃ b, b < 3 ∧ (figs d (n : Int) = zsS b n ∨ figs d (n : Int) = "+" ++ zsS b n) := by
  have h1 := fmod_lt (d.fdiv 108000) (m := 2) (by decide)
  have h2 := fmod_lt (d.fdiv 36000) (m := 3) (by decide)
  refine ⟨((d.fdiv 36000).fmod 3).toNat, by exact om20 h2, ?_⟩
  unfold figs aheadOf zsS
  rw [Int.toNat_of_nonneg h2.1]
  have : (d.fdiv 108000).fmod 2 = 0 ∨ (d.fdiv 108000).fmod 2 = 1 := by exact om16 h1
  have m := mul_zero_one "+" rfl
  rcases this with e | e
  · left; rw [e, m.1, nil_app]
  · right; rw [e, m.2, str_app_assoc]
structure Fld (l : Let4) : Prop where
  num : ∃ n : Nat, n < 130 ∧ l.1 = (n : Int) ∧ ∃ b, b < 3 ∧ (l.2.1 = zsS b n ∨ l.2.1 = "+" ++ zsS b n)
  word : WordOk l.2.2.1 l.2.2.2
theorem fld_letters {d : Int} {v : Nat} (hv : v < 4) : Fld ((letters d).getD v let0) := by
  rw [letters_get d hv]
  have hn := numB_lt d (v / 2)
  obtain ⟨n, e⟩ := Int.eq_ofNat_of_zero_le hn.1
  have hn2 : n < 130 := by exact om212 hn e
  refine ⟨⟨n, hn2, e, ?_⟩, prB_word d _⟩
  show ∃ b, b < 3 ∧ (figs d (numB d (v / 2)) = zsS b n ∨ figs d (numB d (v / 2)) = "+" ++ zsS b n)
  rw [e]
  exact figs_shape d hn2
theorem zsS_zero (n : Nat) : zsS 0 n = itext (n : Int) := by
  unfold zsS
  rw [show ((0 : Nat) : Int) = 0 from rfl, (mul_zero_one "0" rfl).1, nil_app]
theorem dig_range {c : Nat} (h : isDig c = true) : 48 ≤ c ∧ c ≤ 57 := by
  unfold isDig at h; simpa using h
theorem tok_dig {x : Str} {n : Nat} (h : DigOk x n) (hn : n < 130) : Tok x := ⟨by have := h.len; exact om132 this, fun c hc => by have := dig_range (h.dig c hc); exact .inl (by exact om56 this), .inr ⟨n, by exact om88 hn, h.num⟩⟩
theorem plus_list (x : Str) : ("+" ++ x).cps.toList = 43 :: x.cps.toList := by rw [app_list]; rfl
theorem tok_plus {x : Str} {n : Nat} (h : DigOk x n) (hn : n < 130) : Tok ("+" ++ x) := by
  refine ⟨?_, fun c hc => ?_, .inr ⟨n, by exact om88 hn, h.plus⟩⟩
  · have e : ("+" ++ x).length = 1 + x.length := Array.size_append
    have := h.len; exact om276 e this
  · rw [plus_list] at hc
    rcases List.mem_cons.mp hc with rfl | hc
    · exact .inl (by decide)
    · have := dig_range (h.dig c hc); exact .inl (by exact om56 this)
theorem tok_word {r : Int} {w : Str} (h : WordOk r w) : Tok w := by
  refine ⟨by have := h.len; exact om132 this, fun c hc => (h.chr c hc).2.1, .inl (intText_bad (fun c hc => (h.chr c hc).2.1) ?_)⟩
  cases e : w.cps.toList with
  | nil => exact absurd e h.ne
  | cons c r => exact ⟨c, List.mem_cons_self, (h.chr c (by rw [e]; exact List.mem_cons_self)).2.2⟩
theorem Fld.figs {l : Let4} (h : Fld l) : Tok l.2.1 ∧ PySem.intText? l.2.1 = some l.1 ∧ NoDot l.2.1 ∧ l.2.1.length ≤ 20 ∧ l.2.1 ≠ "" := by
  obtain ⟨n, hn, e, b, hb, hs⟩ := h.num
  have hd := digOk hb hn
  have hnd : NoDot (zsS b n) := fun hm => by have := dig_range (hd.dig 46 hm); exact om11 this
  rcases hs with hs | hs <;> rw [hs, e]
  · exact ⟨tok_dig hd hn, hd.num, hnd, by have := hd.len; exact om131 this, fun z => hd.ne (by rw [z]; rfl)⟩
  · refine ⟨tok_plus hd hn, hd.plus, ?_, ?_, fun z => ?_⟩
    · intro hm
      rw [plus_list] at hm
      rcases List.mem_cons.mp hm with z | hm
      · exact om12 z
      · exact hnd hm
    · have e : ("+" ++ zsS b n).length = 1 + (zsS b n).length := Array.size_append
      have := hd.len; exact om275 e this
    · have := congrArg (fun s : Str => s.cps.toList) z
      simp only [plus_list] at this; cases this
theorem word_nodot {r : Int} {w : Str} (h : WordOk r w) : NoDot w := fun hm => by
  have := (h.chr 46 hm).1.2; cases this
structure FdOk (d : Nat) (l : Let4) : Prop where
  tok : Tok (fieldC d l)
  num : PySem.intText? (fieldC d l) = if d = 1 then some l.1 else none
  dot : NoDot (fieldC d l)
  len : (fieldC d l).length ≤ 40
  emp : (fieldC d l = "" ↔ d = 0)
  told : toldC d l = fieldC d l
theorem fd_ok {d : Nat} (hd : d < 3) {l : Let4} (h : Fld l) : FdOk d l := by
  obtain ⟨f1, f2, f3, f4, f5⟩ := h.figs
  have hw := h.word
  have tw := tok_word hw
  have : d = 0 ∨ d = 1 ∨ d = 2 := by exact om99 hd
  rcases this with rfl | rfl | rfl
  · have e : fieldC 0 l = "" := rfl
    have e0 : PySem.intText? "" = none := by decide +kernel
    refine ⟨by rw [e]; exact ⟨by decide, fun c hc => (by cases hc), .inl e0⟩, by rw [e, e0]; rfl, by rw [e]; exact fun hm => (by cases hm), by rw [e]; decide, ⟨fun _ => rfl, fun _ => e⟩, ?_⟩
    show glued "" [] = ""; rfl
  · have e : fieldC 1 l = l.2.1 := rfl
    refine ⟨by rw [e]; exact f1, by rw [e, f2]; rfl, by rw [e]; exact f3, by rw [e]; exact om143 f4, ⟨fun z => absurd z f5, fun z => by cases z⟩, ?_⟩
    show glued "" [l.2.1] = l.2.1
    rw [StrLaws.glued_eq_join]; rfl
  · have e : fieldC 2 l = l.2.1 ++ l.2.2.2 := rfl
    have hlen : (l.2.1 ++ l.2.2.2).length = l.2.1.length + l.2.2.2.length := Array.size_append
    have hwl := hw.len
    have hchr : ∀ c ∈ (l.2.1 ++ l.2.2.2).cps.toList, Chr c := fun c hc => by
      rw [app_list] at hc
      rcases List.mem_append.mp hc with hc | hc
      · exact f1.chr c hc
      · exact tw.chr c hc
    have hnone : PySem.intText? (l.2.1 ++ l.2.2.2) = none := by
      refine intText_bad hchr ?_
      cases ew : l.2.2.2.cps.toList with
      | nil => exact absurd ew hw.ne
      | cons c r => exact ⟨c, by rw [app_list, ew]; exact List.mem_append.mpr (.inr List.mem_cons_self), (hw.chr c (by rw [ew]; exact List.mem_cons_self)).2.2⟩
    refine ⟨by rw [e]; exact ⟨by exact om410 hwl hlen f4, hchr, .inl hnone⟩, by rw [e, hnone]; rfl, ?_, by rw [e]; exact om411 hwl hlen f4, ⟨fun z => ?_, fun z => by cases z⟩, ?_⟩
    · rw [e]; intro hm; rw [app_list] at hm
      rcases List.mem_append.mp hm with hm | hm
      · exact f3 hm
      · exact word_nodot hw hm
    · rw [e] at z
      have z := congrArg (fun s : Str => s.length) z
      have z : (l.2.1 ++ l.2.2.2).length = 0 := z
      have : l.2.1 = "" := by
        refine str_list ?_
        have : l.2.1.length = 0 := Nat.eq_zero_of_add_eq_zero_right (hlen.symm.trans z)
        rw [show l.2.1.cps = #[] from Array.eq_empty_of_size_eq_zero this]; rfl
      exact absurd this f5
    · show glued "" [l.2.1, l.2.2.2] = _
      rw [StrLaws.glued_eq_join, e]
      show l.2.1 ++ "" ++ l.2.2.2 = _
      rw [str_app_assoc, nil_app]
theorem str_eta (x : Str) : (⟨x.cps.toList.toArray⟩ : Str) = x := str_list rfl
theorem Rx_digits {x : Str} {n : Nat} (h : DigOk x n) (hn : n < 130) {S : List Nat} {K : List V} (hS : ∀ c, S.head? = some c → isDig c = false) (hk : Rx S K) : Rx (x.cps.toList ++ S) (.int 100 :: .int (n : Int) :: K) :=
  Rx_dig h.ne h.dig hS (by rw [str_eta]; exact h.num) (by rw [str_eta]; exact h.sep) (by rw [str_eta]; exact (tok_dig h hn).ok) hk
theorem Rx_figs {l : Let4} (h : Fld l) {S : List Nat} {K : List V} (hS : ∀ c, S.head? = some c → isDig c = false) (hk : Rx S K) : Rx (l.2.1.cps.toList ++ S) (.int 100 :: .int l.1 :: K) := by
  obtain ⟨n, hn, e, b, hb, hs⟩ := h.num
  have hd := digOk hb hn
  rcases hs with hs | hs <;> rw [hs, e]
  · exact Rx_digits hd hn hS hk
  · rw [plus_list]
    exact Rx_sep rfl (Rx_digits hd hn hS hk)
theorem dot_head {S : List Nat} : ∀ c, (46 :: S).head? = some c → isDig c = false := fun c h => by cases h; rfl
theorem nil_head : ∀ c, ([] : List Nat).head? = some c → isDig c = false := fun c h => by cases h
theorem word_head {r : Int} {w : Str} (h : WordOk r w) {S : List Nat} : ∀ c, (w.cps.toList ++ S).head? = some c → isDig c = false := fun c hc => by
  cases e : w.cps.toList with
  | nil => exact absurd e h.ne
  | cons x r =>
    rw [e] at hc
    have : x = c := by simpa using hc
    subst this
    exact (h.chr x (by rw [e]; exact List.mem_cons_self)).1.1
theorem Rx_field_dot {d : Nat} (hd : d < 3) {l : Let4} (h : Fld l) {S : List Nat} {K : List V} (hk : Rx S K) : Rx ((fieldC d l).cps.toList ++ 46 :: S) (keyC d l ++ K) := by
  have hw := h.word
  have : d = 0 ∨ d = 1 ∨ d = 2 := by exact om99 hd
  rcases this with rfl | rfl | rfl
  · exact Rx_sep rfl hk
  · exact Rx_figs h dot_head (Rx_sep rfl hk)
  · show Rx ((l.2.1 ++ l.2.2.2).cps.toList ++ 46 :: S) _
    rw [app_list, List.append_assoc]
    have := Rx_word (w := l.2.2.2.cps.toList) (c := 46) rfl (fun x hx => (hw.chr x hx).1) (by rw [str_eta]; rcases (tok_word hw).num with q | ⟨n, _, q⟩; exact q; exact intText_bad (tok_word hw).chr (by
        cases e : l.2.2.2.cps.toList with
        | nil => exact absurd e hw.ne
        | cons c r => exact ⟨c, List.mem_cons_self, (hw.chr c (by rw [e]; exact List.mem_cons_self)).2.2⟩)) (by rw [str_eta]; exact hw.sep) (by rw [str_eta]; exact (tok_word hw).ok) hk
    rw [str_eta, hw.stage] at this
    exact Rx_figs h (word_head hw) this
theorem Rx_field_end {d : Nat} (hd : d < 3) {l : Let4} (h : Fld l) : Rx (fieldC d l).cps.toList (keyC d l) := by
  have hw := h.word
  have : d = 0 ∨ d = 1 ∨ d = 2 := by exact om99 hd
  rcases this with rfl | rfl | rfl
  · exact Rx_end
  · have := Rx_figs h nil_head Rx_end
    rw [List.append_nil] at this
    exact this
  · show Rx ((l.2.1 ++ l.2.2.2).cps.toList) _
    rw [app_list]
    have := Rx_last (w := l.2.2.2.cps.toList) (fun x hx => (hw.chr x hx).1) (by rw [str_eta]; exact intText_bad (tok_word hw).chr (by
        cases e : l.2.2.2.cps.toList with
        | nil => exact absurd e hw.ne
        | cons c r => exact ⟨c, List.mem_cons_self, (hw.chr c (by rw [e]; exact List.mem_cons_self)).2.2⟩)) (by rw [str_eta]; exact hw.sep) (by rw [str_eta]; exact (tok_word hw).ok)
    rw [str_eta, hw.stage] at this
    have h2 := word_head hw (S := [])
    rw [List.append_nil] at h2
    exact Rx_figs h h2 this
end Mine
end
section
open PySem PySem.W PyProof.Rows PySem.Builtin.Str PySem.NumText
namespace Mine
theorem mapM_mem_none {α β : Type} (f : α → Option β) {x : α} (h : f x = none) : ∀ {l : List α}, x ∈ l → l.mapM f = none
  | [], hm => by cases hm
  | y :: l, hm => by
    rw [List.mapM_cons]
    rcases List.mem_cons.mp hm with rfl | hm
    · rw [h]; rfl
    · rw [mapM_mem_none f h hm]
      cases f y <;> rfl
noncomputable def RxOne (x : Str × List V) : Prop := (∀ S K, Rx S K → Rx (x.1.cps.toList ++ 46 :: S) (x.2 ++ K)) ∧ Rx x.1.cps.toList x.2
theorem Rx_join : ∀ (xs : List (Str × List V)), xs ≠ [] → (∀ x ∈ xs, RxOne x) → Rx (Str.join "." (xs.map (·.1))).cps.toList (xs.flatMap (·.2))
  | [], h, _ => absurd rfl h
  | [x], _, h => by
    have := (h x List.mem_cons_self).2
    rw [List.flatMap_cons, List.flatMap_nil, List.append_nil]; exact this
  | x :: y :: r, _, h => by
    have ih := Rx_join (y :: r) (by simp) fun z hz => h z (List.mem_cons_of_mem _ hz)
    have := (h x List.mem_cons_self).1 _ _ ih
    have e : (Str.join "." ((x :: y :: r).map (·.1))).cps.toList = x.1.cps.toList ++ 46 :: (Str.join "." ((y :: r).map (·.1))).cps.toList := by
      show (x.1 ++ "." ++ Str.join "." ((y :: r).map (·.1))).cps.toList = _
      rw [app_list, app_list]
      show (_ ++ [46]) ++ _ = _
      rw [List.append_assoc]; rfl
    rw [e, List.flatMap_cons]
    exact this
theorem one_field {d : Nat} (hd : d < 3) {l : Let4} (h : Fld l) : RxOne (fieldC d l, keyC d l) := ⟨fun S K hk => Rx_field_dot hd h hk, Rx_field_end hd h⟩
theorem one_num {l : Let4} (h : Fld l) : RxOne (itext l.1, keyC 1 l) := by
  obtain ⟨n, hn, e, _⟩ := h.num
  have hd := digOk (b := 0) (by decide) hn
  rw [zsS_zero] at hd
  refine ⟨fun S K hk => ?_, ?_⟩
  · show Rx ((itext l.1).cps.toList ++ 46 :: S) (.int 100 :: .int l.1 :: K)
    rw [e]; exact Rx_digits hd hn dot_head (Rx_sep rfl hk)
  · show Rx ((itext l.1).cps.toList) [.int 100, .int l.1]
    rw [e]
    have := Rx_digits hd hn nil_head Rx_end
    rwa [List.append_nil] at this
theorem tok_small : Tok "0" ∧ Tok "2" ∧ Tok "b4" ∧ Tok "6rc" := by
  have n0 : PySem.intText? "0" = some 0 := by decide +kernel
  have n2 : PySem.intText? "2" = some 2 := by decide +kernel
  have nb : PySem.intText? "b4" = none := by decide +kernel
  have nr : PySem.intText? "6rc" = none := by decide +kernel
  have c : ∀ s ∈ (["0", "2", "b4", "6rc"] : List Str), ∀ c ∈ s.cps.toList, 0 < c ∧ c < 127 := by decide +kernel
  have l : ∀ s ∈ (["0", "2", "b4", "6rc"] : List Str), s.length ≤ 300 := by decide +kernel
  refine ⟨⟨l _ (by simp), fun x hx => .inl (c _ (by simp) x hx), .inr ⟨0, by decide, n0⟩⟩, ⟨l _ (by simp), fun x hx => .inl (c _ (by simp) x hx), .inr ⟨2, by decide, n2⟩⟩, ⟨l _ (by simp), fun x hx => .inl (c _ (by simp) x hx), .inl nb⟩, ⟨l _ (by simp), fun x hx => .inl (c _ (by simp) x hx), .inl nr⟩⟩
theorem turn_of {places : List (List Let4)} {depths : List Nat} {t p : Nat} (xs : List (Str × List V)) (hf : FieldsOk (fieldsTo places depths p 3)) (hx : xs ≠ []) (hx1 : ∀ x ∈ xs, RxOne x) (hlast : lastTold places depths t p = xs.map (·.1)) (hkey : keyAt places depths p = xs.flatMap (·.2))
    (hlen : ∀ x ∈ xs, x.1.length ≤ 40) (hn : xs.length ≤ 3) (hp : (partsN (fieldsTo places depths p 3) t).length ≤ 10) (htok : ∀ x ∈ partsN (fieldsTo places depths p 3) t, Tok x)
    (htext : normOf (partsN (fieldsTo places depths p 3) t) = Txt.join "." (xs.map (·.1))) : TurnOk places depths t p := by
  have ht : textAt places depths t p = Txt.join "." (xs.map (·.1)) := by unfold textAt; rw [hlast]
  have hj : Txt.join "." (xs.map (·.1)) = Str.join "." (xs.map (·.1)) := StrLaws.glued_eq_join _ _
  have hr := Rx_out (v := textAt places depths t p) (K := xs.flatMap (·.2)) (by rw [ht, hj]; exact Rx_join xs hx hx1)
  refine ⟨hf, parts_ok hp htok, by rw [htext, ht], ?_, hr.2, by rw [hr.1, hkey]⟩
  rw [ht]
  have := join_len (l := xs.map (·.1)) (m := 40) (n := 3) (fun s hs => by obtain ⟨x, hx, rfl⟩ := List.mem_map.mp hs; exact hlen x hx) (by rw [List.length_map]; exact hn)
  exact om124 this
end Mine
end
section
open PySem PySem.W PyProof.Rows PySem.Builtin.Str PySem.NumText
namespace Mine
theorem norm_none {parts : List Str} {x : Str} (hx : x ∈ parts) (h : PySem.intText? x = none) : normOf parts = Txt.join "." (parts.take 3) := by
  unfold normOf normSs
  rw [mapM_mem_none _ h hx]
theorem norm_4 {a b c m : Str} {i j k u : Int} (ha : PySem.intText? a = some i) (hb : PySem.intText? b = some j) (hc : PySem.intText? c = some k) (hm : PySem.intText? m = some u) : normOf [a, b, c, m] = Txt.join "." [itext i, itext j, itext k] := by
  unfold normOf normSs
  have : [a, b, c, m].mapM PySem.intText? = some [i, j, k, u] := by simp [List.mapM_cons, ha, hb, hc, hm]
  rw [this]; rfl
theorem norm_3 {a b c : Str} {i j k : Int} (ha : PySem.intText? a = some i) (hb : PySem.intText? b = some j) (hc : PySem.intText? c = some k) : normOf [a, b, c] = Txt.join "." [itext i, itext j, itext k] := by
  unfold normOf normSs
  have : [a, b, c].mapM PySem.intText? = some [i, j, k] := by simp [List.mapM_cons, ha, hb, hc]
  rw [this]; rfl
theorem norm_2 {a b : Str} {i j : Int} (ha : PySem.intText? a = some i) (hb : PySem.intText? b = some j) : normOf [a, b] = Txt.join "." [itext i, itext j] := by
  unfold normOf normSs
  have : [a, b].mapM PySem.intText? = some [i, j] := by simp [List.mapM_cons, ha, hb]
  rw [this]; rfl
theorem odd6 (a b c d e f : V) : vslice [a, b, c, d, e, f] (some 1) none (some 2) = [b, d, f] := by
  have e1 : sliceBounds (some 1) none (some 2) 6 = (1, 6, 2) := by decide +kernel
  have e2 : sliceRange 1 6 2 = [1, 3, 5] := by decide +kernel
  show (sliceRange (sliceBounds (some 1) none (some 2) 6).1 (sliceBounds (some 1) none (some 2) 6).2.1 (sliceBounds (some 1) none (some 2) 6).2.2).filterMap _ = _
  rw [e1, e2]; rfl
theorem odd4 (a b c d : V) : vslice [a, b, c, d] (some 1) none (some 2) = [b, d] := by
  have e1 : sliceBounds (some 1) none (some 2) 4 = (1, 4, 2) := by decide +kernel
  have e2 : sliceRange 1 4 2 = [1, 3] := by decide +kernel
  show (sliceRange (sliceBounds (some 1) none (some 2) 4).1 (sliceBounds (some 1) none (some 2) 4).2.1 (sliceBounds (some 1) none (some 2) 4).2.2).filterMap _ = _
  rw [e1, e2]; rfl
theorem itext_short {l : Let4} (h : Fld l) : (itext l.1).length ≤ 40 := by
  obtain ⟨n, hn, e, _⟩ := h.num
  rw [e]
  exact Nat.le_trans (itext_len3 n (Nat.le_trans (Nat.le_of_lt hn) (by decide))) (by decide)
theorem all2 {α : Type} {P : α → Prop} {a b : α} (h : P a) (h' : P b) : ∀ x ∈ [a, b], P x := List.forall_mem_cons.mpr ⟨h, List.forall_mem_singleton.mpr h'⟩
theorem all3 {α : Type} {P : α → Prop} {a b c : α} (h : P a) (h' : P b) (h'' : P c) : ∀ x ∈ [a, b, c], P x := List.forall_mem_cons.mpr ⟨h, all2 h' h''⟩
theorem turn_ok {places : List (List Let4)} {d0 d1 d2 t p : Nat} (h0 : d0 < 3) (h1 : d1 < 3) (h2 : d2 < 3) (hF : ∀ i, i < 3 → Fld (letAt places p i)) (ht : t < 8) : TurnOk places [d0, d1, d2] t p := by
  have e0 := hF 0 (by decide)
  have e1 := hF 1 (by decide)
  have e2 := hF 2 (by decide)
  have hfl : fieldsTo places [d0, d1, d2] p 3 = [fieldC d0 (letAt places p 0), fieldC d1 (letAt places p 1), fieldC d2 (letAt places p 2)] := rfl
  have htl : toldTo places [d0, d1, d2] p 3 = [toldC d0 (letAt places p 0), toldC d1 (letAt places p 1), toldC d2 (letAt places p 2)] := rfl
  have hkl : keyTo places [d0, d1, d2] p 3 = keyC d0 (letAt places p 0) ++ (keyC d1 (letAt places p 1) ++ (keyC d2 (letAt places p 2) ++ [])) := rfl
  generalize letAt places p 0 = l0 at *
  generalize letAt places p 1 = l1 at *
  generalize letAt places p 2 = l2 at *
  clear hF
  have F0 := fd_ok h0 e0
  have F1 := fd_ok h1 e1
  have F2 := fd_ok h2 e2
  rw [F0.told, F1.told, F2.told] at htl
  have hfo : FieldsOk (fieldsTo places [d0, d1, d2] p 3) := by
    rw [hfl]
    exact ⟨rfl, all3 ⟨om157 F0.len, F0.dot⟩ ⟨om157 F1.len, F1.dot⟩ ⟨om157 F2.len, F2.dot⟩⟩
  have x3 : ∀ x ∈ [(fieldC d0 l0, keyC d0 l0), (fieldC d1 l1, keyC d1 l1), (fieldC d2 l2, keyC d2 l2)], RxOne x ∧ x.1.length ≤ 40 := all3 (⟨one_field h0 e0, F0.len⟩) (⟨one_field h1 e1, F1.len⟩) (⟨one_field h2 e2, F2.len⟩)
  have n3 : ∀ x ∈ [(itext l0.1, keyC 1 l0), (itext l1.1, keyC 1 l1), (itext l2.1, keyC 1 l2)], RxOne x ∧ x.1.length ≤ 40 := all3 (⟨one_num e0, itext_short e0⟩) (⟨one_num e1, itext_short e1⟩) (⟨one_num e2, itext_short e2⟩)
  have sub2 : ∀ {P : Str × List V → Prop} {a b c : Str × List V}, (∀ x ∈ [a, b, c], P x) → ∀ x ∈ [a, b], P x := fun h => all2 (h _ (.head _)) (h _ (.tail _ (.head _)))
  obtain ⟨t0, t2, tb, tr⟩ := tok_small
  have some1 : ¬ (d0 = 1 ∧ d1 = 1 ∧ d2 = 1) → ∃ x ∈ [fieldC d0 l0, fieldC d1 l1, fieldC d2 l2], PySem.intText? x = none := fun h => by
    by_cases c0 : d0 = 1
    · by_cases c1 : d1 = 1
      · exact ⟨fieldC d2 l2, .tail _ (.tail _ (.head _)), by rw [F2.num, if_neg (fun c2 => h ⟨c0, c1, c2⟩)]⟩
      · exact ⟨fieldC d1 l1, .tail _ (.head _), by rw [F1.num, if_neg c1]⟩
    · exact ⟨fieldC d0 l0, .head _, by rw [F0.num, if_neg c0]⟩
  have nq3 : ¬ (d0 = 1 ∧ d1 = 1 ∧ d2 = 1) → numQ [d0, d1, d2] t 3 = false := fun h => by
    unfold numQ
    rw [decide_eq_false (by intro z; simp [List.replicate_succ] at z; exact h z)]; rfl
  have toks3 : ∀ x ∈ [fieldC d0 l0, fieldC d1 l1, fieldC d2 l2], Tok x := all3 (F0.tok) (F1.tok) (F2.tok)
  have four : ∀ m : Str, Tok m → t % 4 ≠ 1 → partsN (fieldsTo places [d0, d1, d2] p 3) t = [fieldC d0 l0, fieldC d1 l1, fieldC d2 l2, m] → ([3, 4, 6, 7].contains t = true ∧ PySem.intText? m = none ∨ [3, 4, 6, 7].contains t = false ∧ ∃ u, PySem.intText? m = some u) → TurnOk places [d0, d1, d2] t p := fun m hm h4 hp hc => by
    have hct : cutTold [d0, d1, d2] t (toldTo places [d0, d1, d2] p 3) = [fieldC d0 l0, fieldC d1 l1, fieldC d2 l2] := by unfold cutTold; rw [if_neg (fun z => h4 z.1), htl]
    have htoks : ∀ x ∈ partsN (fieldsTo places [d0, d1, d2] p 3) t, Tok x := fun x hx => by
      rw [hp] at hx
      have hx : x ∈ [fieldC d0 l0, fieldC d1 l1, fieldC d2 l2] ++ [m] := hx
      rcases List.mem_append.mp hx with hx | hx
      · exact toks3 x hx
      · rw [List.mem_singleton.mp hx]; exact hm
    have plain : numQ [d0, d1, d2] t 3 = false → (∃ x ∈ [fieldC d0 l0, fieldC d1 l1, fieldC d2 l2, m], PySem.intText? x = none) → TurnOk places [d0, d1, d2] t p := fun hq ⟨x, hx, hn⟩ => by
      refine turn_of [(fieldC d0 l0, keyC d0 l0), (fieldC d1 l1, keyC d1 l1), (fieldC d2 l2, keyC d2 l2)] hfo (by simp) (fun x hx => (x3 x hx).1) ?_ hkl (fun x hx => (x3 x hx).2) (Nat.le_refl 3) (by rw [hp]; show 4 ≤ 10; decide) htoks (by rw [hp, norm_none hx hn]; rfl)
      unfold lastTold
      rw [hct]
      show (if numQ [d0, d1, d2] t 3 = true then _ else _) = _
      rw [hq]; rfl
    rcases hc with ⟨hc, hn⟩ | ⟨hc, u, hu⟩
    · exact plain (by unfold numQ; rw [hc, Bool.not_true, Bool.and_false]) ⟨m, by simp, hn⟩
    · by_cases h : d0 = 1 ∧ d1 = 1 ∧ d2 = 1
      · obtain ⟨rfl, rfl, rfl⟩ := h
        refine turn_of [(itext l0.1, keyC 1 l0), (itext l1.1, keyC 1 l1), (itext l2.1, keyC 1 l2)] hfo (by simp) (fun x hx => (n3 x hx).1) ?_ hkl (fun x hx => (n3 x hx).2) (Nat.le_refl 3) (by rw [hp]; show 4 ≤ 10; decide) htoks (by rw [hp, norm_4 F0.num F1.num F2.num hu]; rfl)
        unfold lastTold
        rw [hct]
        show (if numQ [1, 1, 1] t 3 = true then _ else _) = _
        have hq : numQ [1, 1, 1] t 3 = true := by unfold numQ; rw [hc]; rfl
        rw [hq, if_pos rfl, hkl]; exact congrArg (List.map strOf) (odd6 _ _ _ _ _ _)
      · obtain ⟨x, hx, hn⟩ := some1 h
        exact plain (nq3 h) ⟨x, List.mem_append_left [m] hx, hn⟩
  have two : (t = 3 ∨ t = 7) → TurnOk places [d0, d1, d2] t p := fun h37 => by
    have hc : [3, 4, 6, 7].contains t = true := by rcases h37 with rfl | rfl <;> rfl
    have hct : cutTold [d0, d1, d2] t (toldTo places [d0, d1, d2] p 3) = [fieldC d0 l0, fieldC d1 l1, fieldC d2 l2] := by
      unfold cutTold; rw [if_neg (fun z => by rcases h37 with rfl | rfl <;> cases z.1), htl]
    have hp : partsN (fieldsTo places [d0, d1, d2] p 3) t = [fieldC d0 l0, Txt.join "." [fieldC d1 l1, fieldC d2 l2]] := by
      rw [hfl]; rcases h37 with rfl | rfl <;> rfl
    have hj : Txt.join "." [fieldC d1 l1, fieldC d2 l2] = fieldC d1 l1 ++ "." ++ fieldC d2 l2 := StrLaws.glued_eq_join _ _
    have hjl : (Txt.join "." [fieldC d1 l1, fieldC d2 l2]).cps.toList = (fieldC d1 l1).cps.toList ++ 46 :: (fieldC d2 l2).cps.toList := by
      rw [hj, app_list, app_list]
      show (_ ++ [46]) ++ _ = _
      rw [List.append_assoc]; rfl
    have hchr : ∀ c ∈ (Txt.join "." [fieldC d1 l1, fieldC d2 l2]).cps.toList, Chr c := fun c hc => by
      rw [hjl] at hc
      rcases List.mem_append.mp hc with hc | hc
      · exact F1.tok.chr c hc
      · rcases List.mem_cons.mp hc with rfl | hc
        · exact .inl (by decide)
        · exact F2.tok.chr c hc
    have hnone : PySem.intText? (Txt.join "." [fieldC d1 l1, fieldC d2 l2]) = none := intText_bad hchr ⟨46, by rw [hjl]; exact List.mem_append.mpr (.inr List.mem_cons_self), .inl rfl⟩
    have htj : Tok (Txt.join "." [fieldC d1 l1, fieldC d2 l2]) := ⟨by
      have := join_len (l := [fieldC d1 l1, fieldC d2 l2]) (m := 40) (n := 2) (all2 F1.len F2.len) (Nat.le_refl 2)
      exact om123 this, hchr, .inl hnone⟩
    refine turn_of [(fieldC d0 l0, keyC d0 l0), (fieldC d1 l1, keyC d1 l1), (fieldC d2 l2, keyC d2 l2)] hfo (by simp) (fun x hx => (x3 x hx).1) ?_ hkl (fun x hx => (x3 x hx).2) (Nat.le_refl 3) (by rw [hp]; show 2 ≤ 10; decide) (fun x hx => ?_) ?_
    · unfold lastTold
      rw [hct]
      show (if numQ [d0, d1, d2] t 3 = true then _ else _) = _
      have hq : numQ [d0, d1, d2] t 3 = false := by unfold numQ; rw [hc, Bool.not_true, Bool.and_false]
      rw [hq]; rfl
    · exact all2 (P := Tok) F0.tok htj x (hp ▸ hx)
    · rw [hp, norm_none (x := Txt.join "." [fieldC d1 l1, fieldC d2 l2]) (by simp) hnone]
      show Txt.join "." [fieldC d0 l0, Txt.join "." [fieldC d1 l1, fieldC d2 l2]] = Txt.join "." [fieldC d0 l0, fieldC d1 l1, fieldC d2 l2]
      have g : ∀ l, Txt.join "." l = Str.join "." l := fun l => StrLaws.glued_eq_join _ _
      rw [g, g, g]; rfl
  have build : (t = 1 ∨ t = 5) → TurnOk places [d0, d1, d2] t p := fun h15 => by
    have hc : [3, 4, 6, 7].contains t = false := by rcases h15 with rfl | rfl <;> rfl
    have h4 : t % 4 = 1 := by rcases h15 with rfl | rfl <;> rfl
    by_cases hz : d2 = 0
    · subst hz
      have hemp : fieldC 0 l2 = "" := rfl
      have hp : partsN (fieldsTo places [d0, d1, 0] p 3) t = [fieldC d0 l0, fieldC d1 l1] := by
        rw [hfl, hemp]; rcases h15 with rfl | rfl
        · unfold partsN; rw [if_neg (by decide), if_neg (fun z => by cases z.1), if_pos (by decide)]; rfl
        · unfold partsN; rw [if_neg (by decide), if_pos ⟨rfl, rfl⟩]; rfl
      have hct : cutTold [d0, d1, 0] t (toldTo places [d0, d1, 0] p 3) = [fieldC d0 l0, fieldC d1 l1] := by
        unfold cutTold; rw [if_pos ⟨h4, rfl⟩, htl]; rfl
      have htoks : ∀ x ∈ partsN (fieldsTo places [d0, d1, 0] p 3) t, Tok x := fun x hx => by
        rw [hp] at hx
        exact toks3 x (List.mem_append_left [_] hx)
      by_cases h : d0 = 1 ∧ d1 = 1
      · obtain ⟨rfl, rfl⟩ := h
        refine turn_of [(itext l0.1, keyC 1 l0), (itext l1.1, keyC 1 l1)] hfo (by simp) (sub2 fun x hx => (n3 x hx).1) ?_ hkl (sub2 fun x hx => (n3 x hx).2) (by show 2 ≤ 3; decide) (by rw [hp]; show 2 ≤ 10; decide) htoks (by rw [hp, norm_2 F0.num F1.num]; rfl)
        unfold lastTold
        rw [hct]
        show (if numQ [1, 1, 0] t 2 = true then _ else _) = _
        have hq : numQ [1, 1, 0] t 2 = true := by unfold numQ; rw [hc]; rfl
        rw [hq, if_pos rfl, hkl]; exact congrArg (List.map strOf) (odd4 _ _ _ _)
      · have hex : ∃ x ∈ [fieldC d0 l0, fieldC d1 l1], PySem.intText? x = none := by
          by_cases c0 : d0 = 1
          · exact ⟨fieldC d1 l1, .tail _ (.head _), by rw [F1.num, if_neg (fun c1 => h ⟨c0, c1⟩)]⟩
          · exact ⟨fieldC d0 l0, .head _, by rw [F0.num, if_neg c0]⟩
        obtain ⟨x, hx, hn⟩ := hex
        refine turn_of [(fieldC d0 l0, keyC d0 l0), (fieldC d1 l1, keyC d1 l1)] hfo (by simp) (sub2 fun x hx => (x3 x hx).1) ?_ hkl (sub2 fun x hx => (x3 x hx).2) (by show 2 ≤ 3; decide) (by rw [hp]; show 2 ≤ 10; decide) htoks (by rw [hp, norm_none hx hn]; rfl)
        unfold lastTold
        rw [hct]
        show (if numQ [d0, d1, 0] t 2 = true then _ else _) = _
        have hq : numQ [d0, d1, 0] t 2 = false := by
          unfold numQ
          rw [decide_eq_false (by intro z; simp [List.replicate_succ] at z; exact h z)]; rfl
        rw [hq]; rfl
    · have hne : fieldC d2 l2 ≠ "" := fun z => hz (F2.emp.mp z)
      have hb : (fieldC d2 l2 == "") = false := by
        cases q : fieldC d2 l2 == "" with
        | false => rfl
        | true => exact absurd (beq_iff_eq.mp q) hne
      have hp : partsN (fieldsTo places [d0, d1, d2] p 3) t = [fieldC d0 l0, fieldC d1 l1, fieldC d2 l2] := by
        rw [hfl]; rcases h15 with rfl | rfl
        · unfold partsN; rw [if_neg (by decide), if_neg (fun z => by cases z.1), if_pos (by decide)]
          show _ ++ (if (fieldC d2 l2 == "") = true then _ else _) = _
          rw [hb]; rfl
        · unfold partsN; rw [if_neg (by decide), if_neg (fun z => hne z.2), if_pos (by decide)]
          show _ ++ (if (fieldC d2 l2 == "") = true then _ else _) = _
          rw [hb]; rfl
      have hct : cutTold [d0, d1, d2] t (toldTo places [d0, d1, d2] p 3) = [fieldC d0 l0, fieldC d1 l1, fieldC d2 l2] := by
        unfold cutTold; rw [if_neg (fun z => hz z.2), htl]
      have htoks : ∀ x ∈ partsN (fieldsTo places [d0, d1, d2] p 3) t, Tok x := fun x hx => by rw [hp] at hx; exact toks3 x hx
      by_cases h : d0 = 1 ∧ d1 = 1 ∧ d2 = 1
      · obtain ⟨rfl, rfl, rfl⟩ := h
        refine turn_of [(itext l0.1, keyC 1 l0), (itext l1.1, keyC 1 l1), (itext l2.1, keyC 1 l2)] hfo (by simp) (fun x hx => (n3 x hx).1) ?_ hkl (fun x hx => (n3 x hx).2) (Nat.le_refl 3) (by rw [hp]; show 3 ≤ 10; decide) htoks (by rw [hp, norm_3 F0.num F1.num F2.num]; rfl)
        unfold lastTold
        rw [hct]
        show (if numQ [1, 1, 1] t 3 = true then _ else _) = _
        have hq : numQ [1, 1, 1] t 3 = true := by unfold numQ; rw [hc]; rfl
        rw [hq, if_pos rfl, hkl]; exact congrArg (List.map strOf) (odd6 _ _ _ _ _ _)
      · obtain ⟨x, hx, hn⟩ := some1 h
        refine turn_of [(fieldC d0 l0, keyC d0 l0), (fieldC d1 l1, keyC d1 l1), (fieldC d2 l2, keyC d2 l2)] hfo (by simp) (fun x hx => (x3 x hx).1) ?_ hkl (fun x hx => (x3 x hx).2) (Nat.le_refl 3) (by rw [hp]; show 3 ≤ 10; decide) htoks (by rw [hp, norm_none hx hn]; rfl)
        unfold lastTold
        rw [hct]
        show (if numQ [d0, d1, d2] t 3 = true then _ else _) = _
        rw [nq3 h]; rfl
  have n0 : PySem.intText? "0" = some 0 := by decide +kernel
  have n2 : PySem.intText? "2" = some 2 := by decide +kernel
  have nb : PySem.intText? "b4" = none := by decide +kernel
  have nr : PySem.intText? "6rc" = none := by decide +kernel
  have : t = 0 ∨ t = 1 ∨ t = 2 ∨ t = 3 ∨ t = 4 ∨ t = 5 ∨ t = 6 ∨ t = 7 := by exact om112 ht
  rcases this with h | h | h | h | h | h | h | h
  · exact four "0" t0 (by rw [h]; decide) (by rw [hfl, h]; rfl) (.inr ⟨by rw [h]; rfl, 0, n0⟩)
  · exact build (.inl h)
  · exact four "2" t2 (by rw [h]; decide) (by rw [hfl, h]; rfl) (.inr ⟨by rw [h]; rfl, 2, n2⟩)
  · exact two (.inl h)
  · exact four "b4" tb (by rw [h]; decide) (by rw [hfl, h]; rfl) (.inl ⟨by rw [h]; rfl, nb⟩)
  · exact build (.inr h)
  · exact four "6rc" tr (by rw [h]; decide) (by rw [hfl, h]; rfl) (.inl ⟨by rw [h]; rfl, nr⟩)
  · exact two (.inr h)
end Mine
end
section
open PySem PySem.W PyProof.Rows PySem.Builtin.Str PySem.NumText
namespace Mine
noncomputable def lowL (l : List Nat) : List Nat := l.flatMap Unicode.lowerOf
theorem lower_list (x : Str) (h : ∀ c ∈ x.cps.toList, c ≠ 0x3A3) : (Txt.lower x).cps.toList = lowL x.cps.toList := by
  show (x.cps.mapIdx fun i c => (Unicode.lowerAt x.cps i).toArray).flatten.toList = _
  have e : (x.cps.mapIdx fun i c => (Unicode.lowerAt x.cps i).toArray) = x.cps.map fun c => (Unicode.lowerOf c).toArray := by
    apply Array.ext
    · simp
    · intro i h1 h2
      have hi : i < x.cps.size := by simpa using h1
      rw [Array.getElem_mapIdx, Array.getElem_map]
      have hc : x.cps[i] ≠ 0x3A3 := h _ (Array.getElem_mem_toList hi)
      congr 1
      unfold Unicode.lowerAt
      rw [Array.getElem?_eq_getElem hi]
      dsimp only
      rw [if_neg (by simp [hc])]
  rw [e, Array.toList_flatten, Array.toList_map, List.map_map]
  unfold lowL
  rw [List.flatMap_def]
  congr 1
theorem lowL_app (a b : List Nat) : lowL (a ++ b) = lowL a ++ lowL b := by unfold lowL; rw [List.flatMap_append]
theorem lowL_id : ∀ {l : List Nat}, (∀ c ∈ l, c = 43 ∨ isDig c = true) → lowL l = l
  | [], _ => rfl
  | c :: l, h => by
    have ih := lowL_id (l := l) fun x hx => h x (List.mem_cons_of_mem _ hx)
    have hd : ∀ c, c < 58 → (c = 43 ∨ isDig c = true) → Unicode.lowerOf c = [c] := by decide +kernel
    have hc := h c List.mem_cons_self
    have : c < 58 := by
      rcases hc with rfl | hc
      · decide
      · have := dig_range hc; exact om57 this
    unfold lowL at ih ⊢
    rw [List.flatMap_cons, hd c this hc, ih]; rfl
noncomputable def lowB (q : (Int × Str) × (Int × Str)) : Bool :=
  (lowL q.1.2.cps.toList == lowL q.2.2.cps.toList) && decide ((lowL q.1.2.cps.toList).length ≤ 30) && (lowL q.1.2.cps.toList).all (fun c => !isDig c) && !(q.1.2 == q.2.2) && q.1.2.cps.toList.all (fun c => c != 0x3A3) && q.2.2.cps.toList.all (fun c => c != 0x3A3)
theorem low_fact : ∀ q ∈ pairs, lowB q = true := by decide +kernel
structure LowOk (q : (Int × Str) × (Int × Str)) : Prop where
  eq : lowL q.1.2.cps.toList = lowL q.2.2.cps.toList
  len : (lowL q.1.2.cps.toList).length ≤ 30
  dig : ∀ c ∈ lowL q.1.2.cps.toList, isDig c = false
  ne : q.1.2 ≠ q.2.2
  s0 : ∀ c ∈ q.1.2.cps.toList, c ≠ 0x3A3
  s1 : ∀ c ∈ q.2.2.cps.toList, c ≠ 0x3A3
theorem lowOk (d : Int) : LowOk (pairOf d) := by
  have h := low_fact _ (pairOf_mem d)
  unfold lowB at h
  simp only [Bool.and_eq_true, List.all_eq_true, decide_eq_true_eq, beq_iff_eq, Bool.not_eq_true', bne_iff_ne, beq_eq_false_iff_ne] at h
  obtain ⟨⟨⟨⟨⟨h1, h2⟩, h3⟩, h4⟩, h5⟩, h6⟩ := h
  exact ⟨h1, h2, h3, h4, h5, h6⟩
theorem prB_low (d : Int) (b : Nat) : lowL (prB d b).2.cps.toList = lowL (prB d 0).2.cps.toList ∧ ∀ c ∈ (prB d b).2.cps.toList, c ≠ 0x3A3 := by
  have h := lowOk d
  unfold prB
  split
  · exact ⟨rfl, h.s0⟩
  · exact ⟨h.eq.symm, h.s1⟩
noncomputable def txB (d : Int) (a b : Nat) : Str := figs d (numB d a) ++ (prB d b).2
theorem figs_chars (d : Int) (a : Nat) : ∀ c ∈ (figs d (numB d a)).cps.toList, c = 43 ∨ isDig c = true := by
  have hn := numB_lt d a
  obtain ⟨n, e⟩ := Int.eq_ofNat_of_zero_le hn.1
  have hn2 : n < 130 := by exact om212 hn e
  rw [e]
  obtain ⟨b, hb, hs⟩ := figs_shape d hn2
  have hd := digOk hb hn2
  rcases hs with hs | hs <;> rw [hs]
  · exact fun c hc => .inr (hd.dig c hc)
  · intro c hc
    rw [plus_list] at hc
    rcases List.mem_cons.mp hc with rfl | hc
    · exact .inl rfl
    · exact .inr (hd.dig c hc)
theorem txB_lower (d : Int) (a b : Nat) : (Txt.lower (txB d a b)).cps.toList = (figs d (numB d a)).cps.toList ++ lowL (prB d 0).2.cps.toList := by
  have hf := figs_chars d a
  have hp := prB_low d b
  rw [lower_list]
  · unfold txB
    rw [app_list, lowL_app, lowL_id hf, hp.1]
  · intro c hc
    unfold txB at hc
    rw [app_list] at hc
    rcases List.mem_append.mp hc with hc | hc
    · rcases hf c hc with rfl | h
      · decide
      · have := dig_range h; exact om58 this
    · exact hp.2 c hc
theorem figs_len20 (d : Int) (a : Nat) : (figs d (numB d a)).length ≤ 7 := figs_len d (numB_lt d a).1 (by have := (numB_lt d a).2; exact om29 this)
theorem lower_short (d : Int) (a b : Nat) : tooLong (Txt.lower (txB d a b)).length = false := by
  have h : (Txt.lower (txB d a b)).length = _ := (Array.length_toList (xs := (Txt.lower (txB d a b)).cps)).symm.trans (congrArg List.length (txB_lower d a b))
  rw [List.length_append] at h
  have h1 := (lowOk d).len
  have h2 : (figs d (numB d a)).cps.toList.length ≤ 7 := by rw [Array.length_toList]; exact figs_len20 d a
  have h3 : (prB d 0).2 = (pairOf d).1.2 := rfl
  rw [h3] at h
  unfold tooLong
  rw [h, sizeLine_eq]
  exact decide_eq_false (by exact om297 h2 h1)
theorem itext_digits {n : Nat} (hn : n < 130) : DigOk (itext (n : Int)) n := by have := digOk (b := 0) (by decide) hn; rwa [zsS_zero] at this
theorem takeWhile_dig {l W : List Nat} (hl : ∀ c ∈ l, isDig c = true) (hW : ∀ c ∈ W, isDig c = false) : (l ++ W).takeWhile isDig = l := takeWhile_app hl fun c hc => hW c (by
  cases W with
  | nil => cases hc
  | cons x r => cases hc; exact List.mem_cons_self)
theorem lower_ne (d : Int) {a a' : Nat} (ha : a < 2) (ha' : a' < 2) (h : a ≠ a') (b b' : Nat) : Txt.lower (txB d a b) ≠ Txt.lower (txB d a' b') := fun z => by
  have z := congrArg (fun s : Str => s.cps.toList) z
  simp only [txB_lower] at z
  have hn := numB_lt d a
  have hn' := numB_lt d a'
  have hne : numB d a ≠ numB d a' := fun q => h ((numB_iff d ha ha').2.mp q)
  obtain ⟨n, e⟩ := Int.eq_ofNat_of_zero_le hn.1
  obtain ⟨n', e'⟩ := Int.eq_ofNat_of_zero_le hn'.1
  rw [e] at hn hne
  rw [e'] at hn' hne
  rw [e, e'] at z
  unfold figs at z
  rw [app_list, app_list, List.append_assoc, List.append_assoc] at z
  have z := List.append_cancel_left z
  have h1 := itext_digits (n := n) (by exact om47 hn)
  have h2 := itext_digits (n := n') (by exact om47 hn')
  have z := congrArg (List.takeWhile isDig) z
  have hw : ∀ c ∈ lowL (prB d 0).2.cps.toList, isDig c = false := (lowOk d).dig
  rw [takeWhile_dig h1.dig hw, takeWhile_dig h2.dig hw] at z
  have z := str_list z
  have q1 := h1.num
  rw [z, h2.num] at q1
  injection q1 with q1
  exact hne (by rw [q1])
theorem subst_same (x : Str) : substV x x = 0 := by unfold substV; rw [if_pos (by simp)]
theorem subst_spell (d : Int) (a : Nat) : substV (txB d a 0) (txB d a 1) = 1 ∧ substV (txB d a 1) (txB d a 0) = 1 := by
  have hne : txB d a 0 ≠ txB d a 1 := fun z => by
    have z := congrArg (fun s : Str => s.cps.toList) z
    unfold txB at z
    simp only [app_list] at z
    exact (lowOk d).ne (str_list (List.append_cancel_left z))
  have hl : Txt.lower (txB d a 0) = Txt.lower (txB d a 1) := str_list (by rw [txB_lower, txB_lower])
  constructor
  · unfold substV; rw [if_neg (by simpa using hne), if_pos (by rw [hl]; simp)]
  · unfold substV; rw [if_neg (by simpa using hne.symm), if_pos (by rw [hl]; simp)]
theorem subst_num (d : Int) {a a' : Nat} (ha : a < 2) (ha' : a' < 2) (h : a ≠ a') (b b' : Nat) : substV (txB d a b) (txB d a' b') = 2 := by
  have h1 := lower_ne d ha ha' h b b'
  unfold substV
  rw [if_neg (by intro z; rw [beq_iff_eq.mp z] at h1; exact h1 rfl), if_neg (by simpa using h1)]
theorem texts_letters (d : Int) : textsOf (letters d) = [txB d 0 0, txB d 1 0, txB d 0 1, txB d 1 1] := by
  unfold textsOf kOrd
  simp only [List.map_cons, List.map_nil]
  rw [letters_get d (by decide), letters_get d (by decide), letters_get d (by decide), letters_get d (by decide)]
  rfl
theorem tells_letters (d : Int) : tellsOf (letters d) = (["00", "22", "11", "22"] : List Str) := by
  unfold tellsOf
  rw [texts_letters]
  simp only [List.map_cons, List.map_nil]
  show [tellOf (txB d 0 0) (txB d 0 0), tellOf (txB d 0 0) (txB d 1 0), tellOf (txB d 0 0) (txB d 0 1), tellOf (txB d 0 0) (txB d 1 1)] = _
  unfold tellOf
  rw [subst_same, (subst_spell d 0).1, (subst_spell d 0).2, subst_num d (by decide) (by decide) (by decide), subst_num d (by decide) (by decide) (by decide), subst_num d (by decide) (by decide) (by decide), subst_num d (by decide) (by decide) (by decide)]
  decide +kernel
theorem letOk (d : Int) : LetOk (letters d) where
  len := rfl
  short := fun p hp => by
    obtain ⟨v, hv, rfl⟩ := letters_mem hp
    have h1 := figs_len20 d (v / 2)
    have h2 := (prB_ok d (v % 2)).2.2
    exact ⟨by show (figs d (numB d (v / 2))).length ≤ 100; exact om162 h1, by show (prB d (v % 2)).2.length ≤ 100; exact om127 h2⟩
  low := fun t ht => by
    rw [texts_letters] at ht
    simp only [List.mem_cons, List.not_mem_nil, or_false] at ht
    rcases ht with rfl | rfl | rfl | rfl <;> exact lower_short _ _ _
  num := fun p hp => by
    obtain ⟨v, hv, rfl⟩ := letters_mem hp
    have h1 := numB_lt d (v / 2)
    have h2 := prB_ok d (v % 2)
    exact ⟨h1.1, by show numB d (v / 2) < 200; exact om15 h1, h2.1, h2.2.1⟩
end Mine
end
section
open PySem PySem.W PyProof.Rows PySem.Builtin.Str
namespace Mine
theorem lsum_mul {α : Type} (f : α → Int) (k : Int) : ∀ l : List α, (l.map fun a => f a * k).sum = (l.map f).sum * k
  | [] => by simp
  | a :: l => by simp only [List.map_cons, List.sum_cons, lsum_mul f k l, Int.add_mul]
theorem lsum_congr {α : Type} {f g : α → Int} : ∀ {l : List α}, (∀ a ∈ l, f a = g a) → (l.map f).sum = (l.map g).sum
  | [], _ => rfl
  | a :: l, h => by simp only [List.map_cons, List.sum_cons]; rw [h a List.mem_cons_self, lsum_congr fun b hb => h b (List.mem_cons_of_mem _ hb)]
theorem lsum_add {α : Type} (f g : α → Int) : ∀ l : List α, (l.map fun a => f a + g a).sum = (l.map f).sum + (l.map g).sum
  | [] => rfl
  | a :: l => by simp only [List.map_cons, List.sum_cons, lsum_add f g l]; exact om39
theorem lsum_zero {α : Type} : ∀ l : List α, (l.map fun _ => (0 : Int)).sum = 0
  | [] => rfl
  | a :: l => by simp only [List.map_cons, List.sum_cons, lsum_zero l]; rfl
theorem lsum_swap {α β : Type} (f : α → β → Int) (m : List β) : ∀ l : List α, (l.map fun a => (m.map fun b => f a b).sum).sum = (m.map fun b => (l.map fun a => f a b).sum).sum
  | [] => by simp only [List.map_nil, List.sum_nil, lsum_zero]
  | a :: l => by simp only [List.map_cons, List.sum_cons, lsum_swap f m l, lsum_add]
theorem lsum_flat {α β : Type} (g : β → Int) (f : α → List β) : ∀ l : List α, ((l.flatMap f).map g).sum = (l.map fun a => ((f a).map g).sum).sum
  | [] => rfl
  | a :: l => by simp only [List.flatMap_cons, List.map_append, List.sum_append, List.map_cons, List.sum_cons, lsum_flat g f l]
theorem lsum_count {α : Type} (p : α → Bool) (k : Int) : ∀ l : List α, (l.map fun a => if p a then k else 0).sum = (l.countP p : Nat) * k
  | [] => by simp
  | a :: l => by
    rw [List.map_cons, List.sum_cons, lsum_count p k l, List.countP_cons]
    cases p a
    · simp
    · simp [Int.add_mul]; exact om43
noncomputable def chi (n : Nat) : Int := 1 - 2 * par n
noncomputable def okB (d c : Nat) : Bool := d == 2 || (d == 1 && c % 2 == 0) || c == 0
theorem chi_place : ∀ d, d < 3 → ∀ v, v < 4 → ((List.range 4).map fun a => if okB d a then chi (a &&& v) else 0).sum = if qOf d v = 0 then 2 ^ d else 0 := by decide +kernel
theorem and_places : ∀ a, a < 4 → ∀ b, b < 4 → ∀ c, c < 4 → ∀ x, x < 4 → ∀ y, y < 4 → ∀ z, z < 4 → ((16 * c + 4 * b + a) &&& (16 * z + 4 * y + x)) = 16 * (c &&& z) + 4 * (b &&& y) + (a &&& x) := by decide +kernel
theorem xor_places : ∀ a, a < 4 → ∀ b, b < 4 → ∀ c, c < 4 → ∀ x, x < 4 → ∀ y, y < 4 → ∀ z, z < 4 → ((16 * c + 4 * b + a) ^^^ (16 * z + 4 * y + x)) = 16 * (c ^^^ z) + 4 * (b ^^^ y) + (a ^^^ x) := by decide +kernel
theorem chi_places : ∀ a, a < 4 → ∀ b, b < 4 → ∀ c, c < 4 → chi (16 * c + 4 * b + a) = chi a * chi b * chi c := by decide +kernel
theorem chi_xor4 : ∀ a, a < 4 → ∀ x, x < 4 → chi (a ^^^ x) = chi a * chi x := by decide +kernel
theorem chi_one : ∀ n, n < 64 → (chi n = 1 ∧ (par n == 1) = false) ∨ (chi n = -1 ∧ (par n == 1) = true) := by decide +kernel
theorem q_xor : ∀ d, d < 3 → ∀ v, v < 4 → ∀ u, u < 4 → (qOf d v = qOf d u ↔ qOf d (v ^^^ u) = 0) := by decide +kernel
theorem valAt_eq (p i : Nat) : valAt p i = p / 4 ^ i % 4 := by
  unfold valAt
  rw [Nat.shiftRight_eq_div_pow, Nat.pow_mul]
  exact Nat.and_two_pow_sub_one_eq_mod _ 2
theorem places_of {x : Nat} (h : x < 64) : x = 16 * valAt x 2 + 4 * valAt x 1 + valAt x 0 := by
  rw [valAt_eq, valAt_eq, valAt_eq]
  exact om106 h
theorem valAt_xor (p q i : Nat) : valAt (p ^^^ q) i = valAt p i ^^^ valAt q i := by
  unfold valAt
  rw [Nat.shiftRight_xor_distrib, Nat.and_xor_distrib_right]
theorem xor4_lt {a b : Nat} (h : a < 4) (h' : b < 4) : a ^^^ b < 4 := Nat.xor_lt_two_pow (n := 2) h h'
theorem xor64 {a b : Nat} (h : a < 64) (h' : b < 64) : a ^^^ b < 64 := Nat.xor_lt_two_pow (n := 6) h h'
theorem and4_lt {a b : Nat} (h : a < 4) : a &&& b < 4 := Nat.lt_of_le_of_lt Nat.and_le_left h
theorem chi_xor {m n : Nat} (hm : m < 64) (hn : n < 64) : chi (m ^^^ n) = chi m * chi n := by
  have v := valAt_lt
  rw [places_of hm, places_of hn, xor_places _ (v _ _) _ (v _ _) _ (v _ _) _ (v _ _) _ (v _ _) _ (v _ _),
    chi_places _ (xor4_lt (v _ _) (v _ _)) _ (xor4_lt (v _ _) (v _ _)) _ (xor4_lt (v _ _) (v _ _)), chi_xor4 _ (v _ _) _ (v _ _), chi_xor4 _ (v _ _) _ (v _ _), chi_xor4 _ (v _ _) _ (v _ _),
    chi_places _ (v _ _) _ (v _ _) _ (v _ _), chi_places _ (v _ _) _ (v _ _) _ (v _ _)]
  generalize chi (valAt m 0) = a, chi (valAt m 1) = b, chi (valAt m 2) = c, chi (valAt n 0) = x, chi (valAt n 1) = y, chi (valAt n 2) = z
  grind
theorem range64 : List.range 64 = (List.range 4).flatMap fun c => (List.range 4).flatMap fun b => (List.range 4).map fun a => 16 * c + 4 * b + a := by decide +kernel
theorem valAt_mk {a b c : Nat} (ha : a < 4) (hb : b < 4) (hc : c < 4) : valAt (16 * c + 4 * b + a) 0 = a ∧ valAt (16 * c + 4 * b + a) 1 = b ∧ valAt (16 * c + 4 * b + a) 2 = c := by
  rw [valAt_eq, valAt_eq, valAt_eq]
  exact ⟨om418 ha, om407 hb ha, om392 hc hb ha⟩
noncomputable def okW (d0 d1 d2 w : Nat) : Bool := okB d0 (valAt w 0) && okB d1 (valAt w 1) && okB d2 (valAt w 2)
theorem sum_words {d0 d1 d2 x : Nat} (h0 : d0 < 3) (h1 : d1 < 3) (h2 : d2 < 3) (hx : x < 64) :
    ((List.range 64).map fun w => if okW d0 d1 d2 w then chi (w &&& x) else 0).sum = if qOf d0 (valAt x 0) = 0 ∧ qOf d1 (valAt x 1) = 0 ∧ qOf d2 (valAt x 2) = 0 then 2 ^ (d0 + d1 + d2) else 0 := by
  have v := valAt_lt
  rw [range64, lsum_flat]
  have inner : ∀ c ∈ List.range 4, ((((List.range 4).flatMap fun b => (List.range 4).map fun a => 16 * c + 4 * b + a)).map fun w => if okW d0 d1 d2 w then chi (w &&& x) else 0).sum = (if okB d2 c then chi (c &&& valAt x 2) else 0) * ((if qOf d1 (valAt x 1) = 0 then 2 ^ d1 else 0) * (if qOf d0 (valAt x 0) = 0 then 2 ^ d0 else 0)) := fun c hc => by
    have hc : c < 4 := by simpa using hc
    rw [lsum_flat]
    have in2 : ∀ b ∈ List.range 4, (((List.range 4).map fun a => 16 * c + 4 * b + a).map fun w => if okW d0 d1 d2 w then chi (w &&& x) else 0).sum = (if okB d1 b then chi (b &&& valAt x 1) else 0) * ((if okB d2 c then chi (c &&& valAt x 2) else 0) * (if qOf d0 (valAt x 0) = 0 then 2 ^ d0 else 0)) := fun b hb => by
      have hb : b < 4 := by simpa using hb
      rw [List.map_map]
      have in3 : ∀ a ∈ List.range 4, ((fun w => if okW d0 d1 d2 w then chi (w &&& x) else 0) ∘ fun a => 16 * c + 4 * b + a) a = (if okB d0 a then chi (a &&& valAt x 0) else 0) * ((if okB d1 b then chi (b &&& valAt x 1) else 0) * (if okB d2 c then chi (c &&& valAt x 2) else 0)) := fun a ha => by
        have ha : a < 4 := by simpa using ha
        show (if okW d0 d1 d2 (16 * c + 4 * b + a) then chi ((16 * c + 4 * b + a) &&& x) else 0) = _
        obtain ⟨e0, e1, e2⟩ := valAt_mk ha hb hc
        have hcx : chi ((16 * c + 4 * b + a) &&& x) = chi (a &&& valAt x 0) * chi (b &&& valAt x 1) * chi (c &&& valAt x 2) := by
          conv => lhs; rw [places_of hx]
          rw [and_places _ ha _ hb _ hc _ (v _ _) _ (v _ _) _ (v _ _), chi_places _ (and4_lt ha) _ (and4_lt hb) _ (and4_lt hc)]
        unfold okW
        rw [e0, e1, e2, hcx]
        cases okB d0 a <;> cases okB d1 b <;> cases okB d2 c <;> simp [Int.mul_assoc]
      rw [lsum_congr in3, lsum_mul, chi_place d0 h0 _ (v _ _)]
      generalize (if okB d1 b then chi (b &&& valAt x 1) else 0) = p, (if okB d2 c then chi (c &&& valAt x 2) else 0) = q, (if qOf d0 (valAt x 0) = 0 then (2 : Int) ^ d0 else 0) = r
      grind
    rw [lsum_congr in2, lsum_mul, chi_place d1 h1 _ (v _ _)]
    generalize (if okB d2 c then chi (c &&& valAt x 2) else 0) = q, (if qOf d0 (valAt x 0) = 0 then (2 : Int) ^ d0 else 0) = r, (if qOf d1 (valAt x 1) = 0 then (2 : Int) ^ d1 else 0) = u
    grind
  rw [lsum_congr inner, lsum_mul, chi_place d2 h2 _ (v _ _)]
  have hp : (2 : Int) ^ (d0 + d1 + d2) = 2 ^ d2 * (2 ^ d1 * 2 ^ d0) := by
    rw [Int.pow_add, Int.pow_add]
    generalize (2 : Int) ^ d0 = a, (2 : Int) ^ d1 = b, (2 : Int) ^ d2 = c
    grind
  rw [hp]
  by_cases q0 : qOf d0 (valAt x 0) = 0 <;> by_cases q1 : qOf d1 (valAt x 1) = 0 <;> by_cases q2 : qOf d2 (valAt x 2) = 0 <;> simp [q0, q1, q2]
end Mine
end
section
open PySem PySem.W PyProof.Rows PySem.Builtin.Str
namespace Mine
theorem chiw {w a b : Nat} (ha : a < 64) (hb : b < 64) : chi (w &&& (a ^^^ b)) = chi (w &&& a) * chi (w &&& b) := by
  rw [Nat.and_xor_distrib_left]; exact chi_xor (and_lt ha) (and_lt hb)
theorem points_eq (c0 c1 c2 p : Nat) : pointsGo [c0, c1, c2] p 3 = [p, p ^^^ c0, p ^^^ c1, p ^^^ c0 ^^^ c1, p ^^^ c2, p ^^^ c0 ^^^ c2, p ^^^ c1 ^^^ c2, p ^^^ c0 ^^^ c1 ^^^ c2] := rfl
theorem point_lt {c0 c1 c2 p : Nat} (h0 : c0 < 64) (h1 : c1 < 64) (h2 : c2 < 64) (hp : p < 64) : ∀ u, u < 8 → (pointsGo [c0, c1, c2] p 3).getD u 0 < 64 := fun u hu => by
  rw [points_eq]
  have : u = 0 ∨ u = 1 ∨ u = 2 ∨ u = 3 ∨ u = 4 ∨ u = 5 ∨ u = 6 ∨ u = 7 := by exact om112 hu
  rcases this with rfl | rfl | rfl | rfl | rfl | rfl | rfl | rfl
  · exact hp
  · exact xor64 hp h0
  · exact xor64 hp h1
  · exact xor64 (xor64 hp h0) h1
  · exact xor64 hp h2
  · exact xor64 (xor64 hp h0) h2
  · exact xor64 (xor64 hp h1) h2
  · exact xor64 (xor64 (xor64 hp h0) h1) h2
theorem chi_points {c0 c1 c2 p w : Nat} (h0 : c0 < 64) (h1 : c1 < 64) (h2 : c2 < 64) (hp : p < 64) :
    (List.range 8).map (fun u => chi (w &&& (pointsGo [c0, c1, c2] p 3).getD u 0)) = [chi (w &&& p), chi (w &&& p) * chi (w &&& c0), chi (w &&& p) * chi (w &&& c1), chi (w &&& p) * chi (w &&& c0) * chi (w &&& c1), chi (w &&& p) * chi (w &&& c2), chi (w &&& p) * chi (w &&& c0) * chi (w &&& c2), chi (w &&& p) * chi (w &&& c1) * chi (w &&& c2), chi (w &&& p) * chi (w &&& c0) * chi (w &&& c1) * chi (w &&& c2)] := by
  rw [points_eq]
  have e : List.range 8 = [0, 1, 2, 3, 4, 5, 6, 7] := rfl
  rw [e]
  simp only [List.map_cons, List.map_nil, List.getD_cons_zero, List.getD_cons_succ]
  rw [chiw (xor64 (xor64 hp h0) h1) h2, chiw (xor64 hp h1) h2, chiw (xor64 hp h0) h2, chiw hp h2, chiw (xor64 hp h0) h1, chiw hp h1, chiw hp h0]
noncomputable def pts8 (e x y z : Int) : List Int := [e, e * x, e * y, e * x * y, e * z, e * x * z, e * y * z, e * x * y * z]
theorem pts_tab : ∀ e ∈ ([1, -1] : List Int), ∀ x ∈ ([1, -1] : List Int), ∀ y ∈ ([1, -1] : List Int), ∀ z ∈ ([1, -1] : List Int), ∀ j, j < 8 → (pts8 e x y z).sum * (pts8 e x y z).getD j 0 = if (x == 1 && y == 1 && z == 1) = true then 8 else 0 := by decide +kernel
theorem sum_points {c0 c1 c2 p w : Nat} (h0 : c0 < 64) (h1 : c1 < 64) (h2 : c2 < 64) (hp : p < 64) {j : Nat} (hj : j < 8) :
    ((List.range 8).map fun u => chi (w &&& ((pointsGo [c0, c1, c2] p 3).getD u 0 ^^^ (pointsGo [c0, c1, c2] p 3).getD j 0))).sum = if perp [c0, c1, c2] w then 8 else 0 := by
  have hl := point_lt h0 h1 h2 hp
  have e1 : ∀ u ∈ List.range 8, chi (w &&& ((pointsGo [c0, c1, c2] p 3).getD u 0 ^^^ (pointsGo [c0, c1, c2] p 3).getD j 0)) = chi (w &&& (pointsGo [c0, c1, c2] p 3).getD u 0) * chi (w &&& (pointsGo [c0, c1, c2] p 3).getD j 0) := fun u hu => chiw (hl u (by simpa using hu)) (hl j hj)
  rw [lsum_congr e1, lsum_mul]
  have hc := chi_points (w := w) h0 h1 h2 hp
  have hj2 : ((List.range 8).map (fun u => chi (w &&& (pointsGo [c0, c1, c2] p 3).getD u 0)))[j]? = some (chi (w &&& (pointsGo [c0, c1, c2] p 3).getD j 0)) := by
    rw [List.getElem?_map, List.getElem?_range hj]; rfl
  have k0 := chi_one _ (and_lt (a := w) h0)
  have k1 := chi_one _ (and_lt (a := w) h1)
  have k2 := chi_one _ (and_lt (a := w) h2)
  have kp := chi_one _ (and_lt (a := w) hp)
  have hperp : perp [c0, c1, c2] w = (!(par (w &&& c0) == 1) && !(par (w &&& c1) == 1) && !(par (w &&& c2) == 1)) := by
    unfold perp
    simp only [List.filter_cons, List.filter_nil]
    cases par (w &&& c0) == 1 <;> cases par (w &&& c1) == 1 <;> cases par (w &&& c2) == 1 <;> rfl
  have hone : ∀ {n : Nat}, (chi n = 1 ∧ (par n == 1) = false) ∨ (chi n = -1 ∧ (par n == 1) = true) → chi n ∈ ([1, -1] : List Int) ∧ (!(par n == 1)) = (chi n == 1) := fun h => by
    rcases h with ⟨h1, h2⟩ | ⟨h1, h2⟩ <;> rw [h1, h2] <;> decide
  have htab := pts_tab _ (hone kp).1 _ (hone k0).1 _ (hone k1).1 _ (hone k2).1 j hj
  rw [hc] at hj2 ⊢
  have hz : (pts8 (chi (w &&& p)) (chi (w &&& c0)) (chi (w &&& c1)) (chi (w &&& c2))).getD j 0 = chi (w &&& (pointsGo [c0, c1, c2] p 3).getD j 0) := by
    rw [List.getD_eq_getElem?_getD]
    unfold pts8
    rw [hj2]; rfl
  rw [hz] at htab
  rw [hperp, (hone k0).2, (hone k1).2, (hone k2).2]
  exact htab
theorem dual_law {c0 c1 c2 p d0 d1 d2 : Nat} (h0 : c0 < 64) (h1 : c1 < 64) (h2 : c2 < 64) (hp : p < 64) (k0 : d0 < 3) (k1 : d1 < 3) (k2 : d2 < 3) {j : Nat} (hj : j < 8) :
    ((List.range 8).countP fun u => rkOf [d0, d1, d2] ((pointsGo [c0, c1, c2] p 3).getD u 0) == rkOf [d0, d1, d2] ((pointsGo [c0, c1, c2] p 3).getD j 0)) * 2 ^ (d0 + d1 + d2) = 8 * ((List.range 64).countP fun w => okW d0 d1 d2 w && perp [c0, c1, c2] w) := by
  have hl := point_lt h0 h1 h2 hp
  have v := valAt_lt
  have left : ((List.range 8).map fun u => ((List.range 64).map fun w => if okW d0 d1 d2 w then chi (w &&& ((pointsGo [c0, c1, c2] p 3).getD u 0 ^^^ (pointsGo [c0, c1, c2] p 3).getD j 0)) else 0).sum).sum =
      (((List.range 8).countP fun u => rkOf [d0, d1, d2] ((pointsGo [c0, c1, c2] p 3).getD u 0) == rkOf [d0, d1, d2] ((pointsGo [c0, c1, c2] p 3).getD j 0) : Nat) : Int) * 2 ^ (d0 + d1 + d2) := by
    rw [← lsum_count]
    refine lsum_congr fun u hu => ?_
    have hu : u < 8 := by simpa using hu
    rw [sum_words k0 k1 k2 (xor64 (hl u hu) (hl j hj))]
    simp only [valAt_xor]
    generalize (pointsGo [c0, c1, c2] p 3).getD u 0 = a
    generalize (pointsGo [c0, c1, c2] p 3).getD j 0 = b
    have e0 := q_xor d0 k0 _ (v a 0) _ (v b 0)
    have e1 := q_xor d1 k1 _ (v a 1) _ (v b 1)
    have e2 := q_xor d2 k2 _ (v a 2) _ (v b 2)
    have l0 := qOf_lt (d := d0) (v a 0)
    have l1 := qOf_lt (d := d1) (v a 1)
    have l2 := qOf_lt (d := d2) (v a 2)
    have m0 := qOf_lt (d := d0) (v b 0)
    have m1 := qOf_lt (d := d1) (v b 1)
    have m2 := qOf_lt (d := d2) (v b 2)
    have hr : (rkOf [d0, d1, d2] a == rkOf [d0, d1, d2] b) = decide (qOf d0 (valAt a 0 ^^^ valAt b 0) = 0 ∧ qOf d1 (valAt a 1 ^^^ valAt b 1) = 0 ∧ qOf d2 (valAt a 2 ^^^ valAt b 2) = 0) := by
      rw [Bool.eq_iff_iff, beq_iff_eq, decide_eq_true_iff, ← e0, ← e1, ← e2]
      unfold rkOf
      show (4 * (4 * (4 * 0 + qOf d0 (valAt a 0)) + qOf d1 (valAt a 1)) + qOf d2 (valAt a 2) = 4 * (4 * (4 * 0 + qOf d0 (valAt b 0)) + qOf d1 (valAt b 1)) + qOf d2 (valAt b 2)) ↔ _
      exact om480 l1 l2 m1 m2
    rw [hr]
    simp only [decide_eq_true_eq]
  have right : ((List.range 8).map fun u => ((List.range 64).map fun w => if okW d0 d1 d2 w then chi (w &&& ((pointsGo [c0, c1, c2] p 3).getD u 0 ^^^ (pointsGo [c0, c1, c2] p 3).getD j 0)) else 0).sum).sum =
      (((List.range 64).countP fun w => okW d0 d1 d2 w && perp [c0, c1, c2] w : Nat) : Int) * 8 := by
    rw [lsum_swap, ← lsum_count]
    refine lsum_congr fun w hw => ?_
    cases hok : okW d0 d1 d2 w with
    | false => simp only [Bool.false_eq_true, if_false, lsum_zero, Bool.false_and]
    | true => simp only [if_true, Bool.true_and]; exact sum_points h0 h1 h2 hp hj
  have := left.symm.trans right
  have e : (2 : Int) ^ (d0 + d1 + d2) = ((2 ^ (d0 + d1 + d2) : Nat) : Int) := by norm_cast
  rw [e] at this
  generalize (List.range 8).countP _ = A at this ⊢
  generalize (List.range 64).countP _ = B at this ⊢
  generalize 2 ^ (d0 + d1 + d2) = D at this ⊢
  have h3 : ((A * D : Nat) : Int) = ((8 * B : Nat) : Int) := by rw [Int.natCast_mul, this]; exact om169
  exact Int.ofNat.inj h3
end Mine
end
section
open PySem PySem.W PyProof.Rows PySem.Builtin.Str
namespace Mine
noncomputable def tellT : List Str := ["00", "22", "11", "22"]
noncomputable def inT : List Str := ["00", "11", "22"]
theorem ok_table : ∀ d, d < 3 → ∀ c, c < 4 → (inT.take (d + 1)).contains (tellT.getD c "") = okB d c := by decide +kernel
section
variable {C : List Int} (hC : C.length = 9)
include hC
theorem place_at {i : Nat} (hi : i < 3) : (placesOf C).getD i [] = letters (C.getD (6 + i) 0) := by
  unfold placesOf
  rw [List.getD_eq_getElem?_getD, List.getElem?_map, List.getElem?_drop, List.getD_eq_getElem?_getD, List.getElem?_eq_getElem (by exact om256 hi hC)]; rfl
theorem cost_at (w : Nat) : costAt (placesOf C) w = [tellT.getD (valAt w 0) "", tellT.getD (valAt w 1) "", tellT.getD (valAt w 2) ""] := by
  have e : ∀ i, i < 3 → (tellsOf ((placesOf C).getD i [])).getD ((w >>> (2 * i)) &&& 3) "" = tellT.getD (valAt w i) "" := fun i hi => by
    rw [place_at hC hi, tells_letters]; rfl
  unfold costAt
  show [(tellsOf ((placesOf C).getD 0 [])).getD ((w >>> (2 * 0)) &&& 3) "", (tellsOf ((placesOf C).getD 1 [])).getD ((w >>> (2 * 1)) &&& 3) "", (tellsOf ((placesOf C).getD 2 [])).getD ((w >>> (2 * 2)) &&& 3) ""] = _
  rw [e 0 (by decide), e 1 (by decide), e 2 (by decide)]
theorem near_at {d0 d1 d2 : Nat} (h0 : d0 < 3) (h1 : d1 < 3) (h2 : d2 < 3) (w : Nat) : nearB [d0, d1, d2] (costAt (placesOf C) w) = okW d0 d1 d2 w := by
  rw [cost_at hC]
  unfold nearB okW
  rw [← ok_table d0 h0 _ (valAt_lt w 0), ← ok_table d1 h1 _ (valAt_lt w 1), ← ok_table d2 h2 _ (valAt_lt w 2)]
  have e : List.range 3 = [0, 1, 2] := rfl
  rw [e]
  generalize g0 : tellT.getD (valAt w 0) "" = a
  generalize g1 : tellT.getD (valAt w 1) "" = b
  generalize g2 : tellT.getD (valAt w 2) "" = c
  have f0 : ((withinOf [d0, d1, d2]).getD 0 []).contains (([a, b, c] : List Str).getD 0 "") = (inT.take (d0 + 1)).contains a := rfl
  have f1 : ((withinOf [d0, d1, d2]).getD 1 []).contains (([a, b, c] : List Str).getD 1 "") = (inT.take (d1 + 1)).contains b := rfl
  have f2 : ((withinOf [d0, d1, d2]).getD 2 []).contains (([a, b, c] : List Str).getD 2 "") = (inT.take (d2 + 1)).contains c := rfl
  simp only [List.filter_cons, List.filter_nil, f0, f1, f2]
  cases (inT.take (d0 + 1)).contains a <;> cases (inT.take (d1 + 1)).contains b <;> cases (inT.take (d2 + 1)).contains c <;> rfl
theorem fld_at {p i : Nat} (hi : i < 3) : Fld (letAt (placesOf C) p i) := by
  unfold letAt
  rw [place_at hC hi]
  exact fld_letters (valAt_lt _ _)
end
theorem depths_eq (C : List Int) (turn : Nat) : depthsOf C turn = [(((C.getD (4 + turn) 0).fdiv (3 ^ 0)).fmod 3).toNat, (((C.getD (4 + turn) 0).fdiv (3 ^ 1)).fmod 3).toNat, (((C.getD (4 + turn) 0).fdiv (3 ^ 2)).fmod 3).toNat] := rfl
theorem mod3_lt (x : Int) : (x.fmod 3).toNat < 3 := by have := fmod_lt x (m := 3) (by decide); exact om20 this
theorem lawOk (script : List Int) : LawOk (cellsOf script) := by
  have hC : (cellsOf script).length = 9 := cellsGo_len script _
  generalize cellsOf script = C at hC ⊢
  have hd : ∀ turn, ∃ d0 d1 d2, depthsOf C turn = [d0, d1, d2] ∧ d0 < 3 ∧ d1 < 3 ∧ d2 < 3 := fun turn => ⟨_, _, _, depths_eq C turn, mod3_lt _, mod3_lt _, mod3_lt _⟩
  have hch : ∃ c0 c1 c2, changesOf C = [c0, c1, c2] ∧ c0 < 64 ∧ c1 < 64 ∧ c2 < 64 := by
    have m64 : ∀ x : Int, (x.fmod 64).toNat < 64 := fun x => by have := fmod_lt x (m := 64) (by decide); exact om25 this
    match C, hC with
    | a :: b :: c :: r, _ => exact ⟨_, _, _, rfl, m64 a, m64 b, m64 c⟩
  have hp : ((C.getD 3 0).fmod 64).toNat < 64 := by have := fmod_lt (C.getD 3 0) (m := 64) (by decide); exact om25 this
  refine ⟨hC, fun turn _ => ?_, fun turn _ t ht => ?_, fun turn _ p q => ?_, fun turn _ j hj => ?_⟩
  · obtain ⟨d0, d1, d2, e, h0, h1, h2⟩ := hd turn
    refine ⟨by unfold placesOf; rw [List.length_map, List.length_drop, hC], fun l hl => ?_, by rw [e]; rfl, fun d hm => ?_⟩
    · unfold placesOf at hl
      obtain ⟨x, _, rfl⟩ := List.mem_map.mp hl
      exact letOk x
    · rw [e] at hm
      simp only [List.mem_cons, List.not_mem_nil, or_false] at hm
      rcases hm with rfl | rfl | rfl <;> assumption
  · obtain ⟨d0, d1, d2, e, h0, h1, h2⟩ := hd turn
    rw [e]
    exact turn_ok h0 h1 h2 (fun i hi => fld_at hC hi) ht
  · refine Pc_key3 (fun i => ?_) hC p q
    obtain ⟨d0, d1, d2, e, h0, h1, h2⟩ := hd turn
    rw [e]
    match i with
    | 0 => exact h0
    | 1 => exact h1
    | 2 => exact h2
    | _ + 3 => exact (by decide : 0 < 3)
  · obtain ⟨d0, d1, d2, e, h0, h1, h2⟩ := hd turn
    obtain ⟨c0, c1, c2, ec, k0, k1, k2⟩ := hch
    have hl := dual_law k0 k1 k2 hp h0 h1 h2 hj
    have hn : (nearOf C turn).length = (List.range 64).countP fun w => okW d0 d1 d2 w && perp [c0, c1, c2] w := by
      unfold nearOf costsOf
      rw [ec, e, List.filter_map, List.length_map, List.filter_filter, ← List.countP_eq_length_filter]
      refine List.countP_congr fun w _ => ?_
      show (nearB [d0, d1, d2] (costAt (placesOf C) w) && perp [c0, c1, c2] w) = true ↔ _
      rw [near_at hC h0 h1 h2]
    rw [hn]
    unfold rkT pointsOf
    rw [ec, e]
    show _ * 2 ^ (d0 + (d1 + (d2 + 0))) = _
    rw [show d0 + (d1 + (d2 + 0)) = d0 + d1 + d2 by exact om428]
    exact hl
end Mine
end
section
set_option maxRecDepth 100000 in
set_option maxHeartbeats 8000000 in
theorem PySem.Challenge.cw_wn0066_01_holds : PySem.Challenge.rw_wn0066_01.Holds :=
  Mine.walkAll fun script _ => Mine.lawOk script
end
