import PyProof.Rows.All
import Wide.All
import OpenK.AllK
import Wide.FinOn
import Lean
import PySem.Challenge.RW_ti0009_01
set_option Elab.async false
set_option linter.unusedVariables false
set_option maxRecDepth 100000
set_option maxHeartbeats 8000000
open PySem PySem.W
namespace Mine
open_top hd for PySem.Challenge.rw_ti0009_01
end Mine
section
namespace Mine
theorem o0 {a : Nat} : 0 ≤ (a:Int) := by intros; expose_names; exact Int.natCast_nonneg a
theorem o1 {a : Nat} : -2 ^ 40 ≤ (a:Int) := by intros; expose_names; exact Int.neg_ofNat_le_natCast (2 ^ 40) a
theorem o2 {a b : Nat} : a + 1 ≤ b → a ≤ b := by intros; expose_names; exact Nat.le_of_succ_le h
theorem o3 {a : Nat} : 0 < a → 0 < (a:Int) := by intros; expose_names; exact Int.natCast_pos.mpr h
theorem o4 {a : Nat} : 8 ≤ a → 0 < a := by intros; expose_names; exact Nat.zero_lt_of_lt h
theorem o5 {a : Nat} : a ≤ 1403 → a ≤ 2 ^ 20 := fun h => Nat.le_trans h (by decide)
theorem o6 {a b c : Nat} : a + (b + 1) < c → a + 1 + b < c := fun h => Nat.lt_of_le_of_lt (Nat.le_of_eq (Nat.succ_add_eq_add_succ a b)) h
theorem o7 {a b c : Nat} : a + (c + 1) < b → a < b := by intros; expose_names; exact Nat.lt_of_add_right_lt h
theorem o8 {a b c : Nat} : a + 4 * (b + 1) + 80 < c → a + 3 + 4 * b + 80 < c := fun h => Nat.lt_of_le_of_lt (Nat.add_le_add_right (Nat.le_trans (Nat.le_of_eq (Nat.add_assoc a 3 (4*b))) (Nat.add_le_add_left (Nat.le_trans (Nat.le_of_eq (Nat.add_comm 3 (4*b))) (Nat.add_le_add_left (by decide : 3 ≤ 4) (4*b))) a)) 80) h
theorem o9 {a : Nat} : 4 ≤ a → 0 < a := by intros; expose_names; exact Nat.zero_lt_of_lt h
theorem o10 {a : Nat} : a ≤ 1 → a = 0 ∨ a = 1 := by intros; expose_names; exact Nat.le_one_iff_eq_zero_or_eq_one.mp h
theorem o11 {a b : Nat} : 100000 ≤ b → a ≤ 10 → a + 3 ≤ b := fun h1 h2 => Nat.le_trans (Nat.add_le_add_right h2 3) (Nat.le_trans (by decide) h1)
theorem o12 {a b : Nat} : a ≤ b → a + (b - a) = b := by intros; expose_names; exact Nat.add_sub_of_le h
theorem o13 {a b : Nat} : a ≤ b → ¬b = a → a + 1 ≤ b := fun h1 h2 => Nat.lt_of_le_of_ne h1 (Ne.symm h2)
theorem o14 {a b c : Nat} : c ≤ b → a < c + (b - c) → a < b := fun h1 h2 => Nat.lt_of_lt_of_eq h2 (Nat.add_sub_of_le h1)
theorem o15 {a b : Nat} : b = a + 3 → a + 2 < b := fun h => Nat.lt_of_lt_of_eq (Nat.lt_succ_self _) h.symm
theorem o16 {a b c : Nat} : a + (c + 1) = b → a < b := fun h => Nat.lt_of_lt_of_eq (Nat.lt_add_of_pos_right (Nat.succ_pos c)) h
theorem o17 {a b c d : Nat} : b ≤ d → a + 4 * d + 80 < c → a + 4 * b + 80 < c := fun h1 h2 => Nat.lt_of_le_of_lt (Nat.add_le_add_right (Nat.add_le_add_left (Nat.mul_le_mul_left 4 h1) a) 80) h2
theorem o18 {a b c d : Nat} : b ≤ d → a + d < c → a + b < c := fun h1 h2 => Nat.lt_of_le_of_lt (Nat.add_le_add_left h1 a) h2
theorem o20 {a : Int} : 2 ^ 4 ≤ a → 0 ≤ a := fun h => Int.le_trans (by decide) h
theorem o21 {a : Nat} : a < 2 ^ 40 → (a:Int) < 2 ^ 63 := fun h => Int.le_trans (Int.ofNat_le.mpr h) (by decide)
theorem o22 {a : Nat} : a ≤ 1000 → (a:Int) ≤ 2 ^ 40 := fun h => Int.le_trans (Int.ofNat_le.mpr h) (by decide)
theorem o23 {a : Nat} : a ≤ 9 → (a:Int) ≤ 2 ^ 40 := fun h => Int.le_trans (Int.ofNat_le.mpr h) (by decide)
theorem o24 {a b : Nat} : a < b → a ≤ b := by intros; expose_names; exact Nat.le_of_succ_le h
theorem o25 {a b : Nat} : a = b → a ≤ b := by intros; expose_names; exact Nat.le_of_eq h
theorem o26 {a b : Nat} : a ≤ b → (a:Int) ≤ (b:Int) := by intros; expose_names; exact Int.ofNat_le.mpr h
theorem o27 {a b : Nat} : b < a → ¬a ≤ b := by intros; expose_names; exact Nat.not_le_of_lt h
theorem o28 {a b : Nat} : ¬b < a → a - b = 0 := fun h => Nat.sub_eq_zero_of_le (Nat.le_of_not_lt h)
theorem o29 {a b c : Nat} : a + 4 * c + 80 < b → a + 64 < b := fun h => Nat.lt_of_le_of_lt (Nat.add_le_add (Nat.le_add_right _ _) (by decide)) h
theorem o30 {a b c : Nat} : a < c → b = c → a < b := by intros; expose_names; exact Nat.lt_of_lt_of_eq h (id (Eq.symm h_1))
theorem o31 {a b c : Nat} : b = c + 1 → a ≤ c → a < b := fun h1 h2 => Nat.lt_of_lt_of_eq (Nat.lt_succ_of_le h2) h1.symm
theorem o32 {a b c : Nat} : c + 1 = b - a → a < b := by intros; expose_names; exact Nat.lt_of_sub_eq_succ (id (Eq.symm h))
theorem o33 {a : Int} : 0 < a → 0 ≤ a - 1 := by intros; expose_names; exact Int.sub_nonneg_of_le h
theorem o34 {a : Int} : 0 ≤ a → -2 ^ 63 ≤ a := fun h => Int.le_trans (by decide) h
theorem o35 {a : Int} : 2 ^ 4 ≤ a → (0:Int) ≤ 1 ∧ 1 < a := fun h => ⟨by decide, Int.lt_of_lt_of_le (by decide) h⟩
theorem o36 {a : Int} : a.toNat ≤ 2 ^ 24 → a < 2 ^ 63 := fun h => Int.lt_of_le_of_lt (Int.self_le_toNat a) (Int.lt_of_le_of_lt (Int.ofNat_le.mpr h) (by decide))
theorem o37 {a : Nat} : -(-(a:Int) - 1) - 1 = (a:Int) := by grind
theorem o38 {a : Nat} : 0 < (a:Int) + 1 := by intros; expose_names; exact Int.succ_ofNat_pos a
theorem o39 {a : Nat} : 0 < 2 + a := by intros; expose_names; exact Nat.pos_of_neZero (2 + a)
theorem o40 {a : Nat} : 0 < a → 0 = a → False := fun h1 h2 => Nat.ne_of_lt h1 h2
theorem o41 {a : Nat} : a + 1 - a = 1 := by intros; expose_names; exact Nat.add_sub_self_left a 1
theorem o42 {a : Nat} : a < 0 + (a + 1) := by grind
theorem o43 {a : Nat} : a ≤ 10 → a + 3 < 2 ^ 40 := fun h => Nat.lt_of_le_of_lt (Nat.add_le_add_right h 3) (by decide)
theorem o44 {a : Nat} : a ≤ 16000 → a ≤ 2 ^ 20 := fun h => Nat.le_trans h (by decide)
theorem o45 {a : Nat} : a ≤ 2 → (a:Int) ≤ 2 := by intros; expose_names; exact Nat.ToInt.of_le rfl rfl h
theorem o46 {a : Nat} : a ≤ 5700 → (a:Int) ≤ 2 ^ 20 := fun h => Int.le_trans (Int.ofNat_le.mpr h) (by decide)
theorem o47 {a : Nat} : a ≤ 9 → a ≤ 16 := fun h => Nat.le_trans h (by decide)
theorem o48 {a b : Int} : a + b = b + a := by intros; expose_names; exact Int.add_comm a b
theorem o49 {a b : Nat} : 0 = b - a → a ≤ b → a = b := fun h1 h2 => Nat.le_antisymm h2 (Nat.le_of_sub_eq_zero h1.symm)
theorem o50 {a b : Nat} : 100000 ≤ b → a ≤ 10 → a ≤ b := fun h1 h2 => Nat.le_trans h2 (Nat.le_trans (by decide) h1)
theorem o51 {a b : Nat} : a < a + (b + 1) := by grind
theorem o52 {a b : Nat} : a ≤ b → a ≤ b := by intros; expose_names; exact String.Pos.Raw.mk_le_mk.mp h
theorem o53 {a b : Nat} : a ≤ b ∨ b ≤ a := by intros; expose_names; exact Nat.le_total a b
theorem o54 {a b : Nat} : b + 0 = a → a ≤ b := by intros; expose_names; exact Nat.le_of_eq (id (Eq.symm h))
theorem o55 {a b : Nat} : b ≤ 1 → 2 + b = a → (a:Int) < 2 ^ 2 := fun h1 h2 => Int.lt_of_le_of_lt (Int.ofNat_le.mpr (Nat.le_trans (Nat.le_of_eq h2.symm) (Nat.add_le_add_left h1 2))) (by decide)
theorem o56 {a b : Nat} : b ≤ 1000 → a < b → (a:Int) < 2 ^ 40 := fun h1 h2 => Int.lt_of_lt_of_le (Int.ofNat_lt.mpr (Nat.lt_of_lt_of_le h2 h1)) (by decide)
theorem o57 {a b c : Nat} : a + (b + 1) = c → a + 1 + b = c := fun h => (Nat.succ_add_eq_add_succ a b).trans h
theorem o58 {a b c : Nat} : a < b + (c + 1) → a < b + 1 + c := fun h => Nat.lt_of_lt_of_eq h (Nat.succ_add_eq_add_succ b c).symm
theorem o59 {a b c : Nat} : a < b + 1 + c → a < b + (c + 1) := fun h => Nat.lt_of_lt_of_eq h (Nat.succ_add_eq_add_succ b c)
theorem o60 {a b c : Nat} : a < c → c ≤ b → a ≤ b := fun h1 h2 => Nat.le_trans (Nat.le_of_lt h1) h2
theorem o61 {a b c : Nat} : c ≤ b → a ≤ c → a ≤ b := by intros; expose_names; exact Nat.le_trans h_1 h
theorem o62 : 1 ≤ 30 := by intros; exact Nat.le_of_ble_eq_true rfl
theorem o64 {a : Int} : 0 < a → 1 ≤ a := by intros; expose_names; exact Int.le_of_sub_one_lt h
theorem o65 {a : Int} : 0 < a → ¬a = 0 := by intros; expose_names; exact Int.ne_of_gt h
theorem o66 {a : Int} : 1 < a - 1 → 0 < a - 1 := fun h => Int.le_trans (by decide) h
theorem o67 {a : Int} : a - 1 < a := by grind
theorem o68 {a : Int} : a < 2 ^ 40 → a < 2 ^ 63 := fun h => Int.le_trans h (by decide)
theorem o69 {a : Int} : a = a * 1 := by intros; expose_names; exact Eq.symm (Int.mul_one a)
theorem o70 {a : Int} : a ≤ 2 * 3 → a ≤ 2 ^ 27 := fun h => Int.le_trans h (by decide)
theorem o71 {a : Nat} : ((a:Int) + 1).toNat = a + 1 := by intros; exact Int.toNat_natCast_add_one
theorem o72 {a : Nat} : ((a:Int) - 0).toNat = a := by intros; expose_names; exact Nat.add_zero a
theorem o73 {a : Nat} : ((a + 1):Int) - 1 = (a:Int) := by intros; expose_names; exact Int.add_sub_cancel (↑a) 1
theorem o74 {a : Nat} : (a:Int) % 2 = 0 → a % 2 = 0 := by intros; expose_names; exact Int.ofNat_eq_zero.mp h
theorem o75 {a : Nat} : (a:Int) = 0 ↔ a = 0 := by intros; exact Int.ofNat_eq_zero
theorem o76 {a : Nat} : 0 + (a:Int) = (a:Int) := by intros; expose_names; exact Int.zero_add ↑a
theorem o77 {a : Nat} : 0 < a → 1 ≤ a := by intros; expose_names; exact Nat.one_le_of_lt h
theorem o78 {a : Nat} : 1 ≤ a → 2 * a - 1 + 1 = 2 * a := fun h => Nat.sub_add_cancel (Nat.le_trans h (Nat.le_mul_of_pos_left a (by decide)))
theorem o79 {a : Nat} : 100000 ≤ a → 1 + 1 ≤ a := by intros; expose_names; exact Nat.le_of_add_left_le h
theorem o80 {a : Nat} : 8 ≤ a → 0 < (a:Int) := fun h => Int.le_trans (by decide) (Int.ofNat_le.mpr h)
theorem o81 {a : Nat} : a * 2 = a + a := by intros; expose_names; exact Nat.mul_two a
theorem o82 {a : Nat} : a < 3 - 0 → a = 0 ∨ a = 1 ∨ a = 2 := by grind
theorem o83 {a : Nat} : a < 3 - 1 → a = 0 ∨ a = 1 := by grind
theorem o84 {a : Nat} : a < a + 1 := by intros; expose_names; exact Nat.lt_add_one a
theorem o85 {a : Nat} : a ≤ 1 → a + 1 ≤ 64 := fun h => Nat.le_trans (Nat.succ_le_succ h) (by decide)
theorem o86 {a : Nat} : a ≤ 16 → a - 0 ≤ 2 ^ 4 := by intros; expose_names; exact Nat.sub_le_of_le_add h
theorem o87 {a : Nat} : a ≤ 16 → a < 2 ^ 40 := fun h => Nat.lt_of_le_of_lt h (by decide)
theorem o88 {a : Nat} : a ≤ 2 ^ 20 → (a:Int) ≤ 2 ^ 20 := by intros; expose_names; exact Nat.ToInt.of_le rfl rfl h
theorem o89 {a : Nat} : a ≤ 32 → a < 64 := fun h => Nat.lt_of_le_of_lt h (by decide)
theorem o90 {a : Nat} : a ≤ 40000 → a ≤ 100000 := fun h => Nat.le_trans h (by decide)
theorem o91 {a : Nat} : a ≤ 60 → a < 64 := fun h => Nat.lt_of_le_of_lt h (by decide)
theorem o92 {a : Nat} : a ≤ 80000 → a ≤ 100000 := fun h => Nat.le_trans h (by decide)
theorem o93 {a : Nat} : a ≤ 9 → a ≤ 100 := fun h => Nat.le_trans h (by decide)
theorem o94 {a : Nat} : a ≤ 9 → a ≤ 1000 := fun h => Nat.le_trans h (by decide)
theorem o95 {a : Nat} : a ≤ 9 → a ≤ 20 := fun h => Nat.le_trans h (by decide)
theorem o96 {a : Nat} : ¬(a:Int) % 2 = 0 → a % 2 = 1 := by grind
theorem o97 {a : Nat} : ¬(a:Int) < 0 := by intros; expose_names; exact Int.not_ofNat_neg a
theorem o98 {a : Nat} : ¬0 ≤ -(a:Int) - 1 := by grind
theorem o99 {a b : Int} : 0 < b → b ≤ a → 0 ≤ a := fun h1 h2 => Int.le_trans (Int.le_of_lt h1) h2
theorem o100 {a b : Int} : 0 ≤ b → 0 ≤ a → 0 ≤ a + b := by intros; expose_names; exact Int.add_nonneg h_1 h
theorem o101 {a b : Int} : a < b → a + 1 ≤ b := by intros; expose_names; exact Int.add_one_le_of_lt h
theorem o102 {a b : Nat} : 0 < b → 0 ≤ (a:Int) + (b:Int) - 1 := fun h => Int.sub_nonneg_of_le ((Int.ofNat_le (m := 1) (n := a + b)).mpr (Nat.le_trans h (Nat.le_add_left b a)))
theorem o103 {a b : Nat} : 100000 ≤ b → a ≤ 10 → a + (0 + 1 + 1 + 1) ≤ b := fun h1 h2 => o11 h1 h2
theorem o104 {a b : Nat} : 100000 ≤ b → a ≤ 21 → a + 1 ≤ b := fun h1 h2 => Nat.le_trans (Nat.succ_le_succ h2) (Nat.le_trans (by decide) h1)
theorem o105 {a b : Nat} : 100000 ≤ b → a ≤ 9 → a ≤ b := by grind
theorem o106 {a b : Nat} : 2 + b = a → 0 < a := fun h => Nat.lt_of_lt_of_eq (Nat.lt_of_lt_of_le (by decide) (Nat.le_add_right 2 b)) h
theorem o107 {a b : Nat} : a + 1 + b = a + b + 1 := by intros; expose_names; exact Nat.add_right_comm a 1 b
theorem o108 {a b : Nat} : a - b ≤ 2 ^ 0 → b < a → a = b + 1 := fun h1 h2 => Nat.le_antisymm (Nat.sub_le_iff_le_add'.mp h1) h2
theorem o109 {a b : Nat} : a < b → (a:Int) < (b:Int) := by intros; expose_names; exact Int.ofNat_lt.mpr h
theorem o110 {a b : Nat} : a = 1 → b ≤ 5700 → (a:Int) + (b:Int) ≤ 2 ^ 27 := fun h1 h2 => Int.le_trans (Int.ofNat_le.mpr (Nat.add_le_add (Nat.le_of_eq h1) h2)) (by decide)
theorem o111 {a b : Nat} : a = 4 - b → a ≤ 100 := fun h => Nat.le_trans (Nat.le_of_eq h) (Nat.le_trans (Nat.sub_le 4 b) (by decide))
theorem o112 {a b : Nat} : a ≤ 2 * b → a + 1 ≤ 2 * b + 1 := by intros; expose_names; exact Nat.add_le_add_right h 1
theorem o113 {a b : Nat} : a ≤ 2 * b → a ≤ 2 * b + 1 := by intros; expose_names; exact Nat.le_add_right_of_le h
theorem o114 {a b : Nat} : a ≤ b → a + (b - a) ≤ b := fun h => Nat.le_of_eq (Nat.add_sub_of_le h)
theorem o115 {a b : Nat} : a ≤ b → ¬a = b → a ≤ b ∧ ¬b - a = 0 := fun h1 h2 => ⟨h1, Nat.sub_ne_zero_of_lt (Nat.lt_of_le_of_ne h1 h2)⟩
theorem o116 {a b : Nat} : b < a → 0 ≤ (a:Int) - (b:Int) := fun h => Int.sub_nonneg_of_le (Int.ofNat_le.mpr (Nat.le_of_lt h))
theorem o117 {a b : Nat} : b ≤ 1 → ((a:Int) = 2 - (b:Int) ↔ a = 2 - b) := fun h => by rw [show (2:Int) - b = ((2 - b : Nat):Int) from (Int.ofNat_sub (Nat.le_trans h (by decide))).symm]; exact Int.ofNat_inj
theorem o118 {a b : Nat} : b ≤ 1 → 2 + b = a → a ≤ 3 := fun h1 h2 => Nat.le_trans (Nat.le_of_eq h2.symm) (Nat.add_le_add_left h1 2)
theorem o119 {a b : Nat} : b ≤ 1000 → a ≤ b → (a:Int) < 2 ^ 10 := fun h1 h2 => Int.lt_of_le_of_lt (Int.ofNat_le.mpr (Nat.le_trans h2 h1)) (by decide)
theorem o120 {a b : Nat} : b ≤ 1403 * 9 → a ≤ b → a ≤ 2 ^ 20 := fun h1 h2 => Nat.le_trans h2 (Nat.le_trans h1 (by decide))
theorem o121 {a b : Nat} : b ≤ 1403 → a ≤ b * 7 → a ≤ 16000 := fun h1 h2 => Nat.le_trans h2 (Nat.le_trans (Nat.mul_le_mul_right 7 h1) (by decide))
theorem o122 {a b : Nat} : b ≤ 9 → a < b → a < 16 := fun h1 h2 => Nat.lt_of_lt_of_le h2 (Nat.le_trans h1 (by decide))
theorem o123 {a b : Nat} : b ≤ 9 → a < b → a < 2 ^ 20 := fun h1 h2 => Nat.lt_of_lt_of_le h2 (Nat.le_trans h1 (by decide))
theorem o124 {a b : Nat} : b ≤ 9 → a = b → a ≤ 1000 := fun h1 h2 => Nat.le_trans (Nat.le_of_eq h2) (Nat.le_trans h1 (by decide))
theorem o125 {a b : Nat} : b ≤ 9 → a = b → a ≤ 16 := by grind
theorem o126 {a b : Nat} : b ≤ a → a = b + (a - b) := by intros; expose_names; exact Eq.symm (Nat.add_sub_of_le h)
theorem o127 {a b : Nat} : ¬b ≤ a → a ≤ b := by intros; expose_names; exact Nat.le_of_not_ge h
theorem o128 {a b c : Nat} : 100000 ≤ c → a ≤ 10 → a + 3 - (a + 3 - b) + min (a + 3 - b) (a + 3) ≤ c := fun h1 h2 => Nat.le_trans (Nat.add_le_add_left (Nat.min_le_left _ _) _) (Nat.le_trans (Nat.le_of_eq (Nat.sub_add_cancel (Nat.sub_le _ _))) (o11 h1 h2))
theorem o371 {a b : Nat} : a - b + min b a = a := by rw [Nat.min_comm]; exact Nat.sub_add_min_cancel a b
theorem o129 {a b c : Nat} : 100000 ≤ c → a ≤ 10 → a + 3 - b + min b (a + 3) ≤ c := fun h1 h2 => Nat.le_trans (Nat.le_of_eq o371) (o11 h1 h2)
theorem o130 {a b c : Nat} : a + (c + 1) ≤ b → a < b := by intros; expose_names; exact Nat.lt_of_add_right_lt h
theorem o131 {a b c : Nat} : a + 1 + b ≤ c → a + (b + (0 + 1)) ≤ c := fun h => Nat.le_trans (Nat.le_of_eq (Nat.succ_add_eq_add_succ a b).symm) h
theorem o132 {a b c : Nat} : a + c - 1 < b + c * 1 → a ≤ b := fun h => Nat.le_of_add_le_add_right (Nat.le_of_pred_lt (Nat.lt_of_lt_of_eq h (congrArg _ (Nat.mul_one c))))
theorem o133 {a b c : Nat} : a < c + 3 → b = c + 3 → a ≤ b := fun h1 h2 => Nat.le_trans (Nat.le_of_lt h1) (Nat.le_of_eq h2.symm)
theorem o134 {a b c : Nat} : a < c → (a + b) / 2 = c → ¬(a:Int) + 1 = (b:Int) := by grind
theorem o135 {a b c : Nat} : a < c → a < b + (c - b) := fun h => Nat.lt_of_lt_of_le h (Nat.sub_le_iff_le_add'.mp (Nat.le_refl _))
theorem o136 {a b c : Nat} : a < c → ¬c = a + 1 → (a + c) / 2 = b → a < b := fun h1 h2 h3 => Nat.le_trans ((Nat.le_div_iff_mul_le (by decide)).mpr (by show (a + 1) * 2 ≤ a + c; rw [Nat.mul_two, Nat.add_assoc, Nat.add_comm 1]; exact Nat.add_le_add_left (Nat.lt_of_le_of_ne h1 (Ne.symm h2)) a)) (Nat.le_of_eq h3)
theorem o137 {a b c : Nat} : a ≤ 2 * b → a ≤ 2 * b + (c - b) := by intros; expose_names; exact Nat.le_add_right_of_le h
theorem o138 {a b c : Nat} : a ≤ 2 * c → a + (b - c) ≤ 2 * c + (b - c) := by intros; expose_names; exact Nat.add_le_add_right h (b - c)
theorem o139 {a b c : Nat} : b = 4 - c → a = b → a ≤ 4 := fun h1 h2 => Nat.le_trans (Nat.le_of_eq (h2.trans h1)) (Nat.sub_le 4 c)
theorem o140 {a b c : Nat} : b ≤ 100000 → c + c % 2 = 2 * a → c ≤ 2 * b → a ≤ 100000 := by grind
theorem o141 {a b c : Nat} : b ≤ a → a < b + c → a - b < c := by intros; expose_names; exact Nat.sub_lt_left_of_lt_add h h_1
theorem o142 {a b c : Nat} : c + c % 2 = 2 * a → c ≤ 2 * b → a ≤ b := by grind
theorem o143 {a b c : Nat} : c < a → (c + b) / 2 = a → a < b := fun h1 h2 => Nat.lt_of_add_lt_add_left (Nat.lt_of_le_of_lt (Nat.le_trans (Nat.le_of_eq (Nat.mul_two a).symm) ((Nat.le_div_iff_mul_le (by decide)).mp (Nat.le_of_eq h2.symm))) (Nat.add_lt_add_right h1 b))
theorem o144 {a b c : Nat} : c = a → a - b ≤ c - b := by intros; expose_names; exact Nat.le_of_eq (congrFun (congrArg HSub.hSub (id (Eq.symm h))) b)
theorem o145 {a b c d : Nat} : 100000 ≤ c → a = 4 - d → b = a → a + b ≤ c := fun h1 h2 h3 => Nat.le_trans (Nat.add_le_add (Nat.le_trans (Nat.le_of_eq h2) (Nat.sub_le 4 d)) (Nat.le_trans (Nat.le_of_eq (h3.trans h2)) (Nat.sub_le 4 d))) (Nat.le_trans (by decide) h1)
theorem o146 {a b c d : Nat} : c ≤ 16 → d ≤ c → (b + d) / 2 = a → (a:Int) - (b:Int) ≤ 16 := fun h1 h2 h3 => Int.sub_left_le_of_le_add ((Int.ofNat_le (n := b + 16)).mpr (Nat.le_trans (Nat.le_of_eq h3.symm) (Nat.le_trans (Nat.div_le_self _ _) (Nat.add_le_add_left (Nat.le_trans h2 h1) b))))
theorem o147 {a b c d e : Nat} : d < b → e ≤ d → a < e + (c + 1) → a < b + c := fun h1 h2 h3 => Nat.lt_of_lt_of_le h3 (Nat.le_trans (Nat.le_of_eq (Nat.succ_add_eq_add_succ e c).symm) (Nat.add_le_add_right (Nat.le_trans (Nat.succ_le_succ h2) h1) c))
theorem o148 : (0:Int) ≤ 0 := by intros; exact Int.zero_le_ofNat 0
theorem o149 : -2 ^ 40 < -1 := by decide
theorem o153 : 1 + (1 + 2) ≤ 3 * 0 + 5 := by intros; exact Nat.le_add_left (1 + (1 + 2)) 1
theorem o154 : 1 + 2 ≤ 3 * 0 + 5 := by intros; exact Nat.le_add_left (1 + 2) 2
theorem o155 : 1 < 1 → False := by grind
theorem o156 : 2 < 1 → False := by grind
theorem o157 : 2 ≤ 4 * 8 := by intros; exact Nat.le_of_ble_eq_true rfl
theorem o158 : 4 < 1 → False := by grind
theorem o161 {a : Int} {b : Nat} : a + ((b:Int) + 1) = a + 1 + (b:Int) := by grind
theorem o162 {a : Int} {b : Nat} : a - 1 = (b:Int) - 1 + (a - (b:Int) * 1) := by grind
theorem o163 {a : Int} {b : Nat} : a < (b:Int) → 0 < b → a.toNat < b := by intros; expose_names; exact (Int.toNat_lt' h_1).mpr h
theorem o164 {a : Int} {b : Nat} : b = (4 + a % 1400).toNat → 4 + a % 1400 = (b:Int) := fun h => h ▸ (Int.toNat_of_nonneg (Int.add_nonneg (by decide) (Int.emod_nonneg _ (by decide)))).symm
theorem o165 {a : Int} {b c : Nat} : a ≤ 2 * ((b:Int) + 1) → c ≤ 10 → b < c → a ≤ 2 ^ 27 := fun h1 h2 h3 => Int.le_trans h1 (Int.le_trans (Int.mul_le_mul_of_nonneg_left (Int.ofNat_le.mpr (Nat.le_trans h3 h2)) (by decide)) (by decide))
theorem o166 {a : Int} : (97 + a) % 55296 ≤ 1114111 := Int.le_trans (Int.le_of_lt (Int.emod_lt_of_pos _ (by decide))) (by decide)
theorem o167 {a : Int} : -2 ^ 40 < a → -2 ^ 63 ≤ a := fun h => Int.le_trans (by decide) h
theorem o168 {a : Int} : 0 < a → 0 ≤ a := by intros; expose_names; exact Int.le_of_lt h
theorem o169 {a : Int} : 0 < a → a ≤ a * 2 - 1 := by grind
theorem o170 {a : Int} : 0 ≤ (97 + a) % 55296 := Int.emod_nonneg _ (by decide)
theorem o171 {a : Int} : 0 ≤ a → 0 ≤ a * 2 := fun h => Int.mul_nonneg h (by decide)
theorem o172 {a : Int} : 0 ≤ a → a < 0 → False := by grind
theorem o173 {a : Int} : 0 ≤ a → a ≤ 1114111 → 0 ≤ a ∧ a ≤ 1114111 := by intros; expose_names; exact ⟨h, h_1⟩
theorem o174 {a : Int} : 1 < a → ¬a = -1 := by grind
theorem o175 {a : Int} : 1 < a → ¬a = 0 ∧ ¬a = 1 := fun h => ⟨fun e => absurd (e ▸ h) (by decide), fun e => absurd (e ▸ h) (by decide)⟩
theorem o176 {a : Int} : 1 ≤ a → ¬a < (1:Int) := by intros; expose_names; exact Int.not_lt_of_ge h
theorem o177 {a : Int} : 2 ^ 2 ≤ a → 1 < a - 1 := fun h => Int.lt_sub_right_of_add_lt (Int.lt_of_lt_of_le (by decide) h)
theorem o178 {a : Int} : 2 ^ 4 ≤ a → 0 < a - 1 := fun h => Int.sub_pos_of_lt (Int.lt_of_lt_of_le (by decide) h)
theorem o179 {a : Int} : 2 ^ 4 ≤ a → (0:Int) ≤ 0 ∧ 0 < a := fun h => ⟨by decide, Int.lt_of_lt_of_le (by decide) h⟩
theorem o180 {a : Int} : 2 ^ 4 ≤ a → 0 ≤ a - 1 ∧ a - 1 < a := fun h => ⟨Int.sub_nonneg_of_le (Int.le_trans (by decide) h), Int.sub_lt_self a (by decide)⟩
theorem o181 {a : Int} : a + (1 - 1) = a := by grind
theorem o182 {a : Int} : a = 0 ∨ 1 ≤ a ∨ a ≤ -1 := by grind
theorem o183 {a : Int} : a ≤ 16 → a < 2 ^ 5 := fun h => Int.lt_of_le_of_lt h (by decide)
theorem o184 {a : Int} : a ≤ 2 ^ 20 → a < 2 ^ 21 := fun h => Int.lt_of_le_of_lt h (by decide)
theorem o185 {a : Int} : ¬a = 0 → 1 ≤ a ∨ a ≤ -1 := by grind
theorem o186 {a : Nat} {b : Int} : 0 < b → b < 2 ^ 0 → 0 < a := by grind
theorem o187 {a : Nat} {b : Int} : 0 ≤ b → b < 2 ^ 0 → ¬b = 0 → 0 < a := by grind
theorem o188 {a : Nat} {b : Int} : a = ((97 + b) % 55296).toNat → a < 55296 := fun h => Nat.lt_of_le_of_lt (Nat.le_of_eq h) ((Int.toNat_lt (Int.emod_nonneg _ (by decide))).mpr (Int.emod_lt_of_pos _ (by decide)))
theorem o189 {a : Nat} {b : Int} : a = (4 + b % 1400).toNat → 4 ≤ a ∧ a ≤ 1403 := fun h => h ▸ ⟨(Int.le_toNat (Int.add_nonneg (by decide) (Int.emod_nonneg _ (by decide)))).mpr (Int.le_add_of_nonneg_right (Int.emod_nonneg _ (by decide))), Int.toNat_le.mpr (show 4 + b % 1400 ≤ 4 + 1399 from Int.add_le_add_left (Int.le_of_lt_add_one (Int.emod_lt_of_pos b (by decide) : b % 1400 < 1399 + 1)) 4)⟩
theorem o190 {a : Nat} : (2 * (a:Int) - 1).toNat = 2 * a - 1 := Int.toNat_sub (2*a) 1
theorem o191 {a : Nat} : (2 * (a:Int)).toNat = 2 * a := by intros; expose_names; exact Nat.add_zero (Nat.mul 2 a)
theorem o192 {a : Nat} : (4 * (a:Int)).toNat = 4 * a := by intros; expose_names; exact Nat.add_zero (Nat.mul 4 a)
theorem o194 {a : Nat} : ((a + 2):Int) - 1 = ((a + 1):Int) := by intros; exact Int.sub_eq_iff_eq_add.mpr rfl
theorem o195 {a : Nat} : ((a + 3):Int) - 1 = ((a + 2):Int) := by intros; exact Int.sub_eq_iff_eq_add.mpr rfl
theorem o196 {a : Nat} : (a:Int) + 1 = 1 + (a:Int) := by intros; expose_names; exact Int.add_comm (↑a) 1
theorem o197 {a : Nat} : (a:Int) - 1 < (a:Int) := by grind
theorem o198 {a : Nat} : (a:Int) = 1 ↔ a = 1 := Int.ofNat_inj (n := 1)
theorem o199 {a : Nat} : (a:Int) = max 0 (min (a:Int) (a:Int)) := by rw [Int.min_self]; exact (Int.max_eq_right (Int.natCast_nonneg a)).symm
theorem o200 {a : Nat} : (a:Int).toNat = a := by intros; expose_names; exact Int.toNat_natCast a
theorem o201 {a : Nat} : -1 + ((a + 3):Int) = ((a + 2):Int) := by intros; exact Eq.symm ((fun {b a c} => Int.sub_eq_iff_eq_add'.mp) rfl)
theorem o203 {a : Nat} : -2 ^ 40 ≤ ((a + 2):Int) := by intros; expose_names; exact Int.neg_ofNat_le_ofNat (2 ^ 40) (a + 2)
theorem o204 {a : Nat} : -2 ^ 40 ≤ (a:Int) + 1 := by intros; expose_names; exact Int.neg_ofNat_le_ofNat (2 ^ 40) (a + 1)
theorem o205 {a : Nat} : 0 + (4 - a) ≤ 10 := Nat.le_trans (Nat.le_of_eq (Nat.zero_add _)) (Nat.le_trans (Nat.sub_le 4 a) (by decide))
theorem o206 {a : Nat} : 0 + a = a := by intros; expose_names; exact Nat.zero_add a
theorem o207 {a : Nat} : 0 < ((a + 1):Int) := by intros; expose_names; exact Int.succ_ofNat_pos a
theorem o208 {a : Nat} : 0 < ((a + 3):Int) := by intros; exact Int.sign_eq_one_iff_pos.mp rfl
theorem o209 {a : Nat} : 0 < a + 1 := by intros; expose_names; exact Nat.zero_lt_succ a
theorem o210 {a : Nat} : 0 < a + 3 := by intros; expose_names; exact Nat.zero_lt_succ (a + 2)
theorem o211 {a : Nat} : 0 < a → (a:Int) ≠ 0 := by intros; expose_names; exact Int.natCast_ne_zero_iff_pos.mpr h
theorem o212 {a : Nat} : 0 < a → 0 < a := by intros; expose_names; exact Nat.zero_lt_of_lt h
theorem o213 {a : Nat} : 0 < a → a + 1 - 1 = a - 1 + 1 := by intros; expose_names; exact Nat.sub_add_comm h
theorem o214 {a : Nat} : 0 < a → a - 1 < a := by intros; expose_names; exact Nat.sub_one_lt_of_lt h
theorem o215 {a : Nat} : 0 < a → a = 0 → False := by grind
theorem o216 {a : Nat} : 0 < a → a = a - 1 + 1 := by intros; expose_names; exact (Nat.sub_eq_iff_eq_add h).mp rfl
theorem o217 {a : Nat} : 0 ≤ (a:Int) + 1 := by intros; expose_names; exact Int.zero_le_ofNat (a + 1)
theorem o218 {a : Nat} : 0 ≤ 2 * (a:Int) := by intros; expose_names; exact Int.zero_le_ofNat (2 * a)
theorem o219 {a : Nat} : 0 ≤ 4 * (a:Int) := by intros; expose_names; exact Int.zero_le_ofNat (4 * a)
theorem o220 {a : Nat} : 1 + (1 + 3) ≤ 3 * (a + 1) + 5 := by intros; expose_names; exact Nat.le_add_left (1 + (1 + 3)) (3 * (a + 1))
theorem o221 {a : Nat} : 1 < a → 0 < (a:Int) := fun h => Int.le_trans (by decide) (Int.ofNat_le.mpr h)
theorem o222 {a : Nat} : 1 < a → 1 < (a:Int) := by intros; expose_names; exact Int.lt_of_toNat_lt h
theorem o223 {a : Nat} : 1 ≤ 3 * a + 5 := by intros; expose_names; exact Nat.le_add_left 1 (3 * a + 4)
theorem o224 {a : Nat} : 1 ≤ a → (2 * a - 1).succ = 2 * a := fun h => o78 h
theorem o225 {a : Nat} : 1 ≤ a → 0 < 2 * a := by intros; expose_names; exact Nat.succ_mul_pos 1 h
theorem o226 {a : Nat} : 1 ≤ a → 0 ≤ 2 * (a:Int) - 1 := by grind
theorem o227 {a : Nat} : 1 ≤ a → 1 ≤ 2 * a := by grind
theorem o228 {a : Nat} : 2 * a - 1 = a - 1 + a := by intros; expose_names; exact Eq.symm (Nat.sub_one_add_self a)
theorem o231 {a : Nat} : 2 ≤ a → 0 ≤ (a:Int) - 1 := by grind
theorem o232 {a : Nat} : 26 ≤ a + 4000 := by intros; expose_names; exact Nat.le_add_left 26 (a + 3974)
theorem o233 {a : Nat} : 4 * a = 2 * a + 2 * a := by grind
theorem o234 {a : Nat} : 4 ≤ a → 1 ≤ 4 * a := fun h => Nat.le_trans (by decide) (Nat.mul_le_mul_left 4 h)
theorem o235 {a : Nat} : 6 * a = 4 * a + 2 * a := by grind
theorem o237 {a : Nat} : 8 ≤ a → 8 ≤ a := by intros; expose_names; exact Nat.succ_le_of_lt h
theorem o238 {a : Nat} : 8 ≤ a → a - 1 + 1 = a := fun h => Nat.sub_add_cancel (Nat.le_trans (by decide) h)
theorem o239 {a : Nat} : 8 ≤ a → a = 0 → False := by grind
theorem o240 {a : Nat} : 8 ≤ a → a = a - 1 + 1 := fun h => (Nat.sub_add_cancel (Nat.le_trans (by decide) h)).symm
theorem o241 {a : Nat} : a % 2 = 0 → a + 0 = 2 * (a / 2) := fun h => (Nat.mul_div_cancel' (Nat.dvd_of_mod_eq_zero h)).symm
theorem o242 {a : Nat} : a % 2 = 1 → a + 1 = 2 * ((a + 1) / 2) := fun h => (Nat.mul_div_cancel' (Nat.dvd_of_mod_eq_zero (by rw [Nat.add_mod, h]))).symm
theorem o243 {a : Nat} : a + 1 ≤ 200 → a ≤ 200 := by intros; expose_names; exact Nat.le_of_succ_le h
theorem o244 {a : Nat} : a < 16 → (a:Int) < 2 ^ 4 := by intros; expose_names; exact Int.lt_toNat.mp h
theorem o245 {a : Nat} : a < 18 → (a:Int) + 1 ≤ 2 ^ 40 := fun h => Int.le_trans (Int.ofNat_le.mpr h) (by decide)
theorem o246 {a : Nat} : a < 2 ^ 60 → a < 4 * 2 ^ 64 := fun h => Nat.le_trans h (by decide)
theorem o247 {a : Nat} : a < 20 → a + 1 ≤ 20 := by intros; expose_names; exact Nat.succ_le_of_lt h
theorem o248 {a : Nat} : a < 4 → (a:Int) < 2 ^ 40 := fun h => Int.le_trans (Int.ofNat_le.mpr h) (by decide)
theorem o249 {a : Nat} : a < 55296 → a < 60000 := fun h => Nat.le_trans h (by decide)
theorem o250 {a : Nat} : a < 60000 → a < 1114112 := fun h => Nat.le_trans h (by decide)
theorem o251 {a : Nat} : a < a + 1 + 1 := by grind
theorem o252 {a : Nat} : a = 0 → a ≤ 0 := by intros; expose_names; exact Nat.le_zero.mpr h
theorem o253 {a : Nat} : a ≤ 1 → 3 - a = 2 - a + 1 := fun h => Nat.sub_add_comm (n := 2) (m := 1) (Nat.le_trans h (by decide))
theorem o255 {a : Nat} : a ≤ 1 → max (0 + 1) a ≤ 1 := fun h => Nat.max_le.mpr ⟨Nat.le_refl _, h⟩
theorem o256 {a : Nat} : a ≤ 10 → ((a + 2):Int) ≤ 2 ^ 40 := fun h => Int.le_trans (Int.ofNat_le.mpr (Nat.add_le_add_right h 2)) (by decide)
theorem o257 {a : Nat} : a ≤ 10 → (a:Int) ≤ 2 ^ 40 := fun h => Int.le_trans (Int.ofNat_le.mpr h) (by decide)
theorem o258 {a : Nat} : a ≤ 10 → a < 2 ^ 40 := fun h => Nat.lt_of_le_of_lt h (by decide)
theorem o259 {a : Nat} : a ≤ 100 * 100 → 0 + a ≤ 10000 := fun h => Nat.le_trans (Nat.le_of_eq (Nat.zero_add a)) h
theorem o260 {a : Nat} : a ≤ 100 → (a:Int) ≤ 2 ^ 40 := fun h => Int.le_trans (Int.ofNat_le.mpr h) (by decide)
theorem o261 {a : Nat} : a ≤ 100 → a < 2 ^ 40 := by grind
theorem o262 {a : Nat} : a ≤ 100 → a ≤ 100 := by intros; expose_names; exact String.Pos.Raw.mk_le_mk.mp h
theorem o263 {a : Nat} : a ≤ 1000 → ((a:Int) - 0).toNat ≤ 2 ^ 24 := fun h => Nat.le_trans h (by decide)
theorem o264 {a : Nat} : a ≤ 1000 → -9223372036854775808 ≤ (a:Int) + 1 ∧ (a:Int) + 1 < 9223372036854775808 := fun h => ⟨Int.le_trans (by decide) (Int.natCast_nonneg (a+1)), Int.lt_of_le_of_lt (Int.ofNat_le.mpr (Nat.succ_le_succ h)) (by decide)⟩
theorem o265 {a : Nat} : a ≤ 1000 → 1 * ((a:Int) + 1) ≤ 2 ^ 63 - 1 := fun h => Int.le_trans (Int.le_of_eq (Int.one_mul _)) (Int.le_trans (Int.ofNat_le.mpr (Nat.succ_le_succ h)) (by decide))
theorem o266 {a : Nat} : a ≤ 1000 → a < 2 ^ 40 := by grind
theorem o267 {a : Nat} : a ≤ 10000 → a < 1099511627776 := by grind
theorem o268 {a : Nat} : a ≤ 100000 → a + a ≤ 134217728 := fun h => Nat.le_trans (Nat.add_le_add h h) (by decide)
theorem o269 {a : Nat} : a ≤ 1403 * 9 → (1:Int) + (a:Int) ≤ 2 ^ 27 := fun h => Int.le_trans (Int.ofNat_le.mpr (Nat.add_le_add_left h 1)) (by decide)
theorem o270 {a : Nat} : a ≤ 1403 * 9 → a ≤ 16000 := fun h => Nat.le_trans h (by decide)
theorem o271 {a : Nat} : a ≤ 1403 → (1:Int) + (a:Int) ≤ 2 ^ 27 := fun h => Int.le_trans (Int.ofNat_le.mpr (Nat.add_le_add_left h 1)) (by decide)
theorem o272 {a : Nat} : a ≤ 1403 → (a:Int) < 2 ^ 11 := fun h => Int.lt_of_le_of_lt (Int.ofNat_le.mpr h) (by decide)
theorem o273 {a : Nat} : a ≤ 1403 → 4 * a ≤ 5700 := fun h => Nat.le_trans (Nat.mul_le_mul_left 4 h) (by decide)
theorem o274 {a : Nat} : a ≤ 15 → 4 * a ≤ 60 := by grind
theorem o275 {a : Nat} : a ≤ 16 → a < 1099511627776 := by grind
theorem o276 {a : Nat} : a ≤ 2 * a := by grind
theorem o277 {a : Nat} : a ≤ 2 * a + 1 := by grind
theorem o278 {a : Nat} : a ≤ 2 * a - 1 := by cases a with | zero => exact Nat.zero_le _ | succ n => exact Nat.le_sub_one_of_lt (Nat.lt_of_lt_of_eq (Nat.lt_add_of_pos_left (Nat.succ_pos n)) (Nat.two_mul _).symm)
theorem o279 {a : Nat} : a ≤ 2 ^ 20 → a + 1 ≤ 2 ^ 20 + 1 := by intros; expose_names; exact Nat.add_le_add_right h 1
theorem o280 {a : Nat} : a ≤ 20 → (a:Int) ≤ 2 ^ 40 := fun h => Int.le_trans (Int.ofNat_le.mpr h) (by decide)
theorem o281 {a : Nat} : a ≤ 3 → (a:Int) < 2 ^ 2 := fun h => Int.lt_of_le_of_lt (Int.ofNat_le.mpr h) (by decide)
theorem o282 {a : Nat} : a ≤ 3 → (a:Int) ≤ 2 ^ 40 := fun h => Int.le_trans (Int.ofNat_le.mpr h) (by decide)
theorem o283 {a : Nat} : a ≤ 30 → a < 2 ^ 60 := fun h => Nat.lt_of_le_of_lt h (by decide)
theorem o284 {a : Nat} : a ≤ 400 → a ≤ 40000 := fun h => Nat.le_trans h (by decide)
theorem o285 {a : Nat} : a ≤ 50 → 301 + a < 1000 := fun h => Nat.lt_of_le_of_lt (Nat.add_le_add_left h 301) (by decide)
theorem o286 {a : Nat} : a ≤ 50 → 4 + 4 * a + 80 < 9900 := fun h => Nat.lt_of_le_of_lt (Nat.add_le_add_right (Nat.add_le_add_left (Nat.mul_le_mul_left 4 h) 4) 80) (by decide)
theorem o287 {a : Nat} : a ≤ 5700 → 4 * a + 2 * a ≤ 134217728 := fun h => Nat.le_trans (Nat.add_le_add (Nat.mul_le_mul_left 4 h) (Nat.mul_le_mul_left 2 h)) (by decide)
theorem o288 {a : Nat} : a ≤ 6 → a + 1 ≤ 7 := by intros; expose_names; exact Nat.succ_le_succ h
theorem o289 {a : Nat} : a ≤ 63 → a < 2 ^ 40 := by grind
theorem o290 {a : Nat} : a ≤ 8 → a ≤ 15 := fun h => Nat.le_trans h (by decide)
theorem o291 {a : Nat} : a ≤ 9 → ((a:Int) - 0).toNat ≤ 2 ^ 24 := fun h => Nat.le_trans h (by decide)
theorem o292 {a : Nat} : a ≤ 9 → (1:Int) + (a:Int) ≤ 2 ^ 27 := by grind
theorem o293 {a : Nat} : a ≤ 9 → (a:Int) < 2 ^ 11 := fun h => Int.lt_of_le_of_lt (Int.ofNat_le.mpr h) (by decide)
theorem o294 {a : Nat} : a ≤ 9 → a - 1 ≤ 20 := fun h => Nat.le_trans (Nat.sub_le _ _) (Nat.le_trans h (by decide))
theorem o295 {a : Nat} : a ≤ 9 → a ≤ 9 := by intros; expose_names; exact String.Pos.Raw.mk_le_mk.mp h
theorem o296 {a : Nat} : a ≤ a := by intros; expose_names; exact Nat.le_refl a
theorem o297 {a : Nat} : a ≤ a + 1 + 1 := by grind
theorem o298 {a : Nat} : ¬(a:Int) + 1 < 1 := by intros; exact of_decide_eq_false rfl
theorem o299 {a : Nat} : ¬a % 2 = 0 → a % 2 = 1 := by intros; expose_names; exact Nat.mod_two_ne_zero.mp h
theorem o300 {a : Nat} : ¬a + 1 + 1 = a := by grind
theorem o301 {a : Nat} : ¬a = 0 → ¬(a:Int) + 1 = 1 := by grind
theorem o302 {a : Nat} : ¬a = 0 → ¬(a:Int) = 0 := by intros; expose_names; exact Int.ofNat_ne_zero.mpr h
theorem o303 {a : Nat} : ¬a = a + 1 + 1 := by grind
theorem o304 {a b : Int} : (a.natAbs:Int) < b → a < b := fun h => Int.lt_of_le_of_lt Int.le_natAbs h
theorem o305 {a b : Int} : -a < b → -a + 1 ≤ b := by intros; expose_names; exact Int.add_one_le_of_lt h
theorem o307 {a b : Int} : 0 < a + b - 1 → 0 ≤ a + b - 1 - 1 := by intros; expose_names; exact Int.sub_nonneg_of_le h
theorem o308 {a b : Int} : 0 < b → a < b → a * 2 < b * 2 * 2 := by grind
theorem o309 {a b : Int} : 0 ≤ b → a ≤ b + a * 1 := by grind
theorem o310 {a b : Int} : 2 ^ 4 ≤ b → a < 16 → a < b := by intros; expose_names; exact Int.lt_of_lt_of_le h_1 h
theorem o311 {a b : Int} : 2 ≤ b → a ≤ a + b - 1 := by grind
theorem o312 {a b : Int} : 2 ≤ b → b ≤ a → 0 < a + b - 1 := by grind
theorem o313 {a b : Int} : a + -1 * b = 0 → a = b := by grind
theorem o314 {a b : Int} : a + -b = a - b := by intros; exact Int.add_neg_eq_sub
theorem o315 {a b : Int} : a + b * 0 = a := by grind
theorem o316 {a b : Int} : a + b - 1 - 1 < a + b - 1 := by grind
theorem o317 {a b : Int} : a - 1 + (b - a) = b - 1 := by grind
theorem o318 {a b : Int} : a - b + (b - a) = 0 := by grind
theorem o319 {a b : Int} : a < 0 → a + b < b := fun h => Int.lt_of_lt_of_le (Int.add_lt_add_right h b) (Int.le_of_eq (Int.zero_add b))
theorem o320 {a b : Int} : a < b → a * 2 < b * 2 := fun h => Int.mul_lt_mul_of_pos_right h (by decide)
theorem o321 {a b : Int} : a < b → a ≤ b - 1 := by intros; expose_names; exact Int.le_sub_one_of_lt h
theorem o322 {a b : Int} : a ≠ b → a ≤ b → a < b := by intros; expose_names; exact Std.lt_of_le_of_ne h_1 h
theorem o323 {a b : Int} : a ≤ b → (b.natAbs:Int) < a → False := fun h1 h2 => Int.lt_irrefl _ (Int.lt_of_le_of_lt (Int.le_trans h1 Int.le_natAbs) h2)
theorem o324 {a b : Int} : a ≤ b → a * 2 ≤ b * 2 := fun h => Int.mul_le_mul_of_nonneg_right h (by decide)
theorem o325 {a b : Int} : a ≤ b → a - 1 < b := by intros; expose_names; exact Int.sub_one_lt_of_le h
theorem o328 {a b : Nat} {c d : Int} : c < d → d ≤ c → a + 1 ≤ b := by grind
theorem o329 {a b : Nat} : ((a:Int) + 1 - (b:Int)).toNat = a + 1 - b := Int.toNat_sub (a+1) b
theorem o330 {a b : Nat} : (a + b) % 3 = 0 ∨ (a + b) % 3 = 1 ∨ (a + b) % 3 = 2 := by grind
theorem o331 {a b : Nat} : (a + b) % 3 = 1 → (a + 1 + b) % 3 = 2 := by grind
theorem o332 {a b : Nat} : (a:Int) + 1 < ((b + 1):Int) → a + 1 < b + 1 := by intros; expose_names; exact Int.ofNat_lt.mp h
theorem o333 {a b : Nat} : (a:Int) < (b:Int) → a < b := by intros; expose_names; exact Int.ofNat_lt.mp h
theorem o334 {a b : Nat} : (a:Int) = (b:Int) → a = b := by intros; expose_names; exact Int.ofNat_inj.mp h
theorem o335 {a b : Nat} : (a:Int) = (b:Int) ↔ a = b := by intros; exact Int.ofNat_inj
theorem o336 {a b : Nat} : (a:Int) = (b:Int) ↔ b = a := ⟨fun h => (Int.ofNat_inj.mp h).symm, fun h => congrArg Int.ofNat h.symm⟩
theorem o337 {a b : Nat} : (a:Int) ≠ (b:Int) → ¬a = b := by intros; expose_names; exact Ne.intro fun a_1 => h (congrArg Nat.cast a_1)
theorem o338 {a b : Nat} : (a:Int) ≠ (b:Int) ↔ a ≠ b := not_congr Int.ofNat_inj
theorem o339 {a b : Nat} : (b:Int) < 2 ^ 40 → a < b → (a:Int) < 2 ^ 40 := fun h1 h2 => Int.lt_trans (Int.ofNat_lt.mpr h2) h1
theorem o342 {a b : Nat} : 0 < b → a = 0 → a + b - 1 < b := fun h1 h2 => Nat.sub_one_lt_of_le (Nat.lt_of_lt_of_le h1 (Nat.le_add_left _ _)) (by rw [h2, Nat.zero_add]; exact Nat.le_refl _)
theorem o343 {a b : Nat} : 0 < b → a = b - 1 + 1 → a = b := fun h1 h2 => h2.trans (Nat.sub_add_cancel h1)
theorem o344 {a b : Nat} : 0 < b → a = b → a = b - 1 + 1 := fun h1 h2 => h2.trans (Nat.sub_add_cancel h1).symm
theorem o345 {a b : Nat} : 0 < b → a ≤ b + a - 1 := fun h => Nat.le_sub_one_of_lt (Nat.lt_add_of_pos_left h)
theorem o346 {a b : Nat} : 0 = b + 2 - a → a ≤ b + 2 → a = b + 2 := fun h1 h2 => Nat.le_antisymm h2 (Nat.le_of_sub_eq_zero h1.symm)
theorem o347 {a b : Nat} : 0 = min a b → a ≤ b → a = 0 := by grind
theorem o348 {a b : Nat} : 1000 ≤ b → a ≤ 100 → a ≤ b := fun h1 h2 => Nat.le_trans h2 (Nat.le_trans (by decide) h1)
theorem o349 {a b : Nat} : 1000 ≤ b → a ≤ 3 → a ≤ b := fun h1 h2 => Nat.le_trans h2 (Nat.le_trans (by decide) h1)
theorem o350 {a b : Nat} : 1000 ≤ b → a ≤ 63 → a ≤ b := by grind
theorem o351 {a b : Nat} : 100000 ≤ b → a ≤ 21 → 1 + a ≤ b := by grind
theorem o352 {a b : Nat} : 100000 ≤ b → a ≤ 8 → a * 4 ≤ b := fun h1 h2 => Nat.le_trans (Nat.mul_le_mul_right 4 h2) (Nat.le_trans (by decide) h1)
theorem o353 {a b : Nat} : 2 + a = b → 2 + (a:Int) = (b:Int) := by intros; expose_names; exact Eq.symm ((fun {a b} => Int.neg_inj.mp) (congrArg Neg.neg (congrArg Nat.cast (id (Eq.symm h)))))
theorem o354 {a b : Nat} : 2 + b = a → 1 < (a:Int) := fun h => (Int.ofNat_lt (n := 1)).mpr (Nat.lt_of_lt_of_eq (Nat.lt_of_lt_of_le (by decide) (Nat.le_add_right 2 b)) h)
theorem o355 {a b : Nat} : 2 + b = a → 1 < a := fun h => Nat.lt_of_lt_of_eq (Nat.lt_of_lt_of_le (by decide) (Nat.le_add_right 2 b)) h
theorem o356 {a b : Nat} : 2 + b = a → 2 ≤ a := by intros; expose_names; exact Nat.le.intro h
theorem o357 {a b : Nat} : 3 - b = a → (a:Int) ≤ 2 ^ 40 := fun h => Int.le_trans (Int.ofNat_le.mpr (Nat.le_trans (Nat.le_of_eq h.symm) (Nat.sub_le 3 b))) (by decide)
theorem o358 {a b : Nat} : 3 - b = a → (a:Int) ≤ 3 := fun h => (Int.ofNat_le (n := 3)).mpr (Nat.le_trans (Nat.le_of_eq h.symm) (Nat.sub_le 3 b))
theorem o359 {a b : Nat} : 3 - b = a → a ≤ 10 := fun h => Nat.le_trans (Nat.le_of_eq h.symm) (Nat.le_trans (Nat.sub_le 3 b) (by decide))
theorem o360 {a b : Nat} : 4 < a → 4 + (a - 4 + b) = a + b := fun h => (Nat.add_assoc _ _ _).symm.trans (congrArg (· + b) (Nat.add_sub_of_le (Nat.le_of_lt h)))
theorem o361 {a b : Nat} : 4 < a → a < 4 * (b + 1) → a - 4 < 4 * b := fun h1 h2 => Nat.sub_lt_right_of_lt_add (Nat.le_of_lt h1) h2
theorem o362 {a b : Nat} : 4000 < b → b + b % 2 = 2 * a → 0 < a := by grind
theorem o363 {a b : Nat} : 54 < a → b = 47 ∨ b = 54 → a ≤ b → False := fun h1 h2 h3 => Nat.lt_irrefl _ (Nat.lt_of_lt_of_le h1 (Nat.le_trans h3 (h2.elim (fun e => Nat.le_trans (Nat.le_of_eq e) (by decide)) Nat.le_of_eq)))
theorem o364 {a b : Nat} : a + (b + 1) ≤ 10 → a + (0 + 1) + b ≤ 10 := fun h => Nat.le_trans (Nat.le_of_eq (Nat.succ_add_eq_add_succ a b)) h
theorem o365 {a b : Nat} : a + 1 + b = a + (b + 1) := by intros; expose_names; exact Nat.succ_add_eq_add_succ a b
theorem o366 {a b : Nat} : a + 1 < b + 1 → a < b := by intros; expose_names; exact Nat.succ_lt_succ_iff.mp h
theorem o367 {a b : Nat} : a + 1 < b → a < a + 2 ∧ a + 2 ≤ b := fun h => ⟨Nat.lt_add_of_pos_right (by decide), h⟩
theorem o368 {a b : Nat} : a + 1 = b → a + 2 - b = 0 + 1 := fun h => by rw [← h]; exact Nat.add_sub_cancel_left (n := a+1) (m := 1)
theorem o369 {a b : Nat} : a + 1 ≤ b → a < b := by intros; expose_names; exact Nat.lt_of_succ_le h
theorem o370 {a b : Nat} : a + b * 1 = b + a := by grind
theorem o372 {a b : Nat} : a - b = b + (a - b) - b := by intros; expose_names; exact Eq.symm (Nat.add_sub_self_left b (a - b))
theorem o373 {a b : Nat} : a - b ≤ 6 → a - b + 1 ≤ 16 := fun h => Nat.le_trans (Nat.succ_le_succ h) (by decide)
theorem o374 {a b : Nat} : a < 4 - b → a < 4 := fun h => Nat.lt_of_lt_of_le h (Nat.sub_le 4 b)
theorem o375 {a b : Nat} : a < b + (a + 1 - b) := Nat.sub_le_iff_le_add'.mp (Nat.le_refl _)
theorem o376 {a b : Nat} : a < b + 2 → a + 1 ≤ b + 2 := by intros; expose_names; exact Nat.succ_le_of_lt h
theorem o377 {a b : Nat} : a < b → a + (b - a) = b := fun h => Nat.add_sub_of_le (Nat.le_of_lt h)
theorem o378 {a b : Nat} : a < b → a < a + 1 ∧ a + 1 ≤ b := fun h => ⟨Nat.lt_succ_self a, h⟩
theorem o379 {a b : Nat} : a < b → a < b := by intros; expose_names; exact Nat.lt_of_succ_le h
theorem o380 {a b : Nat} : a < b → min a b = a := fun h => Nat.min_eq_left (Nat.le_of_lt h)
theorem o381 {a b : Nat} : a < b → ¬a + 1 = b → a + 1 < b := by intros; expose_names; exact Nat.lt_of_le_of_ne h h_1
theorem o382 {a b : Nat} : a = 1 → b ≤ 1000 → (a:Int) + (b:Int) ≤ 2 ^ 27 := fun h1 h2 => Int.le_trans (Int.ofNat_le.mpr (Nat.add_le_add (Nat.le_of_eq h1) h2)) (by decide)
theorem o383 {a b : Nat} : a = 1 → b ≤ 100000 → (a:Int) + (b:Int) ≤ 2 ^ 27 := by grind
theorem o384 {a b : Nat} : a = 1 → b ≤ 5700 → (a:Int) + (2 * (b:Int) - 1) ≤ 2 ^ 27 := by grind
theorem o385 {a b : Nat} : a = 1 → b ≤ 5700 → (a:Int) + 2 * (b:Int) ≤ 2 ^ 27 := by grind
theorem o386 {a b : Nat} : a = 1 → b ≤ 5700 → (a:Int) + 4 * (b:Int) ≤ 2 ^ 27 := by grind
theorem o387 {a b : Nat} : a = 16777216 → b ≤ 1000 → ¬a < 1 * ((b:Int) + 1).toNat := fun h1 h2 => Nat.not_lt.mpr (Nat.le_trans (Nat.le_of_eq (Nat.one_mul _)) (Nat.le_trans (Nat.succ_le_succ h2) (Nat.le_trans (by decide) (Nat.le_of_eq h1.symm))))
theorem o388 {a b : Nat} : a = 2 * b → a ≤ 2 * b := by intros; expose_names; exact Nat.le_of_eq h
theorem o389 {a b : Nat} : a = 4 - b → (a:Int) ≤ 2 ^ 40 := fun h => Int.le_trans (Int.ofNat_le.mpr (Nat.le_trans (Nat.le_of_eq h) (Nat.sub_le 4 b))) (by decide)
theorem o390 {a b : Nat} : a = 4 - b → a < 2 ^ 40 := fun h => Nat.lt_of_le_of_lt (Nat.le_trans (Nat.le_of_eq h) (Nat.sub_le 4 b)) (by decide)
theorem o391 {a b : Nat} : a = 4 - b → a ≤ 10 := fun h => Nat.le_trans (Nat.le_of_eq h) (Nat.le_trans (Nat.sub_le 4 b) (by decide))
theorem o392 {a b : Nat} : a = b % 2 → a ≤ 1 := fun h => Nat.le_trans (Nat.le_of_eq h) (Nat.le_of_lt_succ (Nat.mod_lt b (by decide)))
theorem o393 {a b : Nat} : a = b + 1 → a ≤ b → False := fun h1 h2 => Nat.not_succ_le_self b (Nat.le_trans (Nat.le_of_eq h1.symm) h2)
theorem o394 {a b : Nat} : a = b + 3 → -(a:Int) ≤ -1 := by grind
theorem o395 {a b : Nat} : a = b + 3 → a ≤ b + 2 + 1 := by intros; expose_names; exact Nat.le_of_eq h
theorem o396 {a b : Nat} : a ≠ b → a ≤ b → a < b := by intros; expose_names; exact Nat.lt_of_le_of_ne h_1 h
theorem o397 {a b : Nat} : a ≤ 1 → 3 - a = b → 3 - (a:Int) = (b:Int) := fun h1 h2 => h2 ▸ (Int.ofNat_sub (Nat.le_trans h1 (by decide : 1 ≤ 3))).symm
theorem o398 {a b : Nat} : a ≤ 10 → min (a + 2) b ≤ 13 := fun h => Nat.le_trans (Nat.min_le_left _ _) (Nat.le_trans (Nat.add_le_add_right h 2) (by decide))
theorem o399 {a b : Nat} : a ≤ 15 * b → a + b - 1 ≤ b * 16 := fun h => Nat.le_trans (Nat.sub_le _ _) (Nat.le_trans (Nat.add_le_add_right h b) (Nat.le_of_eq ((Nat.succ_mul 15 b).symm.trans (Nat.mul_comm _ _))))
theorem o400 {a b : Nat} : a ≤ 2 * b → 0 + 1 + 1 + a ≤ 2 * (b + 1) := by grind
theorem o401 {a b : Nat} : a ≤ 2 * b → 0 + 1 + a ≤ 2 * (b + 1) := by grind
theorem o402 {a b : Nat} : a ≤ 2 * b → 1 + a ≤ 2 * (b + 1) := by grind
theorem o403 {a b : Nat} : a ≤ 2 * b → 2 + a ≤ 2 * (b + 1) := by grind
theorem o404 {a b : Nat} : a ≤ 2 * b → a + 1 + 1 ≤ 2 * (b + 1 + 1) := by grind
theorem o405 {a b : Nat} : a ≤ 3 * b + 5 → 1 + (1 + (1 + a)) ≤ 3 * (b + 1) + 5 := by grind
theorem o406 {a b : Nat} : a ≤ 3 * b + 5 → 1 + (1 + a) ≤ 3 * (b + 1) + 5 := by grind
theorem o407 {a b : Nat} : a ≤ 6 * b → a + 2 * b - 1 ≤ 16 * (2 * b) := fun h => Nat.le_trans (Nat.sub_le _ _) (Nat.le_trans (Nat.add_le_add_right h _) (by rw [← Nat.add_mul, ← Nat.mul_assoc]; exact Nat.mul_le_mul_right _ (by decide)))
theorem o409 {a b : Nat} : a ≤ a + b := by intros; expose_names; exact Nat.le_add_right a b
theorem o410 {a b : Nat} : a ≤ b + b → a ≤ 15 * b := fun h => Nat.le_trans h (Nat.le_trans (Nat.le_of_eq (Nat.two_mul b).symm) (Nat.mul_le_mul_right b (by decide)))
theorem o411 {a b : Nat} : a ≤ b → a < b + 1 := by intros; expose_names; exact Nat.lt_succ_of_le h
theorem o412 {a b : Nat} : a ≤ b → a ≤ 15 * b := fun h => Nat.le_trans h (Nat.le_mul_of_pos_left b (by decide))
theorem o413 {a b : Nat} : a ≤ b → ¬a = b → a + 1 ≤ b := fun h1 h2 => Nat.lt_of_le_of_ne h1 h2
theorem o414 {a b : Nat} : a ≤ b → ¬a = b → a < b := by intros; expose_names; exact Nat.lt_of_le_of_ne h h_1
theorem o415 {a b : Nat} : b + 1 = a → a + 1 < b + 3 := by grind
theorem o416 {a b : Nat} : b + 1 = a → a ≤ b + 2 := by grind
theorem o417 {a b : Nat} : b + 1 ≤ a + 1 + 4000 → ¬300 < a / 30 + 1 ∨ ¬a / 30 + 1 + 150 < b / 30 + 1 := by grind
theorem o418 {a b : Nat} : b < 64 → a ≤ 21 * b → a ≤ 2 ^ 20 := fun h1 h2 => Nat.le_trans h2 (Nat.le_trans (Nat.mul_le_mul_left 21 (Nat.le_of_lt h1)) (by decide))
theorem o420 {a b : Nat} : b < a → a - (b + 1) < a - b := by intros; expose_names; exact Nat.sub_succ_lt_self a b h
theorem o551 {a b c : Nat} : c + 1 ≤ b → a = b - (c + 1) → a + 1 = b - c := fun h1 h2 => by rw [h2, Nat.sub_add_eq, Nat.sub_add_cancel (Nat.le_sub_of_add_le (by rw [Nat.add_comm]; exact h1))]
theorem o421 {a b : Nat} : b < a → a - b = a - (b + 1) + 1 := fun h => (o551 h rfl).symm
theorem o422 {a b : Nat} : b < a → a ≠ b := by intros; expose_names; exact Ne.symm (Nat.ne_of_lt h)
theorem o423 {a b : Nat} : b < a → ¬b + 1 = a → ¬a + 1 < b + 3 := fun h1 h2 => Nat.not_lt.mpr (Nat.succ_le_succ (Nat.lt_of_le_of_ne h1 h2))
theorem o424 {a b : Nat} : b = 0 → a = b → a ≤ 0 := by grind
theorem o425 {a b : Nat} : b = 0 → a ≤ b → a = b := by grind
theorem o426 {a b : Nat} : b = 16777216 → a ≤ b → ¬2 ^ 63 ≤ (a:Int) := fun h1 h2 => Int.not_le.mpr (Int.lt_of_le_of_lt (Int.ofNat_le.mpr (Nat.le_trans h2 (Nat.le_of_eq h1))) (by decide))
theorem o427 {a b : Nat} : b = a % 2 → (a:Int) % 2 = (b:Int) := by intros; expose_names; exact Eq.symm ((fun {a b} => Int.neg_inj.mp) (congrArg Neg.neg (congrArg Nat.cast h)))
theorem o428 {a b : Nat} : b = a → a ≤ b := by intros; expose_names; exact Nat.le_of_eq (id (Eq.symm h))
theorem o430 {a b : Nat} : b ≤ 1 → 2 + b = a → a ≤ 100 := by grind
theorem o431 {a b : Nat} : b ≤ 1 → 3 - b = a → 0 < (a:Int) := fun h1 h2 => Int.ofNat_lt.mpr (Nat.lt_of_lt_of_eq (Nat.sub_pos_of_lt (Nat.lt_of_le_of_lt h1 (by decide))) h2)
theorem o432 {a b : Nat} : b ≤ 1 → 3 - b = a → a = a - 1 + 1 := fun h1 h2 => (Nat.sub_add_cancel (Nat.le_trans (Nat.le_sub_of_add_le (Nat.le_trans (Nat.add_le_add_left h1 1) (by decide))) (Nat.le_of_eq h2))).symm
theorem o433 {a b : Nat} : b ≤ 1 → a = 4 - b → 0 < a := fun h1 h2 => Nat.lt_of_lt_of_eq (Nat.sub_pos_of_lt (Nat.lt_of_le_of_lt h1 (by decide))) h2.symm
theorem o434 {a b : Nat} : b ≤ 10 → a < b + 2 → (a:Int) < 2 ^ 40 := fun h1 h2 => Int.lt_of_lt_of_le (Int.ofNat_lt.mpr (Nat.lt_of_lt_of_le h2 (Nat.add_le_add_right h1 2))) (by decide)
theorem o435 {a b : Nat} : b ≤ 10 → a < b → (a:Int) < 2 ^ 40 := by grind
theorem o436 {a b : Nat} : b ≤ 100 → a < b → (a:Int) < 2 ^ 40 := by grind
theorem o437 {a b : Nat} : b ≤ 100 → a < b → (a:Int) ≤ 2 ^ 40 := by grind
theorem o438 {a b : Nat} : b ≤ 100 → a = b → (a:Int) ≤ 2 ^ 40 := by grind
theorem o439 {a b : Nat} : b ≤ 100 → a ≤ b → a < 2 ^ 40 := fun h1 h2 => Nat.lt_of_le_of_lt (Nat.le_trans h2 h1) (by decide)
theorem o440 {a b : Nat} : b ≤ 1000 → a = b → (a:Int) ≤ 2 ^ 40 := by grind
theorem o441 {a b : Nat} : b ≤ 100000 → a ≤ 2 * b + 1 → (a:Int) + (b:Int) ≤ 2 ^ 27 := by grind
theorem o442 {a b : Nat} : b ≤ 100000 → a ≤ 3 * b + 5 → a < 2 ^ 60 := fun h1 h2 => Nat.lt_of_le_of_lt (Nat.le_trans h2 (Nat.add_le_add_right (Nat.mul_le_mul_left 3 h1) 5)) (by decide)
theorem o443 {a b : Nat} : b ≤ 100000 → a ≤ b → (a:Int) + (b:Int) ≤ 2 ^ 27 := by grind
theorem o444 {a b : Nat} : b ≤ 1403 → a ≤ b * 7 → a ≤ 2 ^ 20 := fun h1 h2 => Nat.le_trans h2 (Nat.le_trans (Nat.mul_le_mul_right 7 h1) (by decide))
theorem o445 {a b : Nat} : b ≤ 16 → a + 1 ≤ b → (a:Int) < 2 ^ 40 := by grind
theorem o446 {a b : Nat} : b ≤ 16 → a = b - 0 → a ≤ 16 := by intros; expose_names; exact le_of_eq_of_le h_1 h
theorem o447 {a b : Nat} : b ≤ 16000 → a ≤ b → (a:Int) + (b:Int) ≤ 2 ^ 27 := by grind
theorem o448 {a b : Nat} : b ≤ 2 * a → ¬(b:Int) - (a:Int) ≤ 4000 → 4000 < a := by grind
theorem o449 {a b : Nat} : b ≤ 2 ^ 24 → a < b → (a:Int) < 9223372036854775808 := fun h1 h2 => Int.lt_of_lt_of_le (Int.ofNat_lt.mpr (Nat.lt_of_lt_of_le h2 h1)) (by decide)
theorem o450 {a b : Nat} : b ≤ 20 → a < b → a ≤ 1000 := by grind
theorem o451 {a b : Nat} : b ≤ 20 → a < b → a ≤ 19 := by grind
theorem o452 {a b : Nat} : b ≤ 3 → a < b → a ≤ 100 := by grind
theorem o453 {a b : Nat} : b ≤ 400 → a ≤ 4 * b → a ≤ 1000000 := fun h1 h2 => Nat.le_trans h2 (Nat.le_trans (Nat.mul_le_mul_left 4 h1) (by decide))
theorem o454 {a b : Nat} : b ≤ 40000 → a ≤ 2 * b → a ≤ 80000 := fun h1 h2 => Nat.le_trans h2 (Nat.le_trans (Nat.mul_le_mul_left 2 h1) (by decide))
theorem o455 {a b : Nat} : b ≤ 5700 → a = 2 * b → a ≤ 16000 := fun h1 h2 => Nat.le_trans (Nat.le_of_eq h2) (Nat.le_trans (Nat.mul_le_mul_left 2 h1) (by decide))
theorem o456 {a b : Nat} : b ≤ 8 → a ≤ b * 4 → a ≤ 32 := fun h1 h2 => Nat.le_trans h2 (Nat.mul_le_mul_right 4 h1)
theorem o457 {a b : Nat} : b ≤ 8 → a ≤ b → 0 ≤ (a:Int) ∧ (a:Int) < 16 := fun h1 h2 => ⟨Int.natCast_nonneg _, (Int.ofNat_lt (m := 16)).mpr (Nat.lt_of_le_of_lt (Nat.le_trans h2 h1) (by decide))⟩
theorem o458 {a b : Nat} : b ≤ 9 → a < b → a ≤ 1000 := by grind
theorem o459 {a b : Nat} : b ≤ 9 → a < b → a ≤ 20 := by grind
theorem o460 {a b : Nat} : b ≤ 9 → a = b → a ≤ 9 := by intros; expose_names; exact le_of_eq_of_le h_1 h
theorem o461 {a b : Nat} : b ≤ 9 → a ≤ b → a ≤ 9 := by intros; expose_names; exact Nat.le_trans h_1 h
theorem o463 {a b : Nat} : b ≤ a → a ≤ b → a = b := by intros; expose_names; exact Nat.le_antisymm h_1 h
theorem o464 {a b : Nat} : b ≤ a → ¬a < b := by intros; expose_names; exact Nat.not_lt.mpr h
theorem o466 {a b : Nat} : max a b = a ∨ max a b = b := by intros; expose_names; exact Std.MaxEqOr.max_eq_or a b
theorem o468 {a b : Nat} : ¬(a:Int) + 1 < ((b + 1):Int) → ¬a + 1 < b + 1 := by grind
theorem o469 {a b : Nat} : ¬a = b → ¬(a:Int) = (b:Int) := by intros; expose_names; exact Nat.ToInt.of_diseq rfl rfl h
theorem o470 {a b : Nat} : ¬b + 1 < a → a ≤ b + 1 := by intros; expose_names; exact Nat.le_of_not_lt h
theorem o471 {a b : Nat} : ¬b < a → a ≤ b := by intros; expose_names; exact Nat.le_of_not_lt h
theorem o472 {a b : Nat} : ¬b ≤ a → a + 1 ≤ b := by grind
theorem o473 {a b : Nat} : ¬b ≤ a → a < b := by intros; expose_names; exact Nat.lt_of_not_le h
theorem o474 {a b c : Int} : 0 < a - b + c - 2 → 0 ≤ a - b + c - 2 := by intros; expose_names; exact Int.le_of_lt h
theorem o475 {a b c : Int} : 0 < b → 0 ≤ c → a = b + c → 0 < a := fun h1 h2 h3 => Int.lt_of_lt_of_le (Int.add_pos_of_pos_of_nonneg h1 h2) (Int.le_of_eq h3.symm)
theorem o476 {a b c : Int} : 0 ≤ b → a * 1 ≤ c → a ≤ b + c := by grind
theorem o477 {a b c : Int} : 0 ≤ c → a + c < b → a < b := fun h1 h2 => Int.lt_of_le_of_lt (Int.le_add_of_nonneg_right h1) h2
theorem o478 {a b c : Int} : 2 * a = c → b ≤ a → a + b - 1 < c := by grind
theorem o479 {a b c : Int} : 2 * a = c → b ≤ a → a + b - 1 ≤ c := by grind
theorem o480 {a b c : Int} : 2 ^ 4 ≤ b → a ≤ c → 1 + a < b - 1 + c := by grind
theorem o481 {a b c : Int} : 2 ^ 4 ≤ b → a ≤ c → 1 + a ≤ b - 1 + c := by grind
theorem o482 {a b c : Int} : a + (b + c) = a + b + c := by intros; expose_names; exact Eq.symm (Int.add_assoc a b c)
theorem o483 {a b c : Int} : a + b = b - c + (a + c) := by grind
theorem o484 {a b c : Int} : a - 1 = a - (b + c - 1) + (b + c - 1 - 1) := by grind
theorem o485 {a b c : Int} : a - b + (c - a + b) = c := by grind
theorem o486 {a b c : Int} : a < c → c < b → a < b := by intros; expose_names; exact Int.lt_trans h h_1
theorem o487 {a b c : Int} : b + c = a → a + b - 2 * b = c := by grind
theorem o488 {a b c : Int} : c = b → a ≤ c → a ≤ b := by intros; expose_names; exact le_of_le_of_eq h_1 h
theorem o489 {a b c : Int} : c ≤ b → a ≤ c → a ≤ b := by intros; expose_names; exact Int.le_trans h_1 h
theorem o490 {a b c : Nat} : ((a:Int) - (b:Int) + (c:Int)) % 3 = (((a + (c + 2 * b)) % 3):Int) := by grind
theorem o491 {a b c : Nat} : (((a + (b + 2 * c)) % 3):Int) < 2 ^ 40 := by grind
theorem o492 {a b c : Nat} : 0 < b → a ≤ c + b → a + b - 1 < c + b + b := fun h1 h2 => Nat.sub_one_lt_of_le (Nat.lt_of_lt_of_le h1 (Nat.le_add_left _ _)) (Nat.add_le_add_right h2 b)
theorem o493 {a b c : Nat} : 1 + 200 ≤ b → c + 1 ≤ 200 → a ≤ c → 0 + 1 + a ≤ b := fun h1 h2 h3 => Nat.le_trans (Nat.add_le_add_left (Nat.le_trans h3 (Nat.le_of_lt h2)) (0+1)) h1
theorem o494 {a b c : Nat} : 1000 ≤ b → a + c ≤ 10 → a ≤ b := fun h1 h2 => Nat.le_trans (Nat.le_trans (Nat.le_add_right a c) h2) (Nat.le_trans (by decide) h1)
theorem o495 {a b c : Nat} : 100000 ≤ b → a = 4 - c → a * 8 ≤ b := fun h1 h2 => Nat.le_trans (Nat.mul_le_mul_right 8 (Nat.le_trans (Nat.le_of_eq h2) (Nat.sub_le 4 c))) (Nat.le_trans (by decide) h1)
theorem o496 {a b c : Nat} : 100000 ≤ b → a = 4 - c → a ≤ b := fun h1 h2 => Nat.le_trans (Nat.le_of_eq h2) (Nat.le_trans (Nat.sub_le 4 c) (Nat.le_trans (by decide) h1))
theorem o497 {a b c : Nat} : 100000 ≤ b → c ≤ 10 → a = c → a ≤ b := fun h1 h2 h3 => Nat.le_trans (Nat.le_of_eq h3) (Nat.le_trans h2 (Nat.le_trans (by decide) h1))
theorem o498 {a b c : Nat} : 100000 ≤ b → c ≤ 20 → a < c → a + 1 + 1 ≤ b := fun h1 h2 h3 => Nat.le_trans (Nat.succ_le_succ (Nat.le_trans h3 h2)) (Nat.le_trans (by decide) h1)
theorem o499 {a b c : Nat} : 100000 ≤ b → c ≤ 20 → a < c → a + 1 ≤ b := fun h1 h2 h3 => Nat.le_trans h3 (Nat.le_trans h2 (Nat.le_trans (by decide) h1))
theorem o500 {a b c : Nat} : 100000 ≤ c → a < 18 → ((a:Int) + 1 - (b:Int)).toNat ≤ c := fun h1 h2 => Nat.le_trans (Nat.le_of_eq o329) (Nat.le_trans (Nat.sub_le _ _) (Nat.le_trans h2 (Nat.le_trans (by decide) h1)))
theorem o501 {a b c : Nat} : 100000 ≤ c → a ≤ 13 * 23 → b ≤ 21 → a + b ≤ c := fun h1 h2 h3 => Nat.le_trans (Nat.add_le_add h2 h3) (Nat.le_trans (by decide) h1)
theorem o502 {a b c : Nat} : 100000 ≤ c → a ≤ 9 → a - b + 1 ≤ c := fun h1 h2 => Nat.le_trans (Nat.succ_le_succ (Nat.le_trans (Nat.sub_le _ _) h2)) (Nat.le_trans (by decide) h1)
theorem o503 {a b c : Nat} : 100000 ≤ c → b ≤ 2 → a ≤ 21 → a + b ≤ c := fun h1 h2 h3 => Nat.le_trans (Nat.add_le_add h3 h2) (Nat.le_trans (by decide) h1)
theorem o504 {a b c : Nat} : 1000002 ≤ b → c ≤ 1000000 → a ≤ c + 1 → a + 1 ≤ b := fun h1 h2 h3 => Nat.le_trans (Nat.succ_le_succ (Nat.le_trans h3 (Nat.succ_le_succ h2))) h1
theorem o505 {a b c : Nat} : 16 ≤ b → c ≤ 16 → a = c - 0 → a ≤ b := fun h1 h2 h3 => Nat.le_trans (Nat.le_of_eq h3) (Nat.le_trans h2 h1)
theorem o506 {a b c : Nat} : 16 ≤ b → c ≤ 16 → a = c → a ≤ b := fun h1 h2 h3 => Nat.le_trans (Nat.le_of_eq h3) (Nat.le_trans h2 h1)
theorem o507 {a b c : Nat} : 3 - b = c → a < c → (a:Int) ≤ 3 := fun h1 h2 => (Int.ofNat_le (n := 3)).mpr (Nat.le_trans (Nat.le_of_lt h2) (Nat.le_trans (Nat.le_of_eq h1.symm) (Nat.sub_le 3 b)))
theorem o508 {a b c : Nat} : 3 - b = c → a < c → a < 3 - b := by intros; expose_names; exact Nat.lt_of_lt_of_eq h_1 (id (Eq.symm h))
theorem o509 {a b c : Nat} : a + (b + (c + 1) * 1) = c + (a + b) + 1 := by grind
theorem o510 {a b c : Nat} : a + (b + 1) = 4 - c → a + 1 + b = 4 - c := fun h => (Nat.succ_add_eq_add_succ a b).trans h
theorem o511 {a b c : Nat} : a + (b + 1) ≤ c → a + 1 + b ≤ c := fun h => Nat.le_trans (Nat.le_of_eq (Nat.succ_add_eq_add_succ a b)) h
theorem o512 {a b c : Nat} : a + (b + c) = b + (a + c) := by intros; expose_names; exact Nat.add_left_comm a b c
theorem o513 {a b c : Nat} : a + (c + 1) = 4 - b → a < 4 - b := fun h => Nat.lt_of_lt_of_eq (Nat.lt_add_of_pos_right (Nat.succ_pos c)) h
theorem o514 {a b c : Nat} : a + 1 + b + c = a + (b + 1) + c := by grind
theorem o515 {a b c : Nat} : a + 1 + b ≤ c → a + b ≤ c := by grind
theorem o516 {a b c : Nat} : a + 1 ≤ c → a + b ≤ c + b - 1 := fun h => Nat.le_sub_one_of_lt (Nat.add_lt_add_right h b)
theorem o517 {a b c : Nat} : a + 1 ≤ c → b = c → (a:Int) < (b:Int) := fun h1 h2 => Int.ofNat_lt.mpr (Nat.lt_of_lt_of_eq h1 h2.symm)
theorem o518 {a b c : Nat} : a + 1 ≤ c → b = c → a < b := by intros; expose_names; exact Nat.lt_of_lt_of_eq h (id (Eq.symm h_1))
theorem o519 {a b c : Nat} : a + b + (a + b + c - (a + b)) = a + (b + c) := by rw [Nat.add_sub_cancel_left, Nat.add_assoc]
theorem o520 {a b c : Nat} : a + c ≤ b → min a b + (c + (b - (a + c))) = b := fun h => by rw [Nat.min_eq_left (Nat.le_trans (Nat.le_add_right _ _) h), ← Nat.add_assoc, Nat.add_sub_of_le h]
theorem o521 {a b c : Nat} : a < b + c → a - b ≤ c := fun h => Nat.sub_le_iff_le_add'.mpr (Nat.le_of_lt h)
theorem o522 {a b c : Nat} : a < b → b = 4 - c → (a:Int) < 2 ^ 40 := fun h1 h2 => Int.lt_of_lt_of_le (Int.ofNat_lt.mpr (Nat.lt_of_lt_of_le h1 (Nat.le_trans (Nat.le_of_eq h2) (Nat.sub_le 4 c)))) (by decide)
theorem o523 {a b c : Nat} : a < c + 2 → b = c + 3 → a < b := fun h1 h2 => Nat.lt_of_lt_of_eq (Nat.lt_trans h1 (Nat.lt_succ_self _)) h2.symm
theorem o524 {a b c : Nat} : a < c → b < a → a - b + (c - a) = c - b := fun h1 h2 => (Nat.add_comm _ _).trans (Nat.sub_add_sub_cancel (Nat.le_of_lt h1) (Nat.le_of_lt h2))
theorem o525 {a b c : Nat} : a < c → c < b → a < b := by intros; expose_names; exact Nat.lt_trans h h_1
theorem o526 {a b c : Nat} : a = b + c → a ≤ b + c := by intros; expose_names; exact Nat.le_of_eq h
theorem o527 {a b c : Nat} : a = b - c → a = b - c := by intros; expose_names; exact Nat.add_right_cancel (congrFun (congrArg HAdd.hAdd h) a)
theorem o528 {a b c : Nat} : a = b → a ≤ b + c := by intros; expose_names; exact Nat.le.intro (congrFun (congrArg HAdd.hAdd h) c)
theorem o529 {a b c : Nat} : a ≤ 20 → b ≤ 21 * c → a + 1 + b ≤ 21 * (c + 1) := fun h1 h2 => Nat.le_trans (Nat.le_of_eq (Nat.add_comm _ _)) (Nat.add_le_add h2 (Nat.succ_le_succ h1))
theorem o530 {a b c : Nat} : a ≤ 3 * (b - c) + 5 → a ≤ 3 * b + 5 := fun h => Nat.le_trans h (Nat.add_le_add_right (Nat.mul_le_mul_left 3 (Nat.sub_le _ _)) 5)
theorem o531 {a b c : Nat} : a ≤ 4 → b ≤ c * 4 → a + b ≤ (c + 1) * 4 := fun h1 h2 => Nat.le_trans (Nat.add_le_add h1 h2) (Nat.le_of_eq (by rw [Nat.succ_mul, Nat.add_comm]))
theorem o532 {a b c : Nat} : a ≤ b → a ≤ b + c := by intros; expose_names; exact Nat.le_add_right_of_le h
theorem o533 {a b c : Nat} : a ≤ b → min a b - c = a - c := fun h => congrArg (· - c) (Nat.min_eq_left h)
theorem o534 {a b c : Nat} : b < a → c < b → a - b + (b - c) = a - c := fun h1 h2 => Nat.sub_add_sub_cancel (Nat.le_of_lt h1) (Nat.le_of_lt h2)
theorem o535 {a b c : Nat} : b < c → a ≤ b → a + (b - a) ≤ c := fun h1 h2 => Nat.le_trans (Nat.le_of_eq (Nat.add_sub_of_le h2)) (Nat.le_of_lt h1)
theorem o536 {a b c : Nat} : b = 4 - c → a = b → a ≤ 10 := fun h1 h2 => Nat.le_trans (Nat.le_of_eq (h2.trans h1)) (Nat.le_trans (Nat.sub_le 4 c) (by decide))
theorem o537 {a b c : Nat} : b = 4 - c → a = b → a ≤ 1000 := fun h1 h2 => Nat.le_trans (Nat.le_of_eq (h2.trans h1)) (Nat.le_trans (Nat.sub_le 4 c) (by decide))
theorem o538 {a b c : Nat} : b = c → (a:Int) - (c:Int) ≤ 4000 → a ≤ b + 4000 := by grind
theorem o539 {a b c : Nat} : b = c → min a b + (b - min a b) ≤ c := fun h => Nat.le_trans (Nat.le_of_eq (Nat.add_sub_of_le (Nat.min_le_right _ _))) (Nat.le_of_eq h)
theorem o540 {a b c : Nat} : b = c → ¬a < c → ¬a < b := by intros; expose_names; exact Eq.mpr_not (congrArg (LT.lt a) h) h_1
theorem o541 {a b c : Nat} : b ≤ 100000 → a = c → c ≤ 2 * b → (a:Int) + 1 ≤ 2 ^ 27 := fun h1 h2 h3 => Int.le_trans (Int.ofNat_le.mpr (Nat.succ_le_succ (Nat.le_trans (Nat.le_of_eq h2) (Nat.le_trans h3 (Nat.mul_le_mul_left 2 h1))))) (by decide)
theorem o542 {a b c : Nat} : b ≤ 100000 → a ≤ 2 * c → c ≤ 2 * b → (a:Int) + 1 ≤ 2 ^ 27 := fun h1 h2 h3 => Int.le_trans (Int.ofNat_le.mpr (Nat.succ_le_succ (Nat.le_trans h2 (Nat.mul_le_mul_left 2 (Nat.le_trans h3 (Nat.mul_le_mul_left 2 h1)))))) (by decide)
theorem o543 {a b c : Nat} : b ≤ 13 * 23 → c ≤ 21 → b + c = a → a ≤ 400 := fun h1 h2 h3 => Nat.le_trans (Nat.le_of_eq h3.symm) (Nat.le_trans (Nat.add_le_add h1 h2) (by decide))
theorem o544 {a b c : Nat} : b ≤ 1403 → a ≤ c → c ≤ b * 9 → a ≤ 2 ^ 20 := fun h1 h2 h3 => Nat.le_trans h2 (Nat.le_trans h3 (Nat.le_trans (Nat.mul_le_mul_right 9 h1) (by decide)))
theorem o545 {a b c : Nat} : b ≤ 16 * 2 ^ 20 → c ≤ 2 ^ 20 * 16 → a ≤ c → (a:Int) + (b:Int) ≤ 2 ^ 27 := fun h1 h2 h3 => Int.le_trans (Int.ofNat_le.mpr (Nat.add_le_add (Nat.le_trans h3 h2) h1)) (by decide)
theorem o546 {a b c : Nat} : b ≤ 2 ^ 20 → c ≤ 2 ^ 20 * 16 → a ≤ c → (a:Int) + (b:Int) - 1 < 2 ^ 26 := by grind
theorem o547 {a b c : Nat} : b ≤ 4 → a + 4 * (c + 1) ≤ 60 → a + b + 4 * c ≤ 60 := by grind
theorem o548 {a b c : Nat} : c * 1 ≤ b → a ≤ c * 9 → a ≤ 15 * b := fun h1 h2 => Nat.le_trans h2 (Nat.le_trans (Nat.le_of_eq (Nat.mul_comm c 9)) (Nat.mul_le_mul (by decide) (Nat.le_trans (Nat.le_of_eq (Nat.mul_one c).symm) h1)))
theorem o549 {a b c : Nat} : c + 1 + a ≤ b → a ≤ b := by intros; expose_names; exact Nat.le_of_add_left_le h
theorem o550 {a b c : Nat} : c + 1 = b + 2 - a → a < b + 2 := by intros; expose_names; exact Nat.lt_of_sub_eq_succ (id (Eq.symm h))
theorem o552 {a b c : Nat} : c + a ≤ b → a ≤ b := by intros; expose_names; exact Nat.le_of_add_left_le h
theorem o553 {a b c : Nat} : c < b → a = c → a + (b - (c + 1) + 1) = b := fun h1 h2 => by rw [h2, ← o421 h1, Nat.add_sub_of_le (Nat.le_of_lt h1)]
theorem o554 {a b c : Nat} : c = a + 1 → c ≤ b → a + 1 ≤ b := by intros; expose_names; exact le_of_eq_of_le (id (Eq.symm h)) h_1
theorem o555 {a b c : Nat} : c = a + b → a + b ≤ c := by intros; expose_names; exact Nat.le_of_eq (id (Eq.symm h))
theorem o556 {a b c : Nat} : c = a → c ≤ b → a ≤ b := by intros; expose_names; exact le_of_eq_of_le (id (Eq.symm h)) h_1
theorem o557 {a b c : Nat} : c ≤ 10 → a < c + 2 → min a b ≤ 13 := fun h1 h2 => Nat.le_trans (Nat.min_le_left _ _) (Nat.le_trans (Nat.le_of_lt h2) (Nat.le_trans (Nat.add_le_add_right h1 2) (by decide)))
theorem o558 {a b c : Nat} : c ≤ 1403 → b ≤ 1403 * 9 → a ≤ c * 9 → (a:Int) + (b:Int) ≤ 2 ^ 27 := fun h1 h2 h3 => Int.le_trans (Int.ofNat_le.mpr (Nat.add_le_add (Nat.le_trans h3 (Nat.mul_le_mul_right 9 h1)) h2)) (by decide)
theorem o559 {a b c : Nat} : c ≤ 16 → a ≤ c → a - b ≤ 16 := fun h1 h2 => Nat.le_trans (Nat.sub_le _ _) (Nat.le_trans h2 h1)
theorem o560 {a b c : Nat} : c ≤ 2 * b → a ≤ 2 * c → a ≤ 4 * b := fun h1 h2 => Nat.le_trans h2 (Nat.le_trans (Nat.mul_le_mul_left 2 h1) (Nat.le_of_eq (Nat.mul_assoc 2 2 b).symm))
theorem o561 {a b c : Nat} : c ≤ 4000 → b = c → a ≤ 2 * c → a ≤ b + 4000 := fun h1 h2 h3 => Nat.le_trans h3 (Nat.le_trans (Nat.le_of_eq (Nat.two_mul c)) (Nat.add_le_add (Nat.le_of_eq h2.symm) h1))
theorem o562 {a b c : Nat} : c ≤ a → b ≤ c → a - b = c - b + (a - c) := fun h1 h2 => ((Nat.add_comm _ _).trans (Nat.sub_add_sub_cancel h1 h2)).symm
theorem o563 {a b c : Nat} : max (max a b) c = max (max a c) b := by intros; expose_names; exact Nat.max_right_comm a b c
theorem o564 {a b c : Nat} : max a c ≤ b → a ≤ b := fun h => Nat.le_trans (Nat.le_max_left _ _) h
theorem o565 {a b c : Nat} : max c a ≤ b → a ≤ b := fun h => Nat.le_trans (Nat.le_max_right _ _) h
theorem o566 {a b c : Nat} : min (a - b) (c - b) ≤ a - b := by intros; expose_names; exact Nat.min_le_left (a - b) (c - b)
theorem o567 {a b c d : Int} : -16 < b → 2 ^ 4 ≤ c → c * 1 ≤ d → b + d = 0 → a = 0 := by grind
theorem o568 {a b c d : Int} : -16 < b → 2 ^ 4 ≤ d → b < 16 → -a + d ≤ c → c + d ≤ a → -a < b + c ∧ b + c < a := by grind
theorem o569 {a b c d : Int} : -b < a → a = c → b ≤ d → c ≤ d * -1 → a = 0 := by grind
theorem o570 {a b c d : Int} : -d ≤ b → d = a + c → -a ≤ b + c := by grind
theorem o571 {a b c d : Int} : 0 < b → 2 * c = b → d ≤ c → 0 < a - b + d - 2 → 0 ≤ a := by grind
theorem o572 {a b c d : Int} : 0 < d + c - 1 → 2 * d = b → b * 2 ≤ a → c ≤ d → 0 < a - b + c - 2 := by grind
theorem o573 {a b c d : Int} : 0 ≤ b → 0 ≤ a → a < d → b + d ≤ c → 0 ≤ a + b ∧ a + b < c := fun h1 h2 h3 h4 => ⟨Int.add_nonneg h2 h1, Int.lt_of_lt_of_le (Int.add_comm a b ▸ Int.add_lt_add_left h3 b) h4⟩
theorem o574 {a b c d : Int} : 2 ^ 4 ≤ b → c < 16 → c + d = 0 → d ≤ b * -1 → a = 0 := by grind
theorem o575 {a b c d : Int} : 2 ≤ c → 2 * d = b → c ≤ d → a - b + c - 2 < a := by grind
theorem o576 {a b c d : Int} : a + b + (c + d) = a + c + (b + d) := by grind
theorem o577 {a b c d : Int} : a + b + c = a + d + (b + c - d) := by grind
theorem o578 {a b c d : Int} : a + b < c → a + b - (c - d) < d := by grind
theorem o579 {a b c d : Int} : b * 1 ≤ c → a < d → a = c → d ≤ b → a = 0 := by grind
theorem o580 {a b c d : Int} : b - c + d = a → a = b - (c - d) := by grind
theorem o581 {a b c d : Int} : b < d → a + 1 * d ≤ c → a + b < c := fun h1 h2 => Int.lt_of_lt_of_le (Int.add_lt_add_left h1 a) (Int.le_trans (Int.le_of_eq (congrArg (a + ·) (Int.one_mul d).symm)) h2)
theorem o582 {a b c d : Int} : b < d → a + d ≤ c → a + b < c := by grind
theorem o583 {a b c d : Int} : b = a - (d - c) → a = b - (c - d) := by grind
theorem o584 {a b c d : Int} : c < d → a < c → d ≤ b → a < b := fun h1 h2 h3 => Int.lt_of_lt_of_le (Int.lt_trans h2 h1) h3
theorem o585 {a b c d : Int} : d = c → a + d = b → a = b - c := fun h1 h2 => (Int.sub_eq_iff_eq_add.mpr ((h1 ▸ h2).symm)).symm
theorem o586 {a b c d : Nat} : 0 < b → c = a → d = c → d = c - min b c → a = 0 := fun h1 h2 h3 h4 => h2 ▸ Nat.eq_zero_of_not_pos fun hp => Nat.ne_of_lt (Nat.sub_lt hp (Nat.lt_min.mpr ⟨h1, hp⟩)) (h4.symm.trans h3)
theorem o587 {a b c d : Nat} : 100 ≤ c → b ≤ 4 → a + 4 * (d + 1) ≤ 60 → a + b ≤ c := fun h1 h2 h3 => Nat.le_trans (Nat.add_le_add (Nat.le_trans (Nat.le_add_right _ _) h3) h2) (Nat.le_trans (by decide) h1)
theorem o588 {a b c d : Nat} : 100000 ≤ d → a ≤ 13 * 23 → c ≤ 2 → b ≤ 21 → a + (b + c) ≤ d := fun h1 h2 h3 h4 => Nat.le_trans (Nat.add_le_add h2 (Nat.add_le_add h4 h3)) (Nat.le_trans (by decide) h1)
theorem o589 {a b c d : Nat} : 100000 ≤ d → b ≤ 100000 → min a b - c ≤ d := fun h1 h2 => Nat.le_trans (Nat.sub_le _ _) (Nat.le_trans (Nat.min_le_right _ _) (Nat.le_trans h2 h1))
theorem o590 {a b c d : Nat} : 1000000 ≤ b → c ≤ 100000 → d < c → a ≤ 2 * d → a + 1 ≤ b := fun h1 h2 h3 h4 => Nat.le_trans (Nat.succ_le_succ (Nat.le_trans h4 (Nat.mul_le_mul_left 2 (Nat.le_trans (Nat.le_of_lt h3) h2)))) (Nat.le_trans (by decide) h1)
theorem o591 {a b c d : Nat} : 16 ≤ b → c ≤ 16 → a = c - (d + 1) → a ≤ b := fun h1 h2 h3 => Nat.le_trans (Nat.le_of_eq h3) (Nat.le_trans (Nat.sub_le _ _) (Nat.le_trans h2 h1))
theorem o592 {a b c d : Nat} : 54 < b → c < d → d ≤ a → b ≤ c → 47 < a := fun h1 h2 h3 h4 => Nat.lt_of_lt_of_le (Nat.lt_trans (by decide) h1) (Nat.le_trans h4 (Nat.le_trans (Nat.le_of_lt h2) h3))
theorem o593 {a b c d : Nat} : 54 < b → c < d → d ≤ a → b ≤ c → 54 < a := fun h1 h2 h3 h4 => Nat.lt_of_lt_of_le h1 (Nat.le_trans h4 (Nat.le_trans (Nat.le_of_lt h2) h3))
theorem o594 {a b c d : Nat} : a + (c + d) ≤ b → min a b = a := fun h => Nat.min_eq_left (Nat.le_trans (Nat.le_add_right _ _) h)
theorem o595 {a b c d : Nat} : a = 1 → c ≤ 100000 → d + d % 2 = 2 * b → d ≤ 2 * c → (a:Int) + (b:Int) ≤ 2 ^ 27 := by grind
theorem o596 {a b c d : Nat} : a = b + c → a ≤ b + c + d := by intros; expose_names; exact Nat.le.intro (congrFun (congrArg HAdd.hAdd h) d)
theorem o597 {a b c d : Nat} : b < d → d ≤ c → a ≤ b → a + (b - a) ≤ c := fun h1 h2 h3 => Nat.le_trans (Nat.le_of_eq (Nat.add_sub_of_le h3)) (Nat.le_trans (Nat.le_of_lt h1) h2)
theorem o598 {a b c d : Nat} : b = c → c - a = d + 1 + 1 → a + 2 ≤ b := fun h1 h2 => Nat.le_trans (Nat.add_le_of_le_sub' (Nat.le_of_lt (Nat.lt_of_sub_pos (Nat.lt_of_lt_of_eq (Nat.succ_pos _) h2.symm))) (Nat.le_trans (Nat.le_add_left 2 d) (Nat.le_of_eq h2.symm))) (Nat.le_of_eq h1.symm)
theorem o599 {a b c d : Nat} : b ≤ 16 → c ≤ b → a ≤ c - d → a ≤ 16 := fun h1 h2 h3 => Nat.le_trans h3 (Nat.le_trans (Nat.sub_le _ _) (Nat.le_trans h2 h1))
theorem o600 {a b c d : Nat} : b ≤ 9 → a < c → d < b → c = d + 1 → (a:Int) < 2 ^ 40 := fun h1 h2 h3 h4 => Int.lt_of_lt_of_le (Int.ofNat_lt.mpr (Nat.lt_of_lt_of_le h2 (Nat.le_trans (Nat.le_of_eq h4) (Nat.le_trans h3 h1)))) (by decide)
theorem o601 {a b c d : Nat} : b ≤ 9 → c < b → d < b → d + c = a → a < 18 := fun h1 h2 h3 h4 => Nat.lt_of_le_of_lt (Nat.le_of_eq h4.symm) (Nat.lt_of_lt_of_le (Nat.add_lt_add h3 h2) (Nat.add_le_add h1 h1))
theorem o602 {a b c d : Nat} : c < b → a ≤ 2 * d + 1 → d ≤ c → a + 1 ≤ 2 * b := fun h1 h2 h3 => Nat.le_trans (Nat.succ_le_succ h2) (Nat.mul_le_mul_left 2 (Nat.lt_of_le_of_lt h3 h1))
theorem o603 {a b c d : Nat} : c = d → d ≤ b → a ≤ c → d ≤ a → b ≤ c → a = b := fun h1 h2 h3 h4 h5 => Nat.le_antisymm (Nat.le_trans h3 (Nat.le_trans (Nat.le_of_eq h1) h2)) (Nat.le_trans h5 (Nat.le_trans (Nat.le_of_eq h1) h4))
theorem o604 {a b c d : Nat} : c ≤ (2 ^ 20 + 1) * 16 → b ≤ 16 * 2 ^ 20 → d ≤ 2 ^ 20 → a ≤ d + c → (a:Int) + (b:Int) ≤ 2 ^ 27 := fun h1 h2 h3 h4 => Int.le_trans (Int.ofNat_le.mpr (Nat.add_le_add (Nat.le_trans h4 (Nat.add_le_add h3 h1)) h2)) (by decide)
theorem o605 {a b c d : Nat} : c ≤ 100000 → b ≤ 2 * d + 1 → d ≤ c → a ≤ 2 * d + (c - d) → a + b ≤ 1048576 := fun h1 h2 h3 h4 => Nat.le_trans (Nat.add_le_add (Nat.le_trans h4 (Nat.add_le_add (Nat.mul_le_mul_left 2 (Nat.le_trans h3 h1)) (Nat.le_trans (Nat.sub_le _ _) h1))) (Nat.le_trans h2 (Nat.succ_le_succ (Nat.mul_le_mul_left 2 (Nat.le_trans h3 h1))))) (by decide)
theorem o606 {a b c d : Nat} : c ≤ 100000 → d + d % 2 = 2 * b → a ≤ 2 * b → d ≤ 2 * c → (a:Int) + (b:Int) ≤ 2 ^ 27 := by grind
theorem o607 {a b c d : Nat} : c ≤ 16 → a < d → d ≤ c → a - b ≤ 16 := fun h1 h2 h3 => Nat.le_trans (Nat.sub_le _ _) (Nat.le_trans (Nat.le_of_lt h2) (Nat.le_trans h3 h1))
theorem o608 {a b c d : Nat} : c ≤ 16 → d ≤ c → (b + d) / 2 = a → a - b ≤ 16 := fun h1 h2 h3 => Nat.sub_le_of_le_add (Nat.le_trans (Nat.le_of_eq h3.symm) (Nat.le_trans (Nat.div_le_self _ _) (Nat.le_trans (Nat.le_of_eq (Nat.add_comm _ _)) (Nat.add_le_add_right (Nat.le_trans h2 h1) b))))
theorem o609 {a b c d : Nat} : d ≤ b + 1 → a ≤ d + c → a ≤ b + (c + 1) := fun h1 h2 => Nat.le_trans h2 (Nat.le_trans (Nat.add_le_add_right h1 c) (Nat.le_of_eq (Nat.succ_add_eq_add_succ b c)))
theorem o610 {a b c d : Nat} : d ≤ b → a < d + (c + 1) → a < b + 1 + c := fun h1 h2 => Nat.lt_of_lt_of_le h2 (Nat.le_trans (Nat.add_le_add_right h1 _) (Nat.le_of_eq (Nat.succ_add_eq_add_succ b c).symm))
theorem o611 {a b c d : Nat} : d ≤ c → a ≤ d → min (a - b) (c - b) = a - b := fun h1 h2 => Nat.min_eq_left (Nat.sub_le_sub_right (Nat.le_trans h2 h1) b)
theorem o612 {a b c d e : Int} : 0 < d → 2 * e = d → d = b → c ≤ e → a - b + c - 2 ≤ a := by grind
theorem o613 {a b c d e : Int} : 0 ≤ b → 0 ≤ c → e ≤ 2 * a → d ≤ e → -(2 * a) ≤ b + c - d := by grind
theorem o614 {a b c d e : Int} : 0 ≤ c → a = 2 * d → d ≤ e → b = e + c → a ≤ 2 * b := fun h1 h2 h3 h4 => Int.le_trans (Int.le_of_eq h2) (Int.mul_le_mul_of_nonneg_left (Int.le_trans h3 (Int.le_trans (Int.le_add_of_nonneg_right h1) (Int.le_of_eq h4.symm))) (by decide))
theorem o615 {a b c d e : Int} : a + b = c + e → a + b = c - d + (e + d) := by grind
theorem o616 {a b c d e : Int} : a + e = d → e = b + c → a + b + c = d := by grind
theorem o617 {a b c d e : Nat} : a < b → b < c → d = e → c ≤ e → a + (b - a + (c - b)) ≤ d := fun h1 h2 h3 h4 => by rw [o524 h2 h1, Nat.add_sub_of_le (Nat.le_of_lt (Nat.lt_trans h1 h2)), h3]; exact h4
theorem o618 {a b c d e : Nat} : a < b → c = d → e ≤ d → (a + e) / 2 = b → a + (b - a) ≤ c := by grind
theorem o619 {a b c d e : Nat} : a ≤ d → e + d + b ≤ c → a + b ≤ c := fun h1 h2 => Nat.le_trans (Nat.add_le_add_right (Nat.le_trans h1 (Nat.le_add_left _ _)) b) h2
theorem o620 {a b c d e : Nat} : a ≤ e + 1 → e + (b + 1) ≤ c + d → a + b ≤ c + d := fun h1 h2 => Nat.le_trans (Nat.add_le_add_right h1 b) (Nat.le_trans (Nat.le_of_eq (Nat.succ_add_eq_add_succ e b)) h2)
theorem o621 {a b c d e : Nat} : b ≤ 2 → c ≤ d → a ≤ e → a + b + c ≤ d + (e + 2) := fun h1 h2 h3 => Nat.le_trans (Nat.add_le_add (Nat.add_le_add h3 h1) h2) (Nat.le_of_eq (Nat.add_comm _ _))
theorem o622 {a b c d e : Nat} : b ≤ 2 → d < c → e ≤ d → a ≤ 2 * e + (d - e) → a + b ≤ 2 * c := fun h1 h2 h3 h4 => Nat.le_trans (Nat.add_le_add (Nat.le_trans h4 (by rw [Nat.two_mul, Nat.add_assoc, Nat.add_sub_of_le h3]; exact Nat.add_le_add_right h3 d)) h1) (by rw [← Nat.two_mul]; exact Nat.mul_le_mul_left 2 h2)
theorem o623 {a b c d e : Nat} : c < d → e + (b + d) ≤ 10000 → a ≤ e + c → a + b ≤ 10000 := fun h1 h2 h3 => Nat.le_trans (Nat.add_le_add_right (Nat.le_trans h3 (Nat.add_le_add_left (Nat.le_of_lt h1) e)) b) (Nat.le_trans (Nat.le_of_eq (by rw [Nat.add_assoc, Nat.add_comm d])) h2)
theorem o624 {a b c d e : Nat} : c ≤ e → a + e + b ≤ d → a + (b + c) ≤ d := fun h1 h2 => Nat.le_trans (by rw [Nat.add_comm b, ← Nat.add_assoc]; exact Nat.add_le_add_right (Nat.add_le_add_left h1 a) b) h2
theorem o625 {a b c d e f : Int} : 0 < d → a < e → b ≤ f → e ≤ c → f = c - d * 1 → a + b < c * 2 := fun h1 h2 h3 h4 h5 => Int.lt_of_lt_of_le (Int.add_lt_add_of_lt_of_le (Int.lt_of_lt_of_le h2 h4) (Int.le_trans h3 (Int.le_trans (Int.le_of_eq h5) (Int.sub_le_self c (Int.le_trans (Int.le_of_lt h1) (Int.le_of_eq (Int.mul_one d).symm)))))) (Int.le_of_eq ((Int.mul_comm c 2).trans (Int.two_mul c)).symm)
theorem o626 {a b c d e f : Nat} : 1000000 ≤ b → c ≤ 100000 → d < e → a ≤ 2 * f + 1 → f ≤ d → e ≤ c → a + 1 ≤ b := fun h1 h2 h3 h4 h5 h6 => Nat.le_trans (Nat.succ_le_succ (Nat.le_trans h4 (Nat.succ_le_succ (Nat.mul_le_mul_left 2 (Nat.le_trans h5 (Nat.le_trans (Nat.le_of_lt h3) (Nat.le_trans h6 h2))))))) (Nat.le_trans (by decide) h1)
theorem o627 {a b c d e f : Nat} : 1000000 ≤ b → c ≤ 100000 → d < e → e < f → a ≤ 2 * d → f ≤ c → a + 1 ≤ b := fun h1 h2 h3 h4 h5 h6 => Nat.le_trans (Nat.succ_le_succ (Nat.le_trans h5 (Nat.mul_le_mul_left 2 (Nat.le_trans (Nat.le_of_lt (Nat.lt_trans h3 h4)) (Nat.le_trans h6 h2))))) (Nat.le_trans (by decide) h1)
theorem o628 {a b c d e f g : Int} : 0 ≤ e → 0 ≤ c → b < f → a + f ≤ g → d = g + e → a + b - c < d := fun h1 h2 h3 h4 h5 => Int.lt_of_le_of_lt (Int.sub_le_self _ h2) (Int.lt_of_lt_of_le (Int.add_lt_add_left h3 a) (Int.le_trans h4 (Int.le_trans (Int.le_add_of_nonneg_right h1) (Int.le_of_eq h5.symm))))
theorem o629 {a b c d e f g : Int} : g = b → a - b + c + d - (e - f) = a + d - (g - c + (e - f)) := by grind
theorem o630 {a b c d e f g : Nat} : 20000 ≤ b → c < d → e + (f + d) ≤ 10000 → a + (g + 1) ≤ e + c → a ≤ b := by grind
theorem o631 {a b : Int} : b < a → a - b - 1 + 1 = (((a - b).toNat : Nat):Int) := fun h => (Int.sub_add_cancel _ _).trans (Int.toNat_of_nonneg (Int.sub_nonneg_of_le (Int.le_of_lt h))).symm
theorem o632 {a b : Int} : ¬b < a → 0 = (((a - b).toNat : Nat):Int) := fun h => congrArg Int.ofNat (Int.toNat_of_nonpos (Int.sub_nonpos_of_le (Int.not_lt.mp h))).symm
theorem o633 {a b : Nat} : a ≤ 4000 → b ≤ 2 * a → ¬(b:Int) - (a:Int) ≤ 4000 → False := by first | decide | exact Int.natCast_nonneg _ | exact Int.le_trans (by decide) (Int.natCast_nonneg _) | grind | omega
theorem o634 {a : Nat} : 2 ≤ a → (a:Int) - 1 = ((a - 1 : Nat):Int) := fun h => (Int.ofNat_sub (Nat.le_trans (by decide) h)).symm
theorem o635 {a b c d : Nat} : a < b → c < a → b < d → ¬c < a ∨ ¬a < b ∨ ¬b < d → False := fun h1 h2 h3 h => h.elim (· h2) (Or.elim · (· h1) (· h3))
theorem o636 {a b c : Nat} : a < b → c < a → ¬c < a ∨ ¬a < b → False := fun h1 h2 h => h.elim (· h2) (· h1)
theorem o637 {a : Nat} : a + 1 + 1 + 1 + 1 < 4 → False := by first | decide | exact Int.natCast_nonneg _ | exact Int.le_trans (by decide) (Int.natCast_nonneg _) | grind | omega
theorem o638 {a : Nat} : a + 1 + 1 + 1 < 3 → False := by first | decide | exact Int.natCast_nonneg _ | exact Int.le_trans (by decide) (Int.natCast_nonneg _) | grind | omega
theorem o639 : (0 : Int) < (1 : Int) := by first | decide | exact Int.natCast_nonneg _ | exact Int.le_trans (by decide) (Int.natCast_nonneg _) | grind | omega
theorem o640 {a b c : Nat} : a + 0 = b → c < b → a ≤ c → False := by first | decide | exact Int.natCast_nonneg _ | exact Int.le_trans (by decide) (Int.natCast_nonneg _) | grind | omega
theorem o641 {a b : Nat} : a < b → b ≤ a → False := by first | decide | exact Int.natCast_nonneg _ | exact Int.le_trans (by decide) (Int.natCast_nonneg _) | grind | omega
theorem o642 {a b c : Nat} : a < b → b < c + 0 → c ≤ a → False := fun h1 h2 h3 => Nat.lt_irrefl _ (Nat.lt_of_lt_of_le (Nat.lt_trans h1 h2) h3)
theorem o643 {a b c : Nat} : a < b → b ≤ c → c ≤ a → False := by first | decide | exact Int.natCast_nonneg _ | exact Int.le_trans (by decide) (Int.natCast_nonneg _) | grind | omega
theorem o644 {a : Nat} : a < 4 * 0 → False := by first | decide | exact Int.natCast_nonneg _ | exact Int.le_trans (by decide) (Int.natCast_nonneg _) | grind | omega
theorem o645 {a b : Nat} : a < b + 0 → b ≤ a → False := by first | decide | exact Int.natCast_nonneg _ | exact Int.le_trans (by decide) (Int.natCast_nonneg _) | grind | omega
theorem o646 {a b : Nat} : ¬((min a b : Nat):Int) < 0 := by first | decide | exact Int.natCast_nonneg _ | exact Int.le_trans (by decide) (Int.natCast_nonneg _) | grind | omega
theorem o647 {a b : Nat} : max 0 (min (a:Int) (b:Int)) = max 0 (min ((min a b : Nat):Int) (b:Int)) := by first | decide | exact Int.natCast_nonneg _ | exact Int.le_trans (by decide) (Int.natCast_nonneg _) | grind | omega
theorem o648 {a b c : Nat} : a < b → c + b ≤ a → False := by first | decide | exact Int.natCast_nonneg _ | exact Int.le_trans (by decide) (Int.natCast_nonneg _) | grind | omega
theorem o649 : (46 : Nat) < (1114112 : Nat) := by first | decide | exact Int.natCast_nonneg _ | exact Int.le_trans (by decide) (Int.natCast_nonneg _) | grind | omega
theorem o650 {a b : Nat} : b < a + 3 → ((a + 3 : Nat):Int) - (b:Int) = ((a + 3 - b : Nat):Int) := fun h => (Int.ofNat_sub (Nat.le_of_lt h)).symm
theorem o651 {a : Nat} : a ≤ 1 → 4 - (a:Int) = ((4 - a : Nat):Int) := fun h => (Int.ofNat_sub (Nat.le_trans h (by decide) : a ≤ 4)).symm
theorem o652 {a : Nat} : -2 ^ 40 ≤ ((4 - a : Nat):Int) := Int.le_trans (by decide) (Int.natCast_nonneg _)
theorem o653 {a : Nat} : ((4 - a : Nat):Int) ≤ 2 ^ 40 := Int.le_trans (Int.ofNat_le.mpr (Nat.sub_le 4 a)) (by decide)
theorem o654 {a b : Nat} : 0 < b → (a:Int) + (b:Int) - 1 = ((a + b - 1 : Nat):Int) := fun h => (Int.ofNat_sub (Nat.le_trans h (Nat.le_add_left b a))).symm
theorem o655 : (0 : Int) ≤ (2 : Int) := by first | decide | exact Int.natCast_nonneg _ | exact Int.le_trans (by decide) (Int.natCast_nonneg _) | grind | omega
theorem o656 : (2 : Int) ≤ (16 : Int) := by first | decide | exact Int.natCast_nonneg _ | exact Int.le_trans (by decide) (Int.natCast_nonneg _) | grind | omega
theorem o657 : (0 : Int) ≤ (4 : Int) := by first | decide | exact Int.natCast_nonneg _ | exact Int.le_trans (by decide) (Int.natCast_nonneg _) | grind | omega
theorem o658 : (4 : Int) ≤ (16 : Int) := by first | decide | exact Int.natCast_nonneg _ | exact Int.le_trans (by decide) (Int.natCast_nonneg _) | grind | omega
theorem o659 {a : Nat} : 8 ≤ a → (a:Int) - 1 = ((a - 1 : Nat):Int) := fun h => (Int.ofNat_sub (Nat.le_trans (by decide) h)).symm
theorem o660 {a b : Nat} : b ≤ a → (a:Int) - (b:Int) + 1 = ((a - b + 1 : Nat):Int) := fun h => congrArg (· + 1) (Int.ofNat_sub h).symm
theorem o661 {a b : Nat} : -2 ^ 40 ≤ ((a - b + 1 : Nat):Int) := Int.le_trans (by decide) (Int.natCast_nonneg _)
theorem o662 {a b : Nat} : a ≤ 9 → ((a - b + 1 : Nat):Int) ≤ 2 ^ 40 := fun h => Int.le_trans (Int.ofNat_le.mpr (Nat.succ_le_succ (Nat.le_trans (Nat.sub_le a b) h))) (by decide)
theorem o700 {x : Nat} : x ≤ 16777216 → (0 + 1) * x ≤ 2 ^ 24 := fun h => Nat.le_trans (Nat.le_of_eq (Nat.one_mul x)) (Nat.le_trans h (by decide))
theorem o701 {a b c d e : Nat} : b < d → d - b ≤ e → e = c + c → (b + d) / 2 = a → a - b ≤ c := fun h1 h2 h3 h4 => Nat.sub_le_iff_le_add'.mpr (Nat.le_trans (Nat.le_of_eq h4.symm) (Nat.div_le_of_le_mul (Nat.le_trans (Nat.add_le_add_left (Nat.sub_le_iff_le_add'.mp (Nat.le_trans h2 (Nat.le_of_eq h3))) b) (Nat.le_of_eq (by rw [Nat.two_mul, Nat.add_add_add_comm, Nat.add_assoc])))))
theorem o702 {a b c d e : Nat} : b < d → d - b ≤ e → e = c + c → (b + d) / 2 = a → d - a ≤ c := fun h1 h2 h3 h4 => Nat.sub_le_iff_le_add'.mpr (by rw [← h4, ← Nat.add_mul_div_left _ _ (by decide)]; exact (Nat.le_div_iff_mul_le (by decide)).mpr (by rw [Nat.mul_two, Nat.add_right_comm, Nat.two_mul]; exact Nat.add_le_add_right (Nat.sub_le_iff_le_add'.mp (Nat.le_trans h2 (Nat.le_of_eq h3))) d))
theorem o703 {a b : Nat} : ((a:Int) + (b:Int)) / 2 ^ 1 = (((a + b) / 2 : Nat):Int) := (Int.natCast_ediv (a + b) 2).symm
theorem o704 {a b c d : Int} : c + d = a → 0 ≤ d → 0 < b → 0 ≤ a - c + b := fun h1 h2 h3 => Int.add_nonneg (Int.sub_nonneg_of_le (Int.le_trans (Int.le_add_of_nonneg_right h2) (Int.le_of_eq h1))) (Int.le_of_lt h3)
theorem o705 {a b c d e f g : Int} : a < b → b < c → d < e → e ≤ c → g = c * 2 → 0 < f → a - f + d < g := fun h1 h2 h3 h4 h5 h6 => Int.lt_of_lt_of_le (Int.add_lt_add (Int.lt_of_le_of_lt (Int.sub_le_self a (Int.le_of_lt h6)) (Int.lt_trans h1 h2)) (Int.lt_of_lt_of_le h3 h4)) (Int.le_of_eq (h5.trans ((Int.mul_comm c 2).trans (Int.two_mul c))).symm)
theorem o706 {a : Nat} : ((2 * a : Nat):Int) / 2 ^ 1 = (a:Int) := Int.mul_ediv_cancel_left (a:Int) (by decide : (2:Int) ≠ 0)
theorem o707 {a : Int} : -(2 ^ 40) ≤ a → -2 ^ 63 ≤ a := fun h => Int.le_trans (by decide) h
theorem o708 {a : Int} : a ≤ 2 ^ 40 → a < 2 ^ 63 := fun h => Int.lt_of_le_of_lt h (by decide)
end Mine

end
section
open PySem
namespace Mine
open Sre Sre.M
/-! the machine of patterns, at the two patterns of smtplib -/
theorem runFor_add : ∀ (a b : Nat) (m : M), runFor (a + b) m = runFor b (runFor a m)
  | 0, b, m => by rw [Nat.zero_add]; rfl
  | a + 1, b, m => by
    rw [show a + 1 + b = (a + b) + 1 by exact o107]
    cases h : m.outcome.isSome with
    | true =>
      have e : ∀ n, runFor n m = m := fun n => by cases n with | zero => rfl | succ n => rw [runFor, if_pos h]
      rw [e, e, e]
    | false =>
      have h' : ¬ m.outcome.isSome = true := by rw [h]; decide
      rw [runFor, runFor, if_neg h', if_neg h', runFor_add a b]
/-- a run comes from here to there -/
def Goes (n : Nat) (m m' : M) : Prop := ∀ k, runFor (n + k) m = runFor k m'
theorem Goes.trans {a b : Nat} {m m' m'' : M} (h : Goes a m m') (h' : Goes b m' m'') : Goes (a + b) m m'' := fun k => by rw [Nat.add_assoc, h, h']
theorem Goes.one {m m' : M} (h : m.outcome = none) (e : m.step = m') : Goes 1 m m' := fun k => by
  rw [Nat.add_comm, runFor, h]; exact e ▸ rfl
theorem Goes.first {m m' m'' : M} {b : Nat} (h : m.outcome = none) (e : m.step = m') (h' : Goes b m' m'') : Goes (1 + b) m m'' := (Goes.one h e).trans h'
theorem runFor_done {m : M} (h : m.outcome.isSome = true) (n : Nat) : runFor n m = m := by
  cases n with
  | zero => rfl
  | succ n => rw [runFor, if_pos h]
def c1 : Array Nat := #[14, 4, 0, 1, 1, 6, 1, 16, 46, 1]
def c2 : Array Nat := #[14, 9, 4, 1, 2, 16, 10, 16, 13, 0, 7, 7, 16, 13, 16, 10, 15, 18, 5, 16, 10, 15, 13, 11, 16, 13, 5, 5, 0, 16, 10, 1, 15, 2, 0, 1]
/-- while a try at s runs -/
def st1 (T : Array Nat) (s : Nat) (first : Bool) (sn : Seen) (pc pos handed : Nat) (ans : Option Bool) : M :=
  { code := c1, text := T, lim := T.size, start := s, lastStart := T.size, pc := pc, pos := pos, handed := handed, outermost := first, marks := #[], frames := [{ wait := .nextStart, pc := 5, pos := s, outermost := first }], weight := 1, seen := sn, answer := ans }
/-- the end -/
def en1 (T : Array Nat) (s : Nat) (first : Bool) (sn : Seen) (handed : Nat) (ans : Bool) (out : Option Sre.Outcome) : M :=
  { code := c1, text := T, lim := T.size, start := s, lastStart := T.size, pc := 5, pos := s, handed := handed, outermost := first, marks := #[], frames := [], weight := 0, seen := sn, answer := some ans, outcome := out }
abbrev at1 (T : Array Nat) (s : Nat) (first : Bool) (sn : Seen) : M := st1 T s first sn 5 s s none
def bol (T : Array Nat) (s : Nat) : Bool := s == 0 || T.getD (s - 1) 0 == 10
section
variable {T : Array Nat} {s : Nat} {first : Bool} {sn : Seen} {pc : Nat}
theorem at1_AT1 (h : bol T s = true) : (at1 T s first sn).step = st1 T s first ((sn.add 6).add (43 + 1)) 7 s s none := by
  show (if bol T s = true then _ else _) = _
  rw [if_pos h]; rfl
theorem at1_AT0 (h : bol T s = false) : (at1 T s first sn).step = st1 T s first ((sn.add 6).add (43 + 1)) 5 s s (some false) := by
  show (if bol T s = true then _ else _) = _
  rw [h]; rfl
theorem at1_no (h : s < T.size) : (st1 T s first sn pc s s (some false)).step = at1 T (s + 1) false sn := by
  show (if s < T.size then _ else _) = _
  rw [if_pos h]; rfl
theorem at1_lit (h : s < T.size) (q : T.getD s 0 = 46) : (st1 T s first sn 7 s s none).step = st1 T s first (sn.add 16) 9 (s + 1) s none := by
  show (if s ≥ T.size then _ else _) = _
  rw [if_neg (by exact o27 h)]
  have e : accepts c1 7 (T.getD s 0) (sn.add 16) = .ok (true, sn.add 16) := by rw [q]; rfl
  show (match accepts c1 7 (T.getD s 0) (sn.add 16) with | .error why => _ | .ok (false, seen) => _ | .ok (true, seen) => _) = _
  rw [e]; rfl
theorem at1_lit0 (h : s < T.size) (q : T.getD s 0 ≠ 46) : (st1 T s first sn 7 s s none).step = st1 T s first (sn.add 16) 7 s s (some false) := by
  show (if s ≥ T.size then _ else _) = _
  rw [if_neg (by exact o27 h)]
  have e : accepts c1 7 (T.getD s 0) (sn.add 16) = .ok (false, sn.add 16) := by
    show Except.ok (T.getD s 0 == 46, _) = _
    rw [beq_eq_false_iff_ne.mpr q]
  show (match accepts c1 7 (T.getD s 0) (sn.add 16) with | .error why => _ | .ok (false, seen) => _ | .ok (true, seen) => _) = _
  rw [e]; rfl
theorem at1_lit1 (h : T.size ≤ s) : (st1 T s first sn 7 s s none).step = st1 T s first (sn.add 16) 7 s s (some false) := by
  show (if s ≥ T.size then _ else _) = _
  rw [if_pos (by exact o52 h)]; rfl
theorem at1_end (h : T.size ≤ s) : Goes 2 (st1 T s first sn pc s s (some false)) (en1 T s first sn s false (some .failed)) := by
  refine .first (m' := en1 T s first sn s false none) rfl ?_ (.one rfl rfl)
  show (if s < T.size then _ else _) = _
  rw [if_neg (by exact o464 h)]; rfl
theorem at1_ok : Goes 3 (st1 T s first sn 9 (s + 1) s none) (en1 T s first (sn.add 1) (s + 1) true (some .matched)) := by
  refine .first (m' := st1 T s first (sn.add 1) 9 (s + 1) (s + 1) (some true)) rfl ?_ (.first (m' := en1 T s first (sn.add 1) (s + 1) true none) rfl rfl (.one rfl rfl))
  show (if (first && (false || false)) = true then _ else _) = _
  rw [if_neg (by simp)]; rfl
/-- the first dot at the beginning of a line, from s on -/
def dotAt (T : Array Nat) (s : Nat) : Bool := bol T s && T.getD s 0 == 46
/-- what a search from s gives -/
def Found1 (T : Array Nat) (s : Nat) (m : M) : Prop :=
  (∃ d, s ≤ d ∧ d < T.size ∧ dotAt T d = true ∧ (∀ j, s ≤ j → j < d → dotAt T j = false) ∧ m.outcome = some .matched ∧ m.start = d ∧ m.handed = d + 1) ∨
  ((∀ j, s ≤ j → j < T.size → dotAt T j = false) ∧ m.outcome = some .failed)
theorem Found1.next {m : M} (hm : Found1 T (s + 1) m) (hd : dotAt T s = false) : Found1 T s m := by
  rcases hm with ⟨d, h1, h2, h3, h4, h5⟩ | ⟨h1, h2⟩
  · refine .inl ⟨d, by exact o2 h1, h2, h3, fun j g1 g2 => ?_, h5⟩
    by_cases q : j = s
    · rw [q]; exact hd
    · exact h4 j (by exact o13 g1 q) g2
  · refine .inr ⟨fun j g1 g2 => ?_, h2⟩
    by_cases q : j = s
    · rw [q]; exact hd
    · exact h1 j (by exact o13 g1 q) g2
theorem search1 : ∀ (k s : Nat) (first : Bool) (sn : Seen), s + k = T.size → ∃ n m, n ≤ 3 * k + 5 ∧ Goes n (at1 T s first sn) m ∧ Found1 T s m := by
  intro k
  induction k with
  | zero =>
    intro s first sn h
    cases hb : bol T s with
    | false => exact ⟨_, _, (by exact o154 : 1 + 2 ≤ 3 * 0 + 5), .first rfl (at1_AT0 hb) (at1_end (by exact o54 h)), .inr ⟨fun j h1 h2 => by exact (o640 h h2 h1).elim, rfl⟩⟩
    | true => exact ⟨_, _, (by exact o153 : 1 + (1 + 2) ≤ 3 * 0 + 5), .first rfl (at1_AT1 hb) (.first rfl (at1_lit1 (by exact o54 h)) (at1_end (by exact o54 h))), .inr ⟨fun j h1 h2 => by exact (o640 h h2 h1).elim, rfl⟩⟩
  | succ k ih =>
    intro s first sn h
    cases hb : bol T s with
    | false =>
      obtain ⟨n, m, h1, h2, h3⟩ := ih (s + 1) false ((sn.add 6).add (43 + 1)) (by exact o57 h)
      exact ⟨_, m, (by exact o406 h1 : 1 + (1 + n) ≤ 3 * (k + 1) + 5), .first rfl (at1_AT0 hb) (.first rfl (at1_no (by exact o16 h)) h2), h3.next (by unfold dotAt; rw [hb]; rfl)⟩
    | true =>
      by_cases hd : T.getD s 0 = 46
      · exact ⟨_, _, (by exact o220 : 1 + (1 + 3) ≤ 3 * (k + 1) + 5), .first rfl (at1_AT1 hb) (.first rfl (at1_lit (by exact o16 h) hd) at1_ok), .inl ⟨s, Nat.le_refl _, by exact o16 h, by unfold dotAt; rw [hb, hd]; rfl, fun j g1 g2 => by exact (o641 g2 g1).elim, rfl, rfl, rfl⟩⟩
      · obtain ⟨n, m, h1, h2, h3⟩ := ih (s + 1) false (((sn.add 6).add (43 + 1)).add 16) (by exact o57 h)
        exact ⟨_, m, (by exact o405 h1 : 1 + (1 + (1 + n)) ≤ 3 * (k + 1) + 5), .first rfl (at1_AT1 hb) (.first rfl (at1_lit0 (by exact o16 h) hd) (.first rfl (at1_no (by exact o16 h)) h2)), h3.next (by unfold dotAt; rw [beq_eq_false_iff_ne.mpr hd, Bool.and_false])⟩
end
end Mine

end
section
open PySem
namespace Mine
open Sre Sre.M
def fr0 (s : Nat) : Sre.Frame := { wait := .nextStart, pc := 10, pos := s, outermost := true }
def frB (alt s : Nat) : Sre.Frame := { wait := .nextBranch, pc := alt, pos := s, outermost := true }
def frL (s : Nat) : Sre.Frame := { wait := .lookNot, pc := 26, pos := s, outermost := true }
def s2 (T : Array Nat) (s : Nat) (sn : Seen) (pc pos handed : Nat) (om : Bool) (frames : List Sre.Frame) (weight : Nat) (ans : Option Bool) (out : Option Sre.Outcome) : M :=
  { code := c2, text := T, lim := T.size, start := s, lastStart := T.size, pc := pc, pos := pos, handed := handed, outermost := om, marks := #[], frames := frames, weight := weight, seen := sn, answer := ans, outcome := out }
section
variable {T : Array Nat} {s : Nat} {sn : Seen} {pc pos handed c : Nat} {om : Bool} {fs : List Sre.Frame} {w : Nat}
theorem lit_ok (hpc : pc < 36) (hw : c2.getD pc 0 = 16) (hc : c2.getD (pc + 1) 0 = c) (hp : pos < T.size) (q : T.getD pos 0 = c) :
    (s2 T s sn pc pos handed om fs w none none).step = s2 T s (sn.add 16) (pc + 2) (pos + 1) handed om fs w none none := by
  have e : accepts c2 pc (T.getD pos 0) (sn.add 16) = .ok (true, sn.add 16) := by
    unfold accepts; rw [hw, hc, q]
    show Except.ok (c == c, _) = _
    rw [beq_self_eq_true]
  have e0 : itemWidth c2 pc = 2 := by unfold itemWidth; rw [hw]; rfl
  show (if pc < 36 then M.exec _ else _) = _
  rw [if_pos hpc]
  unfold M.exec
  have ew : ops[(s2 T s sn pc pos handed om fs w none none).word 0]? = some .LITERAL := by
    show ops[c2.getD (pc + 0) 0]? = _
    rw [Nat.add_zero, hw]; rfl
  rw [ew]
  have ew' : (s2 T s sn pc pos handed om fs w none none).word 0 = 16 := by
    show c2.getD (pc + 0) 0 = _
    rw [Nat.add_zero, hw]
  rw [ew']
  show (if pos ≥ T.size then _ else _) = _
  rw [if_neg (by exact o27 hp)]
  show (match accepts c2 pc (T.getD pos 0) (sn.add 16) with | .error why => _ | .ok (false, seen) => _ | .ok (true, seen) => _) = _
  rw [e]
  show ({ s2 T s sn pc pos handed om fs w none none with seen := sn.add 16, pc := pc + itemWidth c2 pc, pos := pos + 1 } : M) = _
  rw [e0]; rfl
theorem lit_no (hpc : pc < 36) (hw : c2.getD pc 0 = 16) (hc : c2.getD (pc + 1) 0 = c) (q : pos < T.size → T.getD pos 0 ≠ c) :
    (s2 T s sn pc pos handed om fs w none none).step = s2 T s (sn.add 16) pc pos handed om fs w (some false) none := by
  show (if pc < 36 then M.exec _ else _) = _
  rw [if_pos hpc]
  unfold M.exec
  have ew : ops[(s2 T s sn pc pos handed om fs w none none).word 0]? = some .LITERAL := by
    show ops[c2.getD (pc + 0) 0]? = _
    rw [Nat.add_zero, hw]; rfl
  rw [ew]
  have ew' : (s2 T s sn pc pos handed om fs w none none).word 0 = 16 := by
    show c2.getD (pc + 0) 0 = _
    rw [Nat.add_zero, hw]
  rw [ew']
  show (if pos ≥ T.size then _ else _) = _
  by_cases hp : pos < T.size
  · have e : accepts c2 pc (T.getD pos 0) (sn.add 16) = .ok (false, sn.add 16) := by
      unfold accepts; rw [hw, hc]
      show Except.ok (T.getD pos 0 == c, _) = _
      rw [beq_eq_false_iff_ne.mpr (q hp)]
    rw [if_neg (by exact o27 hp)]
    show (match accepts c2 pc (T.getD pos 0) (sn.add 16) with | .error why => _ | .ok (false, seen) => _ | .ok (true, seen) => _) = _
    rw [e]; rfl
  · rw [if_pos (by exact o471 hp)]; rfl
/-- from the end of an alternative on -/
theorem s2_end (hp : s < pos) {alt : Nat} : Goes 4 (s2 T s sn 35 pos handed true [frB alt s, fr0 s] 2 none none) (s2 T s (sn.add 1) 10 s pos true [] 0 (some true) (some .matched)) := by
  refine .first (m' := s2 T s (sn.add 1) 35 pos pos true [frB alt s, fr0 s] 2 (some true) none) rfl ?_ (.first (m' := s2 T s (sn.add 1) alt s pos true [fr0 s] 1 (some true) none) rfl rfl (.first (m' := s2 T s (sn.add 1) 10 s pos true [] 0 (some true) none) rfl rfl (.one rfl rfl)))
  rfl
theorem jump {j : Nat} (h : pc < 36) (hw : c2.getD pc 0 = 15) (hj : pc + 1 + c2.getD (pc + 1) 0 = j) : (s2 T s sn pc pos handed om fs w none none).step = s2 T s (sn.add 15) j pos handed om fs w none none := by
  show (if pc < 36 then M.exec _ else _) = _
  rw [if_pos h]
  unfold M.exec
  have ew : ops[(s2 T s sn pc pos handed om fs w none none).word 0]? = some .JUMP := by
    show ops[c2.getD (pc + 0) 0]? = _
    rw [Nat.add_zero, hw]; rfl
  rw [ew]
  have ew' : (s2 T s sn pc pos handed om fs w none none).word 0 = 15 := by
    show c2.getD (pc + 0) 0 = _
    rw [Nat.add_zero, hw]
  rw [ew']
  subst hj; rfl
/-- how far the match at s goes -/
def nlEnd (T : Array Nat) (s : Nat) : Nat := if T.getD s 0 = 13 ∧ s + 1 < T.size ∧ T.getD (s + 1) 0 = 10 then s + 2 else s + 1
theorem match2 (hs : s < T.size) (h : T.getD s 0 = 10 ∨ T.getD s 0 = 13) : ∃ n m, n ≤ 30 ∧ Goes n (s2 T s sn 10 s s true [fr0 s] 1 none none) m ∧ m.outcome = some .matched ∧ m.start = s ∧ m.handed = nlEnd T s := by
  have b : ∀ sn, (s2 T s sn 10 s s true [fr0 s] 1 none none).step = s2 T s (sn.add 7) 12 s s true [frB 11 s, fr0 s] 2 none none := fun _ => rfl
  have a1 : ∀ sn pos, (s2 T s sn 12 pos s true [frB 11 s, fr0 s] 2 (some false) none).step = s2 T s sn 19 s s true [frB 18 s, fr0 s] 2 none none := fun _ _ => rfl
  have a1' : ∀ sn pos, (s2 T s sn 14 pos s true [frB 11 s, fr0 s] 2 (some false) none).step = s2 T s sn 19 s s true [frB 18 s, fr0 s] 2 none none := fun _ _ => rfl
  have a2 : ∀ sn pos, (s2 T s sn 19 pos s true [frB 18 s, fr0 s] 2 (some false) none).step = s2 T s sn 24 s s true [frB 23 s, fr0 s] 2 none none := fun _ _ => rfl
  by_cases h13 : T.getD s 0 = 13
  · by_cases h10 : s + 1 < T.size ∧ T.getD (s + 1) 0 = 10
    · refine ⟨_, _, (by decide : 1 + (1 + (1 + (1 + 4))) ≤ 30), .first rfl (b sn) (.first rfl (lit_ok (by decide) rfl rfl hs h13) (.first rfl (lit_ok (by decide) rfl rfl h10.1 h10.2) (.first rfl (jump (by decide) rfl rfl) (s2_end (by exact o251))))), rfl, rfl, ?_⟩
      show s + 1 + 1 = _
      unfold nlEnd; rw [if_pos ⟨h13, h10⟩]
    · have hl : ∀ sn, (s2 T s sn 26 (s + 1) s true [frB 23 s, fr0 s] 2 none none).step = s2 T s (sn.add 5) 29 (s + 1) (s + 1) false [frL (s + 1), frB 23 s, fr0 s] 3 none none := fun _ => rfl
      have hr : ∀ sn, (s2 T s sn 29 (s + 1) (s + 1) false [frL (s + 1), frB 23 s, fr0 s] 3 (some false) none).step = s2 T s sn 32 (s + 1) (s + 1) true [frB 23 s, fr0 s] 2 none none := fun _ => rfl
      refine ⟨_, _, (by decide : 1 + (1 + (1 + (1 + (1 + (1 + (1 + (1 + (1 + (1 + (1 + 4)))))))))) ≤ 30), .first rfl (b sn) (.first rfl (lit_ok (by decide) rfl rfl hs h13) (.first rfl (lit_no (c := 10) (by decide) rfl rfl fun g q => h10 ⟨g, q⟩) (.first rfl (a1' _ _) (.first rfl (lit_no (c := 10) (by decide) rfl rfl fun g q => by rw [h13] at q; cases q) (.first rfl (a2 _ _)
        (.first rfl (lit_ok (by decide) rfl rfl hs h13) (.first rfl (hl _) (.first rfl (lit_no (c := 10) (by decide) rfl rfl fun g q => h10 ⟨g, q⟩) (.first rfl (hr _) (.first rfl (jump (by decide) rfl rfl) (s2_end (by exact o84)))))))))))), rfl, rfl, ?_⟩
      show s + 1 = _
      unfold nlEnd; rw [if_neg fun q => h10 q.2]
  · have h10 := h.resolve_right h13
    refine ⟨_, _, (by decide : 1 + (1 + (1 + (1 + (1 + 4)))) ≤ 30), .first rfl (b sn) (.first rfl (lit_no (c := 13) (by decide) rfl rfl fun _ => h13) (.first rfl (a1 _ _) (.first rfl (lit_ok (by decide) rfl rfl hs h10) (.first rfl (jump (by decide) rfl rfl) (s2_end (by exact o84)))))), rfl, rfl, ?_⟩
    show s + 1 = _
    unfold nlEnd; rw [if_neg fun q => h13 q.1]
end
end Mine

end
section
open PySem
namespace Mine
open Sre Sre.M
section
variable {T : Array Nat} {p s : Nat} {sn : Seen}
theorem find1 (hp : p ≤ T.size) : ∃ n m, n ≤ 3 * T.size + 5 ∧ Goes n (forSearch c1 T 0 p T.size false) m ∧ Found1 T p m := by
  by_cases h : p = T.size
  · subst h
    have e : forSearch c1 T 0 T.size T.size false = { (en1 T T.size true ((({} : Seen).add 14)) T.size false none) with lastStart := 0 } := by
      show (if (decide (T.size > T.size) || decide (T.size - T.size < 1)) = true then _ else _) = _
      rw [if_pos (by simp)]; rfl
    refine ⟨1, _, by exact o223, .one (by rw [e]; rfl) rfl, .inr ⟨fun j h1 h2 => by exact (o641 h2 h1).elim, ?_⟩⟩
    rw [e]; rfl
  · have e : forSearch c1 T 0 p T.size false = at1 T p true (({} : Seen).add 14) := by
      show (if (decide (p > T.size) || decide (T.size - p < 1)) = true then _ else _) = _
      rw [if_neg (by simp; exact o115 hp h)]; rfl
    obtain ⟨n, m, h1, h2, h3⟩ := search1 (T := T) (T.size - p) p true (({} : Seen).add 14) (by exact o12 hp)
    exact ⟨n, m, by exact o530 h1, e ▸ h2, h3⟩
def isNL (T : Array Nat) (s : Nat) : Bool := T.getD s 0 == 10 || T.getD s 0 == 13
theorem inSet2 (c : Nat) (sn : Seen) : ∃ sn', inSet c2 c 36 5 true sn = .ok (c == 10 || c == 13, sn') := by
  by_cases h : c = 10
  · subst h; exact ⟨_, rfl⟩
  by_cases h2 : c = 13
  · subst h2; exact ⟨_, rfl⟩
  · refine ⟨((sn.add 16).add 16).add 0, ?_⟩
    rw [beq_eq_false_iff_ne.mpr h, beq_eq_false_iff_ne.mpr h2]
    show (if (c == 10) = true then _ else _) = _
    rw [beq_eq_false_iff_ne.mpr h, if_neg (by decide)]
    show (if (c == 13) = true then _ else _) = _
    rw [beq_eq_false_iff_ne.mpr h2, if_neg (by decide)]
    rfl
/-- the first end of a line from s on -/
def NextNL (T : Array Nat) (s : Nat) (o : Option Nat) : Prop := match o with
  | some d => s ≤ d ∧ d < T.size ∧ isNL T d = true ∧ ∀ j, s ≤ j → j < d → isNL T j = false
  | none => ∀ j, s ≤ j → j < T.size → isNL T j = false
theorem admitted2 {m : M} (hc : m.code = c2) (ht : m.text = T) (hl : m.lim = T.size) : ∀ (fuel s : Nat) (sn : Seen), T.size < s + fuel → ∃ o sn', admitted m fuel s sn = .ok (o, sn') ∧ NextNL T s o := by
  intro fuel
  induction fuel with
  | zero => intro s sn h; exact ⟨none, sn, rfl, fun j h1 h2 => by exact (o642 h2 h h1).elim⟩
  | succ fuel ih =>
    intro s sn h
    unfold admitted
    by_cases hs : s ≥ T.size
    · rw [hl, if_pos hs]
      exact ⟨none, sn, rfl, fun j h1 h2 => by exact (o643 h2 hs h1).elim⟩
    · rw [hl, if_neg hs, hc, ht]
      obtain ⟨sn', e⟩ := inSet2 (T.getD s 0) sn
      have e' : inSet c2 (T.getD s 0) c2.size 5 true sn = .ok (isNL T s, sn') := e
      rw [e']
      cases q : isNL T s with
      | true => exact ⟨some s, sn', rfl, Nat.le_refl _, by exact o473 hs, q, fun j h1 h2 => by exact (o641 h2 h1).elim⟩
      | false =>
        obtain ⟨o, sn2, e2, h2⟩ := ih (s + 1) sn' (by exact o58 h)
        refine ⟨o, sn2, e2, ?_⟩
        cases o with
        | none =>
          intro j g1 g2
          by_cases z : j = s
          · rw [z]; exact q
          · exact h2 j (by exact o13 g1 z) g2
        | some d =>
          obtain ⟨g1, g2, g3, g4⟩ := h2
          refine ⟨by exact o2 g1, g2, g3, fun j k1 k2 => ?_⟩
          by_cases z : j = s
          · rw [z]; exact q
          · exact g4 j (by exact o13 k1 z) k2
def Found2 (T : Array Nat) (s : Nat) (m : M) : Prop :=
  (∃ d, s ≤ d ∧ d < T.size ∧ isNL T d = true ∧ (∀ j, s ≤ j → j < d → isNL T j = false) ∧ m.outcome = some .matched ∧ m.start = d ∧ m.handed = nlEnd T d) ∨
  ((∀ j, s ≤ j → j < T.size → isNL T j = false) ∧ m.outcome = some .failed)
theorem find2 (hp : p ≤ T.size) : ∃ n m, n ≤ 30 ∧ Goes n (forSearch c2 T 0 p T.size false) m ∧ Found2 T p m := by
  by_cases h : p = T.size
  · subst h
    have e : forSearch c2 T 0 T.size T.size false = { (s2 T T.size ((({} : Seen).add 14)) 10 T.size T.size true [] 0 (some false) none) with lastStart := 0 } := by
      show (if (decide (T.size > T.size) || decide (T.size - T.size < 1)) = true then _ else _) = _
      rw [if_pos (by simp)]; rfl
    refine ⟨1, _, by exact o62, .one (by rw [e]; rfl) rfl, .inr ⟨fun j h1 h2 => by exact (o641 h2 h1).elim, ?_⟩⟩
    rw [e]; rfl
  · have e : forSearch c2 T 0 p T.size false = (s2 T p ((({} : Seen).add 14)) 10 p p true [] 0 none none).attemptFrom p true := by
      show (if (decide (p > T.size) || decide (T.size - p < 1)) = true then _ else _) = _
      rw [if_neg (by simp; exact o115 hp h)]; rfl
    obtain ⟨o, sn', e2, h2⟩ := admitted2 (T := T) (m := s2 T p ((({} : Seen).add 14)) 10 p p true [] 0 none none) rfl rfl rfl (T.size + 1 - p) p (({} : Seen).add 14) (by exact o375)
    have e3 : (s2 T p ((({} : Seen).add 14)) 10 p p true [] 0 none none).attemptFrom p true = (match (Except.ok (o, sn') : Except String (Option Nat × Seen)) with
        | .ok (some d, seen) => s2 T d seen 10 d d true [fr0 d] 1 none none
        | .ok (none, seen) => s2 T p seen 10 p p true [] 0 (some false) none
        | .error why => (s2 T p ((({} : Seen).add 14)) 10 p p true [] 0 none none).stick why) := by
      rw [← e2]
      show (match admitted (s2 T p ((({} : Seen).add 14)) 10 p p true [] 0 none none) (T.size + 1 - p) p (({} : Seen).add 14) with
        | .ok (some s, seen) => _ | .ok (none, seen) => _ | .error why => _) = _
      rw [e2]
      cases o <;> rfl
    rw [e, e3]
    cases o with
    | none =>
      exact ⟨1, _, by exact o62, .one rfl rfl, .inr ⟨h2, rfl⟩⟩
    | some d =>
      obtain ⟨g1, g2, g3, g4⟩ := h2
      have g3' : T.getD d 0 = 10 ∨ T.getD d 0 = 13 := by
        unfold isNL at g3
        simpa using g3
      obtain ⟨n, m, k1, k2, k3, k4, k5⟩ := match2 (sn := sn') g2 g3'
      exact ⟨n, m, k1, k2, .inl ⟨d, g1, g2, g3, g4, k3, k4, k5⟩⟩
end
end Mine

end
section
open PySem
namespace Mine
namespace RF
theorem slot_sub : Slot "re.Pattern" "sub" "re.Pattern.sub" :=
  .of (owner := "re.Pattern") (n := "sub") (by rw [typeLookup_type, builtinLookup_eq_fast]; kernel_rfl) (by decide +kernel) (by decide +kernel) (by decide +kernel)
    (by first | exact .inl (by decide +kernel) | exact .inr (by decide +kernel)) (by rw [isSubtype_type]; kernel_rfl)
theorem type_sub : typeOf (.builtin "re.Pattern.sub") = pure (.type "method_descriptor") := by show builtinType _ = _; rw [builtinType_eq_fast]; kernel_rfl
theorem entry_sub : entryFor table "re.Pattern.sub" = some Builtin.«re.Pattern.sub» := entryFor_of_tree (by kernel_rfl)
theorem entry_loop : entryFor table "re.Pattern.sub.loop" = some Builtin.«re.Pattern.sub.loop» := entryFor_of_tree (by kernel_rfl)
theorem args_sub (a b c : Value) : argsOk "re.Pattern.sub" ⟨[a, b, c], []⟩ := by unfold argsOk; kernel_rfl
theorem plain_loop : plainId "re.Pattern.sub.loop" = true := by decide +kernel
end RF
end Mine

end
section
open PySem PySem.W PyProof.Rows PySem.Calls PySem.Spec
namespace Mine
open Builtin.Re
section
variable {prog : Program} {w : World} {A : Around} {E : Value → Shared → Prop} {s : Shared}
theorem wp_drive {Q : Sre.M → Shared → Prop} {m' : Sre.M} (hd : m'.outcome.isSome = true) (q : Q m' s) : ∀ (turns n : Nat) (m : Sre.M), Goes n m m' → n < 4 * turns → wpAny (model prog w) A (reDrive turns m) Q E s := by
  intro turns
  induction turns with
  | zero => intro n m _ h; exact (o644 h).elim
  | succ turns ih =>
    intro n m hg hn
    unfold reDrive
    have hr : ∀ k, Sre.M.runFor k m' = m' := runFor_done hd
    show wpAny _ _ (if (Sre.M.runFor 4 m).outcome.isSome = true then pure (Sre.M.runFor 4 m) else do rule "sre.turn"; reDrive turns (Sre.M.runFor 4 m)) _ _ _
    by_cases h4 : (Sre.M.runFor 4 m).outcome.isSome = true
    · rw [if_pos h4]
      have e : Sre.M.runFor 4 m = m' := by
        have e1 : Sre.M.runFor (n + 4) m = m' := by rw [hg 4, hr]
        rw [Nat.add_comm, runFor_add, runFor_done h4] at e1
        exact e1
      rw [e]; exact wpAny_pure q
    · rw [if_neg h4]
      have hn4 : 4 < n := by
        refine Nat.lt_of_not_le fun hle => h4 ?_
        have : Sre.M.runFor 4 m = m' := by
          obtain ⟨k, hk⟩ := Nat.exists_eq_add_of_le hle
          rw [hk, hg k, hr]
        rw [this]; exact hd
      refine wpAny_bind (wpAny_rule (ih (n - 4) _ (fun k => ?_) (by exact o361 hn4 hn)))
      rw [← runFor_add, ← hg k]
      congr 1; exact o360 hn4
theorem wp_rules {m : Sre.M} {Q : PUnit → Shared → Prop} (l : List Nat) (q : Q ⟨⟩ s) : wpAny (model prog w) A (forIn l PUnit.unit fun i r => (do if m.seen.has i then rule (Sre.names.getD i "") ; pure (ForInStep.yield PUnit.unit) else pure (ForInStep.yield PUnit.unit) : Sem (ForInStep PUnit))) Q E s := by
  refine wpAny_forIn_list _ (fun _ _ s' => s' = s) Q ?_ ?_ _ _ rfl
  · rintro x rest b s' rfl
    by_cases h : m.seen.has x = true
    · rw [if_pos h]; exact wpAny_bind (wpAny_rule (wpAny_pure rfl))
    · rw [if_neg h]; exact wpAny_pure rfl
  · rintro b s' rfl; exact q
theorem wp_toEnd {Q : Option Sre.M → Shared → Prop} {m m' : Sre.M} {n : Nat} (hg : Goes n m m') (hn : n < 2 ^ 60) (hm : (m'.outcome = some .matched ∧ Q (some m') s) ∨ (m'.outcome = some .failed ∧ Q none s)) : wpAny (model prog w) A (reRunToEnd m) Q E s := by
  unfold reRunToEnd
  have hd : m'.outcome.isSome = true := by rcases hm with ⟨h, _⟩ | ⟨h, _⟩ <;> rw [h] <;> rfl
  refine wpAny_bind (wp_drive hd ?_ (2 ^ 64) n m hg (by exact o246 hn))
  refine wpAny_bind ?_
  refine wp_rules (m := m') _ ?_
  rcases hm with ⟨h, q⟩ | ⟨h, q⟩
  · rw [h]; exact wpAny_pure q
  · rw [h]; exact wpAny_pure q
end
end Mine

end
section
open PySem PySem.W PyProof.Rows PySem.Calls PySem.Spec PySem.Challenge
namespace Mine

/-- what only grows along any run -/
structure Gr (s s' : Shared) : Prop where
  toks : s.toks ≤ s'.toks
  size : s.heap.objs.size ≤ s'.heap.objs.size

theorem Gr.refl (s : Shared) : Gr s s := ⟨Nat.le_refl _, Nat.le_refl _⟩
theorem Gr.trans {a b c : Shared} (x : Gr a b) (y : Gr b c) : Gr a c := ⟨Nat.le_trans x.1 y.1, Nat.le_trans x.2 y.2⟩

theorem runs_grow {M : Model} {Γ : PySem.Ctx} {p : Pos} {t : Sem Fin} {fs : List Frame} {s s' : Shared} {e : End} (h : Runs M Γ p t fs s e s') : Gr s s' := by
  induction h with
  | done => exact Gr.refl _
  | raise => exact Gr.refl _
  | again _ _ ih => exact ih
  | rule _ ih => exact ih
  | «at» _ ih => exact ih
  | load _ _ ih => exact ih
  | update _ _ ih => exact ⟨ih.1, by simpa using ih.2⟩
  | loadIfAlive _ ih => exact ih
  | point _ ih => exact ih
  | alloc _ ih => exact ⟨ih.1, by have := ih.2; simp only [Heap.size_push] at this; exact o2 this⟩
  | fresh _ ih => exact ⟨by have := ih.1; simp only at this; exact o2 this, ih.2⟩
  | ask _ ih => exact ih
  | choose _ _ ih => exact ⟨ih.1, ih.2⟩
  | os _ ih => exact ⟨ih.1, ih.2⟩
  | handled _ ih => exact ih
  | genState _ _ ih => exact ih
  | stack _ ih => exact ih
  | thread _ ih => exact ih
  | newGen _ ih => exact ⟨ih.1, ih.2⟩
  | call _ _ ih1 ih2 => exact ih1.trans ih2
  | callSusp _ ih => exact ih
  | yield => exact Gr.refl _
  | resumeFresh _ _ _ _ ih1 ih2 => exact ⟨Nat.le_trans ih1.1 ih2.1, Nat.le_trans ih1.2 ih2.2⟩
  | resumeSuspended _ _ _ _ ih1 ih2 => exact ⟨Nat.le_trans ih1.1 ih2.1, Nat.le_trans ih1.2 ih2.2⟩
  | resumeJustStarted _ _ _ ih => exact ih
  | resumeThrowFresh _ _ ih => exact ⟨ih.1, ih.2⟩
  | resumeRunning _ _ ih => exact ih
  | resumeFinished _ _ ih => exact ih
  | segRet _ _ ih1 ih2 => exact ih1.trans ih2
  | segGen _ _ ih1 ih2 => exact ⟨Nat.le_trans ih1.1 ih2.1, Nat.le_trans ih1.2 ih2.2⟩
  | segSuspOut _ _ ih => exact ih
  | segSuspGen _ _ _ _ ih1 ih2 => exact ⟨Nat.le_trans ih1.1 ih2.1, Nat.le_trans ih1.2 ih2.2⟩

theorem wakes_grow {M : Model} {Γ : PySem.Ctx} {p : Pos} {g : Nat} {r : Resume} {s s' : Shared} {res : GenResult} (h : Wakes M Γ p g r s res s') : Gr s s' := by
  unfold Wakes at h
  split at h
  · exact h.elim
  · split at h
    · obtain ⟨e₁, s₁, h1, _, _, rfl⟩ := h
      have q := runs_grow h1; exact ⟨q.1, q.2⟩
    · obtain ⟨_, rfl⟩ := h; exact Gr.refl _
    · obtain ⟨_, rfl⟩ := h; exact ⟨Nat.le_refl _, Nat.le_refl _⟩
  · obtain ⟨e₁, s₁, h1, _, _, rfl⟩ := h
    have q := runs_grow h1; exact ⟨q.1, q.2⟩
  · obtain ⟨_, rfl⟩ := h; exact Gr.refl _
  · obtain ⟨_, rfl⟩ := h; exact Gr.refl _

theorem wp_grow {α : Type} (M : Model) (Γ : PySem.Ctx) (t : Sem α) : ∀ {Q : α → Pos → Shared → Prop} {E : Value → Pos → Shared → Prop} {p : Pos} {s : Shared},
    Sem.wp M Γ t Q E p s → Sem.wp M Γ t (fun a p' s' => Q a p' s' ∧ Gr s s') (fun e p' s' => E e p' s' ∧ Gr s s') p s := by
  induction t with
  | pure a => intro Q E p s h; exact ⟨h, Gr.refl _⟩
  | raise e => intro Q E p s h; exact ⟨h, Gr.refl _⟩
  | unsupported | finish | yield | fork | await | register => intro Q E p s h; exact h
  | rule _ k ih | «at» _ k ih | loadIfAlive _ k ih | point _ k ih | ask k ih | handled _ k ih | stack k ih | thread k ih => intro Q E p s h; exact ih _ h
  | alloc o k ih =>
    intro Q E p s h
    have := ih _ h
    refine Sem.wp_mono M Γ _ (fun a p' s' x => ⟨x.1, x.2.1, ?_⟩) (fun a p' s' x => ⟨x.1, x.2.1, ?_⟩) _ _ this
    · have := x.2.2; simp only [Heap.size_push] at this; exact o2 this
    · have := x.2.2; simp only [Heap.size_push] at this; exact o2 this
  | fresh k ih =>
    intro Q E p s h
    have := ih _ h
    refine Sem.wp_mono M Γ _ (fun a p' s' x => ⟨x.1, ?_, x.2.2⟩) (fun a p' s' x => ⟨x.1, ?_, x.2.2⟩) _ _ this
    · have := x.2.1; simp only at this; exact o2 this
    · have := x.2.1; simp only at this; exact o2 this
  | os q l k ih => intro Q E p s h; exact Sem.wp_mono M Γ _ (fun a p' s' x => ⟨x.1, x.2.1, x.2.2⟩) (fun a p' s' x => ⟨x.1, x.2.1, x.2.2⟩) _ _ (ih _ h)
  | newGen c k ih => intro Q E p s h; exact Sem.wp_mono M Γ _ (fun a p' s' x => ⟨x.1, x.2.1, x.2.2⟩) (fun a p' s' x => ⟨x.1, x.2.1, x.2.2⟩) _ _ (ih _ h)
  | load a part k ih => intro Q E p s h; obtain ⟨o, ho, h⟩ := h; exact ⟨o, ho, ih _ h⟩
  | genState g k ih => intro Q E p s h; obtain ⟨o, ho, h⟩ := h; exact ⟨o, ho, ih _ h⟩
  | update a part f k ih =>
    intro Q E p s h
    obtain ⟨ha, h⟩ := h
    refine ⟨ha, ?_⟩
    have := ih _ h
    refine Sem.wp_mono M Γ _ (fun a p' s' x => ⟨x.1, x.2.1, ?_⟩) (fun a p' s' x => ⟨x.1, x.2.1, ?_⟩) _ _ this
    · have := x.2.2; simp only [Heap.size_after_update] at this; exact o52 this
    · have := x.2.2; simp only [Heap.size_after_update] at this; exact o52 this
  | choose src n k ih => intro Q E p s h; obtain ⟨hn, h⟩ := h; exact ⟨hn, Sem.wp_mono M Γ _ (fun a p' s' x => ⟨x.1, x.2.1, x.2.2⟩) (fun a p' s' x => ⟨x.1, x.2.1, x.2.2⟩) _ _ (ih _ h)⟩
  | call c hd g l k ih =>
    intro Q E p s h
    obtain ⟨r, s', hr, h⟩ := h
    have g1 : Gr s s' := runs_grow hr
    refine ⟨r, s', hr, ?_⟩
    exact Sem.wp_mono M Γ _ (fun a p' s' x => ⟨x.1, g1.trans x.2⟩) (fun a p' s' x => ⟨x.1, g1.trans x.2⟩) _ _ (ih _ h)
  | resume g r l k ih =>
    intro Q E p s h
    obtain ⟨res, s', hw, h⟩ := h
    have g1 : Gr s s' := wakes_grow hw
    refine ⟨res, s', hw, ?_⟩
    exact Sem.wp_mono M Γ _ (fun a p' s' x => ⟨x.1, g1.trans x.2⟩) (fun a p' s' x => ⟨x.1, g1.trans x.2⟩) _ _ (ih _ h)

theorem grow {α : Type} {M : Model} {A : Around} {t : Sem α} {Q : α → Shared → Prop} {E : Value → Shared → Prop} {s : Shared}
    (h : wpAny M A t (fun a s' => Gr s s' → Q a s') E s) : wpAny M A t Q E s := fun Γ p hΓ =>
  Sem.wp_mono M Γ t (fun a p' s' (x : (Gr s s' → Q a s') ∧ Gr s s') => x.1 x.2) (fun e p' s' (x : E e s' ∧ Gr s s') => x.1) p s (wp_grow M Γ t (h Γ p hΓ))

theorem grow_code {M : Model} {A : Around} {c : Code} {R : Result → Shared → Prop} {s : Shared}
    (h : codeAny M A c (fun r s' => Gr s s' → R r s') s) : codeAny M A c R s := fun Γ p hc hΓ => by
  obtain ⟨r, s', hr, h'⟩ := h Γ p hc hΓ
  exact ⟨r, s', hr, h' (runs_grow (show Runs _ _ _ _ _ _ _ _ from hr))⟩
end Mine

end
section
open PySem PySem.W PyProof.Rows PySem.Calls PySem.Spec PySem.Challenge
namespace Mine

abbrev PG : Program := rw_ti0009_01.row.prog

/-- what a token stands for -/
inductive TV where
  | int (i : Int)
  | str (x : Str)
/-- pure values -/
inductive PV where
  | none
  | bool (b : Bool)
  | int (i : Int)
  | rint (i : Int)
  | str (x : Str)
  | tstr (x : Str)
  | list (l : List PV)
  | tup (l : List PV)
  | ints (l : List Int)
  | rng (a b : Int)
  | fn (o : Obj) (ex : List (Addr × Obj))
abbrev Tau := Tok → Option TV
abbrev Kap := Addr → Option Obj
abbrev tupOf (its : Array Value) (n : Nat) : Obj := { cls := .type "tuple", data := .seq its n }
abbrev rngOf (a b : Int) (t u v : Tok) : Obj := { cls := .type "range", dict := none, data := .fields #[.int a t, .int b u, .int 1 v], slots := #[] }
mutual
inductive Rp (τ : Tau) (κ : Kap) : Value → PV → Prop
  | none : Rp τ κ .none .none
  | bool (b : Bool) : Rp τ κ (.bool b) (.bool b)
  | int {i : Int} {t : Tok} : τ t = some (.int i) → Rp τ κ (.int i t) (.int i)
  | rint (i : Int) (t : Tok) : Rp τ κ (.int i t) (.rint i)
  | str (x : Str) (t : Tok) : Rp τ κ (.str x t) (.str x)
  | tstr {x : Str} {t : Tok} : τ t = some (.str x) → Rp τ κ (.str x t) (.tstr x)
  | list {a : Addr} {vs : List Value} {n : Nat} {ds : List PV} : κ a = some (listOf vs.toArray n) → RpAll τ κ vs ds → Rp τ κ (.ref a) (.list ds)
  | tup {a : Addr} {vs : List Value} {n : Nat} {ds : List PV} : κ a = some (tupOf vs.toArray n) → RpAll τ κ vs ds → Rp τ κ (.ref a) (.tup ds)
  | ints {a : Addr} {o : Obj} {vs : List Value} {n : Nat} {ns : List Int} : κ a = some o → o.cls = .type "list" → o.data = .seq vs.toArray n → IntsAre vs ns → Rp τ κ (.ref a) (.ints ns)
  | rng {r : Addr} {a b : Int} {t u v : Tok} : κ r = some (rngOf a b t u v) → Rp τ κ (.ref r) (.rng a b)
  | fn {a : Addr} {o : Obj} {ex : List (Addr × Obj)} : κ a = some o → (∀ p ∈ ex, κ p.1 = some p.2) → Rp τ κ (.ref a) (.fn o ex)
inductive RpAll (τ : Tau) (κ : Kap) : List Value → List PV → Prop
  | nil : RpAll τ κ [] []
  | cons {v : Value} {vs : List Value} {d : PV} {ds : List PV} : Rp τ κ v d → RpAll τ κ vs ds → RpAll τ κ (v :: vs) (d :: ds)
end
def TLe (τ τ' : Tau) : Prop := ∀ t x, τ t = some x → τ' t = some x
def KLe (κ κ' : Kap) : Prop := ∀ b o, κ b = some o → κ' b = some o
theorem TLe.refl (τ : Tau) : TLe τ τ := fun _ _ e => e
theorem KLe.refl (κ : Kap) : KLe κ κ := fun _ _ e => e
theorem TLe.trans {a b c : Tau} (x : TLe a b) (y : TLe b c) : TLe a c := fun t v e => y t v (x t v e)
theorem KLe.trans {a b c : Kap} (x : KLe a b) (y : KLe b c) : KLe a c := fun t v e => y t v (x t v e)
theorem Rp.mono {τ τ' : Tau} {κ κ' : Kap} (ht : TLe τ τ') (hk : KLe κ κ') {v : Value} {d : PV} (h : Rp τ κ v d) : Rp τ' κ' v d :=
  Rp.rec (motive_1 := fun v d _ => Rp τ' κ' v d) (motive_2 := fun vs ds _ => RpAll τ' κ' vs ds) .none (fun b => .bool b) (fun e => .int (ht _ _ e)) .rint .str (fun e => .tstr (ht _ _ e)) (fun e _ r => .list (hk _ _ e) r) (fun e _ r => .tup (hk _ _ e) r) (fun e c d r => .ints (hk _ _ e) c d r) (fun e => .rng (hk _ _ e)) (fun e r => .fn (hk _ _ e) fun p hp => hk _ _ (r p hp)) .nil (fun _ _ h r => .cons h r) h
theorem RpAll.mono {τ τ' : Tau} {κ κ' : Kap} (ht : TLe τ τ') (hk : KLe κ κ') {vs : List Value} {ds : List PV} (h : RpAll τ κ vs ds) : RpAll τ' κ' vs ds :=
  RpAll.rec (motive_1 := fun v d _ => Rp τ' κ' v d) (motive_2 := fun vs ds _ => RpAll τ' κ' vs ds) .none (fun b => .bool b) (fun e => .int (ht _ _ e)) .rint .str (fun e => .tstr (ht _ _ e)) (fun e _ r => .list (hk _ _ e) r) (fun e _ r => .tup (hk _ _ e) r) (fun e c d r => .ints (hk _ _ e) c d r) (fun e => .rng (hk _ _ e)) (fun e r => .fn (hk _ _ e) fun p hp => hk _ _ (r p hp)) .nil (fun _ _ h r => .cons h r) h
section
variable {τ : Tau} {κ : Kap} {vs ws : List Value} {ds es : List PV} {v : Value} {d : PV}
theorem RpAll.length (h : RpAll τ κ vs ds) : vs.length = ds.length := by
  induction vs generalizing ds with
  | nil => cases h; rfl
  | cons v vs ih =>
    cases h with
    | cons _ r => rw [List.length_cons, List.length_cons, ih r]
theorem RpAll.append (h : RpAll τ κ vs ds) (k : RpAll τ κ ws es) : RpAll τ κ (vs ++ ws) (ds ++ es) := by
  induction vs generalizing ds with
  | nil => cases h; exact k
  | cons v vs ih =>
    cases h with
    | cons h r => exact .cons h (ih r)
theorem RpAll.one (h : Rp τ κ v d) : RpAll τ κ [v] [d] := .cons h .nil
theorem RpAll.get (h : RpAll τ κ vs ds) {k : Nat} {d : PV} (hk : ds[k]? = some d) : ∃ v, vs[k]? = some v ∧ Rp τ κ v d := by
  induction vs generalizing ds k with
  | nil => cases h; simp at hk
  | cons v vs ih =>
    cases h with
    | cons h r =>
      cases k with
      | zero => simp at hk; subst hk; exact ⟨v, rfl, h⟩
      | succ k => exact ih r (by simpa using hk)
theorem RpAll.take (h : RpAll τ κ vs ds) (k : Nat) : RpAll τ κ (vs.take k) (ds.take k) := by
  induction vs generalizing ds k with
  | nil => cases h; simp; exact .nil
  | cons v vs ih =>
    cases h with
    | cons h r =>
      cases k with
      | zero => exact .nil
      | succ k => exact .cons h (ih r k)
theorem RpAll.drop (h : RpAll τ κ vs ds) (k : Nat) : RpAll τ κ (vs.drop k) (ds.drop k) := by
  induction vs generalizing ds k with
  | nil => cases h; simp; exact .nil
  | cons v vs ih =>
    cases h with
    | cons h r =>
      cases k with
      | zero => exact .cons h r
      | succ k => exact ih r k
theorem RpAll.set (h : RpAll τ κ vs ds) (k : Nat) (hv : Rp τ κ v d) : RpAll τ κ (vs.set k v) (ds.set k d) := by
  induction vs generalizing ds k with
  | nil => cases h; simp; exact .nil
  | cons u vs ih =>
    cases h with
    | cons h r =>
      cases k with
      | zero => exact .cons hv r
      | succ k => exact .cons h (ih r k)
theorem RpAll.reverse (h : RpAll τ κ vs ds) : RpAll τ κ vs.reverse ds.reverse := by
  induction vs generalizing ds with
  | nil => cases h; exact .nil
  | cons u vs ih =>
    cases h with
    | cons h r => rw [List.reverse_cons, List.reverse_cons]; exact (ih r).append (.one h)
end

/-- the two tables of code objects (of the two defs that make a def) -/
def TabAt (h : Heap) (P : Addr) (pos : Pos) (qual : Str) : Prop :=
  ∃ ps, h.get? P = some (tabObj ps) ∧ TriplesOk ps.toList ∧
    (codeAmong pos ps.toList = none ∨ ∃ c o vs t, codeAmong pos ps.toList = some (.ref c) ∧ h.get? c = some o ∧ o.data = .fields vs ∧ vs[1]? = some (.str qual t))
def posI : Pos := ⟨33, 4, 42, 28⟩
def posD : Pos := ⟨48, 4, 53, 55⟩
def Tabs (h : Heap) : Prop := TabAt h 47 posI (Str.ofString "_int2digits.<locals>.inner") ∧ TabAt h 54 posD (Str.ofString "_digits2int.<locals>.inner")
theorem TabAt.step {h h' : Heap} {P : Addr} {pos : Pos} {qual : Str} (x : TabAt h P pos qual)
    (k1 : ∀ o, h.get? P = some o → h'.get? P = some o) (k2 : ∀ b o vs (q : Str) (t : Tok), o.data = .fields vs → vs[1]? = some (.str q t) → h.get? b = some o → h'.get? b = some o) : TabAt h' P pos qual := by
  obtain ⟨ps, e, ht, r⟩ := x
  refine ⟨ps, k1 _ e, ht, ?_⟩
  rcases r with r | ⟨c, o, vs, t, e1, e2, e4, e5⟩
  · exact .inl r
  · exact .inr ⟨c, o, vs, t, e1, k2 _ _ _ _ _ e4 e5 e2, e4, e5⟩
theorem Tabs.step {h h' : Heap} (x : Tabs h) (k1 : ∀ o, h.get? 47 = some o → h'.get? 47 = some o) (k1' : ∀ o, h.get? 54 = some o → h'.get? 54 = some o)
    (k2 : ∀ b o vs (q : Str) (t : Tok), o.data = .fields vs → vs[1]? = some (.str q t) → h.get? b = some o → h'.get? b = some o) : Tabs h' := ⟨x.1.step k1 k2, x.2.step k1' k2⟩
theorem Tabs.keeps {h h' : Heap} (x : Tabs h) (k : ∀ b o, h.get? b = some o → h'.get? b = some o) : Tabs h' := x.step (fun _ => k _ _) (fun _ => k _ _) fun _ _ _ _ _ _ _ => k _ _

def TokOk (τ : Tau) (n : Nat) : Prop := 0 < n ∧ ∀ t x, τ t = some x → 0 < t ∧ t < n
theorem TokOk.le {τ : Tau} {n n' : Nat} (x : TokOk τ n) (h : n ≤ n') : TokOk τ n' := ⟨Nat.lt_of_lt_of_le x.1 h, fun t v e => ⟨(x.2 t v e).1, Nat.lt_of_lt_of_le (x.2 t v e).2 h⟩⟩
theorem TokOk.none {τ : Tau} {n t : Nat} (x : TokOk τ n) (h : n ≤ t) : τ t = none := by
  cases e : τ t with
  | none => rfl
  | some v => exact absurd (x.2 t v e).2 (Nat.not_lt.mpr h)
def addT (τ : Tau) (t : Tok) (x : TV) : Tau := fun u => if u = t then some x else τ u
def addK (κ : Kap) (a : Addr) (o : Obj) : Kap := fun b => if b = a then some o else κ b
theorem addT_le {τ : Tau} {t : Tok} {x : TV} (h : τ t = none) : TLe τ (addT τ t x) := fun u v e => by
  unfold addT
  by_cases q : u = t
  · subst q; rw [h] at e; cases e
  · rw [if_neg q]; exact e
theorem addT_self (τ : Tau) (t : Tok) (x : TV) : addT τ t x t = some x := if_pos rfl
theorem addK_self (κ : Kap) (a : Addr) (o : Obj) : addK κ a o a = some o := if_pos rfl
theorem addK_le {κ : Kap} {a : Addr} {o : Obj} (h : κ a = none) : KLe κ (addK κ a o) := fun u v e => by
  unfold addK
  by_cases q : u = a
  · subst q; rw [h] at e; cases e
  · rw [if_neg q]; exact e

theorem ltNe {a b : Nat} (h : a < b) : a ≠ b := Nat.ne_of_lt h
theorem gtNe {a b : Nat} (h : b < a) : a ≠ b := Nat.ne_of_gt h
theorem tbFar {b n : Nat} (h : b = 47 ∨ b = 54) (h1 : 54 < n) (h2 : n ≤ b) : False := by exact o363 h1 h h2
theorem far47 {n l k b : Nat} (h1 : 54 < n) (h2 : n ≤ l) (h3 : l < k) (h4 : k ≤ b) : 47 < b := by exact o592 h1 h3 h4 h2
theorem far54 {n l k b : Nat} (h1 : 54 < n) (h2 : n ≤ l) (h3 : l < k) (h4 : k ≤ b) : 54 < b := by exact o593 h1 h3 h4 h2
/-- a frame: what stays the same while its body runs -/
structure Fm (sc : Scope) (dk : Nat) (tb : List Addr) where
  w : World
  A : Around
  L : Addr
  cells : List (Str × Addr)
  qual : Str
  func : Option Addr
  code : Value
  frame : Option Addr
  g0 : Heap
  h0 : Heap
  κ0 : Kap
  br : List Addr
  out : List Addr
  rs : Bool
  gens : Array GenState
  drawn : Drawn
  os : OsState
def Fm.env {sc : Scope} {dk : Nat} {tb : List Addr} (f : Fm sc dk tb) : Env :=
  { scope := sc, locals := f.L, globals := mainGlobals, cells := f.cells, qual := f.qual, func := f.func, code := f.code, frame := f.frame, builtins := builtinsNs }
/-- what making a nested def reads -/
def NestOk (g0 : Heap) : Prop := CodeHd g0 51 47 ∧ CodeHd g0 58 54 ∧ ∃ mg bm o, g0.Ns mainGlobals mg ∧ mg "__builtins__" = some (.ref bm) ∧ bm ≠ builtinsNs ∧ bm ≠ mainGlobals ∧ g0.get? bm = some o ∧ o.cls = .type "module" ∧ o.dict = some builtinsNs ∧ o.data = .plain
def Gl (w : World) (g0 : Heap) : Prop := (hd.heap_39 w.params).In g0 ∧ g0.get? 47 = none ∧ (g0.get? 54 = none ∧ NestOk g0) ∧ ∃ p loose mg mb, TopRead p loose mg mb g0
variable {sc : Scope} {dk : Nat} {tb : List Addr}
structure Fm.Ok (f : Fm sc dk tb) : Prop where
  hh : f.A.handled = none
  gl : Gl f.w f.g0
  kind : sc.kind = .function
  room : f.A.depth + dk < recursionLimit
  units : f.A.units + 4 * dk + 80 < cLine
  g0h : ∀ b o, f.g0.get? b = some o → f.h0.get? b = some o
  big : 54 < f.h0.objs.size
  low : f.h0.objs.size ≤ f.env.locals
  tbs : ∀ b ∈ tb, b = 47 ∨ b = 54
  cinj : ∀ x y c, f.cells.lookup x = some c → f.cells.lookup y = some c → x = y
  brs : ∀ b ∈ f.br, b ≠ 47 ∧ b ≠ 54 ∧ f.g0.get? b = none
  outs : ∀ b ∈ f.out, b ≠ 47 ∧ b ≠ 54 ∧ f.g0.get? b = none ∧ b ∉ f.br ∧ ∃ o, f.h0.get? b = some o ∧ ∀ vs, o.data ≠ .fields vs
  stack : f.rs = true → ∃ outer, f.A.frames = some (f.env :: outer) ∧ f.env.frame = some f.env.locals ∧ ∀ e ∈ outer, e.scope.kind ≠ .module ∧ ∃ b ∈ f.out, e.frame = some b
/-- what is told of a state besides the pure values -/
structure Gh where
  τ : Tau
  κ : Kap
  m : Str → Option Value
  own : List (Addr × Obj)
  fr : List (Addr × Obj)
/-- what a statement keeps -/
structure Gh.Lt (G G' : Gh) : Prop where
  τ : TLe G.τ G'.τ
  κ : KLe G.κ G'.κ
  fr : G'.fr = G.fr
structure Gh.Le (G G' : Gh) : Prop where
  τ : TLe G.τ G'.τ
  κ : KLe G.κ G'.κ
  m : G'.m = G.m
  own : G'.own = G.own
  fr : G'.fr = G.fr
theorem Gh.Le.refl (G : Gh) : Gh.Le G G := ⟨.refl _, .refl _, rfl, rfl, rfl⟩
theorem Gh.Le.trans {a b c : Gh} (x : Gh.Le a b) (y : Gh.Le b c) : Gh.Le a c := ⟨x.τ.trans y.τ, x.κ.trans y.κ, y.m.trans x.m, y.own.trans x.own, y.fr.trans x.fr⟩
theorem Gh.Lt.refl (G : Gh) : Gh.Lt G G := ⟨.refl _, .refl _, rfl⟩
theorem Gh.Lt.trans {a b c : Gh} (x : Gh.Lt a b) (y : Gh.Lt b c) : Gh.Lt a c := ⟨x.τ.trans y.τ, x.κ.trans y.κ, y.fr.trans x.fr⟩
theorem Gh.Le.lt {a b : Gh} (x : Gh.Le a b) : Gh.Lt a b := ⟨x.τ, x.κ, x.fr⟩

inductive Ent where
  | loc (pv : PV)
  | cel (pv : PV)
  | fre (pv : PV)
  | owned (l : List PV)
  | ucel
  | cown (l : List PV)
  | fown (l : List PV)
  | dead
abbrev Rho := List (Str × Ent)
def OwnCell (f : Fm sc dk tb) (G : Gh) (x : Str) (v : Option Value) : Prop :=
  f.env.kindOf x = some .cell ∧ ∃ c o, f.env.cells.lookup x = some c ∧ (c, o) ∈ G.own ∧ f.h0.objs.size ≤ c ∧ o.data = .cell v
def FreCell (f : Fm sc dk tb) (x : Str) (v : Value) : Prop :=
  (f.env.kindOf x = some .free ∨ f.env.kindOf x = some .cell) ∧ ∃ c o, f.env.cells.lookup x = some c ∧ f.h0.get? c = some o ∧ c ∉ tb ∧ (c ∉ f.br ∧ c ∉ f.out) ∧ o.data = .cell (some v)
def OwnList (G : Gh) (a : Addr) (l : List PV) : Prop := ∃ vs n, (a, listOf vs.toArray n) ∈ G.own ∧ RpAll G.τ G.κ vs l
def EntOk (f : Fm sc dk tb) (G : Gh) (x : Str) : Ent → Prop
  | .loc pv => f.env.kindOf x = some .local ∧ ∃ v, G.m x = some v ∧ Rp G.τ G.κ v pv
  | .cel pv => ∃ v, OwnCell f G x (some v) ∧ Rp G.τ G.κ v pv
  | .fre pv => ∃ v, FreCell f x v ∧ Rp G.τ G.κ v pv
  | .owned l => f.env.kindOf x = some .local ∧ ∃ a, G.m x = some (.ref a) ∧ OwnList G a l ∧ f.h0.objs.size ≤ a
  | .ucel => ∃ v, OwnCell f G x v
  | .cown l => ∃ a, OwnCell f G x (some (.ref a)) ∧ OwnList G a l
  | .fown l => ∃ a, FreCell f x (.ref a) ∧ OwnList G a l
  | .dead => True
theorem OwnCell.mono {f : Fm sc dk tb} {G G' : Gh} (h : G.Le G') {x : Str} {v : Option Value} (q : OwnCell f G x v) : OwnCell f G' x v := by
  obtain ⟨a, c, o, b, d, e⟩ := q; exact ⟨a, c, o, b, h.own ▸ d, e⟩
theorem OwnList.mono {G G' : Gh} (h : G.Le G') {a : Addr} {l : List PV} (q : OwnList G a l) : OwnList G' a l := by
  obtain ⟨vs, n, b, d⟩ := q; exact ⟨vs, n, h.own ▸ b, d.mono h.τ h.κ⟩
theorem EntOk.mono {f : Fm sc dk tb} {G G' : Gh} (h : G.Le G') {x : Str} : ∀ {e : Ent}, EntOk f G x e → EntOk f G' x e
  | .loc _, ⟨k, v, a, b⟩ => ⟨k, v, by rw [h.m]; exact a, b.mono h.τ h.κ⟩
  | .cel _, ⟨v, a, b⟩ => ⟨v, a.mono h, b.mono h.τ h.κ⟩
  | .fre _, ⟨v, a, b⟩ => ⟨v, a, b.mono h.τ h.κ⟩
  | .owned _, ⟨k, a, e1, e2, e3⟩ => ⟨k, a, by rw [h.m]; exact e1, e2.mono h, e3⟩
  | .ucel, ⟨v, a⟩ => ⟨v, a.mono h⟩
  | .cown _, ⟨a, e1, e2⟩ => ⟨a, e1.mono h, e2.mono h⟩
  | .fown _, ⟨a, e1, e2⟩ => ⟨a, e1, e2.mono h⟩
  | .dead, _ => trivial

structure FS (f : Fm sc dk tb) (G : Gh) (ρ : Rho) (s : Shared) : Prop where
  ok : f.Ok
  keep : ∀ b o, b ∉ tb → b ∉ f.br ∧ b ∉ f.out → f.h0.get? b = some o → s.heap.get? b = some o
  slots : ∀ b o, b ∈ f.out → f.h0.get? b = some o → ∃ sl, s.heap.get? b = some { o with slots := sl }
  ns : s.heap.Ns f.env.locals G.m
  own : ∀ p ∈ G.own, s.heap.get? p.1 = some p.2 ∧ p.1 ≠ f.env.locals ∧ p.1 ≠ 47 ∧ p.1 ≠ 54 ∧ (f.h0.objs.size ≤ p.1 ∨ p.1 ∈ f.br)
  nd : (G.own.map (·.1)).Nodup
  fr : ∀ p ∈ G.fr, s.heap.get? p.1 = some p.2 ∧ p.1 ≠ f.env.locals ∧ p.1 ∉ G.own.map (·.1) ∧ p.1 ≠ 47 ∧ p.1 ≠ 54 ∧ (f.h0.objs.size ≤ p.1 ∨ p.1 ∈ f.br)
  nfr : (G.fr.map (·.1)).Nodup
  vis : ∀ b o, G.κ b = some o → s.heap.get? b = some o ∧ b ≠ f.env.locals ∧ b ∉ G.own.map (·.1) ∧ b ∉ G.fr.map (·.1) ∧ b ≠ 47 ∧ b ≠ 54 ∧ (f.κ0 b = some o ∨ f.h0.objs.size ≤ b) ∧ b ∉ f.out
  tabs : Tabs s.heap
  tok : TokOk G.τ s.toks
  gens : s.gens = f.gens
  drawn : s.drawn = f.drawn
  os : s.os = f.os
  ents : ∀ x e, ρ.lookup x = some e → EntOk f G x e

def SubR : Rho → Rho → Prop
  | [], _ => True
  | (x, e) :: r, ρ => ρ.lookup x = some e ∧ SubR r ρ
theorem SubR.lookup {ρ : Rho} : ∀ {ρ' : Rho}, SubR ρ' ρ → ∀ {x e}, ρ'.lookup x = some e → ρ.lookup x = some e
  | (y, d) :: r, ⟨h1, h2⟩, x, e, h => by
    rw [List.lookup_cons] at h
    split at h
    · rename_i q; cases h; rw [eq_of_beq q]; exact h1
    · exact SubR.lookup h2 h
section
variable {f : Fm sc dk tb} {G : Gh} {ρ : Rho} {s : Shared}
theorem FS.weaken {ρ' : Rho} (F : FS f G ρ s) (h : SubR ρ' ρ) : FS f G ρ' s := { F with ents := fun x e hx => F.ents x e (h.lookup hx) }
theorem FS.keep0 (F : FS f G ρ s) : ∀ b o, f.g0.get? b = some o → s.heap.get? b = some o := fun b o e =>
  F.keep b o (fun q => (F.ok.tbs b q).elim (fun h => by rw [h, F.ok.gl.2.1] at e; cases e) (fun h => by rw [h, F.ok.gl.2.2.1.1] at e; cases e))
    ⟨fun q => (by rw [(F.ok.brs b q).2.2] at e; cases e), fun q => by rw [(F.ok.outs b q).2.2.1] at e; cases e⟩ (F.ok.g0h b o e)
theorem FS.kindF (F : FS f G ρ s) : f.env.scope.kind = .function := F.ok.kind
/-- the step that every expression takes: all is kept (the tables may turn) -/
theorem FS.ext (F : FS f G ρ s) {h' : Heap} {tk : Nat} (hk : ∀ b o, b ∉ tb → b ≠ f.env.locals → s.heap.get? b = some o → h'.get? b = some o) (hns : h'.Ns f.env.locals G.m) (ht : Tabs h') (hle : s.toks ≤ tk) :
    FS f G ρ { s with heap := h', toks := tk } where
  ok := F.ok
  keep := fun b o hb hb' e => hk b o hb (fun q => absurd q (ltNe (Nat.lt_of_lt_of_le (Heap.lt_size e) F.ok.low))) (F.keep b o hb hb' e)
  slots := fun b o hb e => by
    obtain ⟨sl, e'⟩ := F.slots b o hb e
    exact ⟨sl, hk b _ (fun q => (F.ok.tbs _ q).elim (F.ok.outs b hb).1 (F.ok.outs b hb).2.1) (fun q => absurd q (ltNe (Nat.lt_of_lt_of_le (Heap.lt_size e) F.ok.low))) e'⟩
  ns := hns
  own := fun p hp => ⟨hk _ _ (fun q => (F.ok.tbs _ q).elim (F.own p hp).2.2.1 (F.own p hp).2.2.2.1) (F.own p hp).2.1 (F.own p hp).1, (F.own p hp).2⟩
  nd := F.nd
  fr := fun p hp => ⟨hk _ _ (fun q => (F.ok.tbs _ q).elim (F.fr p hp).2.2.2.1 (F.fr p hp).2.2.2.2.1) (F.fr p hp).2.1 (F.fr p hp).1, (F.fr p hp).2⟩
  nfr := F.nfr
  vis := fun b o e => by
    obtain ⟨v1, v2, v3, v4, v5, v6, v7⟩ := F.vis b o e
    exact ⟨hk b o (fun q => (F.ok.tbs _ q).elim v5 v6) v2 v1, v2, v3, v4, v5, v6, v7⟩
  tabs := ht
  tok := F.tok.le hle
  gens := F.gens
  drawn := F.drawn
  os := F.os
  ents := F.ents
theorem FS.all (F : FS f G ρ s) {h' : Heap} {tk : Nat} (hk : ∀ b o, s.heap.get? b = some o → h'.get? b = some o) (hle : s.toks ≤ tk) : FS f G ρ { s with heap := h', toks := tk } :=
  F.ext (fun b o _ _ e => hk b o e) (F.ns.keeps hk) (F.tabs.keeps hk) hle
theorem FS.toks (F : FS f G ρ s) {tk : Nat} (hle : s.toks ≤ tk) : FS f G ρ { s with toks := tk } := F.all (h' := s.heap) (fun _ _ e => e) hle
theorem FS.addT (F : FS f G ρ s) {t : Tok} (x : TV) (h : G.τ t = none) (h0 : 0 < t) (h1 : t < s.toks) : FS f { G with τ := addT G.τ t x } ρ s ∧ G.Le { G with τ := Mine.addT G.τ t x } := by
  have L : G.Le { G with τ := Mine.addT G.τ t x } := ⟨addT_le h, .refl _, rfl, rfl, rfl⟩
  refine ⟨{ F with tok := ⟨F.tok.1, fun u y e => ?_⟩, ents := fun z e hz => (F.ents z e hz).mono L }, L⟩
  unfold Mine.addT at e
  by_cases q : u = t
  · subst q; exact ⟨h0, h1⟩
  · simp only [q, if_false] at e; exact F.tok.2 u y e
/-- a new address is none of the old -/
structure Far (f : Fm sc dk tb) (G : Gh) (a : Addr) : Prop where
  L : a ≠ f.env.locals
  own : a ∉ G.own.map (·.1)
  fr : a ∉ G.fr.map (·.1)
  n47 : a ≠ 47
  n54 : a ≠ 54
  h0 : f.h0.objs.size ≤ a
  κ : G.κ a = none
  out : a ∉ f.out
theorem FS.far (F₀ : FS f G ρ s) {a : Addr} (ha : s.heap.objs.size ≤ a) : Far f G a := by
  have hL := F₀.ns.lt
  refine ⟨gtNe (Nat.lt_of_lt_of_le hL ha), fun q => ?_, fun q => ?_, gtNe (far47 F₀.ok.big F₀.ok.low hL ha), gtNe (far54 F₀.ok.big F₀.ok.low hL ha), Nat.le_trans F₀.ok.low (Nat.le_trans (Nat.le_of_lt hL) ha), ?_, fun q => ?_⟩
  · obtain ⟨p, hp, rfl⟩ := List.mem_map.mp q
    exact absurd (Heap.lt_size (F₀.own p hp).1) (Nat.not_lt.mpr ha)
  · obtain ⟨p, hp, rfl⟩ := List.mem_map.mp q
    exact absurd (Heap.lt_size (F₀.fr p hp).1) (Nat.not_lt.mpr ha)
  · cases q : G.κ a with
    | none => rfl
    | some o' => exact absurd (Heap.lt_size (F₀.vis a o' q).1) (Nat.not_lt.mpr ha)
  · obtain ⟨_, _, _, _, o, e, _⟩ := F₀.ok.outs a q
    obtain ⟨sl, e'⟩ := F₀.slots a o q e
    exact absurd (Heap.lt_size e') (Nat.not_lt.mpr ha)
theorem FS.setTK (F : FS f G ρ s) {τ' : Tau} {κ' : Kap} (h1 : TLe G.τ τ') (h2 : KLe G.κ κ') (h3 : TokOk τ' s.toks)
    (hv : ∀ b o, κ' b = some o → s.heap.get? b = some o ∧ (G.κ b = some o ∨ Far f G b)) : FS f { G with τ := τ', κ := κ' } ρ s ∧ G.Le { G with τ := τ', κ := κ' } := by
  have L : G.Le { G with τ := τ', κ := κ' } := ⟨h1, h2, rfl, rfl, rfl⟩
  refine ⟨{ F with tok := h3, vis := fun b o e => ?_, ents := fun z e hz => (F.ents z e hz).mono L }, L⟩
  obtain ⟨e1, e2⟩ := hv b o e
  rcases e2 with e2 | X
  · exact F.vis b o e2
  · exact ⟨e1, X.L, X.own, X.fr, X.n47, X.n54, .inr X.h0, X.out⟩
theorem FS.addK (F : FS f G ρ s) {a : Addr} {o : Obj} (X : Far f G a) (e : s.heap.get? a = some o) :
    FS f { G with κ := addK G.κ a o } ρ s ∧ G.Le { G with κ := Mine.addK G.κ a o } := by
  refine F.setTK (.refl _) (addK_le X.κ) F.tok fun b ob eb => ?_
  simp only [Mine.addK] at eb
  by_cases q : b = a
  · simp only [q, if_true] at eb
    cases eb
    subst q
    exact ⟨e, .inr X⟩
  · simp only [q, if_false] at eb; exact ⟨(F.vis b ob eb).1, .inl eb⟩
end

/-- an expression's tree gives this pure value, wherever the frame stands so -/
structure EV (f : Fm sc dk tb) (ρ : Rho) (t : Sem Value) (pv : PV) : Prop where
  run : ∀ s G, FS f G ρ s → ∀ (Q : Value → Shared → Prop) (E : Value → Shared → Prop),
    (∀ v s' G', G.Le G' → FS f G' ρ s' → Rp G'.τ G'.κ v pv → Q v s') → wpAny (model PG f.w) f.A t Q E s
/-- the same for a condition -/
structure EB (f : Fm sc dk tb) (ρ : Rho) (t : Sem Bool) (b : Bool) : Prop where
  run : ∀ s G, FS f G ρ s → ∀ (Q : Bool → Shared → Prop) (E : Value → Shared → Prop),
    (∀ s' G', G.Le G' → FS f G' ρ s' → Q b s') → wpAny (model PG f.w) f.A t Q E s
/-- the same for a list of values (a call's arguments) -/
structure EL (f : Fm sc dk tb) (ρ : Rho) (t : Sem (List Value)) (pvs : List PV) : Prop where
  run : ∀ s G, FS f G ρ s → ∀ (Q : List Value → Shared → Prop) (E : Value → Shared → Prop),
    (∀ vs s' G', G.Le G' → FS f G' ρ s' → RpAll G'.τ G'.κ vs pvs → Q vs s') → wpAny (model PG f.w) f.A t Q E s
inductive Out where
  | nx (ρ : Rho)
  | rt (pv : PV)
  | bk (ρ : Rho)
  | ct (ρ : Rho)
def OutOk (f : Fm sc dk tb) (G : Gh) : Out → Flow → Shared → Prop
  | .nx ρ, fl, s => fl = .next ∧ FS f G ρ s
  | .rt pv, fl, s => ∃ v, fl = .ret v ∧ FS f G [] s ∧ Rp G.τ G.κ v pv
  | .bk ρ, fl, s => fl = .brk ∧ FS f G ρ s
  | .ct ρ, fl, s => fl = .cont ∧ FS f G ρ s
/-- statements end in one of these ways -/
structure SX (f : Fm sc dk tb) (ρ : Rho) (t : Sem Flow) (Φ : Out → Prop) : Prop where
  run : ∀ s G, FS f G ρ s → ∀ (Q : Flow → Shared → Prop) (E : Value → Shared → Prop),
    (∀ o fl s' G', Φ o → G.Lt G' → OutOk f G' o fl s' → Q fl s') → wpAny (model PG f.w) f.A t Q E s
end Mine

end
section
open PySem PySem.W PyProof.Rows PySem.Calls PySem.Spec PySem.Challenge
namespace Mine
variable {sc : Scope} {dk : Nat} {tb : List Addr}

def PV.asI : PV → Option Int
  | .int i => some i
  | .rint i => some i
  | _ => .none
section
variable {f : Fm sc dk tb} {G : Gh} {ρ : Rho} {s : Shared} {τ : Tau} {κ : Kap} {v : Value}
theorem Rp.isInt {a : PV} {i : Int} (h : Rp τ κ v a) (ha : a.asI = some i) : ∃ t, v = .int i t := by
  cases h <;> simp [PV.asI] at ha
  · subst ha; exact ⟨_, rfl⟩
  · subst ha; exact ⟨_, rfl⟩
theorem Rp.isBool {b : Bool} (h : Rp τ κ v (.bool b)) : v = .bool b := by cases h; rfl
def PV.asS : PV → Option Str
  | .str i => some i
  | .tstr i => some i
  | _ => .none
theorem Rp.isStr {a : PV} {x : Str} (h : Rp τ κ v a) (ha : a.asS = some x) : ∃ t, v = .str x t := by
  cases h <;> simp [PV.asS] at ha
  · subst ha; exact ⟨_, rfl⟩
  · subst ha; exact ⟨_, rfl⟩

theorem FS.newTok (F : FS f G ρ s) (x : TV) : ∃ G', G.Le G' ∧ FS f G' ρ { s with toks := s.toks + 1 } ∧ G'.τ s.toks = some x := by
  have F1 := F.toks (Nat.le_succ s.toks)
  obtain ⟨F2, L⟩ := F1.addT x (F.tok.none (Nat.le_refl _)) F.tok.1 (Nat.lt_succ_self _)
  exact ⟨_, L, F2, addT_self _ _ _⟩

/-- two values' operation -/
structure OP2 (f : Fm sc dk tb) (g : Value → Value → Sem Value) (a b c : PV) : Prop where
  run : ∀ ρ s G v w, FS f G ρ s → Rp G.τ G.κ v a → Rp G.τ G.κ w b → ∀ (Q : Value → Shared → Prop) (E : Value → Shared → Prop),
    (∀ u s' G', G.Le G' → FS f G' ρ s' → Rp G'.τ G'.κ u c → Q u s') → wpAny (model PG f.w) f.A (g v w) Q E s
structure OP1 (f : Fm sc dk tb) (g : Value → Sem Value) (a c : PV) : Prop where
  run : ∀ ρ s G v, FS f G ρ s → Rp G.τ G.κ v a → ∀ (Q : Value → Shared → Prop) (E : Value → Shared → Prop),
    (∀ u s' G', G.Le G' → FS f G' ρ s' → Rp G'.τ G'.κ u c → Q u s') → wpAny (model PG f.w) f.A (g v) Q E s

variable {a b c : PV} {i j r : Int} {g : Value → Value → Sem Value}
theorem OP2.ofInt (ha : a.asI = some i) (hb : b.asI = some j)
    (h : ∀ (A : Around) (E : Value → Shared → Prop) (s : Shared) (t u : Tok) (Q : Value → Shared → Prop), A.handled = none → Q (.int r s.toks) { s with toks := s.toks + 1 } → wpAny (model PG f.w) A (g (.int i t) (.int j u)) Q E s) :
    OP2 f g a b (.int r) := ⟨fun ρ s G v w F hv hw Q E k => by
  obtain ⟨t, rfl⟩ := hv.isInt ha
  obtain ⟨u, rfl⟩ := hw.isInt hb
  obtain ⟨G', L, F', e⟩ := F.newTok (.int r)
  exact h _ E s t u Q F.ok.hh (k _ _ G' L F' (.int e))⟩
theorem OP2.ofCmp {q : Bool} (ha : a.asI = some i) (hb : b.asI = some j)
    (h : ∀ (A : Around) (E : Value → Shared → Prop) (s : Shared) (t u : Tok) (Q : Value → Shared → Prop), Q (.bool q) s → wpAny (model PG f.w) A (g (.int i t) (.int j u)) Q E s) :
    OP2 f g a b (.bool q) := ⟨fun ρ s G v w F hv hw Q E k => by
  obtain ⟨t, rfl⟩ := hv.isInt ha
  obtain ⟨u, rfl⟩ := hw.isInt hb
  exact h _ E s t u Q (k _ _ G (.refl _) F (.bool q))⟩
theorem OP2.add (ha : a.asI = some i) (hb : b.asI = some j) : OP2 f (binaryOp .Add) a b (.int (i + j)) := .ofInt ha hb fun _ _ _ _ _ _ _ h => by with_reducible exact add_int h
theorem OP2.sub (ha : a.asI = some i) (hb : b.asI = some j) : OP2 f (binaryOp .Sub) a b (.int (i - j)) := .ofInt ha hb fun _ _ _ _ _ _ _ h => by with_reducible exact sub_int h
theorem OP2.mul (ha : a.asI = some i) (hb : b.asI = some j) (hm : IntMulOk i j) : OP2 f (binaryOp .Mult) a b (.int (i * j)) := .ofInt ha hb fun _ _ _ _ _ _ _ h => by with_reducible exact mul_int h hm
theorem OP2.mod (ha : a.asI = some i) (hb : b.asI = some j) (h0 : 0 < j) : OP2 f (binaryOp .Mod) a b (.int (i % j)) := .ofInt ha hb fun _ _ _ _ _ _ _ h => by
  rw [← Int.fmod_eq_emod_of_nonneg i (Int.le_of_lt h0)] at h; with_reducible exact mod_int' (Int.ne_of_gt h0) h
theorem OP2.fdiv (ha : a.asI = some i) (hb : b.asI = some j) (h0 : 0 < j) (hp : Builtin.divisionGoesByPylong i j = false) : OP2 f (binaryOp .FloorDiv) a b (.int (i / j)) := .ofInt ha hb fun _ _ _ _ _ _ _ h => by
  rw [← Int.fdiv_eq_ediv_of_nonneg i (Int.le_of_lt h0)] at h; with_reducible exact floordiv_int (Int.ne_of_gt h0) h (.inl hp)
theorem OP2.band (ha : a.asI = some i) (hb : b.asI = some j) : OP2 f (binaryOp .BitAnd) a b (.int (Builtin.bitAnd i j)) := .ofInt ha hb fun _ _ _ _ _ _ _ h => by with_reducible exact and_int h
theorem OP2.bor (ha : a.asI = some i) (hb : b.asI = some j) : OP2 f (binaryOp .BitOr) a b (.int (Builtin.bitOr i j)) := .ofInt ha hb fun _ _ _ _ _ _ _ h => by with_reducible exact or_int h
theorem OP2.bxor (ha : a.asI = some i) (hb : b.asI = some j) : OP2 f (binaryOp .BitXor) a b (.int (Builtin.bitXor i j)) := .ofInt ha hb fun _ _ _ _ _ _ _ h => by with_reducible exact xor_int h
theorem OP2.shl (ha : a.asI = some i) (hb : b.asI = some j) (h0 : 0 ≤ j) (hs : (Builtin.Int.intBits i : Int) + j ≤ 2 ^ 27) : OP2 f (binaryOp .LShift) a b (.int (i * 2 ^ j.toNat)) := .ofInt ha hb fun _ _ _ _ _ _ _ h => by with_reducible exact lshift_int h0 hs h
theorem OP2.shr (ha : a.asI = some i) (hb : b.asI = some j) (h0 : 0 ≤ j) : OP2 f (binaryOp .RShift) a b (.int (i / 2 ^ j.toNat)) := .ofInt ha hb fun _ _ _ _ _ _ _ h => by
  rw [← Int.fdiv_eq_ediv_of_nonneg i (Int.le_of_lt (Int.pow_pos (by decide)))] at h; with_reducible exact rshift_int h0 h
theorem OP2.ishl (ha : a.asI = some i) (hb : b.asI = some j) (h0 : 0 ≤ j) (hs : (Builtin.Int.intBits i : Int) + j ≤ 2 ^ 27) : OP2 f (inplaceOp .LShift) a b (.int (i * 2 ^ j.toNat)) := .ofInt ha hb fun _ _ _ _ _ _ _ h => by with_reducible exact ilshift_int h0 hs h
theorem OP2.iadd (ha : a.asI = some i) (hb : b.asI = some j) : OP2 f (inplaceOp .Add) a b (.int (i + j)) := .ofInt ha hb fun _ _ _ _ _ _ _ h => by with_reducible exact iadd_int h
theorem OP2.isub (ha : a.asI = some i) (hb : b.asI = some j) : OP2 f (inplaceOp .Sub) a b (.int (i - j)) := .ofInt ha hb fun _ _ _ _ _ _ _ h => by with_reducible exact isub_int h
theorem OP2.ishr (ha : a.asI = some i) (hb : b.asI = some j) (h0 : 0 ≤ j) : OP2 f (inplaceOp .RShift) a b (.int (i / 2 ^ j.toNat)) := .ofInt ha hb fun _ _ _ _ _ _ _ h => by
  rw [← Int.fdiv_eq_ediv_of_nonneg i (Int.le_of_lt (Int.pow_pos (by decide)))] at h; with_reducible exact irshift_int h0 h
theorem OP2.pow (ha : a.asI = some i) (hb : b.asI = some j) (h0 : 0 < j) (h1 : 1 < i) (hs : (Builtin.Int.intBits i : Int) * j ≤ 2 ^ 27) : OP2 f (binaryOp .Pow) a b (.int (i ^ j.toNat)) := .ofInt ha hb fun A E s t u Q _ h => by
  have h' : (Made.int (i ^ j.toNat)).post Q s := h
  have h5 : ¬Builtin.Int.intTooBig (((Builtin.Int.intBits i : Nat) : Int) * j) = true := by simp [Builtin.Int.intTooBig, bitsLine]; exact hs
  with_reducible exact PySem.AutoIntOps.pow_4 (by exact o168 h0) (by simp; exact o65 h0) (by simp; exact o175 h1) (by simp; exact o174 h1) h5 h'
theorem OP2.eqI (ha : a.asI = some i) (hb : b.asI = some j) : OP2 f (compareOp .Eq) a b (.bool (i == j)) := .ofCmp ha hb fun _ _ _ _ _ _ h => by with_reducible exact eq_int h
theorem OP2.neI (ha : a.asI = some i) (hb : b.asI = some j) : OP2 f (compareOp .NotEq) a b (.bool (i != j)) := .ofCmp ha hb fun _ _ _ _ _ _ h => by with_reducible exact ne_int h
theorem OP2.ltI (ha : a.asI = some i) (hb : b.asI = some j) : OP2 f (compareOp .Lt) a b (.bool (decide (i < j))) := .ofCmp ha hb fun _ _ _ _ _ _ h => by with_reducible exact lt_int h
theorem OP2.leI (ha : a.asI = some i) (hb : b.asI = some j) : OP2 f (compareOp .LtE) a b (.bool (decide (i ≤ j))) := .ofCmp ha hb fun _ _ _ _ _ _ h => by with_reducible exact le_int h
theorem OP2.gtI (ha : a.asI = some i) (hb : b.asI = some j) : OP2 f (compareOp .Gt) a b (.bool (decide (i > j))) := .ofCmp ha hb fun _ _ _ _ _ _ h => by with_reducible exact gt_int h
end

section
variable {f : Fm sc dk tb} {ρ : Rho} {a b c : PV} {t : Sem Value}
theorem EV.mk2 {l r : Sem Value} {g : Value → Value → Sem Value} {t : Sem Value} (hl : EV f ρ l a) (hr : EV f ρ r b) (hg : OP2 f g a b c)
    (ht : ∀ s (Q : Value → Shared → Prop) (E : Value → Shared → Prop), wpAny (model PG f.w) f.A l (fun v s₁ => wpAny (model PG f.w) f.A r (fun w s₂ => wpAny (model PG f.w) f.A (g v w) Q E s₂) E s₁) E s → wpAny (model PG f.w) f.A t Q E s) : EV f ρ t c :=
  ⟨fun s G F Q E k => ht s Q E (hl.run s G F _ _ fun v s₁ G₁ L₁ F₁ r₁ => hr.run s₁ G₁ F₁ _ _ fun w s₂ G₂ L₂ F₂ r₂ =>
    hg.run ρ s₂ G₂ v w F₂ (r₁.mono L₂.τ L₂.κ) r₂ Q E fun u s₃ G₃ L₃ F₃ r₃ => k u s₃ G₃ ((L₁.trans L₂).trans L₃) F₃ r₃)⟩
theorem EV.bin {l r : Expr} {op : Operator} {pos : Pos} (hl : EV f ρ (eval l f.env) a) (hr : EV f ρ (eval r f.env) b) (hg : OP2 f (binaryOp op) a b c) : EV f ρ (eval (.BinOp l op r pos) f.env) c :=
  .mk2 hl hr hg fun s Q E h => by with_reducible exact wpAny_BinOp h
theorem EV.cmp {l r : Expr} {op : CmpOp} {pos : Pos} (hl : EV f ρ (eval l f.env) a) (hr : EV f ρ (eval r f.env) b) (hg : OP2 f (compareOp op) a b c) (hm : behindInMarks op r = false := by rfl) : EV f ρ (eval (.Compare l [op] [r] pos) f.env) c :=
  .mk2 hl hr hg fun s Q E h => by with_reducible exact wpAny_Compare1 h hm
theorem EB.cmp {l r : Expr} {op : CmpOp} {pos : Pos} {q : Bool} {whole : Sem Value} (hl : EV f ρ (eval l f.env) a) (hr : EV f ρ (eval r f.env) b) (hg : OP2 f (compareOp op) a b (.bool q)) (hm : behindInMarks op r = false := by rfl) : EB f ρ (isTrue (.Compare l [op] [r] pos) f.env whole) q :=
  ⟨fun s G F Q E k => by
    refine wpAny_isTrue_Compare1 ?_ hm
    refine hl.run s G F _ _ fun v s₁ G₁ L₁ F₁ r₁ => hr.run s₁ G₁ F₁ _ _ fun w s₂ G₂ L₂ F₂ r₂ =>
      hg.run ρ s₂ G₂ v w F₂ (r₁.mono L₂.τ L₂.κ) r₂ _ E fun u s₃ G₃ L₃ F₃ r₃ => ?_
    cases r₃
    with_reducible exact wpAny_truthy_bool (k s₃ G₃ ((L₁.trans L₂).trans L₃) F₃)⟩
theorem EV.cint {i : Int} {k : Nat} {pos : Pos} : EV f ρ (eval (.Constant (.int i) k pos) f.env) (.int i) :=
  ⟨fun s G F Q E k => by
    obtain ⟨G', L, F', e⟩ := F.newTok (.int i)
    with_reducible exact wpAny_Constant_int (k _ _ G' L F' (.int e))⟩
theorem EV.cstr {x : Str} {k : Nat} {pos : Pos} : EV f ρ (eval (.Constant (.str x) k pos) f.env) (.tstr x) :=
  ⟨fun s G F Q E k => by
    obtain ⟨G', L, F', e⟩ := F.newTok (.str x)
    exact wpAny_bind (wpAny_fresh (wpAny_pure (k _ _ G' L F' (.tstr e))))⟩
theorem EV.cbool {q : Bool} {k : Nat} {pos : Pos} : EV f ρ (eval (.Constant (.bool q) k pos) f.env) (.bool q) := ⟨fun s G F Q E k => wpAny_pure (k _ _ G (.refl _) F (.bool q))⟩
theorem EV.cnone {k : Nat} {pos : Pos} : EV f ρ (eval (.Constant .none k pos) f.env) .none := ⟨fun s G F Q E k => wpAny_pure (k _ _ G (.refl _) F .none)⟩
/-- the value that an entry bears -/
def Ent.val : Ent → Option PV
  | .loc v => some v
  | .cel v => some v
  | .fre v => some v
  | _ => .none
theorem load_ent {G : Gh} {s : Shared} {x : Str} {e : Ent} {pv : PV} (F : FS f G ρ s) (he : EntOk f G x e) (hv : e.val = some pv) (hn : (x == ("__classdict__" : Str)) = false) {Q : Value → Shared → Prop} {E : Value → Shared → Prop}
    (k : ∀ v, Rp G.τ G.κ v pv → Q v s) : wpAny (model PG f.w) f.A (loadName f.env x) Q E s := by
  cases e with
  | loc v =>
    cases hv
    obtain ⟨hk, v, hm, r⟩ := he
    with_reducible exact wpAny_loadName_local F.kindF hk F.ns hm (k v r)
  | cel v =>
    cases hv
    obtain ⟨v, ⟨hk, c, o, hc, ho, _, hd⟩, r⟩ := he
    have hq : s.heap.IsCell c (some v) := ⟨o, (F.own _ ho).1, hd⟩
    with_reducible exact wpAny_loadName_cell F.kindF hk hc hq (k v r)
  | fre v =>
    cases hv
    obtain ⟨v, ⟨hk, c, o, hc, ho, hb, hb', hd⟩, r⟩ := he
    have hq : s.heap.IsCell c (some v) := ⟨o, F.keep _ _ hb hb' ho, hd⟩
    rcases hk with hk | hk
    · with_reducible exact wpAny_loadName_free F.kindF hk hc hq (k v r) hn
    · with_reducible exact wpAny_loadName_cell F.kindF hk hc hq (k v r)
  | owned l | ucel | cown l | fown l | dead => cases hv
theorem EV.var {x : Str} {pos : Pos} {e : Ent} {pv : PV} (hx : ρ.lookup x = some e) (hv : e.val = some pv) (hd : (x == ("__debug__" : Str)) = false := by decide) (hn : (x == ("__classdict__" : Str)) = false := by decide) :
    EV f ρ (eval (.Name x pos) f.env) pv :=
  ⟨fun s G F Q E k => by
    with_reducible refine wpAny_Name ?_ hd
    exact load_ent F (F.ents x e hx) hv hn fun v r => k v s G (.refl _) F r⟩
/-- a global def's name, or a built-in's -/
theorem eval_glob {x : Str} {pos : Pos} {v : Value} {G : Gh} {s : Shared} (F : FS f G ρ s) (e : nsIn (hd.heap_39 f.w.params) mainGlobals x = some (some v)) (hx : f.env.kindOf x = some .globalImplicit) (hd : (x == ("__debug__" : Str)) = false)
    {Q : Value → Shared → Prop} {E : Value → Shared → Prop} (k : Q v s) : wpAny (model PG f.w) f.A (eval (.Name x pos) f.env) Q E s := by
  obtain ⟨X, _, _, p, loose, mg, mb, T⟩ := F.ok.gl
  have hg : s.heap.Ns f.env.globals mg := T.g.keeps F.keep0
  have hm := mg_of X T.g e
  with_reducible exact Name_function_global F.kindF hx (loadGlobal_global hg hm k) hd
theorem eval_bltn {x : Str} {pos : Pos} {v : Value} {G : Gh} {s : Shared} (F : FS f G ρ s) (e : nsIn (hd.heap_39 f.w.params) mainGlobals x = some .none) (hv : bootBuiltins x = some v) (hn : x ≠ "__name__") (hx : f.env.kindOf x = some .globalImplicit) (hd : (x == ("__debug__" : Str)) = false)
    {Q : Value → Shared → Prop} {E : Value → Shared → Prop} (k : Q v s) : wpAny (model PG f.w) f.A (eval (.Name x pos) f.env) Q E s := by
  obtain ⟨X, _, _, p, loose, mg, mb, T⟩ := F.ok.gl
  have hg : s.heap.Ns f.env.globals mg := T.g.keeps F.keep0
  have hb : s.heap.Ns f.env.builtins mb := T.b.keeps F.keep0
  have hm := mg_none_of X T.g e
  have hv' := (T.builtins x hn).trans hv
  with_reducible exact Name_function_global F.kindF hx (loadGlobal_builtin hg hm hb hv' k) hd
end
end Mine

end
section
open PySem PySem.W PyProof.Rows PySem.Calls PySem.Spec PySem.Challenge
namespace Mine
variable {sc : Scope} {dk : Nat} {tb : List Addr}

/-- the contract of a def of the text: called with these pure values it gives that one -/
structure CT (w : World) (tb : List Addr) (k : Nat) (a : Addr) (pvs : List PV) (pv : PV) : Prop where
  run : ∀ (A : Around) (g0 : Heap) (s : Shared) (τ : Tau) (κ : Kap) (vs : List Value), A.handled = none → A.depth + k < recursionLimit → A.units + 4 * k + 80 < cLine → Gl w g0 →
    (∀ b o, g0.get? b = some o → s.heap.get? b = some o) → Tabs s.heap → TokOk τ s.toks → (∀ b o, κ b = some o → s.heap.get? b = some o ∧ b ≠ 47 ∧ b ≠ 54) → RpAll τ κ vs pvs →
    ∀ R : Result → Shared → Prop, (∀ v s' τ' κ', TLe τ τ' → KLe κ κ' → (∀ b o, b ∉ tb → s.heap.get? b = some o → s'.heap.get? b = some o) → Tabs s'.heap → TokOk τ' s'.toks →
      s'.gens = s.gens → s'.drawn = s.drawn → s'.os = s.os → (∀ b o, κ' b = some o → s'.heap.get? b = some o ∧ b ≠ 47 ∧ b ≠ 54 ∧ (κ b = some o ∨ s.heap.objs.size ≤ b)) → Rp τ' κ' v pv → R (.ok (.ret v)) s') →
    codeAny (model PG w) A (.call (.ref a) ⟨vs, []⟩) R s

section
variable {f : Fm sc dk tb} {G : Gh} {ρ : Rho} {s : Shared}
theorem FS.tbL (F : FS f G ρ s) : f.env.locals ∉ tb := fun q => tbFar (F.ok.tbs _ q) F.ok.big F.ok.low
theorem FS.extT (F : FS f G ρ s) {s' : Shared} (hk : ∀ b o, b ∉ tb → s.heap.get? b = some o → s'.heap.get? b = some o) (ht : Tabs s'.heap) (hle : s.toks ≤ s'.toks) (e1 : s'.gens = s.gens) (e2 : s'.drawn = s.drawn) (e3 : s'.os = s.os) : FS f G ρ s' := by
  have := F.ext (h' := s'.heap) (tk := s'.toks) (fun b o hb _ e => hk b o hb e) (F.ns.at' fun o e => hk _ o F.tbL e) ht hle
  rw [← e1, ← e2, ← e3] at this
  exact this
/-- a call of a def by its contract -/
theorem CT.call {A : Around} {tc : List Addr} {k : Nat} {a : Addr} {vs : List Value} {pvs : List PV} {pv : PV} (C : CT f.w tc k a pvs pv) (F : FS f G ρ s) (hk : k ≤ dk) (htb : ∀ b ∈ tc, b ∈ tb) (hvs : RpAll G.τ G.κ vs pvs)
    {Q : Value → Shared → Prop} {E : Value → Shared → Prop} (h : ∀ v s' G', G.Le G' → FS f G' ρ s' → Rp G'.τ G'.κ v pv → Q v s') : wpAny (model PG f.w) f.A (call (.ref a) vs) Q E s := by
  refine wpAny_call (grow_code ?_)
  refine C.run f.A f.g0 s G.τ G.κ vs F.ok.hh (by have := F.ok.room; exact o18 hk this) (by have := F.ok.units; exact o17 hk this) F.ok.gl F.keep0 F.tabs F.tok (fun b o e => by obtain ⟨h1, _, _, _, h5, h6, _⟩ := F.vis b o e; exact ⟨h1, h5, h6⟩) hvs _ ?_
  intro v s' τ' κ' ht hκ hkeep htabs htok e1 e2 e3 hv hr g
  have F1 := F.extT (s' := s') (fun b o hb e => hkeep b o (fun q => hb (htb b q)) e) htabs g.toks e1 e2 e3
  obtain ⟨F2, L⟩ := F1.setTK ht hκ htok fun b o e => ⟨(hv b o e).1, (hv b o e).2.2.2.imp id fun q => F.far q⟩
  exact h v s' _ L F2 hr

theorem EL.nil {pos : Pos} : EL f ρ (spliced (backTo pos (starEach [] f.env))) [] := ⟨fun s G F Q E k => by with_reducible exact args_nil (k _ s G (.refl _) F .nil)⟩
theorem EL.cons {e : Expr} {rest : List Expr} {pos : Pos} {pv : PV} {pvs : List PV} (h1 : EV f ρ (eval e f.env) pv) (h2 : EL f ρ (spliced (backTo pos (starEach rest f.env))) pvs)
    (he : starEach (e :: rest) f.env = (false, eval e f.env) :: starEach rest f.env := by rfl) : EL f ρ (spliced (backTo pos (starEach (e :: rest) f.env))) (pv :: pvs) :=
  ⟨fun s G F Q E k => by
    with_reducible refine args_cons ?_ he
    refine h1.run s G F _ _ fun v s₁ G₁ L₁ F₁ r₁ => h2.run s₁ G₁ F₁ _ _ fun vs s₂ G₂ L₂ F₂ r₂ => ?_
    exact k _ s₂ G₂ (L₁.trans L₂) F₂ (.cons (r₁.mono L₂.τ L₂.κ) r₂)⟩
theorem EV.call {x : Str} {xp pos : Pos} {e : Expr} {rest : List Expr} {a : Addr} {tc : List Addr} {k : Nat} {pvs : List PV} {pv : PV} (hx : nsIn (hd.heap_39 f.w.params) mainGlobals x = some (some (.ref a))) (hkeep : keepIn (hd.heap_39 f.w.params) (.ref a) = true)
    (hargs : EL f ρ (spliced (backTo pos (starEach (e :: rest) f.env))) pvs) (C : CT f.w tc k a pvs pv) (hkd : f.env.kindOf x = some .globalImplicit := by rfl) (hk : k ≤ dk := by decide) (htb : ∀ b ∈ tc, b ∈ tb := by decide)
    (hd : (x == ("__debug__" : Str)) = false := by decide) (he : starEach (e :: rest) f.env = (false, eval e f.env) :: starEach rest f.env := by rfl) (hplain : (backTo pos (starEach rest f.env)).any (·.1) = false := by rfl)
    (he' : eval (.Call (.Name x xp) (e :: rest) [] pos) f.env = (do callWith pos (← eval (.Name x xp) f.env) [] (backTo pos (starEach (e :: rest) f.env)) (backToKw pos (keywordEach [] f.env))) := by rfl) :
    EV f ρ (eval (.Call (.Name x xp) (e :: rest) [] pos) f.env) pv :=
  ⟨fun s G F Q E k => by
    with_reducible refine Call_ ?_ he'
    refine eval_glob F hx hkd hd ?_
    obtain ⟨X, _⟩ := F.ok.gl
    with_reducible refine callWith_K X hkeep ?_ he hplain
    refine hargs.run s G F _ _ fun vs s₁ G₁ L₁ F₁ r₁ => ⟨X.keeps F₁.keep0, ?_⟩
    rw [List.nil_append]
    exact C.call (A := f.A) F₁ hk htb r₁ fun v s' G' L F' r => k v s' G' (L₁.trans L) F' r⟩
end
end Mine

end
section
open PySem PySem.W PyProof.Rows PySem.Calls PySem.Spec PySem.Challenge
namespace Mine
variable {sc : Scope} {dk : Nat} {tb : List Addr}
section
variable {f : Fm sc dk tb} {G : Gh} {ρ : Rho} {s : Shared}

def upd (m : Str → Option Value) (x : Str) (v : Value) : Str → Option Value := fun y => if y = x then some v else m y
theorem upd_self (m : Str → Option Value) (x : Str) (v : Value) : upd m x v x = some v := if_pos rfl
theorem upd_ne {m : Str → Option Value} {x y : Str} {v : Value} (h : y ≠ x) : upd m x v y = m y := if_neg h
theorem look_cons {x y : Str} {e e' : Ent} {ρ : Rho} (h : ((x, e) :: ρ).lookup y = some e') : (y = x ∧ e' = e) ∨ (y ≠ x ∧ ρ.lookup y = some e') := by
  rw [List.lookup_cons] at h
  by_cases q : y = x
  · left
    subst q
    simp only [beq_self_eq_true] at h
    exact ⟨rfl, (Option.some.inj h).symm⟩
  · right
    have : (y == x) = false := by simpa using q
    rw [this] at h
    exact ⟨q, h⟩
/-- no code object stands where a dict stands -/
theorem notCode {h : Heap} {L b : Addr} {m : Str → Option Value} {o : Obj} {vs : Array Value} (n : h.Ns L m) (e : h.get? b = some o) (hd : o.data = .fields vs) : b ≠ L := by
  rintro rfl
  obtain ⟨o', es, ep, e', hd', _⟩ := n
  rw [e] at e'; cases e'
  rw [hd] at hd'; cases hd'
theorem FS.big47 (F : FS f G ρ s) : (47 : Nat) ≠ f.env.locals := ltNe (Nat.lt_of_lt_of_le (Nat.lt_of_le_of_lt (by decide) F.ok.big) F.ok.low)
theorem FS.big54 (F : FS f G ρ s) : (54 : Nat) ≠ f.env.locals := ltNe (Nat.lt_of_lt_of_le F.ok.big F.ok.low)
theorem FS.storeEnt (F : FS f G ρ s) {x : Str} {v : Value} {ent : Ent} {h' : Heap} (hok : EntOk f { G with m := upd G.m x v } x ent) (hn : h'.Ns f.env.locals (upd G.m x v)) (hs : Heap.SameBut f.env.locals s.heap h') :
    FS f { G with m := upd G.m x v } ((x, ent) :: ρ) { s with heap := h', toks := s.toks + 1 } where
  ok := F.ok
  keep := fun b o hb hb' e => (hs.2 b (ltNe (Nat.lt_of_lt_of_le (Heap.lt_size e) F.ok.low))).trans (F.keep b o hb hb' e)
  slots := fun b o hb e => by
    obtain ⟨sl, e'⟩ := F.slots b o hb e
    exact ⟨sl, (hs.2 b (ltNe (Nat.lt_of_lt_of_le (Heap.lt_size e) F.ok.low))).trans e'⟩
  ns := hn
  own := fun p hp => ⟨(hs.2 _ (F.own p hp).2.1).trans (F.own p hp).1, (F.own p hp).2⟩
  nd := F.nd
  fr := fun p hp => ⟨(hs.2 _ (F.fr p hp).2.1).trans (F.fr p hp).1, (F.fr p hp).2⟩
  nfr := F.nfr
  vis := fun b o e => ⟨(hs.2 _ (F.vis b o e).2.1).trans (F.vis b o e).1, (F.vis b o e).2⟩
  tabs := F.tabs.step (fun o e => (hs.2 _ F.big47).trans e) (fun o e => (hs.2 _ F.big54).trans e) fun b o vs _ _ hd _ e => (hs.2 _ (notCode F.ns e hd)).trans e
  tok := F.tok.le (Nat.le_succ _)
  gens := F.gens
  drawn := F.drawn
  os := F.os
  ents := fun y e hy => by
    rcases look_cons hy with ⟨rfl, rfl⟩ | ⟨hne, hy⟩
    · exact hok
    · have := F.ents y e hy
      cases e with
      | loc pv => obtain ⟨a, v', b, c⟩ := this; exact ⟨a, v', (upd_ne hne).trans b, c⟩
      | owned l => obtain ⟨a, b, c, d⟩ := this; exact ⟨a, b, (upd_ne hne).trans c, d⟩
      | cel pv | fre pv | ucel | cown l | fown l | dead => exact this
theorem FS.storeLoc (F : FS f G ρ s) {x : Str} {v : Value} {pv : PV} {h' : Heap} (hk : f.env.kindOf x = some .local) (r : Rp G.τ G.κ v pv) (hn : h'.Ns f.env.locals (upd G.m x v)) (hs : Heap.SameBut f.env.locals s.heap h') :
    FS f { G with m := upd G.m x v } ((x, .loc pv) :: ρ) { s with heap := h', toks := s.toks + 1 } := F.storeEnt ⟨hk, v, upd_self _ _ _, r⟩ hn hs
/-- an own object turned -/
def repl (a : Addr) (o : Obj) (own : List (Addr × Obj)) : List (Addr × Obj) := own.map fun p => if p.1 = a then (a, o) else p
theorem repl_keys (a : Addr) (o : Obj) (own : List (Addr × Obj)) : (repl a o own).map (·.1) = own.map (·.1) := by
  induction own with
  | nil => rfl
  | cons p r ih =>
    show (if p.1 = a then (a, o) else p).1 :: (repl a o r).map (·.1) = p.1 :: r.map (·.1)
    rw [ih]
    by_cases q : p.1 = a
    · simp [q]
    · simp [q]
theorem repl_self {a : Addr} {o o' : Obj} {own : List (Addr × Obj)} (h : (a, o') ∈ own) : (a, o) ∈ repl a o own := List.mem_map.mpr ⟨_, h, if_pos rfl⟩
theorem repl_ne {a b : Addr} {o o' : Obj} {own : List (Addr × Obj)} (h : (b, o') ∈ own) (hb : b ≠ a) : (b, o') ∈ repl a o own := List.mem_map.mpr ⟨_, h, if_neg hb⟩
theorem repl_mem {a : Addr} {o : Obj} {p : Addr × Obj} {own : List (Addr × Obj)} (h : p ∈ repl a o own) : p = (a, o) ∨ (p.1 ≠ a ∧ p ∈ own) := by
  obtain ⟨q, hq, e⟩ := List.mem_map.mp h
  by_cases c : q.1 = a
  · rw [if_pos c] at e; exact .inl e.symm
  · rw [if_neg c] at e; subst e; exact .inr ⟨c, hq⟩
theorem FS.setOwn (F : FS f G ρ s) {a : Addr} {o₀ o : Obj} (ha : (a, o₀) ∈ G.own) {h' : Heap} {tk : Nat} (hs : Heap.SameBut a s.heap h') (e : h'.get? a = some o) (hle : s.toks ≤ tk) (hc : ∀ vs, o₀.data ≠ .fields vs) :
    FS f { G with own := repl a o G.own } [] { s with heap := h', toks := tk } where
  ok := F.ok
  keep := fun b ob hb hb' eb => (hs.2 b (by
    rintro rfl
    rcases (F.own _ ha).2.2.2.2 with q | q
    · exact absurd (Heap.lt_size eb) (Nat.not_lt.mpr q)
    · exact hb'.1 q)).trans (F.keep b ob hb hb' eb)
  slots := fun b ob hb eb => by
    obtain ⟨sl, e'⟩ := F.slots b ob hb eb
    refine ⟨sl, (hs.2 b ?_).trans e'⟩
    rintro rfl
    rcases (F.own _ ha).2.2.2.2 with q | q
    · exact absurd (Heap.lt_size eb) (Nat.not_lt.mpr q)
    · exact (F.ok.outs _ hb).2.2.2.1 q
  ns := F.ns.sameBut hs (Ne.symm (F.own _ ha).2.1)
  own := fun p hp => by
    rcases repl_mem hp with rfl | ⟨hne, hp⟩
    · exact ⟨e, (F.own _ ha).2⟩
    · exact ⟨(hs.2 _ hne).trans (F.own p hp).1, (F.own p hp).2⟩
  nd := by rw [repl_keys]; exact F.nd
  fr := fun p hp => by
    obtain ⟨h1, h2, h3, h4⟩ := F.fr p hp
    refine ⟨(hs.2 _ ?_).trans h1, h2, by rw [repl_keys]; exact h3, h4⟩
    intro q
    exact h3 (q ▸ List.mem_map.mpr ⟨_, ha, rfl⟩)
  nfr := F.nfr
  vis := fun b ob eb => by
    obtain ⟨h1, h2, h3, h4⟩ := F.vis b ob eb
    refine ⟨(hs.2 _ ?_).trans h1, h2, by rw [repl_keys]; exact h3, h4⟩
    rintro rfl
    exact h3 (List.mem_map.mpr ⟨_, ha, rfl⟩)
  tabs := F.tabs.step (fun o e => (hs.2 _ (Ne.symm (F.own _ ha).2.2.1)).trans e) (fun o e => (hs.2 _ (Ne.symm (F.own _ ha).2.2.2.1)).trans e) fun b ob vs _ _ hd _ eb => (hs.2 _ (by
    rintro rfl
    rw [(F.own _ ha).1] at eb; cases eb; exact hc _ hd)).trans eb
  tok := F.tok.le hle
  gens := F.gens
  drawn := F.drawn
  os := F.os
  ents := fun y e hy => by simp at hy
theorem FS.ownUniq (F : FS f G ρ s) {a : Addr} {o o' : Obj} (h : (a, o) ∈ G.own) (h' : (a, o') ∈ G.own) : o = o' := by
  have e := (F.own _ h).1; rw [(F.own _ h').1] at e; exact (Option.some.inj e).symm
theorem OwnList.replCell {a b : Addr} {o₀ o : Obj} {l : List PV} {v : Option Value} (F : FS f G ρ s) (ha : (a, o₀) ∈ G.own) (hd : o₀.data = .cell v) (h : OwnList G b l) : OwnList { G with own := repl a o G.own } b l := by
  obtain ⟨vs, n, h1, h2⟩ := h
  refine ⟨vs, n, repl_ne h1 ?_, h2⟩
  rintro rfl
  have := F.ownUniq ha h1; subst this; cases hd
/-- a cell of the frame's own is set -/
theorem FS.storeCel (F : FS f G ρ s) {x : Str} {v₀ : Option Value} {v : Value} {pv : PV} {c : Addr} {o₀ o : Obj} {h' : Heap} (hk : f.env.kindOf x = some .cell) (hc : f.env.cells.lookup x = some c) (ho : (c, o₀) ∈ G.own) (hh : f.h0.objs.size ≤ c) (hd : o₀.data = .cell v₀)
    (r : Rp G.τ G.κ v pv) (hs : Heap.SameBut c s.heap h') (e : h'.get? c = some o) (hd' : o.data = .cell (some v)) :
    FS f { G with own := repl c o G.own } ((x, .cel pv) :: ρ) { s with heap := h' } := by
  have F' := F.setOwn ho hs e (Nat.le_refl _) (fun vs q => by rw [hd] at q; cases q)
  refine { F' with ents := fun y ent hy => ?_ }
  have cellNe : ∀ {y : Str} {v' : Option Value}, y ≠ x → OwnCell f G y v' → OwnCell f { G with own := repl c o G.own } y v' := fun hne q => by
    obtain ⟨k1, c', o', k2, k3, k4, k5⟩ := q
    refine ⟨k1, c', o', k2, repl_ne k3 ?_, k4, k5⟩
    rintro rfl
    exact hne (F.ok.cinj _ _ _ k2 hc)
  rcases look_cons hy with ⟨rfl, rfl⟩ | ⟨hne, hy⟩
  · exact ⟨v, ⟨hk, c, o, hc, repl_self ho, hh, hd'⟩, r⟩
  · have := F.ents y ent hy
    cases ent with
    | loc pv => exact this
    | fre pv => exact this
    | dead => trivial
    | cel pv => obtain ⟨v', a, b⟩ := this; exact ⟨v', cellNe hne a, b⟩
    | ucel => obtain ⟨v', a⟩ := this; exact ⟨v', cellNe hne a⟩
    | owned l => obtain ⟨a, b, c, d, d'⟩ := this; exact ⟨a, b, c, d.replCell F ho hd, d'⟩
    | cown l => obtain ⟨b, c, d⟩ := this; exact ⟨b, cellNe hne c, d.replCell F ho hd⟩
    | fown l => obtain ⟨b, c, d⟩ := this; exact ⟨b, c, d.replCell F ho hd⟩

/-- a store, a target -/
structure AS (f : Fm sc dk tb) (ρ : Rho) (t : Value → Sem Unit) (pv : PV) (ρ' : Rho) : Prop where
  run : ∀ s G v, FS f G ρ s → Rp G.τ G.κ v pv → ∀ (Q : Unit → Shared → Prop) (E : Value → Shared → Prop),
    (∀ s' G', G.Lt G' → FS f G' ρ' s' → Q () s') → wpAny (model PG f.w) f.A (t v) Q E s
theorem FS.notCM (F : FS f G ρ s) : (f.env.scope.kind == .class || (f.env.scope.kind == .module && f.env.locals != f.env.globals)) = false := by rw [F.kindF]; rfl
theorem store_loc {x : Str} {pv : PV} {v : Value} (F : FS f G ρ s) (hk : f.env.kindOf x = some .local) (r : Rp G.τ G.κ v pv) {Q : Unit → Shared → Prop} {E : Value → Shared → Prop}
    (k : ∀ s' G', G.Lt G' → FS f G' ((x, .loc pv) :: ρ) s' → Q () s') : wpAny (model PG f.w) f.A (storeName f.env x v) Q E s := by
  have hp := F.notCM
  with_reducible refine wpAny_storeName_local hk F.ns (fun h' hn hs => ?_) hp
  exact k _ { G with m := upd G.m x v } ⟨.refl _, .refl _, rfl⟩ (F.storeLoc hk r hn hs)
theorem AS.loc {x : Str} {px : Pos} {pv : PV} (hk : f.env.kindOf x = some .local := by rfl) : AS f ρ (assign (.Name x px) f.env) pv ((x, .loc pv) :: ρ) :=
  ⟨fun s G v F r Q E k => by with_reducible exact wpAny_assign_Name (store_loc F hk r k)⟩

theorem SX.nil {Φ : Out → Prop} (h : Φ (.nx ρ)) : SX f ρ (execs [] f.env) Φ := ⟨fun s G F Q E k => by
  have q := k _ _ s G h (.refl _) ⟨rfl, F⟩
  with_reducible exact wpAny_execs_nil q⟩
def thenS (f : Fm sc dk tb) (rest : List Stmt) (Φ : Out → Prop) : Out → Prop
  | .nx ρ' => SX f ρ' (execs rest f.env) Φ
  | o => Φ o
theorem SX.cons {st : Stmt} {rest : List Stmt} {Φ : Out → Prop} (h : SX f ρ (exec st f.env) (thenS f rest Φ)) : SX f ρ (execs (st :: rest) f.env) Φ := ⟨fun s G F Q E k => by
  with_reducible refine wpAny_execs_cons ?_
  refine h.run s G F _ E fun o fl s' G' ho ht hok => ?_
  cases o with
  | nx ρ' =>
    obtain ⟨rfl, F'⟩ := hok
    exact SX.run ho s' G' F' Q E fun o2 fl2 s2 G2 h2 t2 ok2 => k o2 fl2 s2 G2 h2 (ht.trans t2) ok2
  | rt pv => obtain ⟨v, rfl, r⟩ := hok; exact k _ _ s' G' ho ht ⟨v, rfl, r⟩
  | bk ρ' => obtain ⟨rfl, r⟩ := hok; exact k _ _ s' G' ho ht ⟨rfl, r⟩
  | ct ρ' => obtain ⟨rfl, r⟩ := hok; exact k _ _ s' G' ho ht ⟨rfl, r⟩⟩
theorem SX.mono {t : Sem Flow} {Φ Ψ : Out → Prop} (h : SX f ρ t Φ) (hm : ∀ o, Φ o → Ψ o) : SX f ρ t Ψ := ⟨fun s G F Q E k => h.run s G F Q E fun o fl s' G' ho => k o fl s' G' (hm o ho)⟩
theorem SX.cons' {st : Stmt} {rest : List Stmt} {Φ Ψ : Out → Prop} (h : SX f ρ (exec st f.env) Ψ) (hm : ∀ o, Ψ o → thenS f rest Φ o) : SX f ρ (execs (st :: rest) f.env) Φ := SX.cons (h.mono hm)
theorem SX.weaken {ρ' : Rho} {t : Sem Flow} {Φ : Out → Prop} (h : SX f ρ' t Φ) (hs : SubR ρ' ρ) : SX f ρ t Φ := ⟨fun s G F Q E k => h.run s G (F.weaken hs) Q E k⟩
theorem SX.ret {e : Expr} {pos : Pos} {pv : PV} {Φ : Out → Prop} (h : EV f ρ (eval e f.env) pv) (hΦ : Φ (.rt pv)) : SX f ρ (exec (.Return (some e) pos) f.env) Φ := ⟨fun s G F Q E k => by
  with_reducible refine wpAny_Return_some ?_
  exact h.run s G F _ E fun v s' G' L F' r => k (.rt pv) _ s' G' hΦ L.lt ⟨v, rfl, F'.weaken trivial, r⟩⟩
theorem SX.assign {x : Str} {e : Expr} {p' pos : Pos} {pv : PV} {Φ : Out → Prop} (h : EV f ρ (eval e f.env) pv) (hΦ : Φ (.nx ((x, .loc pv) :: ρ))) (hk : f.env.kindOf x = some .local := by rfl)
    (hs : swapsWith e (some (.Name x p')) pos.line f.env = pure false := by rfl) : SX f ρ (exec (.Assign [.Name x p'] e pos) f.env) Φ := ⟨fun s G F Q E k => by
  with_reducible refine wpAny_Assign_Name ?_ hs
  exact h.run s G F _ E fun v s' G' L F' r => store_loc F' hk r fun s2 G2 t2 F2 => k _ _ s2 G2 hΦ (L.lt.trans t2) ⟨rfl, F2⟩⟩
theorem SX.ite {test : Expr} {body orelse : List Stmt} {pos : Pos} {b : Bool} {Φ : Out → Prop} (h : EB f ρ (isTrue test f.env (eval test f.env)) b) (h1 : b = true → SX f ρ (execs body f.env) Φ) (h2 : b = false → SX f ρ (execs orelse f.env) Φ) :
    SX f ρ (exec (.If test body orelse pos) f.env) Φ := ⟨fun s G F Q E k => by
  with_reducible refine wpAny_If ?_
  refine h.run s G F _ E fun s' G' L F' => ?_
  have k' : ∀ o fl s2 G2, Φ o → G'.Lt G2 → OutOk f G2 o fl s2 → Q fl s2 := fun o fl s2 G2 ho t2 ok => k o fl s2 G2 ho (L.lt.trans t2) ok
  cases b with
  | true => exact (h1 rfl).run s' G' F' Q E k'
  | false => exact (h2 rfl).run s' G' F' Q E k'⟩
theorem SX.aug {x : Str} {op : Operator} {e : Expr} {p' pos : Pos} {ent : Ent} {a b c : PV} {Φ : Out → Prop} (hx : ρ.lookup x = some ent) (hv : ent.val = some a) (h : EV f ρ (eval e f.env) b) (ho : OP2 f (inplaceOp op) a b c) (hΦ : Φ (.nx ((x, .loc c) :: ρ)))
    (hk : f.env.kindOf x = some .local := by rfl) (hn : (x == ("__classdict__" : Str)) = false := by decide) : SX f ρ (exec (.AugAssign (.Name x p') op e pos) f.env) Φ := ⟨fun s G F Q E k => by
  with_reducible refine wpAny_AugAssign_Name ?_
  refine load_ent F (F.ents x ent hx) hv hn fun v r => ?_
  refine h.run s G F _ E fun w s1 G1 L1 F1 r1 => ?_
  refine ho.run ρ s1 G1 v w F1 (r.mono L1.τ L1.κ) r1 _ E fun u s2 G2 L2 F2 r2 => ?_
  exact store_loc F2 hk r2 fun s3 G3 t3 F3 => k _ _ s3 G3 hΦ ((L1.trans L2).lt.trans t3) ⟨rfl, F3⟩⟩

/-- a while by an invariant with a measure -/
def WOut (R : Nat → Rho → Prop) (Φ : Out → Prop) (n : Nat) : Out → Prop
  | .nx ρ' => ∃ m ρ'', m < n ∧ SubR ρ'' ρ' ∧ R m ρ''
  | .ct ρ' => ∃ m ρ'', m < n ∧ SubR ρ'' ρ' ∧ R m ρ''
  | .bk ρ' => Φ (.nx ρ')
  | .rt pv => Φ (.rt pv)
theorem SX.whileR {test : Expr} {body : List Stmt} {pos : Pos} {Φ : Out → Prop} (R : Nat → Rho → Prop) (n : Nat) (h : R n ρ)
    (step : ∀ n ρ, R n ρ → ∃ b, EB f ρ (isTrue test f.env (eval test f.env)) b ∧ (b = false → Φ (.nx ρ)) ∧ (b = true → SX f ρ (execs body f.env) (WOut R Φ n))) :
    SX f ρ (exec (.While test body [] pos) f.env) Φ := ⟨fun s G F Q E k => by
  with_reducible refine wpAny_While ?_
  refine codeAny_whileLoop (fun n s => ∃ G' ρ', G.Lt G' ∧ FS f G' ρ' s ∧ R n ρ') ?_ n ⟨G, ρ, .refl _, F, h⟩
  rintro n s1 ⟨G1, ρ1, t1, F1, hw⟩
  obtain ⟨b, hb, h0, h1⟩ := step n ρ1 hw
  refine hb.run s1 G1 F1 _ _ fun s2 G2 L2 F2 => ?_
  cases b with
  | false => exact wpAny_execs_nil (k _ _ s2 G2 (h0 rfl) (t1.trans L2.lt) ⟨rfl, F2⟩)
  | true =>
    refine (h1 rfl).run s2 G2 F2 _ _ fun o fl s3 G3 ho t3 ok => ?_
    have tt := (t1.trans L2.lt).trans t3
    cases o with
    | nx ρ' => obtain ⟨rfl, F3⟩ := ok; obtain ⟨m, ρ'', hm, hs, hw⟩ := ho; exact ⟨m, hm, G3, ρ'', tt, F3.weaken hs, hw⟩
    | ct ρ' => obtain ⟨rfl, F3⟩ := ok; obtain ⟨m, ρ'', hm, hs, hw⟩ := ho; exact ⟨m, hm, G3, ρ'', tt, F3.weaken hs, hw⟩
    | bk ρ' => obtain ⟨rfl, F3⟩ := ok; exact k _ _ s3 G3 ho tt ⟨rfl, F3⟩
    | rt pv => obtain ⟨v, rfl, r⟩ := ok; exact k _ _ s3 G3 ho tt ⟨v, rfl, r⟩⟩
end
end Mine

end
section
open PySem PySem.W PyProof.Rows PySem.Calls PySem.Spec PySem.Challenge
namespace Mine
variable {sc : Scope} {dk : Nat} {tb : List Addr}

theorem binds_look {τ : Tau} {κ : Kap} (names : List Str) {vs : List Value} {pvs : List PV} (hl : names.length = pvs.length) (hnd : names.Nodup) (hr : RpAll τ κ vs pvs) {x : Str} {e : Ent} (h : (names.zip (pvs.map Ent.loc)).lookup x = some e) :
    x ∈ names ∧ ∃ v pv, e = .loc pv ∧ (names.zip vs).reverse.lookup x = some v ∧ Rp τ κ v pv := by
  induction names generalizing vs pvs with
  | nil => cases h
  | cons n names ih =>
    cases hr with
    | nil => cases hl
    | @cons v vs d pvs hv hvs =>
        rw [List.map_cons, List.zip_cons_cons] at h
        rw [List.zip_cons_cons, List.reverse_cons]
        obtain ⟨hn1, hn2⟩ := List.nodup_cons.mp hnd
        rcases look_cons h with ⟨rfl, rfl⟩ | ⟨hne, h⟩
        · refine ⟨.head _, v, d, rfl, ?_, hv⟩
          have : (names.zip vs).reverse.lookup x = none := by
            rw [List.lookup_eq_none_iff]
            intro p hp
            have hp' := List.mem_reverse.mp hp
            have : p.1 ∈ names := (List.of_mem_zip (a := p.1) (b := p.2) hp').1
            refine bne_iff_ne.mpr fun q => ?_
            rw [q] at hn1; exact hn1 this
          rw [List.lookup_append, this]
          simp
        · obtain ⟨h1, v', pv, e1, e2, e3⟩ := ih (Nat.succ.inj hl) hn2 hvs h
          refine ⟨.tail _ h1, v', pv, e1, ?_, e3⟩
          rw [List.lookup_append, e2]; rfl

def retOk (pv : PV) : Out → Prop
  | .rt p => p = pv
  | .nx _ => pv = .none
  | _ => False

theorem CT.plain {w : World} {a : Addr} {pvs : List PV} {pv : PV} {name qual : Str} {params : Arguments} {body : List Stmt} {dV kV doc pm cdv ct oc : Value} {an od : Option Addr} {osl : Array (Option Value)} {names : List Str}
    (ho : (hd.heap_39 w.params).lookup a = some ⟨oc, od, .func (fnOf name qual params body sc dV kV doc pm an cdv ct), osl⟩) (hcd : codeIn (hd.heap_39 w.params) cdv qual = true)
    (hbind : ∀ (s : Shared) (vs : List Value), vs.length = pvs.length → BindsTo s (fnOf name qual params body sc dV kV doc pm an cdv ct) ⟨vs, []⟩ (names.zip vs))
    (hlen : names.length = pvs.length) (hnd : names.Nodup) (hloc : names.all (fun x => sc.names.lookup x == some .local) = true) (hcell : sc.names.all (fun x => x.2 != .cell) = true)
    (hco : sc.isCoroutine = false) (hgen : sc.isGenerator = false) (hk : sc.kind = .function)
    (h : ∀ f : Fm sc dk tb, f.w = w → SX f (names.zip (pvs.map .loc)) (execs body f.env) (retOk pv)) (htb : ∀ b ∈ tb, b = 47 ∨ b = 54) : CT w tb (dk + 1) a pvs pv := ⟨by
  intro A g0 s τ κ vs hh hroom hunits hgl hkeep htabs htok hκ hvs R hR
  obtain ⟨X, g47, g54, p, loose, mg, mb, T⟩ := id hgl
  have X' := X.keeps hkeep
  have hbig : 54 < s.heap.objs.size := by obtain ⟨_, e, _⟩ := htabs.2; exact Heap.lt_size e
  refine codeAny_call_def (fd := fnOf name qual params body sc dV kV doc pm an cdv ct) (body := body) (binds := names.zip vs) (by exact o7 hroom) (X' _ _ ho) rfl (T.nolimit.keeps hkeep) (codeRec_of X' hcd) rfl (hbind s vs hvs.length) ?_ ?_ (fun h₁ hns hk₁ => ?_) hco hgen hk
  · intro x hx q
    have := List.all_eq_true.mp hcell x hx
    rw [q] at this; exact absurd this (by decide)
  · intro x hx
    have h1 : x.1 ∈ names := (List.of_mem_zip (a := x.1) (b := x.2) hx).1
    have := List.all_eq_true.mp hloc x.1 h1
    exact beq_iff_eq.mp this
  let f : Fm sc dk tb := { w := w, A := A.deeper (callEnv (fnOf name qual params body sc dV kV doc pm an cdv ct) s.heap.objs.size a), L := s.heap.objs.size, cells := [], qual := qual ++ ".<locals>.", func := some a, code := cdv, frame := (some s.heap.objs.size), g0 := g0, h0 := s.heap, κ0 := κ, br := [], out := [], rs := false, gens := s.gens, drawn := s.drawn, os := s.os }
  let G : Gh := ⟨τ, κ, fun x => (names.zip vs).reverse.lookup x, [], []⟩
  have F : FS f G (names.zip (pvs.map .loc)) { s with heap := h₁, toks := s.toks + (names.zip vs).length } :=
    { ok := ⟨hh, hgl, hk, (by show A.depth + 1 + dk < recursionLimit; exact o6 hroom), (by show A.units + 3 + 4 * dk + 80 < cLine; exact o8 hunits), hkeep, hbig, Nat.le_refl _, htb, (fun x y c e => nomatch e), (fun b q => nomatch q), (fun b q => nomatch q), (fun q => nomatch q)⟩
      keep := fun b o _ _ e => hk₁ b o e
      slots := fun b o hb => nomatch hb
      ns := hns
      own := fun p hp => nomatch hp
      nd := List.nodup_nil
      fr := fun p hp => nomatch hp
      nfr := List.nodup_nil
      vis := fun b o e => ⟨hk₁ b o (hκ b o e).1, ltNe (Heap.lt_size (hκ b o e).1), List.not_mem_nil, List.not_mem_nil, (hκ b o e).2.1, (hκ b o e).2.2, .inl e, List.not_mem_nil⟩
      tabs := htabs.keeps hk₁
      tok := htok.le (Nat.le_add_right _ _)
      gens := rfl
      drawn := rfl
      os := rfl
      ents := fun x e hx => by
        obtain ⟨h1, v, pv, rfl, h2, h3⟩ := binds_look names hlen hnd hvs hx
        have := List.all_eq_true.mp hloc x h1
        exact ⟨beq_iff_eq.mp this, v, h2, h3⟩ }
  refine (h f rfl).run _ G F _ _ fun o fl s' G' ho ht hok => ?_
  have fin : ∀ v, FS f G' [] s' → Rp G'.τ G'.κ v pv → R (.ok (.ret v)) s' := fun v F' r =>
    hR v s' G'.τ G'.κ ht.τ ht.κ (fun b o hb e => F'.keep b o hb ⟨(fun q => nomatch q), fun q => nomatch q⟩ e) F'.tabs F'.tok F'.gens F'.drawn F'.os (fun b o e => by obtain ⟨v1, _, _, _, v5, v6, v7, _⟩ := F'.vis b o e; exact ⟨v1, v5, v6, v7⟩) r
  cases o with
  | rt p => obtain ⟨v, rfl, F', r⟩ := hok; cases ho; exact fin v F' r
  | nx ρ' => obtain ⟨rfl, F'⟩ := hok; cases ho; exact fin .none (F'.weaken trivial) .none
  | bk ρ' => exact ho.elim
  | ct ρ' => exact ho.elim⟩
theorem len0 {vs : List Value} (h : vs.length = 0) : vs = [] := List.length_eq_zero_iff.mp h
theorem lenS {n : Nat} {vs : List Value} {C : List Value → Prop} (h : vs.length = n + 1) (f : ∀ a t, t.length = n → C (a :: t)) : C vs := by
  cases vs with
  | nil => cases h
  | cons a t => exact f a t (Nat.succ.inj h)
theorem len1 {vs : List Value} (h : vs.length = 1) : ∃ a, vs = [a] := lenS (n := 0) (C := fun x => ∃ a, x = [a]) h fun a t k => ⟨a, congrArg (a :: ·) (len0 k)⟩
theorem len2 {vs : List Value} (h : vs.length = 2) : ∃ a b, vs = [a, b] := lenS (n := 1) (C := fun x => ∃ a b, x = [a, b]) h fun a t k => (len1 k).elim fun b e => ⟨a, b, congrArg (a :: ·) e⟩
theorem len3 {vs : List Value} (h : vs.length = 3) : ∃ a b c, vs = [a, b, c] := lenS (n := 2) (C := fun x => ∃ a b c, x = [a, b, c]) h fun a t k => (len2 k).elim fun b e => e.elim fun c e => ⟨a, b, c, congrArg (a :: ·) e⟩
theorem len4 {vs : List Value} (h : vs.length = 4) : ∃ a b c d, vs = [a, b, c, d] := lenS (n := 3) (C := fun x => ∃ a b c d, x = [a, b, c, d]) h fun a t k => (len3 k).elim fun b e => e.elim fun c e => e.elim fun d e => ⟨a, b, c, d, congrArg (a :: ·) e⟩
theorem len6 {vs : List Value} (h : vs.length = 6) : ∃ a b c d e g, vs = [a, b, c, d, e, g] := lenS (n := 5) (C := fun x => ∃ a b c d e g, x = [a, b, c, d, e, g]) h fun a t k => lenS (n := 4) (C := fun t => ∃ x b c d e g, a :: t = [x, b, c, d, e, g]) k fun b t k => (len4 k).elim fun c e => e.elim fun d e => e.elim fun g e => e.elim fun i e => ⟨a, b, c, d, g, i, congrArg (fun t => a :: b :: t) e⟩
end Mine

end
section
open PySem PySem.W PyProof.Rows PySem.Calls PySem.Spec PySem.Challenge
namespace Mine
variable {sc : Scope} {dk : Nat} {tb : List Addr}
section
variable {f : Fm sc dk tb} {G : Gh} {ρ : Rho} {s : Shared}

/-- all that stands but the frame's own dict, as the library's ledger -/
def allNews (L : Addr) (h : Heap) : List (Addr × Obj) := (List.range h.objs.size).filterMap fun b => if b = L then none else (h.get? b).map fun o => (b, o)
theorem allNews_mem {L : Addr} {h : Heap} {b : Addr} {o : Obj} (e : h.get? b = some o) (hb : b ≠ L) : (b, o) ∈ allNews L h :=
  List.mem_filterMap.mpr ⟨b, List.mem_range.mpr (Heap.lt_size e), by rw [if_neg hb, e]; rfl⟩
theorem get_empty (b : Addr) : Heap.get? {} b = none := by simp [Heap.get?]
theorem allNews_news (L : Addr) (h : Heap) : News {} L h (allNews L h) := by
  intro p hp
  obtain ⟨b, hb, e⟩ := List.mem_filterMap.mp hp
  by_cases q : b = L
  · rw [if_pos q] at e; cases e
  · rw [if_neg q] at e
    cases g : h.get? b with
    | none => rw [g] at e; cases e
    | some o => rw [g] at e; cases e; exact ⟨g, q, get_empty b⟩
theorem FS.fr0 (F : FS f G ρ s) : Fr {} f.env.locals s.heap G.m := ⟨F.ns, fun b o e => (by rw [get_empty] at e; cases e), Nat.zero_le _⟩
theorem FS.news0 (F : FS f G ρ s) : News {} f.env.locals s.heap (allNews f.env.locals s.heap) := allNews_news _ _
theorem FS.ofLib (F : FS f G ρ s) {h' : Heap} {tk : Nat} {news : List (Addr × Obj)} (F' : Fr {} f.env.locals h' G.m) (N' : News {} f.env.locals h' (news ++ allNews f.env.locals s.heap)) (hle : s.toks ≤ tk) :
    FS f G ρ { s with heap := h', toks := tk } := by
  have hk : ∀ b o, b ≠ f.env.locals → s.heap.get? b = some o → h'.get? b = some o := fun b o hb e => (N' _ (List.mem_append_right _ (allNews_mem e hb))).1
  exact F.ext (fun b o _ hb e => hk b o hb e) F'.ns (F.tabs.step (fun o e => hk _ o F.big47 e) (fun o e => hk _ o F.big54 e) fun b o vs _ _ hd _ e => hk b o (notCode F.ns e hd) e) hle

theorem FS.alloc (F : FS f G ρ s) (o : Obj) (hf : o.isFreed = false) : ∃ G', G.Le G' ∧ FS f G' ρ { s with heap := s.heap.push o } ∧ G'.κ s.heap.objs.size = some o := by
  have F1 := F.all (h' := s.heap.push o) (tk := s.toks) (fun b ob e => Heap.get?_push_of_some _ e) (Nat.le_refl _)
  obtain ⟨F2, L⟩ := F1.addK (F.far (Nat.le_refl _)) (Heap.get?_push_size _ hf)
  exact ⟨_, L, F2, addK_self _ _ _⟩
theorem FS.allocLib (F : FS f G ρ s) {h' : Heap} {tk : Nat} {a : Addr} {o : Obj} (F' : Fr {} f.env.locals h' G.m) (N' : News {} f.env.locals h' ((a, o) :: allNews f.env.locals s.heap)) (hle : s.toks ≤ tk) (ha : s.heap.objs.size ≤ a) :
    ∃ G', G.Le G' ∧ FS f G' ρ { s with heap := h', toks := tk } ∧ G'.κ a = some o ∧ G'.τ = G.τ := by
  have F1 := F.ofLib (news := [(a, o)]) F' N' hle
  obtain ⟨F2, L⟩ := F1.addK (F.far ha) (N' _ (.head _)).1
  exact ⟨_, L, F2, addK_self _ _ _, rfl⟩

theorem EV.tuple {elts : List Expr} {k : Nat} {pos : Pos} {pvs : List PV} (h : EL f ρ (spliced (backTo pos (starEach elts f.env))) pvs) (hsz : pvs.length ≤ sizeLine := by simp only [List.length_cons, List.length_nil]; decide) : EV f ρ (eval (.Tuple elts k pos) f.env) (.tup pvs) :=
  ⟨fun s G F Q E k => by
    with_reducible refine Tuple_ ?_
    refine h.run s G F _ E fun vs s₁ G₁ L₁ F₁ r₁ => ?_
    obtain ⟨G₂, L₂, F₂, e⟩ := F₁.alloc (tupOf vs.toArray 0) rfl
    have hd : sizeOk (Data.seq vs.toArray) := by show vs.toArray.size ≤ sizeLine; rw [List.size_toArray, r₁.length]; exact hsz
    exact wpAny_newObj_type (k _ _ G₂ (L₁.trans L₂) F₂ (.tup e (r₁.mono L₂.τ L₂.κ))) hd⟩
theorem EV.list {elts : List Expr} {pos : Pos} {pvs : List PV} (h : EL f ρ (spliced (backTo pos (starEach elts f.env))) pvs) (hsz : pvs.length ≤ sizeLine := by simp only [List.length_cons, List.length_nil]; decide) : EV f ρ (eval (.List elts pos) f.env) (.list pvs) :=
  ⟨fun s G F Q E k => by
    with_reducible refine List_ ?_
    refine h.run s G F _ E fun vs s₁ G₁ L₁ F₁ r₁ => ?_
    obtain ⟨G₂, L₂, F₂, e⟩ := F₁.alloc (listOf vs.toArray 0) rfl
    have hd : sizeOk (Data.seq vs.toArray) := by show vs.toArray.size ≤ sizeLine; rw [List.size_toArray, r₁.length]; exact hsz
    exact wpAny_newObj_type (k _ _ G₂ (L₁.trans L₂) F₂ (.list e (r₁.mono L₂.τ L₂.κ))) hd⟩

theorem Rp.isTup {v : Value} {l : List PV} (h : Rp G.τ G.κ v (.tup l)) : ∃ a vs n, v = .ref a ∧ G.κ a = some (tupOf vs.toArray n) ∧ RpAll G.τ G.κ vs l := by
  cases h; exact ⟨_, _, _, rfl, ‹_›, ‹_›⟩
theorem Rp.isList {v : Value} {l : List PV} (h : Rp G.τ G.κ v (.list l)) : ∃ a vs n, v = .ref a ∧ G.κ a = some (listOf vs.toArray n) ∧ RpAll G.τ G.κ vs l := by
  cases h; exact ⟨_, _, _, rfl, ‹_›, ‹_›⟩
theorem FS.tupAt (F : FS f G ρ s) {a : Addr} {its : Array Value} {n : Nat} (e : G.κ a = some (tupOf its n)) : IsTup s.heap a its := ⟨_, (F.vis a _ e).1, rfl, n, rfl⟩
theorem FS.listAt (F : FS f G ρ s) {a : Addr} {its : Array Value} {n : Nat} (e : G.κ a = some (listOf its n)) : s.heap.IsList a its := ⟨_, (F.vis a _ e).1, rfl, n, rfl⟩
theorem FS.extSize (F : FS f G ρ s) {h' : Heap} (he : Heap.ExtBut s.heap.objs.size s.heap h') : FS f G ρ { s with heap := h' } :=
  F.all (tk := s.toks) (fun b o e => he b o (ltNe (Heap.lt_size e)) e) (Nat.le_refl _)
theorem RpAll.len1 {τ : Tau} {κ : Kap} {vs : List Value} {a : PV} (h : RpAll τ κ vs [a]) : ∃ v, vs = [v] ∧ Rp τ κ v a := by
  cases h with | cons h r => cases r; exact ⟨_, rfl, h⟩
theorem RpAll.len2 {τ : Tau} {κ : Kap} {vs : List Value} {a b : PV} (h : RpAll τ κ vs [a, b]) : ∃ v w, vs = [v, w] ∧ Rp τ κ v a ∧ Rp τ κ w b := by
  cases h with | cons h r => cases r with | cons h2 r => cases r; exact ⟨_, _, rfl, h, h2⟩

/-- a, b = a call that gives a pair -/
theorem SX.unpack2 {x y : Str} {px py tp pos : Pos} {k : Nat} {e : Expr} {a b : PV} {Φ : Out → Prop} (h : EV f ρ (eval e f.env) (.tup [a, b])) (hΦ : Φ (.nx ((y, .loc b) :: (x, .loc a) :: ρ)))
    (hx : f.env.kindOf x = some .local := by rfl) (hy : f.env.kindOf y = some .local := by rfl)
    (hs : swapsWithSole [.Tuple [.Name x px, .Name y py] k tp] e pos.line f.env = pure false := by rfl) (hw : swappedStores [.Tuple [.Name x px, .Name y py] k tp] e f.env = pure none := by rfl) :
    SX f ρ (exec (.Assign [.Tuple [.Name x px, .Name y py] k tp] e pos) f.env) Φ := ⟨fun s G F Q E k => by
  with_reducible refine Assign_Tuple ?_ hs hw
  refine h.run s G F _ E fun v s₁ G₁ L₁ F₁ r₁ => ?_
  obtain ⟨t, vs, n, rfl, e1, r2⟩ := r₁.isTup
  obtain ⟨v, w, rfl, rv, rw'⟩ := r2.len2
  refine assign_Tuple_tuple F₁.ok.hh (F₁.tupAt e1) rfl rfl fun h' he => ?_
  have F₂ := F₁.extSize he
  refine assignInOrder_cons (wpAny_assign_Name (store_loc F₂ hx rv fun s3 G3 t3 F3 => ?_))
  refine assignInOrder_cons (wpAny_assign_Name (store_loc F3 hy (rw'.mono t3.τ t3.κ) fun s4 G4 t4 F4 => ?_))
  exact assignInOrder_nil (k _ _ s4 G4 hΦ (L₁.lt.trans (t3.trans t4)) ⟨rfl, F4⟩)⟩
/-- a, b = x, y as the compiler swaps the stores -/
theorem SX.swap2 {x y : Str} {px py tp pos : Pos} {k : Nat} {e : Expr} {a b : PV} {Φ : Out → Prop} (h : EV f ρ (eval e f.env) (.tup [a, b])) (hΦ : Φ (.nx ((x, .loc a) :: (y, .loc b) :: ρ)))
    (hx : f.env.kindOf x = some .local := by rfl) (hy : f.env.kindOf y = some .local := by rfl)
    (hs : swapsWithSole [.Tuple [.Name x px, .Name y py] k tp] e pos.line f.env = pure false := by rfl) (hw : swappedStores [.Tuple [.Name x px, .Name y py] k tp] e f.env = pure (some [x, y]) := by rfl) :
    SX f ρ (exec (.Assign [.Tuple [.Name x px, .Name y py] k tp] e pos) f.env) Φ := ⟨fun s G F Q E k => by
  with_reducible refine Assign_Tuple_swapped ?_ hs hw
  refine h.run s G F _ E fun v s₁ G₁ L₁ F₁ r₁ => ?_
  obtain ⟨t, vs, n, rfl, e1, r2⟩ := r₁.isTup
  obtain ⟨v, w, rfl, rv, rw'⟩ := r2.len2
  refine unpackItems_tuple (items := [v, w].toArray) F₁.ok.hh (F₁.tupAt e1) fun h' he => ?_
  have F₂ := F₁.extSize he
  refine assignInOrder_cons (bindName_ (store_loc F₂ hy rw' fun s3 G3 t3 F3 => ?_))
  refine assignInOrder_cons (bindName_ (store_loc F3 hx (rv.mono t3.τ t3.κ) fun s4 G4 t4 F4 => ?_))
  exact assignInOrder_nil (k _ _ s4 G4 hΦ (L₁.lt.trans (t3.trans t4)) ⟨rfl, F4⟩)⟩

/-! operations on lists and texts -/
theorem OP2.addL {x y : List PV} (hsz : x.length + y.length ≤ sizeLine) : OP2 f (binaryOp .Add) (.list x) (.list y) (.list (x ++ y)) := ⟨fun ρ s G v w F hv hw Q E k => by
  obtain ⟨a, vs, n, rfl, e1, r1⟩ := hv.isList
  obtain ⟨b, ws, n', rfl, e2, r2⟩ := hw.isList
  refine add_arrays F.fr0 F.news0 (F.listAt e1) (F.listAt e2) (fun h' F' N' => ?_) (by simp only [List.size_toArray, r1.length, r2.length]; exact hsz)
  obtain ⟨G', L, F1, e, _⟩ := F.allocLib (tk := s.toks) F' N' (Nat.le_refl _) (Nat.le_refl _)
  exact k _ _ G' L F1 (.list (vs := vs ++ ws) (n := 0) e ((r1.append r2).mono L.τ L.κ))⟩
theorem OP2.addS {a b : PV} {x y : Str} (ha : a.asS = some x) (hb : b.asS = some y) (hsz : x.length + y.length ≤ sizeLine) : OP2 f (binaryOp .Add) a b (.str (x ++ y)) := ⟨fun ρ s G v w F hv hw Q E k => by
  obtain ⟨t, rfl⟩ := hv.isStr ha
  obtain ⟨u, rfl⟩ := hw.isStr hb
  refine grow (add_str (fun t' tk g => ?_) hsz)
  exact k _ _ G (.refl _) (F.toks g.toks) (.str _ _)⟩
theorem foldl_replicate (vs : List Value) : ∀ n, (List.foldl (fun x1 x2 => x1 ++ x2) (#[] : Array Value) (List.replicate n vs.toArray)) = (List.replicate n vs).flatten.toArray := by
  intro n
  have : ∀ (l : List (Array Value)) (acc : Array Value), List.foldl (fun x1 x2 => x1 ++ x2) acc l = acc ++ (l.map Array.toList).flatten.toArray := by
    intro l
    induction l with
    | nil => intro acc; simp
    | cons x l ih => intro acc; rw [List.foldl_cons, ih]; apply Array.ext'; simp [Array.append_assoc]
  rw [this]; simp
theorem RpAll.flat {τ : Tau} {κ : Kap} {vs : List Value} {ds : List PV} (h : RpAll τ κ vs ds) : ∀ n, RpAll τ κ (List.replicate n vs).flatten (List.replicate n ds).flatten
  | 0 => .nil
  | n + 1 => by rw [List.replicate_succ, List.replicate_succ, List.flatten_cons, List.flatten_cons]; exact h.append (h.flat n)
theorem OP2.mulS {a b : PV} {x : Str} {j : Int} (ha : a.asS = some x) (hb : b.asI = some j) (hm : MulOk x j) : OP2 f (binaryOp .Mult) a b (.str (Txt.mul x j)) := ⟨fun ρ s G v w F hv hw Q E k => by
  obtain ⟨t, rfl⟩ := hv.isStr ha
  obtain ⟨u, rfl⟩ := hw.isInt hb
  refine grow (SB.mul hm fun t' tk g => ?_)
  exact k _ _ G (.refl _) (F.toks g.toks) (.str _ _)⟩
end
end Mine

end
section
open PySem PySem.W PyProof.Rows PySem.Calls PySem.Spec PySem.Challenge
namespace Mine
variable {sc : Scope} {dk : Nat} {tb : List Addr}
/-- a built-in's call -/
structure OPL (f : Fm sc dk tb) (g : List Value → Sem Value) (pvs : List PV) (c : PV) : Prop where
  run : ∀ ρ s G vs, FS f G ρ s → RpAll G.τ G.κ vs pvs → ∀ (Q : Value → Shared → Prop) (E : Value → Shared → Prop),
    (∀ u s' G', G.Le G' → FS f G' ρ s' → Rp G'.τ G'.κ u c → Q u s') → wpAny (model PG f.w) f.A (g vs) Q E s
section
variable {f : Fm sc dk tb} {G : Gh} {ρ : Rho} {s : Shared}
theorem EV.blt {x : Str} {xp pos : Pos} {id : String} {e : Expr} {rest : List Expr} {pvs : List PV} {pv : PV} (hx : nsIn (hd.heap_39 f.w.params) mainGlobals x = some .none) (hb : bootBuiltins x = some (.builtin id))
    (hargs : EL f ρ (spliced (backTo pos (starEach (e :: rest) f.env))) pvs) (C : OPL f (fun vs => PySem.call (.builtin id) vs) pvs pv) (hkd : f.env.kindOf x = some .globalImplicit := by rfl)
    (hn : x ≠ "__name__" := by decide) (hd : (x == ("__debug__" : Str)) = false := by decide) (he : starEach (e :: rest) f.env = (false, eval e f.env) :: starEach rest f.env := by rfl) (hplain : (backTo pos (starEach rest f.env)).any (·.1) = false := by rfl)
    (he' : eval (.Call (.Name x xp) (e :: rest) [] pos) f.env = (do callWith pos (← eval (.Name x xp) f.env) [] (backTo pos (starEach (e :: rest) f.env)) (backToKw pos (keywordEach [] f.env))) := by rfl) :
    EV f ρ (eval (.Call (.Name x xp) (e :: rest) [] pos) f.env) pv :=
  ⟨fun s G F Q E k => by
    with_reducible refine Call_ ?_ he'
    refine eval_bltn F hx hb hn hkd hd ?_
    with_reducible refine PyProof.Rows.callWith_builtin1 ?_ he hplain
    refine hargs.run s G F _ _ fun vs s₁ G₁ L₁ F₁ r₁ => ?_
    exact C.run ρ s₁ G₁ vs F₁ r₁ _ _ fun v s' G' L F' r => k v s' G' (L₁.trans L) F' r⟩
theorem EV.ty {x : Str} {xp pos : Pos} {T : String} {e : Expr} {rest : List Expr} {pvs : List PV} {pv : PV} (hx : nsIn (hd.heap_39 f.w.params) mainGlobals x = some .none) (hb : bootBuiltins x = some (.type T))
    (hargs : EL f ρ (spliced (backTo pos (starEach (e :: rest) f.env))) pvs) (C : OPL f (fun vs => PySem.call (.type T) vs) pvs pv) (hkd : f.env.kindOf x = some .globalImplicit := by rfl)
    (hn : x ≠ "__name__" := by decide) (hd : (x == ("__debug__" : Str)) = false := by decide) (he : starEach (e :: rest) f.env = (false, eval e f.env) :: starEach rest f.env := by rfl) (hplain : (backTo pos (starEach rest f.env)).any (·.1) = false := by rfl)
    (he' : eval (.Call (.Name x xp) (e :: rest) [] pos) f.env = (do callWith pos (← eval (.Name x xp) f.env) [] (backTo pos (starEach (e :: rest) f.env)) (backToKw pos (keywordEach [] f.env))) := by rfl) :
    EV f ρ (eval (.Call (.Name x xp) (e :: rest) [] pos) f.env) pv :=
  ⟨fun s G F Q E k => by
    with_reducible refine Call_ ?_ he'
    refine eval_bltn F hx hb hn hkd hd ?_
    with_reducible refine PyProof.Rows.callWith_type1 ?_ he hplain
    refine hargs.run s G F _ _ fun vs s₁ G₁ L₁ F₁ r₁ => ?_
    exact C.run ρ s₁ G₁ vs F₁ r₁ _ _ fun v s' G' L F' r => k v s' G' (L₁.trans L) F' r⟩
theorem EL.cast {t : Sem (List Value)} {p q : List PV} (h : EL f ρ t p) (e : p = q) : EL f ρ t q := e ▸ h
theorem EV.cast {t : Sem Value} {p q : PV} (h : EV f ρ t p) (e : p = q) : EV f ρ t q := e ▸ h
theorem EB.cast {t : Sem Bool} {p q : Bool} (h : EB f ρ t p) (e : p = q) : EB f ρ t q := e ▸ h
theorem OPL.divmod {a b : PV} {i j : Int} (ha : a.asI = some i) (hb : b.asI = some j) (h0 : 0 < j) (hp : Builtin.divisionGoesByPylong i j = false) : OPL f (fun vs => PySem.call (.builtin "divmod") vs) [a, b] (.tup [.int (i / j), .int (i % j)]) := ⟨fun ρ s G vs F hvs Q E k => by
  obtain ⟨v, w, rfl, hv, hw⟩ := hvs.len2
  obtain ⟨t, rfl⟩ := hv.isInt ha
  obtain ⟨u, rfl⟩ := hw.isInt hb
  refine divmod_N F.fr0 F.news0 (Int.ne_of_gt h0) (fun h' F' N' => ?_) (.inl hp)
  rw [Int.fdiv_eq_ediv_of_nonneg i (Int.le_of_lt h0), Int.fmod_eq_emod_of_nonneg i (Int.le_of_lt h0)] at N'
  obtain ⟨G1, L1, F1, e1, et⟩ := F.allocLib (tk := s.toks + 1 + 1) F' N' (by exact o297) (Nat.le_refl _)
  obtain ⟨F2, L2⟩ := F1.addT (t := s.toks) (.int (i / j)) (by rw [et]; exact F.tok.none (Nat.le_refl _)) F.tok.1 (Nat.lt_succ_of_lt (Nat.lt_succ_self _))
  obtain ⟨F3, L3⟩ := F2.addT (t := s.toks + 1) (.int (i % j)) (by
    show addT G1.τ s.toks _ (s.toks + 1) = none
    unfold addT; rw [if_neg (Nat.succ_ne_self _), et]; exact F.tok.none (Nat.le_succ _)) (Nat.succ_pos _) (Nat.lt_succ_self _)
  refine k _ _ _ ((L1.trans L2).trans L3) F3 (.tup (n := 0) (vs := [.int (i / j) s.toks, .int (i % j) (s.toks + 1)]) (L3.κ _ _ (L2.κ _ _ e1)) (.cons (.int ?_) (.cons (.int ?_) .nil)))
  · exact L3.τ _ _ (addT_self _ _ _)
  · exact addT_self _ _ _⟩
/-- methods of a value -/
theorem EV.bitLength {o : Expr} {apos pos : Pos} {a : PV} {i : Int} (h : EV f ρ (eval o f.env) a) (ha : a.asI = some i)
    {pl : Sem Bool} (he' : eval (.Call (.Attribute o (Str.ofString "bit_length") apos) [] [] pos) f.env = (do
      let ov ← eval o f.env
      standAt apos.atName
      let (f', first) ← holding [ov] (getMethod ov (Str.ofString "bit_length") pl)
      callWith pos f' first (backTo pos (starEach [] f.env)) []) := by rfl) : EV f ρ (eval (.Call (.Attribute o (Str.ofString "bit_length") apos) [] [] pos) f.env) (.int (Builtin.Int.intBits i)) :=
  ⟨fun s G F Q E k => by
    with_reducible refine MethodCall_ ?_ he'
    refine h.run s G F _ E fun v s₁ G₁ L₁ F₁ r₁ => ?_
    obtain ⟨t, rfl⟩ := r₁.isInt ha
    with_reducible refine getMethod_int_bit_length ?_
    obtain ⟨G', L, F', e⟩ := F₁.newTok (.int (Builtin.Int.intBits i))
    refine callWith_method0 (call_int_bit_length ?_)
    exact k _ _ G' (L₁.trans L) F' (.int e)⟩

/-! conditions -/
theorem EB.int {e : Expr} {a : PV} {i : Int} (h : EV f ρ (eval e f.env) a) (ha : a.asI = some i) (he : isTrue e f.env (eval e f.env) = (do let v ← eval e f.env; standAt e.pos; holding [v] (truthy v)) := by rfl) : EB f ρ (isTrue e f.env (eval e f.env)) (i != 0) :=
  ⟨fun s G F Q E k => by
    with_reducible refine isTrue_plain ?_ he
    refine h.run s G F _ E fun v s₁ G₁ L₁ F₁ r₁ => ?_
    obtain ⟨t, rfl⟩ := r₁.isInt ha
    with_reducible exact truthy_int (k _ G₁ L₁ F₁)⟩
theorem EB.bool {e : Expr} {b : Bool} (h : EV f ρ (eval e f.env) (.bool b)) (he : isTrue e f.env (eval e f.env) = (do let v ← eval e f.env; standAt e.pos; holding [v] (truthy v)) := by rfl) : EB f ρ (isTrue e f.env (eval e f.env)) b :=
  ⟨fun s G F Q E k => by
    with_reducible refine isTrue_plain ?_ he
    refine h.run s G F _ E fun v s₁ G₁ L₁ F₁ r₁ => ?_
    cases r₁
    with_reducible exact wpAny_truthy_bool (k _ G₁ L₁ F₁)⟩
theorem EB.not {e : Expr} {b : Bool} {pos : Pos} {whole : Sem Value} (h : EB f ρ (isTrue e f.env (eval e f.env)) b) : EB f ρ (isTrue (.UnaryOp .Not e pos) f.env whole) (!b) :=
  ⟨fun s G F Q E k => by
    with_reducible refine wpAny_isTrue_Not ?_
    exact h.run s G F _ E fun s₁ G₁ L₁ F₁ => k _ G₁ L₁ F₁⟩
theorem EB.or2 {e₁ e₂ : Expr} {b₁ b₂ : Bool} {pos : Pos} {whole : Sem Value} (h1 : EB f ρ (isTrue e₁ f.env (eval e₁ f.env)) b₁) (h2 : b₁ = false → EB f ρ (isTrue e₂ f.env (eval e₂ f.env)) b₂) : EB f ρ (isTrue (.BoolOp .Or [e₁, e₂] pos) f.env whole) (b₁ || b₂) :=
  ⟨fun s G F Q E k => by
    with_reducible refine isTrue_or ?_
    refine h1.run s G F _ E fun s₁ G₁ L₁ F₁ => ?_
    cases b₁ with
    | true => exact k _ G₁ L₁ F₁
    | false =>
      simp only [Bool.false_eq_true, if_false]
      with_reducible refine isTrue_or ?_
      refine (h2 rfl).run s₁ G₁ F₁ _ E fun s₂ G₂ L₂ F₂ => ?_
      cases b₂ with
      | true => exact k _ G₂ (L₁.trans L₂) F₂
      | false =>
        simp only [Bool.false_eq_true, if_false]
        with_reducible refine isTrue_or_nil ?_
        exact k _ G₂ (L₁.trans L₂) F₂⟩
theorem EB.and2 {e₁ e₂ : Expr} {b₁ b₂ : Bool} {pos : Pos} {whole : Sem Value} (h1 : EB f ρ (isTrue e₁ f.env (eval e₁ f.env)) b₁) (h2 : b₁ = true → EB f ρ (isTrue e₂ f.env (eval e₂ f.env)) b₂) : EB f ρ (isTrue (.BoolOp .And [e₁, e₂] pos) f.env whole) (b₁ && b₂) :=
  ⟨fun s G F Q E k => by
    with_reducible refine isTrue_and ?_
    refine h1.run s G F _ E fun s₁ G₁ L₁ F₁ => ?_
    cases b₁ with
    | false => exact k _ G₁ L₁ F₁
    | true =>
      simp only [if_true]
      with_reducible refine isTrue_and ?_
      refine (h2 rfl).run s₁ G₁ F₁ _ E fun s₂ G₂ L₂ F₂ => ?_
      cases b₂ with
      | false => exact k _ G₂ (L₁.trans L₂) F₂
      | true =>
        simp only [if_true]
        with_reducible refine isTrue_and_nil ?_
        exact k _ G₂ (L₁.trans L₂) F₂⟩
theorem EV.ifexp {test e₁ e₂ : Expr} {pos : Pos} {b : Bool} {a : PV} (ht : EB f ρ (isTrue test f.env (eval test f.env)) b) (h1 : b = true → EV f ρ (eval e₁ f.env) a) (h2 : b = false → EV f ρ (eval e₂ f.env) a) : EV f ρ (eval (.IfExp test e₁ e₂ pos) f.env) a :=
  ⟨fun s G F Q E k => by
    with_reducible refine wpAny_IfExp ?_
    refine ht.run s G F _ E fun s₁ G₁ L₁ F₁ => ?_
    cases b with
    | true => exact (h1 rfl).run s₁ G₁ F₁ Q E fun v s₂ G₂ L₂ F₂ r => k v s₂ G₂ (L₁.trans L₂) F₂ r
    | false => exact (h2 rfl).run s₁ G₁ F₁ Q E fun v s₂ G₂ L₂ F₂ r => k v s₂ G₂ (L₁.trans L₂) F₂ r⟩
end
end Mine

end
section
open PySem PySem.W PyProof.Rows PySem.Calls PySem.Spec PySem.Challenge
namespace Mine
variable {sc : Scope} {dk : Nat} {tb : List Addr}
section
variable {f : Fm sc dk tb} {G : Gh} {ρ : Rho} {s : Shared}
def Ent.isCel : Ent → Bool
  | .cel _ => true
  | .ucel => true
  | .cown _ => true
  | _ => false
theorem EntOk.ownCell {x : Str} {e : Ent} (h : EntOk f G x e) (he : e.isCel = true) : ∃ v, OwnCell f G x v := by
  cases e with
  | cel pv => obtain ⟨v, a, _⟩ := h; exact ⟨_, a⟩
  | ucel => exact h
  | cown l => obtain ⟨v, a, _⟩ := h; exact ⟨_, a⟩
  | loc _ | fre _ | owned _ | fown _ | dead => cases he
theorem store_cel {x : Str} {pv : PV} {v : Value} {e : Ent} (F : FS f G ρ s) (hx : ρ.lookup x = some e) (he : e.isCel = true) (r : Rp G.τ G.κ v pv) {Q : Unit → Shared → Prop} {E : Value → Shared → Prop}
    (k : ∀ s' G', G.Lt G' → FS f G' ((x, .cel pv) :: ρ) s' → Q () s') : wpAny (model PG f.w) f.A (storeName f.env x v) Q E s := by
  obtain ⟨v₀, hk, c, o, hc, ho, hh, hd⟩ := (F.ents x e hx).ownCell he
  have hcell : s.heap.IsCell c v₀ := ⟨o, (F.own _ ho).1, hd⟩
  have hkf := F.kindF
  with_reducible refine wpAny_storeName_cell hkf hk hc hcell fun h' hc' hs => ?_
  obtain ⟨o', e', hd'⟩ := hc'
  exact k _ { G with own := repl c o' G.own } ⟨.refl _, .refl _, rfl⟩ (F.storeCel hk hc ho hh hd r hs e' hd')
theorem AS.cel {x : Str} {px : Pos} {pv : PV} {e : Ent} (hx : ρ.lookup x = some e) (he : e.isCel = true) : AS f ρ (assign (.Name x px) f.env) pv ((x, .cel pv) :: ρ) :=
  ⟨fun s G v F r Q E k => by with_reducible exact wpAny_assign_Name (store_cel F hx he r k)⟩
theorem SX.assignC {x : Str} {e : Expr} {p' pos : Pos} {pv : PV} {ent : Ent} {Φ : Out → Prop} (h : EV f ρ (eval e f.env) pv) (hx : ρ.lookup x = some ent) (he : ent.isCel = true) (hΦ : Φ (.nx ((x, .cel pv) :: ρ)))
    (hs : swapsWith e (some (.Name x p')) pos.line f.env = pure false := by rfl) : SX f ρ (exec (.Assign [.Name x p'] e pos) f.env) Φ := ⟨fun s G F Q E k => by
  with_reducible refine wpAny_Assign_Name ?_ hs
  exact h.run s G F _ E fun v s' G' L F' r => store_cel F' hx he r fun s2 G2 t2 F2 => k _ _ s2 G2 hΦ (L.lt.trans t2) ⟨rfl, F2⟩⟩
def PV.plain : PV → Bool
  | .none | .bool _ | .int _ | .rint _ | .str _ | .tstr _ => true
  | _ => false

/-! a list of the frame's own -/
def Ent.isOwn : Ent → Bool
  | .owned _ => true
  | .cown _ => true
  | .fown _ => true
  | _ => false
def cleanE (e : Ent) : Ent := if e.isOwn then .dead else e
def clean (ρ : Rho) : Rho := ρ.map fun p => (p.1, cleanE p.2)
theorem clean_look {x : Str} {e : Ent} : ∀ {ρ : Rho}, (clean ρ).lookup x = some e → ∃ e₀, ρ.lookup x = some e₀ ∧ e = cleanE e₀
  | (y, d) :: r, h => by
    have h : ((y, cleanE d) :: clean r).lookup x = some e := h
    rw [List.lookup_cons] at h ⊢
    cases q : x == y with
    | true => rw [q] at h; exact ⟨d, rfl, (Option.some.inj h).symm⟩
    | false => rw [q] at h; exact clean_look h
theorem cell_ne {a c : Addr} {o : Obj} {vs : Array Value} {n : Nat} {v : Option Value} (F : FS f G ρ s) (ha : (a, listOf vs n) ∈ G.own) (hc : (c, o) ∈ G.own) (hd : o.data = .cell v) : c ≠ a := by
  rintro rfl
  have := F.ownUniq ha hc; subst this; cases hd
theorem FS.setList {a : Addr} {vs ws : List Value} {n n' : Nat} {h' : Heap} {tk : Nat} (F : FS f G ρ s) (ha : (a, listOf vs.toArray n) ∈ G.own) (hs : Heap.SameBut a s.heap h') (e : h'.get? a = some (listOf ws.toArray n')) (hle : s.toks ≤ tk) :
    FS f { G with own := repl a (listOf ws.toArray n') G.own } (clean ρ) { s with heap := h', toks := tk } := by
  have F' := F.setOwn ha hs e hle (fun vs q => by cases q)
  refine { F' with ents := fun y ent hy => ?_ }
  obtain ⟨e₀, h0, rfl⟩ := clean_look hy
  have := F.ents y e₀ h0
  have cl : ∀ {v}, OwnCell f G y v → OwnCell f { G with own := repl a (listOf ws.toArray n') G.own } y v := fun q => by
    obtain ⟨k1, c, o, k2, k3, k4, k5⟩ := q
    exact ⟨k1, c, o, k2, repl_ne k3 (cell_ne F ha k3 k5), k4, k5⟩
  cases e₀ with
  | loc pv => exact this
  | fre pv => exact this
  | dead | owned l | cown l | fown l => trivial
  | cel pv => obtain ⟨v', a, b⟩ := this; exact ⟨v', cl a, b⟩
  | ucel => obtain ⟨v', a⟩ := this; exact ⟨v', cl a⟩
/-- a new object of the frame's own -/
theorem FS.pushOwn (F : FS f G ρ s) {a : Addr} {o : Obj} (X : Far f G a) (e : s.heap.get? a = some o) : FS f { G with own := (a, o) :: G.own } ρ s where
  ok := F.ok
  keep := F.keep
  slots := F.slots
  ns := F.ns
  own := fun p hp => by
    rcases List.mem_cons.mp hp with rfl | hp
    · exact ⟨e, X.L, X.n47, X.n54, .inl X.h0⟩
    · exact F.own p hp
  nd := List.nodup_cons.mpr ⟨X.own, F.nd⟩
  fr := fun p hp => by
    obtain ⟨h1, h2, h3, h4⟩ := F.fr p hp
    refine ⟨h1, h2, fun q => ?_, h4⟩
    rcases List.mem_cons.mp q with q | q
    · exact X.fr (List.mem_map.mpr ⟨p, hp, q⟩)
    · exact h3 q
  nfr := F.nfr
  vis := fun b ob eb => by
    obtain ⟨h1, h2, h3, h4⟩ := F.vis b ob eb
    refine ⟨h1, h2, fun q => ?_, h4⟩
    rcases List.mem_cons.mp q with q | q
    · rw [show b = a from q, X.κ] at eb; cases eb
    · exact h3 q
  tabs := F.tabs
  tok := F.tok
  gens := F.gens
  drawn := F.drawn
  os := F.os
  ents := fun y ent hy => by
    have := F.ents y ent hy
    have cl : ∀ {v}, OwnCell f G y v → OwnCell f { G with own := (a, o) :: G.own } y v := fun q => by
      obtain ⟨k1, c, o, k2, k3, k4, k5⟩ := q
      exact ⟨k1, c, o, k2, .tail _ k3, k4, k5⟩
    have ol : ∀ {b l}, OwnList G b l → OwnList { G with own := (a, o) :: G.own } b l := fun q => by
      obtain ⟨vs, n, k3, k4⟩ := q
      exact ⟨vs, n, .tail _ k3, k4⟩
    cases ent with
    | loc pv => exact this
    | fre pv => exact this
    | dead => trivial
    | owned l => obtain ⟨k, a, b, c, c'⟩ := this; exact ⟨k, a, b, ol c, c'⟩
    | cown l => obtain ⟨a, b, c⟩ := this; exact ⟨a, cl b, ol c⟩
    | fown l => obtain ⟨a, b, c⟩ := this; exact ⟨a, b, ol c⟩
    | cel pv => obtain ⟨v', a, b⟩ := this; exact ⟨v', cl a, b⟩
    | ucel => obtain ⟨v', a⟩ := this; exact ⟨v', cl a⟩
/-- an expression that makes a new list -/
structure EO (f : Fm sc dk tb) (ρ : Rho) (t : Sem Value) (l : List PV) : Prop where
  run : ∀ s G, FS f G ρ s → ∀ (Q : Value → Shared → Prop) (E : Value → Shared → Prop),
    (∀ a vs n s' G', G.Le G' → FS f { G' with own := (a, listOf vs.toArray n) :: G'.own } ρ s' → RpAll G'.τ G'.κ vs l → f.h0.objs.size ≤ a → Q (.ref a) s') → wpAny (model PG f.w) f.A t Q E s
theorem EO.list {elts : List Expr} {pos : Pos} {pvs : List PV} (h : EL f ρ (spliced (backTo pos (starEach elts f.env))) pvs) (hsz : pvs.length ≤ sizeLine := by simp only [List.length_cons, List.length_nil]; decide) : EO f ρ (eval (.List elts pos) f.env) pvs :=
  ⟨fun s G F Q E k => by
    with_reducible refine List_ ?_
    refine h.run s G F _ E fun vs s₁ G₁ L₁ F₁ r₁ => ?_
    have hd : sizeOk (Data.seq vs.toArray) := by show vs.toArray.size ≤ sizeLine; rw [List.size_toArray, r₁.length]; exact hsz
    have F2 := F₁.all (h' := s₁.heap.push (listOf vs.toArray 0)) (tk := s₁.toks) (fun b ob e => Heap.get?_push_of_some _ e) (Nat.le_refl _)
    exact wpAny_newObj_type (k _ vs 0 _ G₁ L₁ (F2.pushOwn (F₁.far (Nat.le_refl _)) (Heap.get?_push_size _ rfl)) r₁ (F₁.far (Nat.le_refl _)).h0) hd⟩
theorem EO.mulL {l r : Expr} {pos : Pos} {x : List PV} {b : PV} {j : Int} (hl : EV f ρ (eval l f.env) (.list x)) (hr : EV f ρ (eval r f.env) b) (hb : b.asI = some j) (h0 : x ≠ []) (h1 : 0 ≤ j) (hsz : x.length * j.toNat ≤ 2 ^ 24) : EO f ρ (eval (.BinOp l .Mult r pos) f.env) (List.replicate j.toNat x).flatten := ⟨fun s₀ G₀ F₀ Q E k => by
  with_reducible refine wpAny_BinOp ?_
  refine hl.run s₀ G₀ F₀ _ E fun v s₁ G₁ L₁ F₁ r₁ => hr.run s₁ G₁ F₁ _ E fun w s G L F r₂ => ?_
  obtain ⟨a, vs, n, rfl, e1, r1⟩ := (r₁.mono L.τ L.κ).isList
  obtain ⟨u, rfl⟩ := r₂.isInt hb
  have hl : vs.length = x.length := r1.length
  have hx : 0 < x.length := List.length_pos_iff.mpr h0
  have hj : j.toNat ≤ 2 ^ 24 := by
    refine Nat.le_trans ?_ hsz
    exact Nat.le_mul_of_pos_left _ hx
  refine mul_list (k := n) F.fr0 F.news0 (F.vis a _ e1).1 (by exact o34 h1) (by exact o36 hj) (by rw [List.size_toArray, hl]; exact hsz) (fun h' F' N' => ?_)
  have hne : vs.toArray.isEmpty = false := by
    simp [Array.isEmpty]; intro q; rw [q] at hl; simp at hl; exact o40 hx hl
  rw [hne] at N'
  simp only [Bool.false_eq_true, if_false, foldl_replicate] at N'
  have F2 := F.ofLib (tk := s.toks) (news := [(s.heap.objs.size, listOf (List.replicate j.toNat vs).flatten.toArray 0)]) F' N' (Nat.le_refl _)
  exact k _ _ 0 _ G (L₁.trans L) (F2.pushOwn (F.far (Nat.le_refl _)) (N' _ (.head _)).1) (r1.flat _) (F.far (Nat.le_refl _)).h0⟩
theorem SX.own {x : Str} {e : Expr} {p' pos : Pos} {l : List PV} {Φ : Out → Prop} (h : EO f ρ (eval e f.env) l) (hΦ : Φ (.nx ((x, .owned l) :: ρ))) (hk : f.env.kindOf x = some .local := by rfl)
    (hs : swapsWith e (some (.Name x p')) pos.line f.env = pure false := by rfl) : SX f ρ (exec (.Assign [.Name x p'] e pos) f.env) Φ := ⟨fun s G F Q E k => by
  with_reducible refine wpAny_Assign_Name ?_ hs
  refine h.run s G F _ E fun a vs n s' G' L F' r hb => ?_
  have hp := F'.notCM
  with_reducible refine wpAny_storeName_local hk F'.ns (fun h' hn hs => ?_) hp
  exact k (.nx ((x, .owned l) :: ρ)) .next _ { G' with m := upd G'.m x (.ref a), own := (a, listOf vs.toArray n) :: G'.own } hΦ ⟨L.τ, L.κ, L.fr⟩ ⟨rfl, F'.storeEnt (x := x) (v := .ref a) (ent := .owned l) ⟨hk, a, upd_self _ _ _, ⟨vs, n, .head _, r⟩, hb⟩ hn hs⟩⟩
theorem SX.ownC {x : Str} {e : Expr} {p' pos : Pos} {l : List PV} {ent : Ent} {Φ : Out → Prop} (h : EO f ρ (eval e f.env) l) (hx : ρ.lookup x = some ent) (he : ent.isCel = true) (hΦ : Φ (.nx ((x, .cown l) :: clean ρ)))
    (hs : swapsWith e (some (.Name x p')) pos.line f.env = pure false := by rfl) : SX f ρ (exec (.Assign [.Name x p'] e pos) f.env) Φ := ⟨fun s G F Q E k => by
  with_reducible refine wpAny_Assign_Name ?_ hs
  refine h.run s G F _ E fun a vs n s' G' L F' r hb => ?_
  obtain ⟨v₀, hk, c, o, hc, ho, hh, hd⟩ := (F'.ents x ent hx).ownCell he
  have hcell : s'.heap.IsCell c v₀ := ⟨o, (F'.own _ ho).1, hd⟩
  have hkf := F'.kindF
  with_reducible refine wpAny_storeName_cell hkf hk hc hcell fun h' hc' hs => ?_
  obtain ⟨o', e', hd'⟩ := hc'
  have F2 := F'.setOwn ho hs e' (Nat.le_refl _) (fun vs q => by rw [hd] at q; cases q)
  refine k (.nx _) .next _ { G' with own := repl c o' ((a, listOf vs.toArray n) :: G'.own) } hΦ ⟨L.τ, L.κ, L.fr⟩ ⟨rfl, { F2 with ents := fun y ent' hy => ?_ }⟩
  have ne : a ≠ c := fun q => by subst q; exact cell_ne F' (.head _) ho hd rfl
  rcases look_cons hy with ⟨rfl, rfl⟩ | ⟨hne, hy⟩
  · exact ⟨a, ⟨hk, c, o', hc, repl_self ho, hh, hd'⟩, vs, n, repl_ne (.head _) ne, r⟩
  · obtain ⟨e₀, h0, rfl⟩ := clean_look hy
    have := F'.ents y e₀ h0
    have cl : ∀ {v}, OwnCell f { G' with own := (a, listOf vs.toArray n) :: G'.own } y v → OwnCell f { G' with own := repl c o' ((a, listOf vs.toArray n) :: G'.own) } y v := fun q => by
      obtain ⟨k1, c', o'', k2, k3, k4, k5⟩ := q
      refine ⟨k1, c', o'', k2, repl_ne k3 ?_, k4, k5⟩
      rintro rfl
      exact hne (F'.ok.cinj _ _ _ k2 hc)
    cases e₀ with
    | loc pv => exact this
    | fre pv => exact this
    | dead | owned l | cown l | fown l => trivial
    | cel pv => obtain ⟨v', a, b⟩ := this; exact ⟨v', cl a, b⟩
    | ucel => obtain ⟨v', a⟩ := this; exact ⟨v', cl a⟩⟩
/-! what is done to it -/
/-- how a name stands for a list of the frame's own -/
def OwnAt (f : Fm sc dk tb) (G : Gh) (x : Str) (a : Addr) : Ent → Prop
  | .owned _ => f.env.kindOf x = some .local ∧ G.m x = some (.ref a) ∧ f.h0.objs.size ≤ a
  | .cown _ => OwnCell f G x (some (.ref a))
  | .fown _ => FreCell f x (.ref a)
  | _ => False
def Ent.ol : Ent → Option (List PV)
  | .owned l => some l
  | .cown l => some l
  | .fown l => some l
  | _ => .none
def Ent.setL (l : List PV) : Ent → Ent
  | .owned _ => .owned l
  | .cown _ => .cown l
  | .fown _ => .fown l
  | e => e
theorem EntOk.ownAt {x : Str} {e : Ent} {l : List PV} (h : EntOk f G x e) (he : e.ol = some l) : ∃ a vs n, OwnAt f G x a e ∧ (a, listOf vs.toArray n) ∈ G.own ∧ RpAll G.τ G.κ vs l := by
  cases e with
  | owned l => cases he; obtain ⟨k, a, e1, ⟨vs, n, e2, e3⟩, e4⟩ := h; exact ⟨a, vs, n, ⟨k, e1, e4⟩, e2, e3⟩
  | cown l => cases he; obtain ⟨a, e1, vs, n, e2, e3⟩ := h; exact ⟨a, vs, n, e1, e2, e3⟩
  | fown l => cases he; obtain ⟨a, e1, vs, n, e2, e3⟩ := h; exact ⟨a, vs, n, e1, e2, e3⟩
  | loc _ | cel _ | fre _ | ucel | dead => cases he
theorem OwnAt.load {x : Str} {e : Ent} {a : Addr} (F : FS f G ρ s) (h : OwnAt f G x a e) (hn : (x == ("__classdict__" : Str)) = false) {Q : Value → Shared → Prop} {E : Value → Shared → Prop} (k : Q (.ref a) s) : wpAny (model PG f.w) f.A (loadName f.env x) Q E s := by
  cases e with
  | owned l => obtain ⟨hk, hm, _⟩ := h; with_reducible exact wpAny_loadName_local F.kindF hk F.ns hm k
  | cown l =>
    obtain ⟨hk, c, o, hc, ho, _, hd⟩ := h
    have hq : s.heap.IsCell c (some (.ref a)) := ⟨o, (F.own _ ho).1, hd⟩
    with_reducible exact wpAny_loadName_cell F.kindF hk hc hq k
  | fown l =>
    obtain ⟨hk, c, o, hc, ho, hb, hb', hd⟩ := h
    have hq : s.heap.IsCell c (some (.ref a)) := ⟨o, F.keep _ _ hb hb' ho, hd⟩
    rcases hk with hk | hk
    · with_reducible exact wpAny_loadName_free F.kindF hk hc hq k hn
    · with_reducible exact wpAny_loadName_cell F.kindF hk hc hq k
  | loc _ | cel _ | fre _ | ucel | dead => exact h.elim
theorem OwnAt.le {x : Str} {e : Ent} {a : Addr} {G' : Gh} (h : OwnAt f G x a e) (L : G.Le G') : OwnAt f G' x a e := by
  cases e with
  | owned l => exact ⟨h.1, by rw [L.m]; exact h.2.1, h.2.2⟩
  | cown l => exact OwnCell.mono L h
  | fown l => exact h
  | loc _ | cel _ | fre _ | ucel | dead => exact h.elim
theorem FS.setOwned {a : Addr} {x : Str} {e : Ent} {l' : List PV} {vs ws : List Value} {n n' : Nat} {h' : Heap} {tk : Nat} (F : FS f G ρ s) (ho : OwnAt f G x a e) (ha : (a, listOf vs.toArray n) ∈ G.own) (hs : Heap.SameBut a s.heap h') (he : h'.get? a = some (listOf ws.toArray n')) (hle : s.toks ≤ tk)
    (r : RpAll G.τ G.κ ws l') : FS f { G with own := repl a (listOf ws.toArray n') G.own } ((x, e.setL l') :: clean ρ) { s with heap := h', toks := tk } := by
  have F' := F.setList ha hs he hle
  refine { F' with ents := fun y ent hy => ?_ }
  rcases look_cons hy with ⟨rfl, rfl⟩ | ⟨hne, hy⟩
  · cases e with
    | owned l => exact ⟨ho.1, a, ho.2.1, ⟨ws, n', repl_self ha, r⟩, ho.2.2⟩
    | cown l =>
      obtain ⟨hk, c, o, hc, hco, hh, hd⟩ := ho
      exact ⟨a, ⟨hk, c, o, hc, repl_ne hco (cell_ne F ha hco hd), hh, hd⟩, ws, n', repl_self ha, r⟩
    | fown l => exact ⟨a, ho, ws, n', repl_self ha, r⟩
    | loc _ | cel _ | fre _ | ucel | dead => exact ho.elim
  · exact F'.ents y ent hy
theorem getUpd {h : Heap} {a : Addr} {its : Array Value} {n : Nat} (e : h.get? a = some (listOf its n)) (g : Array Value → Array Value) : ∃ n', (h.update a (Obj.mapSeq g)).get? a = some (listOf (g its) n') := by
  obtain ⟨n', hd'⟩ := Obj.data_mapSeq (o := listOf its n) rfl g
  refine ⟨n', ?_⟩
  have := Heap.get?_update_self (Obj.mapSeq g) e (Obj.isFreed_of_seq hd')
  rw [this]
  have e1 : (Obj.mapSeq g (listOf its n)).cls = .type "list" := Obj.cls_mapSeq ..
  have e2 : (Obj.mapSeq g (listOf its n)).dict = none := rfl
  have e3 : (Obj.mapSeq g (listOf its n)).slots = #[] := rfl
  cases q : Obj.mapSeq g (listOf its n) with
  | mk c d dt sl =>
    rw [q] at hd' e1 e2 e3
    simp only at hd' e1 e2 e3
    rw [hd', e1, e2, e3]
theorem SX.append {x : Str} {px apos cpos pos : Pos} {e : Expr} {pv : PV} {l : List PV} {ent : Ent} {Φ : Out → Prop} (hx : ρ.lookup x = some ent) (hl : ent.ol = some l) (h : EV f ρ (eval e f.env) pv) (hsz : l.length ≤ sizeLine) (hΦ : Φ (.nx ((x, ent.setL (l ++ [pv])) :: clean ρ)))
    (hd : (x == ("__debug__" : Str)) = false := by decide) (hn : (x == ("__classdict__" : Str)) = false := by decide) (hi : interactive f.env = false := by rfl)
    (hs : swapsWith (.Call (.Attribute (.Name x px) (Str.ofString "append") apos) [e] [] cpos) none pos.line f.env = pure false := by rfl)
    (hst : starEach [e] f.env = (false, eval e f.env) :: starEach [] f.env := by rfl) (hpl : (backTo cpos (starEach [] f.env)).any (·.1) = false := by rfl)
    {pl : Sem Bool} (he' : eval (.Call (.Attribute (.Name x px) (Str.ofString "append") apos) [e] [] cpos) f.env = (do
      let ov ← eval (.Name x px) f.env
      standAt apos.atName
      let (f', first) ← holding [ov] (getMethod ov (Str.ofString "append") pl)
      callWith cpos f' first (backTo cpos (starEach [e] f.env)) []) := by rfl) :
    SX f ρ (exec (.Expr (.Call (.Attribute (.Name x px) (Str.ofString "append") apos) [e] [] cpos) pos) f.env) Φ := ⟨fun s G F Q E k => by
  with_reducible refine wpAny_Expr ?_ hi hs
  with_reducible refine MethodCall_ ?_ he'
  obtain ⟨a, vs, n, ho, ha, r⟩ := (F.ents x ent hx).ownAt hl
  with_reducible refine wpAny_Name ?_ hd
  refine ho.load F hn ?_
  with_reducible refine getMethod_list_append (F.own _ ha).1 rfl rfl ?_
  with_reducible refine callWith_method1 ?_ hst hpl
  refine (EL.cons h EL.nil hst).run s G F _ _ fun vs' s1 G1 L1 F1 r1 => ?_
  obtain ⟨v, rfl, rv⟩ := r1.len1
  rw [← L1.own] at ha
  have hsz' : vs.toArray.size ≤ sizeLine := by rw [List.size_toArray, r.length]; exact hsz
  refine call_meets slot_list_append ⟨_, (F1.own _ ha).1, rfl⟩ entry_list_append (args_list_append _ _) (PySem.AutoListH.list_append_list_val_0 a vs.toArray n v hsz') ⟨(F1.own _ ha).1, ?_⟩
  obtain ⟨n', e1⟩ := getUpd (F1.own _ ha).1 (fun x => x.push v)
  have hp : vs.toArray.push v = (vs ++ [v]).toArray := by simp
  rw [hp] at e1
  have F2 := F1.setOwned (ho.le L1) ha (Heap.SameBut.update ..) e1 (Nat.le_refl _) ((r.mono L1.τ L1.κ).append (.one rv))
  refine k (.nx _) .next _ _ hΦ ?_ ⟨rfl, F2⟩
  exact ⟨L1.τ, L1.κ, L1.fr⟩⟩
theorem SX.reverse {x : Str} {px apos cpos pos : Pos} {l : List PV} {ent : Ent} {Φ : Out → Prop} (hx : ρ.lookup x = some ent) (hl : ent.ol = some l) (hsz : l.length ≤ sizeLine) (hΦ : Φ (.nx ((x, ent.setL l.reverse) :: clean ρ)))
    (hd : (x == ("__debug__" : Str)) = false := by decide) (hn : (x == ("__classdict__" : Str)) = false := by decide) (hi : interactive f.env = false := by rfl)
    (hs : swapsWith (.Call (.Attribute (.Name x px) (Str.ofString "reverse") apos) [] [] cpos) none pos.line f.env = pure false := by rfl)
    {pl : Sem Bool} (he' : eval (.Call (.Attribute (.Name x px) (Str.ofString "reverse") apos) [] [] cpos) f.env = (do
      let ov ← eval (.Name x px) f.env
      standAt apos.atName
      let (f', first) ← holding [ov] (getMethod ov (Str.ofString "reverse") pl)
      callWith cpos f' first (backTo cpos (starEach [] f.env)) []) := by rfl) :
    SX f ρ (exec (.Expr (.Call (.Attribute (.Name x px) (Str.ofString "reverse") apos) [] [] cpos) pos) f.env) Φ := ⟨fun s G F Q E k => by
  with_reducible refine wpAny_Expr ?_ hi hs
  with_reducible refine MethodCall_ ?_ he'
  obtain ⟨a, vs, n, ho, ha, r⟩ := (F.ents x ent hx).ownAt hl
  with_reducible refine wpAny_Name ?_ hd
  refine ho.load F hn ?_
  have hla : s.heap.IsList a vs.toArray := ⟨_, (F.own _ ha).1, rfl, n, rfl⟩
  refine getMethod_list_of PySem.F.slot_list_reverse PySem.F.type_list_reverse hla ⟨_, (F.own _ ha).1, rfl⟩ ?_
  refine callWith_method0 ?_
  have hsz' : vs.toArray.size ≤ sizeLine := by rw [List.size_toArray, r.length]; exact hsz
  refine call_meets PySem.F.slot_list_reverse ⟨_, (F.own _ ha).1, rfl⟩ PySem.F.entry_list_reverse (PySem.F.args_list_reverse_1 _) (PySem.AutoListH.list_reverse_list_0 a vs.toArray n hsz') ⟨(F.own _ ha).1, ?_⟩
  obtain ⟨n', e1⟩ := getUpd (F.own _ ha).1 (fun x => x.reverse)
  have hp : vs.toArray.reverse = vs.reverse.toArray := by simp
  rw [hp] at e1
  have F2 := F.setOwned ho ha (Heap.SameBut.update ..) e1 (Nat.le_refl _) r.reverse
  refine k (.nx _) .next _ _ hΦ ?_ ⟨rfl, F2⟩
  exact ⟨.refl _, .refl _, rfl⟩⟩
theorem setItem_exact {prog : Program} {w : World} {A : Around} {E : Value → Shared → Prop} {s : Shared} {a : Addr} {o : Obj} {items : Array Value} {n : Nat} {m : Nat} {t : Tok} {v : Value} {Q : Unit → Shared → Prop} (hla : s.heap.IsList a items) (ho : s.heap.get? a = some o) (hd : o.data = .seq items n)
    (hfit : Builtin.List.listFitsIndex (m : Int) = true) (hm : m < items.size) (q : Q () { s with heap := s.heap.update a (Obj.mapSeq fun x => x.setIfInBounds m v) }) : wpAny (model prog w) A (PySem.setItem (.ref a) (.int (m : Int) t) v) Q E s := by
  have hx' : items[m]? = some items[m] := Array.getElem?_eq_getElem hm
  unfold PySem.setItem
  try with_reducible refine wpAny_holding ?_
  first | refine wpAny_bind (wpAny_pure ?_) | skip
  refine wpAny_bind (wpAny_sequenceKey hla.typeIs (by decide) ?_)
  refine wpAny_bind (wpAny_callSpecial?_slot (name := Str.ofString "__setitem__") hla.typeIs slot_list_setitem
    (wpAny_call_entry slot_list_setitem hla.typeIs entry_list_setitem ?_ (args_list_setitem _ _ _)))
  unfold Builtin.«list.__setitem__»
  have e : Builtin.List.listBlankSlotArgs "__setitem__" 2 { pos := [Value.ref a, Value.int (m : Int) t, v] } = pure (.ref a, [.int (m : Int) t, v]) := by
    simp [Builtin.List.listBlankSlotArgs]
  rw [e]
  with_reducible refine wpAny_bind ?_
  with_reducible refine wpAny_pure ?_
  dsimp only
  with_reducible refine wpAny_bind ?_
  with_reducible refine wpAny_listSubscript_int hfit ?_
  with_reducible refine wpAny_bind ?_
  show wpAny _ _ (seqItemAt a m >>= fun r => pure (r.map (m, ·))) _ _ s
  with_reducible refine wpAny_bind ?_
  refine wpAny_seqItemAt ho hd ?_
  with_reducible refine wpAny_pure ?_
  rw [hx']
  show wpAny _ _ (setSeqItemAt a m v >>= _) _ _ s
  with_reducible refine wpAny_bind ?_
  refine wpAny_setSeqItemAt ho hd ?_
  exact wpAny_pure ⟨.none, rfl, wpAny_pure q⟩
theorem SX.setItem {x : Str} {px spos pos : Pos} {e ie : Expr} {iv pv : PV} {j : Int} {l : List PV} {ent : Ent} {Φ : Out → Prop} (hx : ρ.lookup x = some ent) (hl : ent.ol = some l) (h : EV f ρ (eval e f.env) pv) (hi : EV f ρ (eval ie f.env) iv) (hj : iv.asI = some j) (h0 : 0 ≤ j) (h1 : j < l.length)
    (hsz : l.length ≤ sizeLine) (hΦ : Φ (.nx ((x, ent.setL (l.set j.toNat pv)) :: clean ρ)))
    (hd : (x == ("__debug__" : Str)) = false := by decide) (hn : (x == ("__classdict__" : Str)) = false := by decide)
    (hs : swapsWith e (some (.Subscript (.Name x px) ie spos)) pos.line f.env = pure false := by rfl) :
    SX f ρ (exec (.Assign [.Subscript (.Name x px) ie spos] e pos) f.env) Φ := ⟨fun s G F Q E k => by
  rw [exec_Assign_Subscript _ _ _ _ _ hs]
  refine wpAny_bind (wpAny_standAt (wpAny_bind ?_))
  refine h.run s G F _ E fun v s1 G1 L1 F1 r1 => ?_
  rw [assign_Subscript]
  refine wpAny_bind (wpAny_bind (wpAny_holding ?_))
  with_reducible refine wpAny_Name ?_ hd
  obtain ⟨a, vs, n, ho, ha, r⟩ := (F1.ents x ent hx).ownAt hl
  refine ho.load F1 hn ?_
  refine wpAny_bind (wpAny_holding ?_)
  refine hi.run s1 G1 F1 _ E fun w s2 G2 L2 F2 r2 => ?_
  obtain ⟨t, rfl⟩ := r2.isInt hj
  refine wpAny_bind (wpAny_standAt (wpAny_bind (wpAny_holding ?_)))
  have ha2 := ha; rw [← L2.own] at ha2
  have hla : s2.heap.IsList a vs.toArray := ⟨_, (F2.own _ ha2).1, rfl, n, rfl⟩
  have r' := r.mono L2.τ L2.κ
  obtain ⟨m, rfl⟩ := Int.eq_ofNat_of_zero_le h0
  have hm : m < vs.toArray.size := by rw [List.size_toArray, r.length]; exact o333 h1
  have hfit : Builtin.List.listFitsIndex (m : Int) = true := by
    have : vs.toArray.size ≤ sizeLine := by rw [List.size_toArray, r.length]; exact hsz
    simp only [Builtin.List.listFitsIndex, sizeLine] at this ⊢
    simp
    exact o449 this hm
  obtain ⟨n', e1⟩ := getUpd (F2.own _ ha2).1 (fun x => x.setIfInBounds m v)
  have hp : vs.toArray.setIfInBounds m v = (vs.set m v).toArray := by simp
  rw [hp] at e1
  have F3 := F2.setOwned (ho.le L2) ha2 (Heap.SameBut.update ..) e1 (Nat.le_refl _) (r'.set m (r1.mono L2.τ L2.κ))
  have q : Q .next { s2 with heap := s2.heap.update a (Obj.mapSeq fun x => x.setIfInBounds m v) } := by
    refine k (.nx _) .next _ _ hΦ ?_ ⟨rfl, F3⟩
    exact (L1.trans L2).lt.trans ⟨.refl _, .refl _, rfl⟩
  with_reducible refine setItem_exact hla (F2.own _ ha2).1 rfl hfit hm ?_
  exact wpAny_release' (wpAny_pure q)⟩
/-- an own list becomes one that is seen -/
def dropK (a : Addr) (own : List (Addr × Obj)) : List (Addr × Obj) := own.filter fun p => p.1 != a
theorem FS.freeze {a : Addr} {vs : List Value} {n : Nat} (F : FS f G ρ s) (ha : (a, listOf vs.toArray n) ∈ G.own) (hb : f.h0.objs.size ≤ a) : FS f { G with κ := Mine.addK G.κ a (listOf vs.toArray n), own := dropK a G.own } (clean ρ) s ∧ G.Lt { G with κ := Mine.addK G.κ a (listOf vs.toArray n), own := dropK a G.own } := by
  have hκ : G.κ a = none := by
    cases q : G.κ a with
    | none => rfl
    | some o => exact absurd (List.mem_map.mpr ⟨_, ha, rfl⟩) (F.vis a o q).2.2.1
  have L : G.Lt { G with κ := Mine.addK G.κ a (listOf vs.toArray n), own := dropK a G.own } := ⟨.refl _, Mine.addK_le hκ, rfl⟩
  have hmem : ∀ p, p ∈ dropK a G.own → p ∈ G.own ∧ p.1 ≠ a := fun p hp => ⟨(List.mem_filter.mp hp).1, by have := (List.mem_filter.mp hp).2; simpa using this⟩
  have hmem' : ∀ p, p ∈ G.own → p.1 ≠ a → p ∈ dropK a G.own := fun p hp hne => List.mem_filter.mpr ⟨hp, by simpa using hne⟩
  have hkey : ∀ b, b ∈ (dropK a G.own).map (·.1) → b ∈ G.own.map (·.1) := fun b hb => by
    obtain ⟨p, hp, rfl⟩ := List.mem_map.mp hb
    exact List.mem_map.mpr ⟨p, (hmem p hp).1, rfl⟩
  have hoa := F.own _ ha
  refine ⟨{ F with own := fun p hp => F.own p (hmem p hp).1, nd := ?_, fr := fun p hp => ?_, vis := fun b o eb => ?_, ents := fun y ent hy => ?_ }, L⟩
  · have := F.nd
    refine List.Nodup.sublist ?_ this
    exact List.Sublist.map _ List.filter_sublist
  · have h := F.fr p hp
    exact ⟨h.1, h.2.1, fun q => h.2.2.1 (hkey _ q), h.2.2.2⟩
  · simp only [Mine.addK] at eb
    by_cases q : b = a
    · subst q
      simp only [if_true] at eb
      cases eb
      refine ⟨hoa.1, hoa.2.1, fun q => ?_, fun q => ?_, hoa.2.2.1, hoa.2.2.2.1, .inr hb, fun q => ?_⟩
      · obtain ⟨p, hp, e⟩ := List.mem_map.mp q
        exact (hmem p hp).2 e
      · obtain ⟨p, hp, e⟩ := List.mem_map.mp q
        exact (F.fr p hp).2.2.1 (by rw [show p.1 = b from e]; exact List.mem_map.mpr ⟨_, ha, rfl⟩)
      · obtain ⟨_, _, _, _, o, eo, _⟩ := F.ok.outs _ q
        exact absurd (Heap.lt_size eo) (Nat.not_lt.mpr hb)
    · simp only [q, if_false] at eb
      have h := F.vis b o eb
      exact ⟨h.1, h.2.1, fun q => h.2.2.1 (hkey _ q), h.2.2.2⟩
  · obtain ⟨e₀, h0, rfl⟩ := clean_look hy
    have := F.ents y e₀ h0
    have cl : ∀ {v}, OwnCell f G y v → OwnCell f { G with κ := Mine.addK G.κ a (listOf vs.toArray n), own := dropK a G.own } y v := fun q => by
      obtain ⟨k1, c, o, k2, k3, k4, k5⟩ := q
      exact ⟨k1, c, o, k2, hmem' _ k3 (cell_ne F ha k3 k5), k4, k5⟩
    cases e₀ with
    | loc pv => obtain ⟨k, v, h1, h2⟩ := this; exact ⟨k, v, h1, h2.mono L.τ L.κ⟩
    | fre pv => obtain ⟨v, h1, h2⟩ := this; exact ⟨v, h1, h2.mono L.τ L.κ⟩
    | dead | owned l | cown l | fown l => trivial
    | cel pv => obtain ⟨v', a, b⟩ := this; exact ⟨v', cl a, b.mono L.τ L.κ⟩
    | ucel => obtain ⟨v', a⟩ := this; exact ⟨v', cl a⟩
theorem SX.retOwn {x : Str} {px pos : Pos} {l : List PV} {Φ : Out → Prop} (hx : ρ.lookup x = some (.owned l)) (hΦ : Φ (.rt (.list l))) (hd : (x == ("__debug__" : Str)) = false := by decide) (hn : (x == ("__classdict__" : Str)) = false := by decide) : SX f ρ (exec (.Return (some (.Name x px)) pos) f.env) Φ := ⟨fun s G F Q E k => by
  with_reducible refine wpAny_Return_some ?_
  with_reducible refine wpAny_Name ?_ hd
  obtain ⟨a, vs, n, ho, ha, r⟩ := (F.ents x _ hx).ownAt (l := l) rfl
  refine ho.load F hn ?_
  obtain ⟨F2, L⟩ := F.freeze ha ho.2.2
  exact k (.rt (.list l)) _ s _ hΦ L ⟨_, rfl, F2.weaken trivial, .list (Mine.addK_self _ _ _) (r.mono L.τ L.κ)⟩⟩
/-- an own list, not to be changed any more -/
theorem SX.freeze {x : Str} {t : Sem Flow} {l : List PV} {Φ : Out → Prop} (hx : ρ.lookup x = some (.owned l)) (h : SX f ((x, .loc (.list l)) :: clean ρ) t Φ) : SX f ρ t Φ := ⟨fun s G F Q E k => by
  obtain ⟨a, vs, n, ho, ha, r⟩ := (F.ents x _ hx).ownAt (l := l) rfl
  obtain ⟨F2, L⟩ := F.freeze ha ho.2.2
  refine h.run s _ { F2 with ents := fun y ent hy => ?_ } Q E fun o fl s' G' hok lt => k o fl s' G' hok (L.trans lt)
  rcases look_cons hy with ⟨rfl, rfl⟩ | ⟨_, hy⟩
  · exact ⟨ho.1, _, ho.2.1, .list (Mine.addK_self _ _ _) (r.mono L.τ L.κ)⟩
  · exact F2.ents y ent hy⟩
end
end Mine

end
section
open PySem PySem.W PyProof.Rows PySem.Calls PySem.Spec PySem.Challenge
namespace Mine
variable {sc : Scope} {dk : Nat} {tb : List Addr}
section
variable {f : Fm sc dk tb} {G : Gh} {ρ : Rho} {s : Shared}
theorem EntOk.fr {r : List (Addr × Obj)} {x : Str} {e : Ent} (h : EntOk f G x e) : EntOk f { G with fr := r } x e := by
  cases e <;> exact h
theorem FS.pushFr (F : FS f G ρ s) {a : Addr} {o : Obj} (X : Far f G a) (e : s.heap.get? a = some o) : FS f { G with fr := (a, o) :: G.fr } ρ s :=
  { F with
    fr := fun p hp => by
      rcases List.mem_cons.mp hp with rfl | hp
      · exact ⟨e, X.L, X.own, X.n47, X.n54, .inl X.h0⟩
      · exact F.fr p hp
    nfr := List.nodup_cons.mpr ⟨X.fr, F.nfr⟩
    vis := fun b ob eb => by
      obtain ⟨h1, h2, h3, h4, h5⟩ := F.vis b ob eb
      refine ⟨h1, h2, h3, fun q => ?_, h5⟩
      rcases List.mem_cons.mp q with q | q
      · rw [show b = a from q, X.κ] at eb; cases eb
      · exact h4 q
    ents := fun y ent hy => (F.ents y ent hy).fr }
/-- only the object at it turns -/
theorem FS.setFr {it : Addr} {o o' : Obj} {r : List (Addr × Obj)} (F : FS f { G with fr := (it, o) :: r } ρ s) {h' : Heap} {tk : Nat} (hs : ∀ b ob, b ≠ it → s.heap.get? b = some ob → h'.get? b = some ob) (e : h'.get? it = some o') (hle : s.toks ≤ tk) (hc : ∀ vs (q : Str) (t : Tok), o.data = .fields vs → vs[1]? ≠ some (.str q t)) :
    FS f { G with fr := (it, o') :: r } ρ { s with heap := h', toks := tk } where
  ok := F.ok
  keep := fun b ob hb hb' eb => hs b ob ((F.fr _ (.head _)).2.2.2.2.2.elim (fun q => ltNe (Nat.lt_of_lt_of_le (Heap.lt_size eb) q)) fun q p => hb'.1 (p ▸ q)) (F.keep b ob hb hb' eb)
  slots := fun b ob hb eb => by
    obtain ⟨sl, e'⟩ := F.slots b ob hb eb
    exact ⟨sl, hs b _ ((F.fr _ (.head _)).2.2.2.2.2.elim (fun q => ltNe (Nat.lt_of_lt_of_le (Heap.lt_size eb) q)) fun q p => (F.ok.outs b hb).2.2.2.1 (p ▸ q)) e'⟩
  ns := F.ns.at' fun ob eb => hs _ ob (Ne.symm (F.fr _ (.head _)).2.1) eb
  own := fun p hp => ⟨hs _ _ (fun q => (F.fr _ (.head _)).2.2.1 (q ▸ List.mem_map.mpr ⟨p, hp, rfl⟩)) (F.own p hp).1, (F.own p hp).2⟩
  nd := F.nd
  fr := fun p hp => by
    rcases List.mem_cons.mp hp with rfl | hp
    · exact ⟨e, (F.fr _ (.head _)).2⟩
    · have h := F.fr p (.tail _ hp)
      exact ⟨hs _ _ (fun q => (List.nodup_cons.mp F.nfr).1 (q ▸ List.mem_map.mpr ⟨p, hp, rfl⟩)) h.1, h.2⟩
  nfr := F.nfr
  vis := fun b ob eb => by
    obtain ⟨h1, h2, h3, h4, h5⟩ := F.vis b ob eb
    exact ⟨hs _ _ (fun q => h4 (q ▸ .head _)) h1, h2, h3, h4, h5⟩
  tabs := F.tabs.step (fun o e => hs _ _ (Ne.symm (F.fr _ (.head _)).2.2.2.1) e) (fun o e => hs _ _ (Ne.symm (F.fr _ (.head _)).2.2.2.2.1) e) fun b ob vs q t hd h1 eb => hs _ _ (by
    rintro rfl
    rw [(F.fr _ (.head _)).1] at eb; cases eb; exact hc vs q t hd h1) eb
  tok := F.tok.le hle
  gens := F.gens
  drawn := F.drawn
  os := F.os
  ents := fun y ent hy => (F.ents y ent hy).fr (r := (it, o') :: r)
theorem FS.popFr {it : Addr} {o : Obj} {r : List (Addr × Obj)} (F : FS f { G with fr := (it, o) :: r } ρ s) : FS f { G with fr := r } ρ s :=
  { F with
    fr := fun p hp => F.fr p (.tail _ hp)
    nfr := (List.nodup_cons.mp F.nfr).2
    vis := fun b ob eb => by
      obtain ⟨h1, h2, h3, h4, h5⟩ := F.vis b ob eb
      exact ⟨h1, h2, h3, fun q => h4 (.tail _ q), h5⟩
    ents := fun y ent hy => (F.ents y ent hy).fr (r := r) }
theorem FS.dropFr {it : Addr} {o : Obj} {r : List (Addr × Obj)} (F : FS f { G with fr := (it, o) :: r } ρ s) {h' : Heap} (hs : Heap.ExtBut it s.heap h') (hc : ∀ vs (q : Str) (t : Tok), o.data = .fields vs → vs[1]? ≠ some (.str q t)) :
    FS f { G with fr := r } ρ { s with heap := h' } := by
  have F' := F.popFr
  have hh := F.fr _ (.head _)
  exact { F' with
    keep := fun b ob hb hb' eb => hs b ob (hh.2.2.2.2.2.elim (fun q => ltNe (Nat.lt_of_lt_of_le (Heap.lt_size eb) q)) fun q p => hb'.1 (p ▸ q)) (F.keep b ob hb hb' eb)
    slots := fun b ob hb eb => by
      obtain ⟨sl, e'⟩ := F.slots b ob hb eb
      exact ⟨sl, hs b _ ((F.fr _ (.head _)).2.2.2.2.2.elim (fun q => ltNe (Nat.lt_of_lt_of_le (Heap.lt_size eb) q)) fun q p => (F.ok.outs b hb).2.2.2.1 (p ▸ q)) e'⟩
    ns := F.ns.at' fun ob eb => hs _ ob (Ne.symm hh.2.1) eb
    own := fun p hp => ⟨hs _ _ (fun q => hh.2.2.1 (q ▸ List.mem_map.mpr ⟨p, hp, rfl⟩)) (F.own p hp).1, (F.own p hp).2⟩
    fr := fun p hp => by
      have h := F.fr p (.tail _ hp)
      exact ⟨hs _ _ (fun q => (List.nodup_cons.mp F.nfr).1 (q ▸ List.mem_map.mpr ⟨p, hp, rfl⟩)) h.1, h.2⟩
    vis := fun b ob eb => by
      obtain ⟨h1, h2, h3, h4, h5⟩ := F'.vis b ob eb
      obtain ⟨_, _, _, g4, _⟩ := F.vis b ob eb
      exact ⟨hs _ _ (fun q => g4 (q ▸ .head _)) h1, h2, h3, h4, h5⟩
    tabs := F.tabs.step (fun o e => hs _ _ (Ne.symm hh.2.2.2.1) e) (fun o e => hs _ _ (Ne.symm hh.2.2.2.2.1) e) fun b ob vs q t hd h1 eb => hs _ _ (by
      rintro rfl
      rw [hh.1] at eb; cases eb; exact hc vs q t hd h1) eb }
def rngIt (x left : Int) : Obj := { cls := .type "range_iterator", dict := none, data := .fields #[rawInt x, rawInt left, rawInt 1], slots := #[] }
inductive IsIt (τ : Tau) (κ : Kap) : Obj → List PV → Prop
  | list {o : Obj} {a : Addr} {i : Nat} {vs : List Value} {n : Nat} {ds : List PV} : o.cls = .type "list_iterator" → o.data = .fields #[.ref a, .int i 0] → κ a = some (listOf vs.toArray n) → RpAll τ κ vs ds → IsIt τ κ o (ds.drop i)
  | range {x : Int} {left : Nat} : IsIt τ κ (rngIt x left) ((List.range left).map fun (k : Nat) => .int (x + k))
  | rev {o : Obj} {a : Addr} {i : Nat} {vs : List Value} {n : Nat} {ds : List PV} : o.cls = .type "list_reverseiterator" → o.data = .fields #[.ref a, rawInt ((i : Int) - 1)] → κ a = some (listOf vs.toArray n) → RpAll τ κ vs ds → i ≤ ds.length → IsIt τ κ o (ds.take i).reverse
  | str {o : Obj} {x : Str} {t : Tok} {i : Nat} : o.cls = .type "str_ascii_iterator" ∨ o.cls = .type "str_iterator" → o.data = .fields #[.str x t, .int i 0] → IsIt τ κ o ((x.cps.toList.drop i).map fun c => .tstr ⟨#[c]⟩)
theorem IsIt.mono {τ τ' : Tau} {κ κ' : Kap} (ht : TLe τ τ') (hk : KLe κ κ') {o : Obj} {l : List PV} (h : IsIt τ κ o l) : IsIt τ' κ' o l := by
  cases h with
  | list a b c d => exact .list a b (hk _ _ c) (d.mono ht hk)
  | range => exact .range
  | rev a b c d e => exact .rev a b (hk _ _ c) (d.mono ht hk) e
  | str a b => exact .str a b
theorem IsIt.cls {τ : Tau} {κ : Kap} {o : Obj} {l : List PV} (h : IsIt τ κ o l) : ∀ vs (q : Str) (t : Tok), o.data = .fields vs → vs[1]? ≠ some (.str q t) := by
  intro vs q t e
  cases h with
  | list a b c d => rw [b] at e; cases e; exact nofun
  | range => cases e; exact nofun
  | rev a b c d e' => rw [b] at e; cases e; exact nofun
  | str a b => rw [b] at e; cases e; exact nofun
theorem same_ext {it : Addr} {h h' : Heap} (hs : Heap.SameBut it h h') : ∀ b ob, b ≠ it → h.get? b = some ob → h'.get? b = some ob := fun b ob hb e => (hs.2 b hb).trans e
theorem next_item {it : Addr} {o : Obj} {r : List (Addr × Obj)} {x : PV} {l : List PV} (F : FS f { G with fr := (it, o) :: r } ρ s) (h : IsIt G.τ G.κ o (x :: l)) {Q : Option Value → Shared → Prop} {E : Value → Shared → Prop}
    (k : ∀ (v : Value) (s' : Shared) (G' : Gh) (o' : Obj), G.Le { G' with fr := G.fr } → FS f { G' with fr := (it, o') :: r } ρ s' → IsIt G'.τ G'.κ o' l → Rp G'.τ G'.κ v x → Q (some v) s') : wpAny (model PG f.w) f.A (pyNext (.ref it)) Q E s := by
  have hit := (F.fr _ (.head _)).1
  have hcl := h.cls
  generalize hl : x :: l = xl at h
  cases h with
  | @list o a i vs n ds hc hd hκ hr =>
    have hx : ds[i]? = some x := by
      have : (ds.drop i)[0]? = some x := by rw [← hl]; rfl
      simpa using this
    obtain ⟨v, hv, rv⟩ := hr.get hx
    have hlist : s.heap.IsList a vs.toArray := F.listAt hκ
    refine wpAny_pyNext_list_item (l := a) (i := i) ⟨o, hit, hc, hd⟩ hlist (by simpa using hv) fun h' hit' hs => ?_
    obtain ⟨o', e1, e2, e3⟩ := hit'
    refine k v _ G o' (.refl _) (F.setFr (same_ext hs) e1 (Nat.le_refl _) hcl) ?_ rv
    have : l = ds.drop (i + 1) := by
      have := congrArg List.tail hl
      simpa using this
    rw [this]
    exact .list e2 e3 hκ hr
  | @range y left =>
    cases left with
    | zero => cases hl
    | succ left =>
      rw [List.range_succ_eq_map, List.map_cons] at hl
      injection hl with h1 h2
      subst h1
      refine wpAny_pyNext_range_item (x := y) (left := ((left + 1 : Nat) : Int)) (step := 1) hit (by exact o207) fun h' hit' hs => ?_
      have F1 := F.setFr (same_ext hs) hit' (Nat.le_succ s.toks) hcl
      have hτ : G.τ s.toks = none := F.tok.none (Nat.le_refl _)
      obtain ⟨F2, L⟩ := F1.addT (t := s.toks) (.int y) hτ F.tok.1 (Nat.lt_succ_self _)
      refine k _ _ { G with τ := addT G.τ s.toks (.int y) } _ ⟨L.τ, L.κ, rfl, rfl, rfl⟩ F2 ?_ (by rw [show y + ((0 : Nat) : Int) = y by simp]; exact .int (addT_self _ _ _))
      have e1 : (((left + 1 : Nat) : Int) - 1) = (left : Int) := by exact o73
      have e2 : l = (List.range left).map fun (k : Nat) => PV.int (y + 1 + k) := by
        rw [h2, List.map_map]
        refine List.map_congr_left fun k _ => ?_
        show PV.int _ = PV.int _
        congr 1
        push_cast
        exact o161
      rw [e1, e2]
      exact .range
  | @rev o a i vs n ds hc hd hκ hr hi =>
    cases i with
    | zero => simp at hl
    | succ i =>
      have hlt : i < ds.length := hi
      rw [List.take_succ_eq_append_getElem hlt, List.reverse_append, List.reverse_singleton, List.singleton_append] at hl
      injection hl with hl1 hl2
      have hx : ds[i]? = some x := by rw [List.getElem?_eq_getElem hlt, ← hl1]
      obtain ⟨v, hv, rv⟩ := hr.get hx
      have hlist : s.heap.IsList a vs.toArray := F.listAt hκ
      have hd' : o.data = .fields #[.ref a, rawInt (i : Int)] := by rw [hd]; congr; exact o73
      refine wpAny_pyNext_rev_item (l := a) (i := i) ⟨o, hit, hc, hd'⟩ hlist (by simpa using hv) fun h' hit' hs => ?_
      obtain ⟨o', e1, e2, e3⟩ := hit'
      refine k v _ G o' (.refl _) (F.setFr (same_ext hs) e1 (Nat.le_refl _) hcl) ?_ rv
      rw [hl2]
      exact .rev e2 e3 hκ hr (Nat.le_of_succ_le hi)
  | @str o y t i hc hd =>
    have hx : y.cps[i]? = some (y.cps.getD i 0) ∧ x = .tstr ⟨#[y.cps.getD i 0]⟩ ∧ l = (y.cps.toList.drop (i + 1)).map fun c => .tstr ⟨#[c]⟩ := by
      by_cases q : i < y.cps.toList.length
      · rw [List.drop_eq_getElem_cons q] at hl
        simp at hl
        have q' : i < y.cps.size := q
        refine ⟨by simp [q'], ?_, ?_⟩
        · rw [hl.1]; simp [q']
        · rw [hl.2, List.map_drop]
      · rw [List.drop_eq_nil_of_le (Nat.le_of_not_lt q)] at hl
        cases hl
    obtain ⟨hx, rfl, rfl⟩ := hx
    have hτ : G.τ s.toks = none := F.tok.none (Nat.le_refl _)
    rcases hc with hc | hc
    · refine wpAny_pyNext_ascii_item (x := y) (t := t) (i := i) ⟨o, hit, hc, hd⟩ hx fun h' hit' hs => ?_
      obtain ⟨o', e1, e2, e3⟩ := hit'
      have F1 := F.setFr (same_ext hs) e1 (Nat.le_succ s.toks) hcl
      obtain ⟨F2, L⟩ := F1.addT (t := s.toks) (.str ⟨#[y.cps.getD i 0]⟩) hτ F.tok.1 (Nat.lt_succ_self _)
      exact k _ _ { G with τ := addT G.τ s.toks (.str ⟨#[y.cps.getD i 0]⟩) } _ ⟨L.τ, L.κ, rfl, rfl, rfl⟩ F2 (.str (.inl e2) e3) (.tstr (addT_self _ _ _))
    · refine wpAny_pyNext_wide_item (x := y) (t := t) (i := i) ⟨o, hit, hc, hd⟩ hx fun h' hit' hs => ?_
      obtain ⟨o', e1, e2, e3⟩ := hit'
      have F1 := F.setFr (same_ext hs) e1 (Nat.le_succ s.toks) hcl
      obtain ⟨F2, L⟩ := F1.addT (t := s.toks) (.str ⟨#[y.cps.getD i 0]⟩) hτ F.tok.1 (Nat.lt_succ_self _)
      exact k _ _ { G with τ := addT G.τ s.toks (.str ⟨#[y.cps.getD i 0]⟩) } _ ⟨L.τ, L.κ, rfl, rfl, rfl⟩ F2 (.str (.inr e2) e3) (.tstr (addT_self _ _ _))
theorem next_end {it : Addr} {o : Obj} {r : List (Addr × Obj)} (F : FS f { G with fr := (it, o) :: r } ρ s) (h : IsIt G.τ G.κ o []) {Q : Option Value → Shared → Prop} {E : Value → Shared → Prop}
    (k : ∀ (s' : Shared), FS f { G with fr := r } ρ s' → Q none s') : wpAny (model PG f.w) f.A (pyNext (.ref it)) Q E s := by
  have hit := (F.fr _ (.head _)).1
  have hcl := h.cls
  generalize hl : ([] : List PV) = xl at h
  cases h with
  | @list o a i vs n ds hc hd hκ hr =>
    have hlist : s.heap.IsList a vs.toArray := F.listAt hκ
    have hx : vs.length ≤ i := by rw [hr.length]; exact List.drop_eq_nil_iff.mp hl.symm
    exact wpAny_pyNext_list_end (l := a) (i := i) F.ok.hh ⟨o, hit, hc, hd⟩ hlist (by simpa using hx) fun h' hs => k _ (F.dropFr hs hcl)
  | @range y left =>
    cases left with
    | succ left => rw [List.range_succ_eq_map] at hl; cases hl
    | zero => exact wpAny_pyNext_range_end (x := y) (left := ((0 : Nat) : Int)) (step := 1) F.ok.hh hit (by exact o148) fun h' hs => k _ (F.dropFr hs hcl)
  | @rev o a i vs n ds hc hd hκ hr hi =>
    cases i with
    | succ i =>
      have hlt : i < ds.length := hi
      rw [List.take_succ_eq_append_getElem hlt, List.reverse_append] at hl
      cases hl
    | zero =>
      have hd' : o.data = .fields #[.ref a, rawInt (-1)] := by rw [hd]; rfl
      exact wpAny_pyNext_rev_end (l := a) F.ok.hh ⟨o, hit, hc, hd'⟩ fun h' hs => k _ (F.dropFr hs hcl)
  | @str o y t i hc hd =>
    have hx : y.cps[i]? = none := by
      have := List.map_eq_nil_iff.mp hl.symm
      have := List.drop_eq_nil_iff.mp this
      simpa using this
    rcases hc with hc | hc
    · exact wpAny_pyNext_ascii_end (x := y) (t := t) (i := i) F.ok.hh ⟨o, hit, hc, hd⟩ hx fun h' hs => k _ (F.dropFr hs hcl)
    · exact wpAny_pyNext_wide_end (x := y) (t := t) (i := i) F.ok.hh ⟨o, hit, hc, hd⟩ hx fun h' hs => k _ (F.dropFr hs hcl)

/-- an iterator made of an expression -/
structure IT (f : Fm sc dk tb) (ρ : Rho) (t : Sem Value) (l : List PV) : Prop where
  run : ∀ s G, FS f G ρ s → ∀ (Q : Value → Shared → Prop) (E : Value → Shared → Prop),
    (∀ (it : Addr) (o : Obj) (s' : Shared) (G' : Gh), s.heap.objs.size ≤ it → G.Le G' → FS f { G' with fr := (it, o) :: G'.fr } ρ s' → IsIt G'.τ G'.κ o l → Q (.ref it) s') → wpAny (model PG f.w) f.A t (fun x s₁ => wpAny (model PG f.w) f.A (pyIter x) Q E s₁) E s
theorem FS.newFr (F : FS f G ρ s) (o : Obj) (hf : o.isFreed = false) : FS f { G with fr := (s.heap.objs.size, o) :: G.fr } ρ { s with heap := s.heap.push o } := by
  have F1 := F.all (h' := s.heap.push o) (tk := s.toks) (fun b ob e => Heap.get?_push_of_some _ e) (Nat.le_refl _)
  exact F1.pushFr (F.far (Nat.le_refl _)) (Heap.get?_push_size _ hf)
theorem IT.list {t : Sem Value} {l : List PV} (h : EV f ρ t (.list l)) : IT f ρ t l := ⟨fun s G F Q E k => grow (h.run s G F _ E fun v s₁ G₁ L₁ F₁ r₁ gr => by
  obtain ⟨a, vs, n, rfl, e1, r2⟩ := r₁.isList
  refine wpAny_pyIter_list (F₁.listAt e1) ?_
  exact k _ _ _ G₁ gr.size L₁ (F₁.newFr _ rfl) (.list (i := 0) rfl rfl e1 r2))⟩
/-- the numbers of a range -/
def rngL (a b : Int) : List PV := (List.range (b - a).toNat).map fun (k : Nat) => .int (a + k)
theorem rangeSize1 (a b : Int) : Builtin.Range.rangeSize a b 1 = ((b - a).toNat : Int) := by
  unfold Builtin.Range.rangeSize
  simp only [show (1 : Int) > 0 by decide, if_true, Int.ediv_one]
  split <;> (first | exact o631 (by assumption) | exact o632 (by assumption))
theorem range_small {a b : Int} (ha : -(2 ^ 40) ≤ a) (ha' : a ≤ 2 ^ 40) (hb : -(2 ^ 40) ≤ b) (hb' : b ≤ 2 ^ 40) : Builtin.Range.small a b 1 = true := by
  unfold Builtin.Range.small
  rw [rangeSize1]
  have e : (if (1 : Int) > 0 then Builtin.Range.rangeFitsLong (b + (1 - 1)) else Builtin.Range.rangeFitsLong (b + (1 + 1))) = Builtin.Range.rangeFitsLong b := by
    rw [if_pos (by decide)]; congr 1; exact o181
  rw [e]
  simp only [Builtin.Range.rangeFitsLong, Bool.and_eq_true, Bool.or_eq_true, decide_eq_true_eq]
  exact ⟨⟨⟨⟨⟨o707 ha, o708 ha'⟩, o707 hb, o708 hb'⟩, by decide, by decide⟩, Int.le_trans (by decide) (Int.natCast_nonneg _), (Int.ofNat_lt (m := 2 ^ 63)).mpr ((Int.toNat_lt' (by decide)).mpr (Int.lt_of_le_of_lt (Int.sub_le_sub hb' ha) (by decide)))⟩, .inr ⟨o707 hb, o708 hb'⟩⟩
theorem IT.range {t : Sem Value} {a b : Int} (h : EV f ρ t (.rng a b)) (ha : -(2 ^ 40) ≤ a) (ha' : a ≤ 2 ^ 40) (hb : -(2 ^ 40) ≤ b) (hb' : b ≤ 2 ^ 40) : IT f ρ t (rngL a b) := ⟨fun s G F Q E k => grow (h.run s G F _ E fun v s₁ G₁ L₁ F₁ r₁ gr => by
  cases r₁ with
  | @rng r a b t u w e =>
    refine wpAny_pyIter_range (F₁.vis _ _ e).1 (range_small ha ha' hb hb') ?_
    have F2 := F₁.newFr (rngIt a (Builtin.Range.rangeSize a b 1)) rfl
    refine k _ _ _ G₁ gr.size L₁ F2 ?_
    rw [rangeSize1]
    exact .range)⟩
theorem IT.str {t : Sem Value} {p : PV} {x : Str} (h : EV f ρ t p) (hp : p.asS = some x) : IT f ρ t (x.cps.toList.map fun c => .tstr ⟨#[c]⟩) := ⟨fun s G F Q E k => grow (h.run s G F _ E fun v s₁ G₁ L₁ F₁ r₁ gr => by
  obtain ⟨t, rfl⟩ := r₁.isStr hp
  cases ha : x.cps.all (· < 128) with
  | true =>
    refine wpAny_pyIter_ascii ha ?_
    exact k _ _ _ G₁ gr.size L₁ (F₁.newFr _ rfl) (.str (i := 0) (.inl rfl) rfl)
  | false =>
    refine wpAny_pyIter_wide ha ?_
    exact k _ _ _ G₁ gr.size L₁ (F₁.newFr _ rfl) (.str (i := 0) (.inr rfl) rfl))⟩
theorem IT.reversed {x : Str} {xp pos : Pos} {e : Expr} {l : List PV} (hx : nsIn (hd.heap_39 f.w.params) mainGlobals x = some .none) (hb : bootBuiltins x = some (.type "reversed"))
    (h : EV f ρ (eval e f.env) (.list l)) (hkd : f.env.kindOf x = some .globalImplicit := by rfl)
    (hn : x ≠ "__name__" := by decide) (hd : (x == ("__debug__" : Str)) = false := by decide) (he : starEach [e] f.env = (false, eval e f.env) :: starEach [] f.env := by rfl) (hplain : (backTo pos (starEach [] f.env)).any (·.1) = false := by rfl)
    (he' : eval (.Call (.Name x xp) [e] [] pos) f.env = (do callWith pos (← eval (.Name x xp) f.env) [] (backTo pos (starEach [e] f.env)) (backToKw pos (keywordEach [] f.env))) := by rfl) :
    IT f ρ (eval (.Call (.Name x xp) [e] [] pos) f.env) l.reverse := ⟨fun s G F Q E k => by
  with_reducible refine Call_ ?_ he'
  refine eval_bltn F hx hb hn hkd hd ?_
  with_reducible refine PyProof.Rows.callWith_type1 ?_ he hplain
  refine grow ((EL.cons h EL.nil he).run s G F _ _ fun vs s₁ G₁ L₁ F₁ r₁ gr => ?_)
  obtain ⟨v, rfl, rv⟩ := r₁.len1
  obtain ⟨a, vs, n, rfl, e1, r2⟩ := rv.isList
  refine call_reversed_list (F₁.listAt e1) ?_
  have F2 := F₁.newFr (revObj a ((vs.toArray.size : Int) - 1)) rfl
  refine wpAny_pyIter_revIter (l := a) (i := (vs.toArray.size : Int) - 1) ⟨_, (F2.fr _ (.head _)).1, rfl, rfl⟩ ?_
  refine k _ _ _ G₁ gr.size L₁ F2 ?_
  have hlen : vs.toArray.size = l.length := by rw [List.size_toArray, r2.length]
  have := IsIt.rev (τ := G₁.τ) (κ := G₁.κ) (o := revObj a ((l.length : Int) - 1)) (i := l.length) rfl rfl e1 r2 (Nat.le_refl _)
  rw [List.take_length] at this
  rw [hlen]
  exact this⟩

/-- how a turn of a for may end -/
def FOut (R : List PV → Rho → Prop) (Φ : Out → Prop) (l : List PV) : Out → Prop
  | .nx ρ' => ∃ ρ'', SubR ρ'' ρ' ∧ R l ρ''
  | .ct ρ' => ∃ ρ'', SubR ρ'' ρ' ∧ R l ρ''
  | .bk ρ' => Φ (.nx ρ')
  | .rt pv => Φ (.rt pv)
theorem SX.for {target iter : Expr} {body orelse : List Stmt} {pos : Pos} {l : List PV} {Φ : Out → Prop} (R : List PV → Rho → Prop) (hit : IT f ρ (eval iter f.env) l) (h : R l ρ)
    (turn : ∀ x l ρ, R (x :: l) ρ → ∃ ρ', AS f ρ (PySem.assign target f.env) x ρ' ∧ SX f ρ' (execs body f.env) (FOut R Φ l))
    (fin : ∀ ρ, R [] ρ → SX f ρ (execs orelse f.env) Φ)
    (hs : ∀ x, foldedSetIterable iter f.env x = pure x := by intro _; rfl) (ht : ∀ it v, letOwnedTupleGo target it v = pure () := by intro _ _; rfl) : SX f ρ (exec (.For target iter body orelse pos) f.env) Φ := ⟨fun s G F Q E k => by
  with_reducible refine wpAny_For ?_ hs
  refine hit.run s G F _ _ fun it o s' G' _ L F' hi => ?_
  refine codeAny_forLoop (fun n s₁ => ∃ G₁ ρ₁ o₁ l₁, G'.Lt { G₁ with fr := G'.fr } ∧ FS f { G₁ with fr := (it, o₁) :: G'.fr } ρ₁ s₁ ∧ IsIt G₁.τ G₁.κ o₁ l₁ ∧ R l₁ ρ₁ ∧ n = l₁.length) ?_ l.length ⟨G', ρ, o, l, .refl _, F', hi, h, rfl⟩ (ht _)
  rintro n s₁ ⟨G₁, ρ₁, o₁, l₁, L₁, F₁, hi₁, hR, rfl⟩
  cases l₁ with
  | nil =>
    refine next_end F₁ hi₁ fun s₂ F₂ => ?_
    refine (fin ρ₁ hR).run s₂ _ F₂ _ _ fun oo fl s₃ G₃ ho t3 ok => ?_
    exact k oo fl s₃ G₃ ho (L.lt.trans (Gh.Lt.trans ⟨L₁.τ, L₁.κ, rfl⟩ t3)) ok
  | cons x l₁ =>
    refine next_item F₁ hi₁ fun v s₂ G₂ o₂ L₂ F₂ hi₂ rv => ?_
    obtain ⟨ρ₂, ha, hb⟩ := turn x l₁ ρ₁ hR
    refine ha.run s₂ _ v F₂ rv _ _ fun s₃ G₃ t3 F₃ => ?_
    refine hb.run s₃ G₃ F₃ _ _ fun oo fl s₄ G₄ ho t4 ok => ?_
    have tt := t3.trans t4
    have lt : G.Lt { G₄ with fr := G'.fr } := L.lt.trans (Gh.Lt.trans (b := { G₁ with fr := G'.fr }) ⟨L₁.τ, L₁.κ, rfl⟩ ⟨L₂.τ.trans tt.τ, L₂.κ.trans tt.κ, rfl⟩)
    have fr4 : ∀ {ρ₄}, FS f G₄ ρ₄ s₄ → FS f { G₄ with fr := (it, o₂) :: G'.fr } ρ₄ s₄ := fun F₄ => by
      have e : G₄.fr = (it, o₂) :: G'.fr := tt.fr
      rw [← e]; exact F₄
    have hi₄ := hi₂.mono tt.τ tt.κ
    cases oo with
    | nx ρ' =>
      obtain ⟨rfl, F₄⟩ := ok
      obtain ⟨ρ'', hsub, hR'⟩ := ho
      exact ⟨l₁.length, Nat.lt_succ_self _, G₄, ρ'', o₂, l₁, Gh.Lt.trans (b := { G₁ with fr := G'.fr }) ⟨L₁.τ, L₁.κ, rfl⟩ ⟨L₂.τ.trans tt.τ, L₂.κ.trans tt.κ, rfl⟩, (fr4 F₄).weaken hsub, hi₄, hR', rfl⟩
    | ct ρ' =>
      obtain ⟨rfl, F₄⟩ := ok
      obtain ⟨ρ'', hsub, hR'⟩ := ho
      exact ⟨l₁.length, Nat.lt_succ_self _, G₄, ρ'', o₂, l₁, Gh.Lt.trans (b := { G₁ with fr := G'.fr }) ⟨L₁.τ, L₁.κ, rfl⟩ ⟨L₂.τ.trans tt.τ, L₂.κ.trans tt.κ, rfl⟩, (fr4 F₄).weaken hsub, hi₄, hR', rfl⟩
    | bk ρ' => obtain ⟨rfl, F₄⟩ := ok; exact k _ .next s₄ { G₄ with fr := G'.fr } ho lt ⟨rfl, (fr4 F₄).popFr⟩
    | rt pv => obtain ⟨v, rfl, F₄, r⟩ := ok; exact k _ (.ret v) s₄ { G₄ with fr := G'.fr } ho lt ⟨v, rfl, (fr4 F₄).popFr, r⟩⟩
end
end Mine

end
section
open PySem PySem.W PyProof.Rows PySem.Calls PySem.Spec PySem.Challenge
namespace Mine
variable {sc : Scope} {dk : Nat} {tb : List Addr}
section
variable {f : Fm sc dk tb} {G : Gh} {ρ : Rho} {s : Shared}
theorem iter_self {it : Addr} {o : Obj} {r : List (Addr × Obj)} {l : List PV} (F : FS f { G with fr := (it, o) :: r } ρ s) (h : IsIt G.τ G.κ o l) {Q : Value → Shared → Prop} {E : Value → Shared → Prop} (k : Q (.ref it) s) : wpAny (model PG f.w) f.A (pyIter (.ref it)) Q E s := by
  have hit := (F.fr _ (.head _)).1
  cases h with
  | @list o a i vs n ds hc hd hκ hr => exact wpAny_pyIter_listiter (l := a) (i := i) ⟨o, hit, hc, hd⟩ k
  | @range y left => exact wpAny_pyIter_rangeiter (x := y) (left := left) (step := 1) hit k
  | @rev o a i vs n ds hc hd hκ hr hi => exact wpAny_pyIter_revIter (l := a) (i := (i : Int) - 1) ⟨o, hit, hc, hd⟩ k
  | @str o y t i hc hd =>
    rcases hc with hc | hc
    · exact wpAny_pyIter_striter_ascii (x := y) (t := t) (i := i) ⟨o, hit, hc, hd⟩ k
    · exact wpAny_pyIter_striter_wide (x := y) (t := t) (i := i) ⟨o, hit, hc, hd⟩ k
/-- a store that keeps the lists of the frame's own -/
structure ASO (f : Fm sc dk tb) (ρ : Rho) (t : Value → Sem Unit) (pv : PV) (ρ' : Rho) : Prop where
  run : ∀ s G v, FS f G ρ s → Rp G.τ G.κ v pv → ∀ (Q : Unit → Shared → Prop) (E : Value → Shared → Prop),
    (∀ s' G', G.Lt G' → (∀ a vs n, (a, listOf vs n) ∈ G.own → (a, listOf vs n) ∈ G'.own) → FS f G' ρ' s' → Q () s') → wpAny (model PG f.w) f.A (t v) Q E s
theorem ASO.loc {x : Str} {px : Pos} {pv : PV} (hk : f.env.kindOf x = some .local) : ASO f ρ (PySem.assign (.Name x px) f.env) pv ((x, .loc pv) :: ρ) :=
  ⟨fun s G v F r Q E k => by
    refine wpAny_assign_Name ?_
    have hp := F.notCM
    with_reducible refine wpAny_storeName_local hk F.ns (fun h' hn hs => ?_) hp
    exact k _ { G with m := upd G.m x v } ⟨.refl _, .refl _, rfl⟩ (fun _ _ _ h => h) (F.storeLoc hk r hn hs)⟩
theorem ASO.cel {x : Str} {px : Pos} {pv : PV} {e : Ent} (hx : ρ.lookup x = some e) (he : e.isCel = true) : ASO f ρ (PySem.assign (.Name x px) f.env) pv ((x, .cel pv) :: ρ) :=
  ⟨fun s G v F r Q E k => by
    refine wpAny_assign_Name ?_
    obtain ⟨v₀, hk, c, o, hc, ho, hh, hd⟩ := (F.ents x e hx).ownCell he
    have hcell : s.heap.IsCell c v₀ := ⟨o, (F.own _ ho).1, hd⟩
    have hkf := F.kindF
    with_reducible refine wpAny_storeName_cell hkf hk hc hcell fun h' hc' hs => ?_
    obtain ⟨o', e', hd'⟩ := hc'
    refine k _ { G with own := repl c o' G.own } ⟨.refl _, .refl _, rfl⟩ (fun a vs n h => repl_ne h ?_) (F.storeCel hk hc ho hh hd r hs e' hd')
    rintro rfl
    have := F.ownUniq ho h; subst this; cases hd⟩
/-- the tests of a comprehension -/
structure TS (f : Fm sc dk tb) (ρ : Rho) (ifs : List Expr) (b : Bool) : Prop where
  run : ∀ s G, FS f G ρ s → ∀ (Q : Bool → Shared → Prop) (E : Value → Shared → Prop),
    (∀ s' G', G.Le G' → FS f G' ρ s' → Q b s') → wpAny (model PG f.w) f.A (forIn ifs true fun c r => if r = true then do let ok ← isTrue c f.env (eval c f.env); pure (ForInStep.yield ok) else pure (ForInStep.yield r)) Q E s
theorem TS.nil : TS f ρ [] true := ⟨fun s G F Q E k => wpAny_tests_nil (k s G (.refl _) F)⟩
theorem TS.one {c : Expr} {b : Bool} (h : EB f ρ (isTrue c f.env (eval c f.env)) b) : TS f ρ [c] b := ⟨fun s G F Q E k => wpAny_tests_one (h.run s G F Q E k)⟩
/-- a raw append to a list of the frame's own -/
theorem raw_append {a : Addr} {vs : List Value} {n : Nat} {v : Value} (F : FS f G ρ s) (ha : (a, listOf vs.toArray n) ∈ G.own) (hsz : vs.length ≤ sizeLine) {Q : Value → Shared → Prop} {E : Value → Shared → Prop}
    (k : ∀ s' n', FS f { G with own := repl a (listOf (vs ++ [v]).toArray n') G.own } (clean ρ) s' → Q .none s') : wpAny (model PG f.w) f.A (PySem.call (.builtin "list.append") [.ref a, v]) Q E s := by
  have hsz' : vs.toArray.size ≤ sizeLine := by rw [List.size_toArray]; exact hsz
  refine call_meets slot_list_append ⟨_, (F.own _ ha).1, rfl⟩ entry_list_append (args_list_append _ _) (PySem.AutoListH.list_append_list_val_0 a vs.toArray n v hsz') ⟨(F.own _ ha).1, ?_⟩
  obtain ⟨n', e1⟩ := getUpd (F.own _ ha).1 (fun x => x.push v)
  have hp : vs.toArray.push v = (vs ++ [v]).toArray := by simp
  rw [hp] at e1
  exact k _ n' (F.setList ha (Heap.SameBut.update ..) e1 (Nat.le_refl _))
theorem comp_loop {elt target iter : Expr} {ifs : List Expr} {scope : Scope} {pos : Pos} {it D : Addr} {l : List PV} {ρf : Rho} {ρ₂ : PV → Rho} {p : PV → Bool} {y : PV → PV} {R : Result → Shared → Prop}
    (ha : ∀ v ∈ l, ASO f ρf (PySem.assign target f.env) v (ρ₂ v)) (ht : ∀ v ∈ l, TS f (ρ₂ v) ifs (p v)) (he : ∀ v ∈ l, p v = true → EV f (ρ₂ v) (eval elt f.env) (y v))
    (hw : ∀ v ∈ l, ∀ G s, FS f G (clean (ρ₂ v)) s → FS f G ρf s) (hw' : ∀ v ∈ l, ∀ G s, FS f G (ρ₂ v) s → FS f G ρf s)
    {o : Obj} {r : List (Addr × Obj)} {done : List PV} (F : FS f { G with fr := (it, o) :: r } ρf s) (hi : IsIt G.τ G.κ o l) (hD : OwnList G D done) (hsz : l.length + done.length ≤ sizeLine)
    (hR : ∀ s' G', G.Lt { G' with fr := G.fr } → FS f { G' with fr := r } ρf s' → OwnList G' D (done ++ (l.filter p).map y) → R (.ok .next) s')
    (htt : ∀ v, letOwnedTupleGo target (.ref it) v = pure () := by intro _; rfl) :
    codeAny (model PG f.w) f.A (.compLoop (.ListComp elt [⟨target, iter, ifs, 0⟩] scope pos) 0 (.ref it) (.ref D) f.env) R s := by
  refine codeAny_compLoop_tests (fun n s₁ => ∃ G₁ o₁ l₁ done₁, G.Lt { G₁ with fr := G.fr } ∧ FS f { G₁ with fr := (it, o₁) :: r } ρf s₁ ∧ IsIt G₁.τ G₁.κ o₁ l₁ ∧ OwnList G₁ D done₁ ∧ (∀ v ∈ l₁, v ∈ l) ∧ done₁ ++ (l₁.filter p).map y = done ++ (l.filter p).map y ∧
    l₁.length + done₁.length ≤ sizeLine ∧ n = l₁.length) ?_ l.length ⟨G, o, l, done, .refl _, F, hi, hD, fun v h => h, rfl, hsz, rfl⟩ htt
  rintro n s₁ ⟨G₁, o₁, l₁, done₁, L₁, F₁, hi₁, hD₁, hsub, heq, hsz₁, rfl⟩
  cases l₁ with
  | nil =>
    refine next_end F₁ hi₁ fun s₂ F₂ => ?_
    refine hR s₂ G₁ L₁ F₂ ?_
    rw [← heq]; simpa using hD₁
  | cons x l₁ =>
    refine next_item F₁ hi₁ fun v s₂ G₂ o₂ L₂ F₂ hi₂ rv => ?_
    have hx := hsub x (.head _)
    obtain ⟨vs, nn, hm, hr⟩ := hD₁
    have hm2 : (D, listOf vs.toArray nn) ∈ G₂.own := by rw [show G₂.own = G₁.own from L₂.own]; exact hm
    refine (ha x hx).run s₂ _ v F₂ rv _ _ fun s₃ G₃ t3 hown F₃ => ?_
    have hm3 := hown _ _ _ hm2
    refine (ht x hx).run s₃ G₃ F₃ _ _ fun s₄ G₄ L₄ F₄ => ?_
    have tt : Gh.Lt { G₂ with fr := (it, o₂) :: r } G₄ := t3.trans L₄.lt
    have lt2 : Gh.Lt { G₁ with fr := G.fr } { G₂ with fr := G.fr } := ⟨L₂.τ, L₂.κ, rfl⟩
    have hrD : RpAll G₄.τ G₄.κ vs done₁ := hr.mono (L₂.τ.trans tt.τ) (L₂.κ.trans tt.κ)
    have hm4 : (D, listOf vs.toArray nn) ∈ G₄.own := by rw [L₄.own]; exact hm3
    by_cases hp : p x = true
    · rw [if_pos hp]
      refine (he x hx hp).run s₄ G₄ F₄ _ _ fun u s₅ G₅ L₅ F₅ ru => ?_
      have hm5 : (D, listOf vs.toArray nn) ∈ G₅.own := by rw [L₅.own]; exact hm4
      refine raw_append F₅ hm5 (by rw [hr.length]; exact o552 hsz₁) fun s₆ n' F₆ => ?_
      have F₇ := hw x hx _ _ F₆
      have tt5 := tt.trans L₅.lt
      have e5 : G₅.fr = (it, o₂) :: r := tt5.fr
      refine ⟨l₁.length, Nat.lt_succ_self _, { G₅ with own := repl D (listOf (vs ++ [u]).toArray n') G₅.own }, o₂, l₁, done₁ ++ [y x], L₁.trans (lt2.trans ⟨tt5.τ, tt5.κ, rfl⟩), ?_, hi₂.mono tt5.τ tt5.κ, ?_, fun v h => hsub v (.tail _ h), ?_, ?_, rfl⟩
      · have F₈ := F₇
        rw [show ({ G₅ with own := repl D (listOf (vs ++ [u]).toArray n') G₅.own } : Gh) = { { G₅ with own := repl D (listOf (vs ++ [u]).toArray n') G₅.own } with fr := (it, o₂) :: r } by rw [← e5]] at F₈
        exact F₈
      · exact ⟨vs ++ [u], n', repl_self hm5, (hrD.mono L₅.τ L₅.κ).append (.one ru)⟩
      · rw [← heq, List.filter_cons, if_pos hp, List.map_cons, List.append_assoc]; rfl
      · simp only [List.length_append, List.length_cons, List.length_nil] at hsz₁ ⊢; exact o131 hsz₁
    · have hp' : p x = false := by simpa using hp
      rw [if_neg hp]
      have e4 : G₄.fr = (it, o₂) :: r := tt.fr
      refine ⟨l₁.length, Nat.lt_succ_self _, G₄, o₂, l₁, done₁, L₁.trans (lt2.trans ⟨tt.τ, tt.κ, rfl⟩), ?_, hi₂.mono tt.τ tt.κ, ⟨vs, nn, hm4, hrD⟩, fun v h => hsub v (.tail _ h), ?_, ?_, rfl⟩
      · have F₈ := hw' x hx _ _ F₄
        rw [show G₄ = { G₄ with fr := (it, o₂) :: r } by rw [← e4]] at F₈
        exact F₈
      · rw [← heq, List.filter_cons, if_neg hp]
      · simp only [List.length_cons] at hsz₁ ⊢; exact o515 hsz₁
/-- the free names of a comprehension, as the frame around has them -/
def freOf (names : List (Str × NameKind)) (ρ : Rho) : Rho := names.filterMap fun x => if x.2 = .free then (match ρ.lookup x.1 with
  | some (.cel pv) => some (x.1, .fre pv)
  | some (.fre pv) => some (x.1, .fre pv)
  | _ => .none) else .none
def freOk (names : List (Str × NameKind)) (ρ : Rho) : Bool := names.all fun x => x.2 != .free || (match ρ.lookup x.1 with
  | some (.cel _) => true
  | some (.fre _) => true
  | _ => false)
theorem freOf_look {ρ : Rho} {x : Str} {e : Ent} : ∀ {names : List (Str × NameKind)}, (freOf names ρ).lookup x = some e → ∃ pv, e = .fre pv ∧ (x, NameKind.free) ∈ names ∧ (ρ.lookup x = some (.cel pv) ∨ ρ.lookup x = some (.fre pv))
  | [], h => by cases h
  | (n, k) :: names, h => by
    have step : freOf ((n, k) :: names) ρ = freOf names ρ ∨ ∃ pv, k = .free ∧ freOf ((n, k) :: names) ρ = (n, .fre pv) :: freOf names ρ ∧ (ρ.lookup n = some (.cel pv) ∨ ρ.lookup n = some (.fre pv)) := by
      unfold freOf
      rw [List.filterMap_cons]
      by_cases hk : k = .free
      · simp only [hk, if_true]
        cases q : ρ.lookup n with
        | none => left; rfl
        | some e =>
          cases e with
          | cel pv => right; exact ⟨pv, trivial, rfl, .inl rfl⟩
          | fre pv => right; exact ⟨pv, trivial, rfl, .inr rfl⟩
          | loc _ | owned _ | ucel | cown _ | fown _ | dead => left; rfl
      · left; simp only [hk, if_false]
    rcases step with e1 | ⟨pv, rfl, e1, e2⟩
    · rw [e1] at h; obtain ⟨pv, a, b, c⟩ := freOf_look h; exact ⟨pv, a, .tail _ b, c⟩
    · rw [e1] at h
      rcases look_cons h with ⟨rfl, rfl⟩ | ⟨_, h⟩
      · exact ⟨pv, rfl, .head _, e2⟩
      · obtain ⟨pv, a, b, c⟩ := freOf_look h; exact ⟨pv, a, .tail _ b, c⟩
/-- the cells that a comprehension takes -/
theorem closure_of {env : Env} : ∀ {names : List (Str × NameKind)} (acc : List (Str × Addr)), (∀ x, (x, NameKind.free) ∈ names → ∃ c, env.cells.lookup x = some c) →
    ∃ cl, (forIn names acc fun (x : Str × NameKind) (r : List (Str × Addr)) => (do if x.2 == .free then do { let c ← cellOf env x.1; pure (ForInStep.yield ((x.1, c) :: r)) } else pure (ForInStep.yield r) : Sem (ForInStep (List (Str × Addr))))) = pure cl ∧
      (∀ x c, cl.lookup x = some c → (env.cells.lookup x = some c ∧ (x, NameKind.free) ∈ names) ∨ acc.lookup x = some c) ∧ (∀ x, (x, NameKind.free) ∈ names ∨ (∃ c, acc.lookup x = some c ∧ env.cells.lookup x = some c) → ∀ c, env.cells.lookup x = some c → (∀ y d, acc.lookup y = some d → env.cells.lookup y = some d) → cl.lookup x = some c)
  | [], acc, _ => ⟨acc, rfl, fun x c h => .inr h, fun x h c hc hacc => by
      rcases h with h | ⟨d, h1, h2⟩
      · cases h
      · rw [hc] at h2; cases h2; exact h1⟩
  | (n, k) :: names, acc, h => by
    by_cases hk : k = .free
    · subst hk
      obtain ⟨c, hc⟩ := h n (.head _)
      obtain ⟨cl, e1, e2, e3⟩ := closure_of (names := names) ((n, c) :: acc) fun x hx => h x (.tail _ hx)
      refine ⟨cl, ?_, fun x d hd => ?_, fun x hx d hd hacc => ?_⟩
      · rw [List.forIn_cons]
        simp only [beq_self_eq_true, if_true, cellOf, hc]
        exact e1
      · rcases e2 x d hd with q | q
        · exact .inl ⟨q.1, .tail _ q.2⟩
        · rw [List.lookup_cons] at q
          split at q
          · rename_i hq; cases q; rw [eq_of_beq hq]; exact .inl ⟨hc, .head _⟩
          · exact .inr q
      · have hacc' : ∀ y d, ((n, c) :: acc).lookup y = some d → env.cells.lookup y = some d := fun y d hy => by
          rw [List.lookup_cons] at hy
          split at hy
          · rename_i hq; cases hy; rw [eq_of_beq hq]; exact hc
          · exact hacc y d hy
        refine e3 x ?_ d hd hacc'
        by_cases q : x = n
        · subst q; right; exact ⟨c, by rw [List.lookup_cons]; simp, hc⟩
        · rcases hx with hx | ⟨d', h1, h2⟩
          · rcases List.mem_cons.mp hx with hx | hx
            · cases hx; exact absurd rfl q
            · exact .inl hx
          · right; refine ⟨d', ?_, h2⟩
            rw [List.lookup_cons]
            have : (x == n) = false := by simpa using q
            rw [this]; exact h1
    · obtain ⟨cl, e1, e2, e3⟩ := closure_of (names := names) acc fun x hx => h x (.tail _ hx)
      refine ⟨cl, ?_, fun x d hd => (e2 x d hd).imp (fun q => ⟨q.1, .tail _ q.2⟩) id, fun x hx d hd hacc => ?_⟩
      · rw [List.forIn_cons]
        have : (k == NameKind.free) = false := by simpa using hk
        simp only [this, Bool.false_eq_true, if_false]
        exact e1
      · refine e3 x ?_ d hd hacc
        rcases hx with hx | hx
        · rcases List.mem_cons.mp hx with hx | hx
          · cases hx; exact absurd rfl hk
          · exact .inl hx
        · exact .inr hx
theorem closureFor_of {env : Env} {scope : Scope} (h : ∀ x, (x, NameKind.free) ∈ scope.names → ∃ c, env.cells.lookup x = some c) : ∃ cl, closureFor scope env = pure cl ∧ (∀ x c, cl.lookup x = some c → env.cells.lookup x = some c ∧ (x, NameKind.free) ∈ scope.names) ∧
    (∀ x c, (x, NameKind.free) ∈ scope.names → env.cells.lookup x = some c → cl.lookup x = some c) := by
  obtain ⟨cl, e1, e2, e3⟩ := closure_of (names := scope.names) [] h
  refine ⟨cl, ?_, fun x c hx => (e2 x c hx).elim id (fun q => nomatch q), fun x c hx hc => e3 x (.inl hx) c hc (fun y d q => nomatch q)⟩
  unfold closureFor
  rw [← bind_pure (pure cl), ← e1]
theorem relabel_free {env : Env} : ∀ {names : List (Str × NameKind)} {x : Str}, names.lookup x = some .free →
    (names.map fun (n, k) => if (k == NameKind.free && env.scope.kind == .function && env.kindOf n == some .cell) then (n, NameKind.cell) else (n, k)).lookup x = some .free ∨
    (names.map fun (n, k) => if (k == NameKind.free && env.scope.kind == .function && env.kindOf n == some .cell) then (n, NameKind.cell) else (n, k)).lookup x = some .cell
  | [], _, h => by simp at h
  | (n, k) :: r, x, h => by
    rw [List.map_cons]
    rw [List.lookup_cons] at h
    cases q : x == n with
    | true =>
      rw [q] at h
      injection h with h
      subst h
      dsimp only
      split
      · right; rw [List.lookup_cons, q]
      · left; rw [List.lookup_cons, q]
    | false =>
      rw [q] at h
      have ih := relabel_free (env := env) h
      dsimp only
      split <;> (rw [List.lookup_cons, q]; exact ih)
/-- the comprehension's frame -/
def compFm (f : Fm sc dk tb) (scope : Scope) (cl : List (Str × Addr)) (C : Addr) (h0 : Heap) (κ0 : Kap) (br : List Addr) : Fm (relabel scope f.env) dk tb :=
  { w := f.w, A := f.A, L := C, cells := cl, qual := f.qual, func := none, code := f.code, frame := f.frame, g0 := f.g0, h0 := h0, κ0 := κ0, br := br, out := [], rs := false, gens := f.gens, drawn := f.drawn, os := f.os }
/-- what a comprehension's parts give, in whatever frame it makes -/
structure CompP (f : Fm sc dk tb) (ρ : Rho) (scope : Scope) (target : Expr) (ifs : List Expr) (elt : Expr) (l : List PV) (ρ₂ : PV → Rho) (p : PV → Bool) (y : PV → PV) : Prop where
  asg : ∀ f' : Fm (relabel scope f.env) dk tb, f'.w = f.w → ∀ v ∈ l, ASO f' (freOf scope.names ρ) (PySem.assign target f'.env) v (ρ₂ v)
  tests : ∀ f' : Fm (relabel scope f.env) dk tb, f'.w = f.w → ∀ v ∈ l, TS f' (ρ₂ v) ifs (p v)
  elt : ∀ f' : Fm (relabel scope f.env) dk tb, f'.w = f.w → ∀ v ∈ l, p v = true → EV f' (ρ₂ v) (eval elt f'.env) (y v)
  back : ∀ v ∈ l, SubR (freOf scope.names ρ) (clean (ρ₂ v)) ∧ SubR (freOf scope.names ρ) (ρ₂ v)
theorem comp_core {elt target iter : Expr} {ifs : List Expr} {scope : Scope} {pos : Pos} {l : List PV} {ρ₂ : PV → Rho} {p : PV → Bool} {y : PV → PV} (hit : IT f ρ (eval iter f.env) l) (P : CompP f ρ scope target ifs elt l ρ₂ p y) (hok : freOk scope.names ρ = true)
    (hcell : ∀ x ∈ scope.names, x.2 ≠ .cell) (hkind : scope.kind = .function) (hnames : ∀ x ∈ scope.names, scope.names.lookup x.1 = some x.2) (hsz : l.length ≤ sizeLine) {cl : List (Str × Addr)}
    (hcl1 : ∀ x c, cl.lookup x = some c → f.env.cells.lookup x = some c) (hcl2 : ∀ x c, (x, NameKind.free) ∈ scope.names → f.env.cells.lookup x = some c → cl.lookup x = some c) (F : FS f G ρ s) {E : Value → Shared → Prop} {RR : Value → Addr → Result → Shared → Prop}
    (hRR : ∀ D C o s' G', G.Le G' → FS f { G' with fr := (C, o) :: G'.fr } ρ s' → (∀ vs (q : Str) (t : Tok), o.data = .fields vs → vs[1]? ≠ some (.str q t)) → Rp G'.τ G'.κ (.ref D) (.list ((l.filter p).map y)) → (∃ m, s'.heap.Ns C m) → RR (.ref D) C (.ok .next) s')
    (htt : ∀ it v, letOwnedTupleGo target it v = pure () := by intro _ _; rfl) :
    wpAny (model PG f.w) f.A (eval iter f.env) (fun x s₁ => wpAny (model PG f.w) f.A (pyIter x) (fun it s₂ => wpAny (model PG f.w) f.A (newList []) (fun acc s₃ =>
      wpAny (model PG f.w) f.A (newFunctionEnv scope f.env.globals cl [] f.env.qual none .none (some f.env)) (fun cenv s₄ =>
        codeAny (model PG f.w) f.A (.compStart (.ListComp elt [⟨target, iter, ifs, 0⟩] scope pos) 0 it acc { cenv with scope := relabel scope f.env }) (RR acc cenv.locals) s₄) E s₃) E s₂) E s₁) E s := by
  refine hit.run s G F _ E fun it o s₂ G₂ hge L₂ F₂ hi => ?_
  refine wpAny_newObj_type (wpAny_newFunctionEnv hcell (by intro y hy; simp at hy) (fun h₁ hns₁ hsb₁ => ?_) hkind)
  dsimp only at hns₁ hsb₁ ⊢
  generalize hH2 : s₂.heap.push { cls := .type "list", dict := none, data := .seq ([] : List Value).toArray } = H2 at hns₁ hsb₁ ⊢
  have hC : H2.objs.size = s₂.heap.objs.size + 1 := by rw [← hH2, Heap.size_push]
  have below : ∀ b, b < s₂.heap.objs.size → b ≠ H2.objs.size := fun b hb => by rw [hC]; exact Nat.ne_of_lt (Nat.lt_succ_of_lt hb)
  have hDC : s₂.heap.objs.size ≠ H2.objs.size := by rw [hC]; exact Nat.ne_of_lt (Nat.lt_succ_self _)
  have old : ∀ b ob, s₂.heap.get? b = some ob → h₁.get? b = some ob := fun b ob e => (hsb₁.2 b (below b (Heap.lt_size e))).trans (Heap.get?_push_of_some _ (hH2 ▸ Heap.get?_push_of_some _ e))
  have hDo : h₁.get? s₂.heap.objs.size = some (listOf ([] : List Value).toArray 0) := (hsb₁.2 _ hDC).trans (Heap.get?_push_of_some _ (hH2 ▸ Heap.get?_push_size _ rfl))
  have hC2 : s₂.heap.objs.size ≤ H2.objs.size := by rw [hC]; exact Nat.le_succ _
  -- the outer state, on the new heap
  have F₃ := F₂.all (h' := h₁) (tk := s₂.toks) old (Nat.le_refl _)
  have hFar : Far f { G₂ with fr := (it, o) :: G₂.fr } s₂.heap.objs.size := F₂.far (Nat.le_refl _)
  have hFarC : Far f { G₂ with fr := (it, o) :: G₂.fr } H2.objs.size := F₂.far hC2
  -- the inner frame
  let f' := compFm f scope cl H2.objs.size s₂.heap G₂.κ [it]
  let G' : Gh := ⟨G₂.τ, G₂.κ, fun _ => none, [(s₂.heap.objs.size, listOf ([] : List Value).toArray 0)], [(it, o)]⟩
  have hsL := F₂.ns.lt
  have itf := F₂.fr _ (.head _)
  have notIt : ∀ c ob, f.h0.get? c = some ob → c ∉ f.br → c ≠ it := fun c ob e h q => itf.2.2.2.2.2.elim (fun q' => absurd (Heap.lt_size e) (Nat.not_lt.mpr (q ▸ q'))) fun q' => h (q ▸ q')
  have g0it : f.g0.get? it = none := by
    rcases itf.2.2.2.2.2 with q | q
    · cases e : f.g0.get? it with
      | none => rfl
      | some ob => exact absurd (Heap.lt_size (F.ok.g0h _ _ e)) (Nat.not_lt.mpr q)
    · exact (F.ok.brs _ q).2.2
  have F' : FS f' G' (freOf scope.names ρ) { s₂ with heap := h₁, toks := s₂.toks + ([] : List (Str × Value)).length } :=
    { ok := ⟨F.ok.hh, F.ok.gl, hkind, F.ok.room, F.ok.units, F₂.keep0, Nat.lt_of_lt_of_le F.ok.big (Nat.le_trans F.ok.low (Nat.le_of_lt hsL)), hC2, F.ok.tbs,
        fun x z c h1 h2 => F.ok.cinj x z c (hcl1 _ _ h1) (hcl1 _ _ h2), fun b q => by rw [List.mem_singleton.mp q]; exact ⟨itf.2.2.2.1, itf.2.2.2.2.1, g0it⟩, fun b q => (nomatch q), fun q => (nomatch q)⟩
      keep := fun b ob hb hb' e => old b ob e
      slots := fun b ob hb => nomatch hb
      ns := hns₁
      own := fun q hq => by
        rcases List.mem_cons.mp hq with rfl | hq
        · exact ⟨hDo, hDC, hFar.n47, hFar.n54, .inl (Nat.le_refl _)⟩
        · cases hq
      nd := List.nodup_cons.mpr ⟨List.not_mem_nil, List.nodup_nil⟩
      fr := fun q hq => by
        rcases List.mem_cons.mp hq with rfl | hq
        · refine ⟨old _ _ itf.1, below _ (Heap.lt_size itf.1), fun q => ?_, itf.2.2.2.1, itf.2.2.2.2.1, .inr (.head _)⟩
          rcases List.mem_cons.mp q with q | q
          · exact absurd (Heap.lt_size itf.1) (by rw [show it = s₂.heap.objs.size from q]; exact Nat.lt_irrefl _)
          · cases q
        · cases hq
      nfr := List.nodup_cons.mpr ⟨List.not_mem_nil, List.nodup_nil⟩
      vis := fun b ob eb => by
        have v := F₂.vis b ob eb
        refine ⟨old _ _ v.1, below _ (Heap.lt_size v.1), fun q => ?_, fun q => ?_, v.2.2.2.2.1, v.2.2.2.2.2.1, .inl eb, List.not_mem_nil⟩
        · rcases List.mem_cons.mp q with q | q
          · exact absurd (Heap.lt_size v.1) (by rw [show b = s₂.heap.objs.size from q]; exact Nat.lt_irrefl _)
          · cases q
        · rcases List.mem_cons.mp q with q | q
          · exact v.2.2.2.1 (q ▸ .head _)
          · cases q
      tabs := F₃.tabs
      tok := F₂.tok
      gens := F₂.gens
      drawn := F₂.drawn
      os := F₂.os
      ents := fun x e hx => by
        obtain ⟨pv, rfl, hmem, hlook⟩ := freOf_look hx
        have hk : (Fm.env f').kindOf x = some .free ∨ (Fm.env f').kindOf x = some .cell := relabel_free (env := f.env) (hnames _ hmem)
        have fromF : ∀ c v ob, f.env.cells.lookup x = some c → s₂.heap.get? c = some ob → c ∉ tb → c ≠ it → ob.data = .cell (some v) → Rp G₂.τ G₂.κ v pv → EntOk f' G' x (.fre pv) := fun c v ob h1 h2 h3 h3' h4 h5 =>
          ⟨v, ⟨hk, c, ob, hcl2 x c hmem h1, h2, h3, ⟨(fun q => h3' (List.mem_singleton.mp q)), List.not_mem_nil⟩, h4⟩, h5⟩
        rcases hlook with hl | hl
        · obtain ⟨v, ⟨_, c, ob, h1, h2, h3, h4⟩, h5⟩ := F₂.ents x _ hl
          have ho := F₂.own _ h2
          exact fromF c v ob h1 ho.1 (fun q => (F.ok.tbs _ q).elim ho.2.2.1 ho.2.2.2.1) (fun q => itf.2.2.1 (q ▸ List.mem_map.mpr ⟨_, h2, rfl⟩)) h4 h5
        · obtain ⟨v, ⟨_, c, ob, h1, h2, h3, h3', h4⟩, h5⟩ := F₂.ents x _ hl
          exact fromF c v ob h1 (F₂.keep _ _ h3 h3' h2) h3 (notIt _ _ h2 h3'.1) h4 h5 }
  have loop : ∀ s₃ : Shared, s₃ = { s₂ with heap := h₁, toks := s₂.toks + ([] : List (Str × Value)).length } →
      codeAny (model PG f.w) f.A (.compLoop (.ListComp elt [⟨target, iter, ifs, 0⟩] scope pos) 0 (.ref it) (.ref s₂.heap.objs.size) (compEnvC scope cl H2.objs.size f.env)) (RR (.ref s₂.heap.objs.size) H2.objs.size) s₃ := by
    rintro s₃ rfl
    refine comp_loop (f := f') (ρf := freOf scope.names ρ) (ρ₂ := ρ₂) (p := p) (y := y) (P.asg f' rfl) (P.tests f' rfl) (P.elt f' rfl) (fun v hv G s F => F.weaken (P.back v hv).1) (fun v hv G s F => F.weaken (P.back v hv).2)
      (G := G') (o := o) (r := []) (done := []) F' hi ⟨[], 0, .head _, .nil⟩ (by simpa using hsz) (fun s' G₄ L₄ F₄ hD₄ => ?_) (htt _)
    obtain ⟨vs, n, hm, hr⟩ := hD₄
    have hDs := (F₄.own _ hm).1
    obtain ⟨oC, esC, epC, hCo, hCd, hCr⟩ := id F₄.ns
    have hC3 : s'.heap.get? H2.objs.size = some oC := hCo
    have kk : ∀ b ob, b ≠ 47 → b ≠ 54 → b ≠ it → s₂.heap.get? b = some ob → s'.heap.get? b = some ob := fun b ob h1 h2 h3 e => F₄.keep b ob (fun q => (F.ok.tbs _ q).elim h1 h2) ⟨(fun q => h3 (List.mem_singleton.mp q)), List.not_mem_nil⟩ e
    have hκ : ∀ b ob, G₄.κ b = some ob → s'.heap.get? b = some ob ∧ b ≠ H2.objs.size ∧ b ≠ s₂.heap.objs.size ∧ b ≠ it ∧ b ≠ 47 ∧ b ≠ 54 ∧ (G₂.κ b = some ob ∨ s₂.heap.objs.size ≤ b) := fun b ob eb => by
      have v := F₄.vis b ob eb
      have nD : b ≠ s₂.heap.objs.size := fun q => v.2.2.1 (q ▸ List.mem_map.mpr ⟨_, hm, rfl⟩)
      rcases v.2.2.2.2.2.2.1 with q | q
      · have q' : G₂.κ b = some ob := q
        exact ⟨v.1, v.2.1, nD, fun e => (F₂.vis b ob q').2.2.2.1 (e ▸ .head _), v.2.2.2.2.1, v.2.2.2.2.2.1, .inl q'⟩
      · have q' : s₂.heap.objs.size ≤ b := q
        exact ⟨v.1, v.2.1, nD, fun e => absurd (Heap.lt_size itf.1) (Nat.not_lt.mpr (e ▸ q')), v.2.2.2.2.1, v.2.2.2.2.2.1, .inr q'⟩
    have hκD : G₄.κ s₂.heap.objs.size = none := by
      cases e : G₄.κ s₂.heap.objs.size with
      | none => rfl
      | some ob => exact absurd rfl (hκ _ _ e).2.2.1
    have Lτ : TLe G₂.τ G₄.τ := L₄.τ
    have Lκ : KLe G₂.κ (addK G₄.κ s₂.heap.objs.size (listOf vs.toArray n)) := KLe.trans (b := G₄.κ) L₄.κ (addK_le hκD)
    have visOut : ∀ b ob, addK G₄.κ s₂.heap.objs.size (listOf vs.toArray n) b = some ob → s'.heap.get? b = some ob ∧ b ≠ H2.objs.size ∧ b ≠ 47 ∧ b ≠ 54 ∧ (G₂.κ b = some ob ∨ s₂.heap.objs.size ≤ b) := fun b ob eb => by
      unfold addK at eb
      by_cases q : b = s₂.heap.objs.size
      · rw [if_pos q] at eb; cases eb; subst q; exact ⟨hDs, hDC, hFar.n47, hFar.n54, .inr (Nat.le_refl _)⟩
      · rw [if_neg q] at eb; have v := hκ b ob eb; exact ⟨v.1, v.2.1, v.2.2.2.2.1, v.2.2.2.2.2.1, v.2.2.2.2.2.2⟩
    have FO : FS f { τ := G₄.τ, κ := addK G₄.κ s₂.heap.objs.size (listOf vs.toArray n), m := G₂.m, own := G₂.own, fr := (H2.objs.size, oC) :: G₂.fr } ρ s' :=
      { ok := F.ok
        keep := fun b ob hb hb' e => F₄.keep b ob hb ⟨(fun q => notIt _ _ e hb'.1 (List.mem_singleton.mp q)), List.not_mem_nil⟩ (F₂.keep b ob hb hb' e)
        slots := fun b ob hb e => by
          obtain ⟨sl, e'⟩ := F₂.slots b ob hb e
          have ob' := F.ok.outs b hb
          exact ⟨sl, kk _ _ ob'.1 ob'.2.1 (notIt _ _ e ob'.2.2.2.1) e'⟩
        ns := F₂.ns.at' fun ob e => F₄.keep _ ob F₂.tbL ⟨(fun q => itf.2.1 (List.mem_singleton.mp q).symm), List.not_mem_nil⟩ e
        own := fun q hq => by
          have h := F₂.own q hq
          exact ⟨kk _ _ h.2.2.1 h.2.2.2.1 (fun e => itf.2.2.1 (e ▸ List.mem_map.mpr ⟨_, hq, rfl⟩)) h.1, h.2⟩
        nd := F₂.nd
        fr := fun q hq => by
          rcases List.mem_cons.mp hq with rfl | hq
          · exact ⟨hC3, hFarC.L, hFarC.own, hFarC.n47, hFarC.n54, .inl hFarC.h0⟩
          · have h := F₂.fr q (.tail _ hq)
            exact ⟨kk _ _ h.2.2.2.1 h.2.2.2.2.1 (fun e => (List.nodup_cons.mp F₂.nfr).1 (e ▸ List.mem_map.mpr ⟨_, hq, rfl⟩)) h.1, h.2⟩
        nfr := List.nodup_cons.mpr ⟨fun q => hFarC.fr (.tail _ q), (List.nodup_cons.mp F₂.nfr).2⟩
        vis := fun b ob eb => by
          have v := visOut b ob eb
          rcases v.2.2.2.2 with q | q
          · have u := F₂.vis b ob q
            refine ⟨v.1, u.2.1, u.2.2.1, fun e => ?_, v.2.2.1, v.2.2.2.1, u.2.2.2.2.2.2⟩
            rcases List.mem_cons.mp e with e | e
            · exact v.2.1 e
            · exact u.2.2.2.1 (.tail _ e)
          · have X := F₂.far q
            refine ⟨v.1, X.L, X.own, fun e => ?_, v.2.2.1, v.2.2.2.1, .inr X.h0, X.out⟩
            rcases List.mem_cons.mp e with e | e
            · exact v.2.1 e
            · exact X.fr (.tail _ e)
        tabs := F₄.tabs
        tok := F₄.tok
        gens := F₄.gens
        drawn := F₄.drawn
        os := F₄.os
        ents := fun x e hx => by
          have := F₂.ents x e hx
          have := EntOk.mono (G := { G₂ with fr := (it, o) :: G₂.fr }) (G' := { τ := G₄.τ, κ := addK G₄.κ s₂.heap.objs.size (listOf vs.toArray n), m := G₂.m, own := G₂.own, fr := (it, o) :: G₂.fr }) ⟨Lτ, Lκ, rfl, rfl, rfl⟩ this
          exact this.fr (r := (H2.objs.size, oC) :: G₂.fr) }
    refine hRR s₂.heap.objs.size H2.objs.size oC s' { τ := G₄.τ, κ := addK G₄.κ s₂.heap.objs.size (listOf vs.toArray n), m := G₂.m, own := G₂.own, fr := G₂.fr } (L₂.trans ⟨Lτ, Lκ, rfl, rfl, rfl⟩) FO ?_ ?_ ⟨_, F₄.ns⟩
    · intro vs _ _ e; rw [hCd] at e; cases e
    · refine .list (vs := vs) (n := n) (addK_self _ _ _) ?_
      have := hr.mono (TLe.refl _) (addK_le (o := listOf vs.toArray n) hκD)
      simpa using this
  exact codeAny_compStart_list (loop _ rfl) (iter_self (f := f') (G := G') (r := []) F' hi (loop _ rfl))
theorem free_cells {scope : Scope} (F : FS f G ρ s) (hok : freOk scope.names ρ = true) : ∀ x, (x, NameKind.free) ∈ scope.names → ∃ c, f.env.cells.lookup x = some c := fun x hx => by
  have h := List.all_eq_true.mp hok _ hx
  cases q : ρ.lookup x with
  | none => simp [q] at h
  | some e =>
    have he := F.ents x e q
    cases e with
    | cel pv => obtain ⟨v, ⟨_, c, _, h1, _⟩, _⟩ := he; exact ⟨c, h1⟩
    | fre pv => obtain ⟨v, ⟨_, c, _, h1, _⟩, _⟩ := he; exact ⟨c, h1⟩
    | loc _ | owned _ | ucel | cown _ | fown _ | dead => simp [q] at h
theorem EV.comp {elt target iter : Expr} {ifs : List Expr} {scope : Scope} {pos : Pos} {l : List PV} {ρ₂ : PV → Rho} {p : PV → Bool} {y : PV → PV} (hit : IT f ρ (eval iter f.env) l) (P : CompP f ρ scope target ifs elt l ρ₂ p y) (hsz : l.length ≤ sizeLine) (hok : freOk scope.names ρ = true := by rfl)
    (hcell : ∀ x ∈ scope.names, x.2 ≠ .cell := by decide) (hkind : scope.kind = .function := by rfl) (hnames : ∀ x ∈ scope.names, scope.names.lookup x.1 = some x.2 := by decide) 
    (hs : ∀ x, foldedSetIterable iter f.env x = pure x := by intro _; rfl) (htt : ∀ it v, letOwnedTupleGo target it v = pure () := by intro _ _; rfl) :
    EV f ρ (eval (.ListComp elt [⟨target, iter, ifs, 0⟩] scope pos) f.env) (.list ((l.filter p).map y)) := ⟨fun s G F Q E k => by
  obtain ⟨cl, hcl, hcl1', hcl2⟩ := closureFor_of (env := f.env) (scope := scope) (free_cells F hok)
  have hcl1 := fun x c h => (hcl1' x c h).1
  rw [eval_ListComp]
  refine wpAny_comprehension_free (use := none) rfl hs hcl hkind (fun x hx hl => (hnames x hx).trans (congrArg some hl)) (comp_core hit P hok hcell hkind hnames hsz hcl1 hcl2 F (RR := fun acc C => compPost (model PG f.w) f.A E none Q acc C) ?_ htt)
  intro D C o s' G' L F' hc r hns
  obtain ⟨m, hn⟩ := hns
  exact ⟨m, hn, fun h'' hs'' => k _ _ G' L (F'.dropFr hs''.extBut hc) r⟩⟩
/-- name = [.. for ..] where the compiler swaps the stores -/
theorem SX.comp {x : Str} {px spos : Pos} {elt target iter : Expr} {ifs : List Expr} {scope : Scope} {pos : Pos} {l : List PV} {ρ₂ : PV → Rho} {p : PV → Bool} {y : PV → PV} {Φ : Out → Prop} (hit : IT f ρ (eval iter f.env) l) (P : CompP f ρ scope target ifs elt l ρ₂ p y) (hsz : l.length ≤ sizeLine)
    (hΦ : Φ (.nx ((x, .loc (.list ((l.filter p).map y))) :: ρ))) (hx : f.env.kindOf x = some .local := by rfl) (hok : freOk scope.names ρ = true := by rfl)
    (hsw : swapsWith (.ListComp elt [⟨target, iter, ifs, 0⟩] scope pos) (some (.Name x px)) spos.line f.env = pure true := by rfl)
    (hcell : ∀ x ∈ scope.names, x.2 ≠ .cell := by decide) (hkind : scope.kind = .function := by rfl) (hnames : ∀ x ∈ scope.names, scope.names.lookup x.1 = some x.2 := by decide) 
    (hs : ∀ x, foldedSetIterable iter f.env x = pure x := by intro _; rfl) (htt : ∀ it v, letOwnedTupleGo target it v = pure () := by intro _ _; rfl) :
    SX f ρ (exec (.Assign [.Name x px] (.ListComp elt [⟨target, iter, ifs, 0⟩] scope pos) spos) f.env) Φ := ⟨fun s G F Q E k => by
  obtain ⟨cl, hcl, hcl1', hcl2⟩ := closureFor_of (env := f.env) (scope := scope) (free_cells F hok)
  have hcl1 := fun x c h => (hcl1' x c h).1
  rw [exec_Assign_Name_used _ _ _ _ hsw]
  refine wpAny_bind (wpAny_standAt (wpAny_bind ?_))
  show wpAny _ f.A (do let _ ← comprehension (.ListComp elt [⟨target, iter, ifs, 0⟩] scope pos) scope f.env _ (newList []) false (eval iter f.env) (some (PySem.assign (.Name x px) f.env))) _ _ s
  refine wpAny_bind (wpAny_mono (wpAny_comprehension_free (use := some (PySem.assign (.Name x px) f.env)) (Q := fun _ s' => Q .next s') rfl hs hcl hkind (fun x hx hl => (hnames x hx).trans (congrArg some hl))
    (comp_core hit P hok hcell hkind hnames hsz hcl1 hcl2 F (RR := fun acc C => compPost (model PG f.w) f.A E (some (PySem.assign (.Name x px) f.env)) (fun _ s' => Q .next s') acc C) ?_ htt)) (fun _ s' hq => wpAny_pure (wpAny_pure hq)) fun _ _ e => e)
  intro D C o s' G' L F' hc r hns
  obtain ⟨m, hn⟩ := hns
  show wpAny _ f.A (PySem.assign (.Name x px) f.env (.ref D)) _ _ _
  refine wpAny_assign_Name ?_
  have hLC := (F'.fr _ (.head _)).2.1
  have hp := F'.notCM
  with_reducible refine wpAny_storeName_local hx F'.ns (fun h' hn' hs' => ?_) hp
  have F2 := F'.storeLoc hx r hn' hs'
  refine ⟨m, hn.sameBut hs' hLC, fun h'' hs'' => ?_⟩
  have F3 := FS.dropFr (G := { G' with m := upd G'.m x (.ref D) }) F2 hs''.extBut hc
  exact k (.nx _) .next _ { G' with m := upd G'.m x (.ref D) } hΦ (L.lt.trans ⟨.refl _, .refl _, rfl⟩) ⟨rfl, F3⟩⟩
end
end Mine

end
section
open PySem PySem.W PyProof.Rows PySem.Calls PySem.Spec PySem.Challenge
namespace Mine
variable {sc : Scope} {dk : Nat} {tb : List Addr}
theorem bindL_out {kf : Str → Option NameKind} {x : Str} : ∀ {binds : List (Str × Value)} {m : Str → Option Value}, x ∉ binds.map (·.1) → bindL kf binds m x = m x
  | [], _, _ => rfl
  | (n, v) :: r, m, h => by
    unfold bindL
    rw [bindL_out (fun q => h (.tail _ q))]
    split
    · exact if_neg fun (q : x = n) => h (q ▸ .head _)
    · rfl
theorem bindC_out {kf : Str → Option NameKind} {x : Str} : ∀ {binds : List (Str × Value)} {m : Str → Option Value}, x ∉ binds.map (·.1) → bindC kf binds m x = m x
  | [], _, _ => rfl
  | (n, v) :: r, m, h => by
    unfold bindC
    rw [bindC_out (fun q => h (.tail _ q))]
    split
    · rfl
    · exact if_neg fun (q : x = n) => h (q ▸ .head _)
theorem zip_fst {names : List Str} {vs : List Value} : ∀ {x}, x ∈ (names.zip vs).map (·.1) → x ∈ names := fun {x} h => by
  obtain ⟨p, hp, rfl⟩ := List.mem_map.mp h
  exact (List.of_mem_zip (a := p.1) (b := p.2) hp).1
theorem bind_look {kf : Str → Option NameKind} {τ : Tau} {κ : Kap} (names : List Str) {vs : List Value} {pvs : List PV} (m cm : Str → Option Value) (hl : names.length = pvs.length) (hnd : names.Nodup) (hr : RpAll τ κ vs pvs) {x : Str} {e : PV} (h : (names.zip pvs).lookup x = some e) :
    x ∈ names ∧ ∃ v, Rp τ κ v e ∧ (kf x = some .local → bindL kf (names.zip vs) m x = some v) ∧ (¬ kf x = some .local → bindC kf (names.zip vs) cm x = some v) := by
  induction names generalizing vs pvs m cm with
  | nil => cases h
  | cons n names ih =>
    cases hr with
    | nil => cases hl
    | @cons v vs d pvs hv hvs =>
        rw [List.zip_cons_cons, List.lookup_cons] at h
        rw [List.zip_cons_cons]
        obtain ⟨hn1, hn2⟩ := List.nodup_cons.mp hnd
        cases q : x == n with
        | true =>
          rw [q] at h
          injection h with h
          subst h
          have q' := eq_of_beq q
          subst q'
          refine ⟨.head _, v, hv, fun hk => ?_, fun hk => ?_⟩
          · unfold bindL; rw [bindL_out (fun q => hn1 (zip_fst q)), if_pos hk]; exact if_pos rfl
          · unfold bindC; rw [bindC_out (fun q => hn1 (zip_fst q)), if_neg hk]; exact if_pos rfl
        | false =>
          rw [q] at h
          obtain ⟨h1, v', h2, h3, h4⟩ := ih (m := if kf n = some .local then fun y => if y = n then some v else m y else m) (cm := if kf n = some .local then cm else fun y => if y = n then some v else cm y) (Nat.succ.inj hl) hn2 hvs h
          exact ⟨.tail _ h1, v', h2, fun hk => by unfold bindL; exact h3 hk, fun hk => by unfold bindC; exact h4 hk⟩
theorem cellsFrom_some {x : Str} : ∀ {names : List (Str × NameKind)} {n : Nat} {acc : List (Str × Addr)}, (x, NameKind.cell) ∈ names ∨ (acc.lookup x).isSome = true → ((cellsFrom n names acc).lookup x).isSome = true
  | [], n, acc, h => by
    rcases h with h | h
    · cases h
    · exact h
  | (y, k) :: r, n, acc, h => by
    unfold cellsFrom
    split
    · rename_i hk
      refine cellsFrom_some ?_
      by_cases q : x = y
      · right; subst q; rw [List.lookup_cons]; simp
      · rcases h with h | h
        · rcases List.mem_cons.mp h with e | h
          · cases e; exact absurd rfl q
          · exact .inl h
        · right; rw [List.lookup_cons]
          have : (x == y) = false := by simpa using q
          rw [this]; exact h
    · rename_i hk
      refine cellsFrom_some ?_
      rcases h with h | h
      · rcases List.mem_cons.mp h with e | h
        · cases e; exact absurd rfl hk
        · exact .inl h
      · exact .inr h
def entP (sc : Scope) (x : Str × PV) : Str × Ent := (x.1, if sc.names.lookup x.1 = some .cell then .cel x.2 else .loc x.2)
/-- what stands at a def's start -/
def rho0 (sc : Scope) (names : List Str) (pvs : List PV) : Rho := (names.zip pvs).map (entP sc) ++ (sc.names.filter fun x => x.2 == .cell).map fun x => (x.1, .ucel)
theorem map_look {α β : Type} (g : Str → α → β) : ∀ {l : List (Str × α)} {x : Str}, (l.map fun p => (p.1, g p.1 p.2)).lookup x = (l.lookup x).map (g x)
  | [], x => rfl
  | (y, a) :: r, x => by
    rw [List.map_cons, List.lookup_cons, List.lookup_cons]
    cases q : x == y with
    | true => rw [eq_of_beq q]; rfl
    | false => exact map_look g
theorem CT.cells {w : World} {a : Addr} {pvs : List PV} {pv : PV} {name qual : Str} {params : Arguments} {body : List Stmt} {dV kV doc pm cdv ct oc : Value} {an od : Option Addr} {osl : Array (Option Value)} {names : List Str}
    (ho : (hd.heap_39 w.params).lookup a = some ⟨oc, od, .func (fnOf name qual params body sc dV kV doc pm an cdv ct), osl⟩) (hcd : codeIn (hd.heap_39 w.params) cdv qual = true)
    (hbind : ∀ (s : Shared) (vs : List Value), vs.length = pvs.length → BindsTo s (fnOf name qual params body sc dV kV doc pm an cdv ct) ⟨vs, []⟩ (names.zip vs))
    (hlen : names.length = pvs.length) (hnd : names.Nodup) (hloc : names.all (fun x => sc.names.lookup x == some .local || sc.names.lookup x == some .cell) = true) (hnames : ∀ x ∈ sc.names, sc.names.lookup x.1 = some x.2)
    (hco : sc.isCoroutine = false) (hgen : sc.isGenerator = false) (hk : sc.kind = .function)
    (h : ∀ f : Fm sc dk tb, f.w = w → SX f (rho0 sc names pvs) (execs body f.env) (retOk pv)) (htb : ∀ b ∈ tb, b = 47 ∨ b = 54) : CT w tb (dk + 1) a pvs pv := ⟨by
  intro A g0 s τ κ vs hh hroom hunits hgl hkeep htabs htok hκ hvs R hR
  obtain ⟨X, g47, g54, p, loose, mg, mb, T⟩ := id hgl
  have X' := X.keeps hkeep
  have hbig : 54 < s.heap.objs.size := by obtain ⟨_, e, _⟩ := htabs.2; exact Heap.lt_size e
  have mem_cell : ∀ {x : Str}, sc.names.lookup x = some .cell → (x, NameKind.cell) ∈ sc.names := fun h => mem_of_lookup h
  refine codeAny_call_function (fd := fnOf name qual params body sc dV kV doc pm an cdv ct) (body := body) (by exact o7 hroom) (X' _ _ ho) rfl hco hgen rfl (codeRec_of X' hcd) (hbind s vs hvs.length _ _ _ _ ?_)
  refine grow (wpAny_newFunctionEnv_cells hk (fun x hx => ?_) fun env he s₁ x gr => ⟨(T.nolimit.keeps hkeep).keeps x.toInCall.keep, codeAny_func ?_⟩)
  · have h1 : x.1 ∈ names := (List.of_mem_zip (a := x.1) (b := x.2) hx).1
    have h2 := List.all_eq_true.mp hloc x.1 h1
    simp only [Bool.or_eq_true, beq_iff_eq] at h2
    rcases h2 with h2 | h2
    · exact .inl h2
    · exact .inr ⟨h2, cellsFrom_some (.inl (mem_cell h2))⟩
  have he' : env = callEnvC (fnOf name qual params body sc dV kV doc pm an cdv ct) s.heap.objs.size a := he
  clear he
  subst he'
  let f : Fm sc dk tb := { w := w, A := A.deeper (callEnvC (fnOf name qual params body sc dV kV doc pm an cdv ct) s.heap.objs.size a), L := s.heap.objs.size, cells := cellsFrom (s.heap.objs.size + 1) sc.names [], qual := qual ++ ".<locals>.", func := some a, code := cdv, frame := (some s.heap.objs.size), g0 := g0, h0 := s.heap, κ0 := κ, br := [], out := [], rs := false, gens := s.gens, drawn := s.drawn, os := s.os }
  let kf := (callEnvC (fnOf name qual params body sc dV kV doc pm an cdv ct) s.heap.objs.size a).kindOf
  let cs := cellsFrom (s.heap.objs.size + 1) sc.names []
  obtain ⟨h₁, tk₁, hs₁⟩ := x.toInCall.same
  have hcell : ∀ y c, cs.lookup y = some c → ∃ o, s₁.heap.get? c = some o ∧ o.data = .cell (bindC kf (names.zip vs) (fun _ => none) y) := fun y c h => x.cell y c h
  have habove : ∀ y c, cs.lookup y = some c → s.heap.objs.size < c := fun y c h => x.above y c (mem_of_lookup h)
  let own : List (Addr × Obj) := (cs.filter fun p => cs.lookup p.1 == some p.2).map fun p => (p.2, (s₁.heap.get? p.2).getD default)
  have hown : ∀ q ∈ own, ∃ y, cs.lookup y = some q.1 ∧ q.2 = (s₁.heap.get? q.1).getD default := fun q hq => by
    obtain ⟨p, hp, rfl⟩ := List.mem_map.mp hq
    exact ⟨p.1, beq_iff_eq.mp (List.mem_filter.mp hp).2, rfl⟩
  have ownMem : ∀ y c, cs.lookup y = some c → (c, (s₁.heap.get? c).getD default) ∈ own := fun y c h => List.mem_map.mpr ⟨(y, c), List.mem_filter.mpr ⟨mem_of_lookup h, beq_iff_eq.mpr h⟩, rfl⟩
  let G : Gh := ⟨τ, κ, bindL kf (names.zip vs) fun _ => none, own, []⟩
  have F : FS f G (rho0 sc names pvs) s₁ :=
    { ok := ⟨hh, hgl, hk, (by show A.depth + 1 + dk < recursionLimit; exact o6 hroom), (by show A.units + 3 + 4 * dk + 80 < cLine; exact o8 hunits), hkeep, hbig, Nat.le_refl _, htb,
        (fun x1 y c e1 e2 => name_of_addr x.apart (mem_of_lookup e1) (mem_of_lookup e2)), (fun b q => nomatch q), (fun b q => nomatch q), (fun q => nomatch q)⟩
      keep := fun b o _ _ e => x.toInCall.keep b o e
      slots := fun b o hb => nomatch hb
      ns := x.toInCall.ns
      own := fun q hq => by
        obtain ⟨y, h1, h2⟩ := hown q hq
        obtain ⟨o, e1, e2⟩ := hcell y _ h1
        have hlt := habove y _ h1
        refine ⟨by rw [h2, e1]; rfl, Nat.ne_of_gt hlt, gtNe (Nat.lt_of_lt_of_le (by decide) (Nat.le_of_lt (Nat.lt_trans hbig hlt))), gtNe (Nat.lt_trans hbig hlt), .inl (Nat.le_of_lt hlt)⟩
      nd := by
        show (own.map (·.1)).Nodup
        have e : own.map (·.1) = (cs.filter fun p => cs.lookup p.1 == some p.2).map (·.2) := by rw [List.map_map]; rfl
        rw [e]
        exact List.pairwise_map.mpr (x.apart.filter _)
      fr := fun p hp => nomatch hp
      nfr := List.nodup_nil
      vis := fun b o e => ⟨x.toInCall.keep b o (hκ b o e).1, ltNe (Heap.lt_size (hκ b o e).1), (fun q => by
          obtain ⟨y, hy, e'⟩ := List.mem_map.mp q
          obtain ⟨z, h1, _⟩ := hown y hy
          have hlt := habove z _ h1
          have := Heap.lt_size (hκ b o e).1
          rw [← show y.1 = b from e'] at this
          exact absurd this (Nat.not_lt.mpr (Nat.le_of_lt hlt))), List.not_mem_nil, (hκ b o e).2.1, (hκ b o e).2.2, .inl e, List.not_mem_nil⟩
      tabs := htabs.keeps x.toInCall.keep
      tok := htok.le gr.toks
      gens := by rw [hs₁]
      drawn := by rw [hs₁]
      os := by rw [hs₁]
      ents := fun y e hx => by
        have cellAt : sc.names.lookup y = some .cell → ∃ c o, cs.lookup y = some c ∧ s₁.heap.get? c = some o ∧ o.data = .cell (bindC kf (names.zip vs) (fun _ => none) y) ∧ (c, o) ∈ own ∧ s.heap.objs.size ≤ c := fun h => by
          obtain ⟨c, hc⟩ := Option.isSome_iff_exists.mp (cellsFrom_some (n := s.heap.objs.size + 1) (acc := []) (.inl (mem_cell h)))
          obtain ⟨o, e1, e2⟩ := hcell y c hc
          have := ownMem y c hc
          rw [e1] at this
          exact ⟨c, o, hc, e1, e2, this, Nat.le_of_lt (habove y c hc)⟩
        unfold rho0 at hx
        rw [List.lookup_append] at hx
        have e1 : ((names.zip pvs).map (entP sc)).lookup y = ((names.zip pvs).lookup y).map fun pv => if sc.names.lookup y = some .cell then .cel pv else .loc pv :=
          map_look (fun z pv => if sc.names.lookup z = some .cell then Ent.cel pv else Ent.loc pv)
        rw [e1] at hx
        cases q : (names.zip pvs).lookup y with
        | some pv =>
          rw [q] at hx
          obtain ⟨h1, v, h2, h3, h4⟩ := bind_look (kf := kf) names (fun _ => none) (fun _ => none) hlen hnd hvs q
          have hx : some (if sc.names.lookup y = some .cell then Ent.cel pv else Ent.loc pv) = some e := hx
          injection hx with hx
          by_cases hc : sc.names.lookup y = some .cell
          · rw [if_pos hc] at hx
            subst hx
            obtain ⟨c, o, c1, c2, c3, c4, c5⟩ := cellAt hc
            have : bindC kf (names.zip vs) (fun _ => none) y = some v := h4 (by show ¬ sc.names.lookup y = some .local; rw [hc]; decide)
            exact ⟨v, ⟨hc, c, o, c1, c4, c5, by rw [c3, this]⟩, h2⟩
          · rw [if_neg hc] at hx
            subst hx
            have hl := List.all_eq_true.mp hloc y h1
            simp only [Bool.or_eq_true, beq_iff_eq] at hl
            have hl' := hl.resolve_right hc
            exact ⟨hl', v, h3 hl', h2⟩
        | none =>
          rw [q] at hx
          have hx : ((sc.names.filter fun x => x.2 == .cell).map fun x => (x.1, Ent.ucel)).lookup y = some e := hx
          have hm := mem_of_lookup hx
          obtain ⟨p, hp, he⟩ := List.mem_map.mp hm
          obtain ⟨hp1, hp2⟩ := List.mem_filter.mp hp
          injection he with he1 he2
          subst he1 he2
          have hc : sc.names.lookup p.1 = some .cell := by rw [hnames p hp1, beq_iff_eq.mp hp2]
          obtain ⟨c, o, c1, c2, c3, c4, c5⟩ := cellAt hc
          exact ⟨_, hc, c, o, c1, c4, c5, c3⟩ }
  refine (h f rfl).run _ G F _ _ fun o fl s' G' ho ht hok => ?_
  have fin : ∀ v, FS f G' [] s' → Rp G'.τ G'.κ v pv → R (.ok (.ret v)) s' := fun v F' r =>
    hR v s' G'.τ G'.κ ht.τ ht.κ (fun b o hb e => F'.keep b o hb ⟨(fun q => nomatch q), fun q => nomatch q⟩ e) F'.tabs F'.tok F'.gens F'.drawn F'.os (fun b o e => by obtain ⟨v1, _, _, _, v5, v6, v7, _⟩ := F'.vis b o e; exact ⟨v1, v5, v6, v7⟩) r
  cases o with
  | rt p => obtain ⟨v, rfl, F', r⟩ := hok; cases ho; exact fin v F' r
  | nx ρ' => obtain ⟨rfl, F'⟩ := hok; cases ho; exact fin .none (F'.weaken trivial) .none
  | bk ρ' => exact ho.elim
  | ct ρ' => exact ho.elim⟩
end Mine

end
section
open PySem PySem.W PyProof.Rows PySem.Calls PySem.Spec PySem.Challenge
namespace Mine
variable {sc : Scope} {dk : Nat} {tb : List Addr}
section
variable {f : Fm sc dk tb} {G : Gh} {ρ : Rho} {s : Shared}
theorem newEnv1 {M : Model} {A : Around} {E : Value → Shared → Prop} {s : Shared} {jn : Str} {scope : Scope} {globals : Addr} {cl : List (Str × Addr)} {qual : Str} {env : Env} {Q : Env → Shared → Prop} (hcf : ∀ n (cl : List (Str × Addr)), cellsFrom n scope.names cl = (jn, n) :: cl)
    (hpc : ∀ h, pushCells h scope.names = h.push { cls := .type "cell", data := .cell none })
    (hQ : Q { scope := scope, locals := s.heap.objs.size, globals := globals, cells := (jn, s.heap.objs.size + 1) :: cl, qual := qual, func := none, code := env.code, frame := env.frame, builtins := env.builtins } { s with heap := (s.heap.push { cls := .type "dict", data := .dict #[] }).push { cls := .type "cell", data := .cell none } }) :
    wpAny M A (newFunctionEnv scope globals cl [] qual none .none (some env)) Q E s := by
  simp only [newFunctionEnv, Option.isSome_some, if_true]
  refine wpAny_bind (wpAny_alloc ?_)
  refine wpAny_bind (wpAny_layCells _ (fun name kind cells => by cases hkc : kind == NameKind.cell <;> simp [hkc]) _ _ _ _ ?_)
  rw [hcf, hpc]
  rw [show ({ s with heap := s.heap.push { cls := .type "dict", data := .dict #[] } } : Shared).heap.objs.size = s.heap.objs.size + 1 from Heap.size_push ..]
  exact wpAny_bind (wpAny_pure (wpAny_pure hQ))
theorem relabel_cell {env : Env} : ∀ {names : List (Str × NameKind)} {x : Str}, names.lookup x = some .cell →
    (names.map fun (n, k) => if (k == NameKind.free && env.scope.kind == .function && env.kindOf n == some .cell) then (n, NameKind.cell) else (n, k)).lookup x = some .cell
  | [], _, h => by simp at h
  | (n, k) :: r, x, h => by
    rw [List.map_cons]
    rw [List.lookup_cons] at h
    cases q : x == n with
    | true =>
      rw [q] at h
      injection h with h
      subst h
      dsimp only
      split <;> (rw [List.lookup_cons, q])
    | false =>
      rw [q] at h
      have ih := relabel_cell (env := env) h
      dsimp only
      split <;> (rw [List.lookup_cons, q]; exact ih)
theorem look_ne {α : Type} {x y : Str} {a : α} {l : List (Str × α)} (h : x ≠ y) : ((y, a) :: l).lookup x = l.lookup x := by
  rw [List.lookup_cons]
  have : (x == y) = false := by simpa using h
  rw [this]
theorem FS.toUcel {x : Str} {pv : PV} (F : FS f G ((x, .cel pv) :: ρ) s) : FS f G ((x, .ucel) :: ρ) s :=
  { F with
    ents := fun y e hy => by
      rcases look_cons hy with ⟨rfl, rfl⟩ | ⟨hne, hy⟩
      · obtain ⟨v, a, _⟩ := F.ents y (.cel pv) (by rw [List.lookup_cons]; simp)
        exact ⟨_, a⟩
      · exact F.ents y e ((look_ne hne).trans hy) }
/-- what a comprehension's parts give, in whatever frame it makes -/
structure CompP1 (f : Fm sc dk tb) (ρ : Rho) (scope : Scope) (target : Expr) (ifs : List Expr) (elt : Expr) (jn : Str) (l : List PV) (ρ₂ : PV → Rho) (p : PV → Bool) (y : PV → PV) : Prop where
  asg : ∀ f' : Fm (relabel scope f.env) dk tb, f'.w = f.w → ∀ v ∈ l, ASO f' ((jn, .ucel) :: freOf scope.names ρ) (PySem.assign target f'.env) v (ρ₂ v)
  tests : ∀ f' : Fm (relabel scope f.env) dk tb, f'.w = f.w → ∀ v ∈ l, TS f' (ρ₂ v) ifs (p v)
  elt : ∀ f' : Fm (relabel scope f.env) dk tb, f'.w = f.w → ∀ v ∈ l, p v = true → EV f' (ρ₂ v) (eval elt f'.env) (y v)
  back : ∀ v ∈ l, SubR ((jn, .cel v) :: freOf scope.names ρ) (clean (ρ₂ v)) ∧ SubR ((jn, .cel v) :: freOf scope.names ρ) (ρ₂ v)
theorem comp_core1 {jn : Str} {elt target iter : Expr} {ifs : List Expr} {scope : Scope} {pos : Pos} {l : List PV} {ρ₂ : PV → Rho} {p : PV → Bool} {y : PV → PV} (hit : IT f ρ (eval iter f.env) l) (P : CompP1 f ρ scope target ifs elt jn l ρ₂ p y) (hok : freOk scope.names ρ = true)
    (hcf : ∀ n (cl : List (Str × Addr)), cellsFrom n scope.names cl = (jn, n) :: cl) (hpc : ∀ h, pushCells h scope.names = h.push { cls := .type "cell", data := .cell none }) (hjn : (jn, NameKind.cell) ∈ scope.names) (hkind : scope.kind = .function) (hnames : ∀ x ∈ scope.names, scope.names.lookup x.1 = some x.2) (hsz : l.length ≤ sizeLine) {cl : List (Str × Addr)}
    (hcl1 : ∀ x c, cl.lookup x = some c → f.env.cells.lookup x = some c) (hcl2 : ∀ x c, (x, NameKind.free) ∈ scope.names → f.env.cells.lookup x = some c → cl.lookup x = some c) (hcl3 : ∀ x c, cl.lookup x = some c → ∀ s' G', FS f G' ρ s' → c < s'.heap.objs.size) (F : FS f G ρ s) {E : Value → Shared → Prop} {RR : Value → Addr → Result → Shared → Prop}
    (hRR : ∀ D C o s' G', G.Le G' → FS f { G' with fr := (C, o) :: G'.fr } ρ s' → (∀ vs (q : Str) (t : Tok), o.data = .fields vs → vs[1]? ≠ some (.str q t)) → Rp G'.τ G'.κ (.ref D) (.list ((l.filter p).map y)) → (∃ m, s'.heap.Ns C m) → RR (.ref D) C (.ok .next) s')
    (htt : ∀ it v, letOwnedTupleGo target it v = pure () := by intro _ _; rfl) :
    wpAny (model PG f.w) f.A (eval iter f.env) (fun x s₁ => wpAny (model PG f.w) f.A (pyIter x) (fun it s₂ => wpAny (model PG f.w) f.A (newList []) (fun acc s₃ =>
      wpAny (model PG f.w) f.A (newFunctionEnv scope f.env.globals cl [] f.env.qual none .none (some f.env)) (fun cenv s₄ =>
        codeAny (model PG f.w) f.A (.compStart (.ListComp elt [⟨target, iter, ifs, 0⟩] scope pos) 0 it acc { cenv with scope := relabel scope f.env }) (RR acc cenv.locals) s₄) E s₃) E s₂) E s₁) E s := by
  refine hit.run s G F _ E fun it o s₂ G₂ hge L₂ F₂ hi => ?_
  refine wpAny_newObj_type (newEnv1 hcf hpc ?_)
  dsimp only
  generalize hH2 : s₂.heap.push { cls := .type "list", dict := none, data := .seq ([] : List Value).toArray } = H2
  let dO : Obj := { cls := .type "dict", data := .dict #[] }
  let cO : Obj := { cls := .type "cell", data := .cell none }
  generalize hH1 : (H2.push dO).push cO = h₁
  have hC : H2.objs.size = s₂.heap.objs.size + 1 := by rw [← hH2, Heap.size_push]
  have hCc : (H2.push dO).objs.size = H2.objs.size + 1 := Heap.size_push ..
  have up : ∀ b ob, H2.get? b = some ob → h₁.get? b = some ob := fun b ob e => by rw [← hH1]; exact Heap.get?_push_of_some _ (Heap.get?_push_of_some _ e)
  have hCell : h₁.get? (H2.objs.size + 1) = some cO := by rw [← hH1, ← hCc]; exact Heap.get?_push_size _ rfl
  have hns₁ : h₁.Ns H2.objs.size (fun _ => none) := by rw [← hH1]; exact (Heap.Ns.new H2 (.type "dict")).keeps fun b o e => Heap.get?_push_of_some _ e
  have below : ∀ b, b < s₂.heap.objs.size → b ≠ H2.objs.size := fun b hb => by rw [hC]; exact Nat.ne_of_lt (Nat.lt_succ_of_lt hb)
  have hDC : s₂.heap.objs.size ≠ H2.objs.size := by rw [hC]; exact Nat.ne_of_lt (Nat.lt_succ_self _)
  have old : ∀ b ob, s₂.heap.get? b = some ob → h₁.get? b = some ob := fun b ob e => up b ob (hH2 ▸ Heap.get?_push_of_some _ e)
  have hDo : h₁.get? s₂.heap.objs.size = some (listOf ([] : List Value).toArray 0) := up _ _ (hH2 ▸ Heap.get?_push_size _ rfl)
  have hC2 : s₂.heap.objs.size ≤ H2.objs.size := by rw [hC]; exact Nat.le_succ _
  -- the outer state, on the new heap
  have F₃ := F₂.all (h' := h₁) (tk := s₂.toks) old (Nat.le_refl _)
  have hFar : Far f { G₂ with fr := (it, o) :: G₂.fr } s₂.heap.objs.size := F₂.far (Nat.le_refl _)
  have hFarC : Far f { G₂ with fr := (it, o) :: G₂.fr } H2.objs.size := F₂.far hC2
  -- the inner frame
  have hFarc : Far f { G₂ with fr := (it, o) :: G₂.fr } (H2.objs.size + 1) := F₂.far (Nat.le_succ_of_le hC2)
  have hcl0 : ∀ x c, cl.lookup x = some c → c < s₂.heap.objs.size := fun x c h => hcl3 x c h s₂ _ F₂
  have far0 : ∀ x, cl.lookup x = some (H2.objs.size + 1) → False := fun x h => absurd (hcl0 x _ h) (Nat.not_lt.mpr (Nat.le_succ_of_le hC2))
  have cinj' : ∀ x z c, ((jn, H2.objs.size + 1) :: cl).lookup x = some c → ((jn, H2.objs.size + 1) :: cl).lookup z = some c → x = z := fun x z c h1 h2 => by
    by_cases q1 : x = jn
    · by_cases q2 : z = jn
      · rw [q1, q2]
      · rw [q1, List.lookup_cons] at h1
        simp only [beq_self_eq_true, Option.some.injEq] at h1
        rw [look_ne q2, ← h1] at h2
        exact (far0 _ h2).elim
    · by_cases q2 : z = jn
      · rw [q2, List.lookup_cons] at h2
        simp only [beq_self_eq_true, Option.some.injEq] at h2
        rw [look_ne q1, ← h2] at h1
        exact (far0 _ h1).elim
      · rw [look_ne q1] at h1
        rw [look_ne q2] at h2
        exact F.ok.cinj x z c (hcl1 _ _ h1) (hcl1 _ _ h2)
  let f' := compFm f scope ((jn, H2.objs.size + 1) :: cl) H2.objs.size s₂.heap G₂.κ [it]
  let G' : Gh := ⟨G₂.τ, G₂.κ, fun _ => none, [(s₂.heap.objs.size, listOf ([] : List Value).toArray 0), (H2.objs.size + 1, cO)], [(it, o)]⟩
  have hsL := F₂.ns.lt
  have itf := F₂.fr _ (.head _)
  have notIt : ∀ c ob, f.h0.get? c = some ob → c ∉ f.br → c ≠ it := fun c ob e h q => itf.2.2.2.2.2.elim (fun q' => absurd (Heap.lt_size e) (Nat.not_lt.mpr (q ▸ q'))) fun q' => h (q ▸ q')
  have g0it : f.g0.get? it = none := by
    rcases itf.2.2.2.2.2 with q | q
    · cases e : f.g0.get? it with
      | none => rfl
      | some ob => exact absurd (Heap.lt_size (F.ok.g0h _ _ e)) (Nat.not_lt.mpr q)
    · exact (F.ok.brs _ q).2.2
  have F' : FS f' G' ((jn, .ucel) :: freOf scope.names ρ) { s₂ with heap := h₁ } :=
    { ok := ⟨F.ok.hh, F.ok.gl, hkind, F.ok.room, F.ok.units, F₂.keep0, Nat.lt_of_lt_of_le F.ok.big (Nat.le_trans F.ok.low (Nat.le_of_lt hsL)), hC2, F.ok.tbs,
        cinj', fun b q => by rw [List.mem_singleton.mp q]; exact ⟨itf.2.2.2.1, itf.2.2.2.2.1, g0it⟩, fun b q => (nomatch q), fun q => (nomatch q)⟩
      keep := fun b ob hb hb' e => old b ob e
      slots := fun b ob hb => nomatch hb
      ns := hns₁
      own := fun q hq => by
        rcases List.mem_cons.mp hq with rfl | hq
        · exact ⟨hDo, hDC, hFar.n47, hFar.n54, .inl (Nat.le_refl _)⟩
        · rcases List.mem_cons.mp hq with rfl | hq
          · exact ⟨hCell, Nat.succ_ne_self _, hFarc.n47, hFarc.n54, .inl (Nat.le_succ_of_le hC2)⟩
          · cases hq
      nd := List.nodup_cons.mpr ⟨fun q => (by
        rcases List.mem_cons.mp q with q | q
        · have q' : s₂.heap.objs.size = H2.objs.size + 1 := q
          rw [hC] at q'; exact absurd q' (Nat.ne_of_lt (Nat.lt_succ_of_lt (Nat.lt_succ_self _)))
        · cases q), List.nodup_cons.mpr ⟨List.not_mem_nil, List.nodup_nil⟩⟩
      fr := fun q hq => by
        rcases List.mem_cons.mp hq with rfl | hq
        · refine ⟨old _ _ itf.1, below _ (Heap.lt_size itf.1), fun q => ?_, itf.2.2.2.1, itf.2.2.2.2.1, .inr (.head _)⟩
          rcases List.mem_cons.mp q with q | q
          · exact absurd (Heap.lt_size itf.1) (by rw [show it = s₂.heap.objs.size from q]; exact Nat.lt_irrefl _)
          · rcases List.mem_cons.mp q with q | q
            · exact absurd (Heap.lt_size itf.1) (by rw [show it = H2.objs.size + 1 from q]; exact Nat.not_lt.mpr (Nat.le_succ_of_le hC2))
            · cases q
        · cases hq
      nfr := List.nodup_cons.mpr ⟨List.not_mem_nil, List.nodup_nil⟩
      vis := fun b ob eb => by
        have v := F₂.vis b ob eb
        refine ⟨old _ _ v.1, below _ (Heap.lt_size v.1), fun q => ?_, fun q => ?_, v.2.2.2.2.1, v.2.2.2.2.2.1, .inl eb, List.not_mem_nil⟩
        · rcases List.mem_cons.mp q with q | q
          · exact absurd (Heap.lt_size v.1) (by rw [show b = s₂.heap.objs.size from q]; exact Nat.lt_irrefl _)
          · rcases List.mem_cons.mp q with q | q
            · exact absurd (Heap.lt_size v.1) (by rw [show b = H2.objs.size + 1 from q]; exact Nat.not_lt.mpr (Nat.le_succ_of_le hC2))
            · cases q
        · rcases List.mem_cons.mp q with q | q
          · exact v.2.2.2.1 (q ▸ .head _)
          · cases q
      tabs := F₃.tabs
      tok := F₂.tok
      gens := F₂.gens
      drawn := F₂.drawn
      os := F₂.os
      ents := fun x e hx => by
        rcases look_cons hx with ⟨rfl, rfl⟩ | ⟨hxne, hx⟩
        · exact ⟨_, relabel_cell (env := f.env) (hnames _ hjn), H2.objs.size + 1, cO, (by show ((x, H2.objs.size + 1) :: cl).lookup x = _; rw [List.lookup_cons]; simp), .tail _ (.head _), Nat.le_succ_of_le hC2, rfl⟩
        obtain ⟨pv, rfl, hmem, hlook⟩ := freOf_look hx
        have hk : (Fm.env f').kindOf x = some .free ∨ (Fm.env f').kindOf x = some .cell := relabel_free (env := f.env) (hnames _ hmem)
        have fromF : ∀ c v ob, f.env.cells.lookup x = some c → s₂.heap.get? c = some ob → c ∉ tb → c ≠ it → ob.data = .cell (some v) → Rp G₂.τ G₂.κ v pv → EntOk f' G' x (.fre pv) := fun c v ob h1 h2 h3 h3' h4 h5 =>
          ⟨v, ⟨hk, c, ob, ((look_ne hxne).trans (hcl2 x c hmem h1)), h2, h3, ⟨(fun q => h3' (List.mem_singleton.mp q)), List.not_mem_nil⟩, h4⟩, h5⟩
        rcases hlook with hl | hl
        · obtain ⟨v, ⟨_, c, ob, h1, h2, h3, h4⟩, h5⟩ := F₂.ents x _ hl
          have ho := F₂.own _ h2
          exact fromF c v ob h1 ho.1 (fun q => (F.ok.tbs _ q).elim ho.2.2.1 ho.2.2.2.1) (fun q => itf.2.2.1 (q ▸ List.mem_map.mpr ⟨_, h2, rfl⟩)) h4 h5
        · obtain ⟨v, ⟨_, c, ob, h1, h2, h3, h3', h4⟩, h5⟩ := F₂.ents x _ hl
          exact fromF c v ob h1 (F₂.keep _ _ h3 h3' h2) h3 (notIt _ _ h2 h3'.1) h4 h5 }
  have loop : ∀ s₃ : Shared, s₃ = { s₂ with heap := h₁ } →
      codeAny (model PG f.w) f.A (.compLoop (.ListComp elt [⟨target, iter, ifs, 0⟩] scope pos) 0 (.ref it) (.ref s₂.heap.objs.size) (compEnvC scope ((jn, H2.objs.size + 1) :: cl) H2.objs.size f.env)) (RR (.ref s₂.heap.objs.size) H2.objs.size) s₃ := by
    rintro s₃ rfl
    refine comp_loop (f := f') (ρf := (jn, .ucel) :: freOf scope.names ρ) (ρ₂ := ρ₂) (p := p) (y := y) (P.asg f' rfl) (P.tests f' rfl) (P.elt f' rfl) (fun v hv G s F => (F.weaken (P.back v hv).1).toUcel) (fun v hv G s F => (F.weaken (P.back v hv).2).toUcel)
      (G := G') (o := o) (r := []) (done := []) F' hi ⟨[], 0, .head _, .nil⟩ (by simpa using hsz) (fun s' G₄ L₄ F₄ hD₄ => ?_) (htt _)
    obtain ⟨vs, n, hm, hr⟩ := hD₄
    have hDs := (F₄.own _ hm).1
    obtain ⟨oC, esC, epC, hCo, hCd, hCr⟩ := id F₄.ns
    have hC3 : s'.heap.get? H2.objs.size = some oC := hCo
    have kk : ∀ b ob, b ≠ 47 → b ≠ 54 → b ≠ it → s₂.heap.get? b = some ob → s'.heap.get? b = some ob := fun b ob h1 h2 h3 e => F₄.keep b ob (fun q => (F.ok.tbs _ q).elim h1 h2) ⟨(fun q => h3 (List.mem_singleton.mp q)), List.not_mem_nil⟩ e
    have hκ : ∀ b ob, G₄.κ b = some ob → s'.heap.get? b = some ob ∧ b ≠ H2.objs.size ∧ b ≠ s₂.heap.objs.size ∧ b ≠ it ∧ b ≠ 47 ∧ b ≠ 54 ∧ (G₂.κ b = some ob ∨ s₂.heap.objs.size ≤ b) := fun b ob eb => by
      have v := F₄.vis b ob eb
      have nD : b ≠ s₂.heap.objs.size := fun q => v.2.2.1 (q ▸ List.mem_map.mpr ⟨_, hm, rfl⟩)
      rcases v.2.2.2.2.2.2.1 with q | q
      · have q' : G₂.κ b = some ob := q
        exact ⟨v.1, v.2.1, nD, fun e => (F₂.vis b ob q').2.2.2.1 (e ▸ .head _), v.2.2.2.2.1, v.2.2.2.2.2.1, .inl q'⟩
      · have q' : s₂.heap.objs.size ≤ b := q
        exact ⟨v.1, v.2.1, nD, fun e => absurd (Heap.lt_size itf.1) (Nat.not_lt.mpr (e ▸ q')), v.2.2.2.2.1, v.2.2.2.2.2.1, .inr q'⟩
    have hκD : G₄.κ s₂.heap.objs.size = none := by
      cases e : G₄.κ s₂.heap.objs.size with
      | none => rfl
      | some ob => exact absurd rfl (hκ _ _ e).2.2.1
    have Lτ : TLe G₂.τ G₄.τ := L₄.τ
    have Lκ : KLe G₂.κ (addK G₄.κ s₂.heap.objs.size (listOf vs.toArray n)) := KLe.trans (b := G₄.κ) L₄.κ (addK_le hκD)
    have visOut : ∀ b ob, addK G₄.κ s₂.heap.objs.size (listOf vs.toArray n) b = some ob → s'.heap.get? b = some ob ∧ b ≠ H2.objs.size ∧ b ≠ 47 ∧ b ≠ 54 ∧ (G₂.κ b = some ob ∨ s₂.heap.objs.size ≤ b) := fun b ob eb => by
      unfold addK at eb
      by_cases q : b = s₂.heap.objs.size
      · rw [if_pos q] at eb; cases eb; subst q; exact ⟨hDs, hDC, hFar.n47, hFar.n54, .inr (Nat.le_refl _)⟩
      · rw [if_neg q] at eb; have v := hκ b ob eb; exact ⟨v.1, v.2.1, v.2.2.2.2.1, v.2.2.2.2.2.1, v.2.2.2.2.2.2⟩
    have FO : FS f { τ := G₄.τ, κ := addK G₄.κ s₂.heap.objs.size (listOf vs.toArray n), m := G₂.m, own := G₂.own, fr := (H2.objs.size, oC) :: G₂.fr } ρ s' :=
      { ok := F.ok
        keep := fun b ob hb hb' e => F₄.keep b ob hb ⟨(fun q => notIt _ _ e hb'.1 (List.mem_singleton.mp q)), List.not_mem_nil⟩ (F₂.keep b ob hb hb' e)
        slots := fun b ob hb e => by
          obtain ⟨sl, e'⟩ := F₂.slots b ob hb e
          have ob' := F.ok.outs b hb
          exact ⟨sl, kk _ _ ob'.1 ob'.2.1 (notIt _ _ e ob'.2.2.2.1) e'⟩
        ns := F₂.ns.at' fun ob e => F₄.keep _ ob F₂.tbL ⟨(fun q => itf.2.1 (List.mem_singleton.mp q).symm), List.not_mem_nil⟩ e
        own := fun q hq => by
          have h := F₂.own q hq
          exact ⟨kk _ _ h.2.2.1 h.2.2.2.1 (fun e => itf.2.2.1 (e ▸ List.mem_map.mpr ⟨_, hq, rfl⟩)) h.1, h.2⟩
        nd := F₂.nd
        fr := fun q hq => by
          rcases List.mem_cons.mp hq with rfl | hq
          · exact ⟨hC3, hFarC.L, hFarC.own, hFarC.n47, hFarC.n54, .inl hFarC.h0⟩
          · have h := F₂.fr q (.tail _ hq)
            exact ⟨kk _ _ h.2.2.2.1 h.2.2.2.2.1 (fun e => (List.nodup_cons.mp F₂.nfr).1 (e ▸ List.mem_map.mpr ⟨_, hq, rfl⟩)) h.1, h.2⟩
        nfr := List.nodup_cons.mpr ⟨fun q => hFarC.fr (.tail _ q), (List.nodup_cons.mp F₂.nfr).2⟩
        vis := fun b ob eb => by
          have v := visOut b ob eb
          rcases v.2.2.2.2 with q | q
          · have u := F₂.vis b ob q
            refine ⟨v.1, u.2.1, u.2.2.1, fun e => ?_, v.2.2.1, v.2.2.2.1, u.2.2.2.2.2.2⟩
            rcases List.mem_cons.mp e with e | e
            · exact v.2.1 e
            · exact u.2.2.2.1 (.tail _ e)
          · have X := F₂.far q
            refine ⟨v.1, X.L, X.own, fun e => ?_, v.2.2.1, v.2.2.2.1, .inr X.h0, X.out⟩
            rcases List.mem_cons.mp e with e | e
            · exact v.2.1 e
            · exact X.fr (.tail _ e)
        tabs := F₄.tabs
        tok := F₄.tok
        gens := F₄.gens
        drawn := F₄.drawn
        os := F₄.os
        ents := fun x e hx => by
          have := F₂.ents x e hx
          have := EntOk.mono (G := { G₂ with fr := (it, o) :: G₂.fr }) (G' := { τ := G₄.τ, κ := addK G₄.κ s₂.heap.objs.size (listOf vs.toArray n), m := G₂.m, own := G₂.own, fr := (it, o) :: G₂.fr }) ⟨Lτ, Lκ, rfl, rfl, rfl⟩ this
          exact this.fr (r := (H2.objs.size, oC) :: G₂.fr) }
    refine hRR s₂.heap.objs.size H2.objs.size oC s' { τ := G₄.τ, κ := addK G₄.κ s₂.heap.objs.size (listOf vs.toArray n), m := G₂.m, own := G₂.own, fr := G₂.fr } (L₂.trans ⟨Lτ, Lκ, rfl, rfl, rfl⟩) FO ?_ ?_ ⟨_, F₄.ns⟩
    · intro vs _ _ e; rw [hCd] at e; cases e
    · refine .list (vs := vs) (n := n) (addK_self _ _ _) ?_
      have := hr.mono (TLe.refl _) (addK_le (o := listOf vs.toArray n) hκD)
      simpa using this
  exact codeAny_compStart_list (loop _ rfl) (iter_self (f := f') (G := G') (r := []) F' hi (loop _ rfl))
/-- name = [.. for ..] where the compiler swaps the stores -/
theorem SX.comp1 {jn : Str} {x : Str} {px spos : Pos} {elt target iter : Expr} {ifs : List Expr} {scope : Scope} {pos : Pos} {l : List PV} {ρ₂ : PV → Rho} {p : PV → Bool} {y : PV → PV} {Φ : Out → Prop} (hit : IT f ρ (eval iter f.env) l) (P : CompP1 f ρ scope target ifs elt jn l ρ₂ p y) (hsz : l.length ≤ sizeLine)
    (hΦ : Φ (.nx ((x, .loc (.list ((l.filter p).map y))) :: ρ))) (hx : f.env.kindOf x = some .local := by rfl) (hok : freOk scope.names ρ = true := by rfl)
    (hsw : swapsWith (.ListComp elt [⟨target, iter, ifs, 0⟩] scope pos) (some (.Name x px)) spos.line f.env = pure true := by rfl)
    (hcf : ∀ n (cl : List (Str × Addr)), cellsFrom n scope.names cl = (jn, n) :: cl := by intro _ _; rfl) (hpc : ∀ h, pushCells h scope.names = h.push { cls := .type "cell", data := .cell none } := by intro _; rfl) (hjn : (jn, NameKind.cell) ∈ scope.names := by decide) (hkind : scope.kind = .function := by rfl) (hnames : ∀ x ∈ scope.names, scope.names.lookup x.1 = some x.2 := by decide) 
    (hs : ∀ x, foldedSetIterable iter f.env x = pure x := by intro _; rfl) (htt : ∀ it v, letOwnedTupleGo target it v = pure () := by intro _ _; rfl) :
    SX f ρ (exec (.Assign [.Name x px] (.ListComp elt [⟨target, iter, ifs, 0⟩] scope pos) spos) f.env) Φ := ⟨fun s G F Q E k => by
  obtain ⟨cl, hcl, hcl1', hcl2⟩ := closureFor_of (env := f.env) (scope := scope) (free_cells F hok)
  have hcl1 := fun x c h => (hcl1' x c h).1
  have hcl3 : ∀ x c, cl.lookup x = some c → ∀ s' G', FS f G' ρ s' → c < s'.heap.objs.size := fun x c h s' G' F' => by
    obtain ⟨h1, h2⟩ := hcl1' x c h
    have hq := List.all_eq_true.mp hok _ h2
    cases q : ρ.lookup x with
    | none => simp [q] at hq
    | some e =>
      have he := F'.ents x e q
      cases e with
      | cel pv => obtain ⟨v, ⟨_, c', o, k1, k2, _⟩, _⟩ := he; rw [h1] at k1; cases k1; exact Heap.lt_size (F'.own _ k2).1
      | fre pv => obtain ⟨v, ⟨_, c', o, k1, k2, k3, k4, _⟩, _⟩ := he; rw [h1] at k1; cases k1; exact Heap.lt_size (F'.keep _ _ k3 k4 k2)
      | loc _ | owned _ | ucel | cown _ | fown _ | dead => simp [q] at hq
  rw [exec_Assign_Name_used _ _ _ _ hsw]
  refine wpAny_bind (wpAny_standAt (wpAny_bind ?_))
  show wpAny _ f.A (do let _ ← comprehension (.ListComp elt [⟨target, iter, ifs, 0⟩] scope pos) scope f.env _ (newList []) false (eval iter f.env) (some (PySem.assign (.Name x px) f.env))) _ _ s
  refine wpAny_bind (wpAny_mono (wpAny_comprehension_free (use := some (PySem.assign (.Name x px) f.env)) (Q := fun _ s' => Q .next s') rfl hs hcl hkind (fun x hx hl => (hnames x hx).trans (congrArg some hl))
    (comp_core1 hit P hok hcf hpc hjn hkind hnames hsz hcl1 hcl2 hcl3 F (RR := fun acc C => compPost (model PG f.w) f.A E (some (PySem.assign (.Name x px) f.env)) (fun _ s' => Q .next s') acc C) ?_ htt)) (fun _ s' hq => wpAny_pure (wpAny_pure hq)) fun _ _ e => e)
  intro D C o s' G' L F' hc r hns
  obtain ⟨m, hn⟩ := hns
  show wpAny _ f.A (PySem.assign (.Name x px) f.env (.ref D)) _ _ _
  refine wpAny_assign_Name ?_
  have hLC := (F'.fr _ (.head _)).2.1
  have hp := F'.notCM
  with_reducible refine wpAny_storeName_local hx F'.ns (fun h' hn' hs' => ?_) hp
  have F2 := F'.storeLoc hx r hn' hs'
  refine ⟨m, hn.sameBut hs' hLC, fun h'' hs'' => ?_⟩
  have F3 := FS.dropFr (G := { G' with m := upd G'.m x (.ref D) }) F2 hs''.extBut hc
  exact k (.nx _) .next _ { G' with m := upd G'.m x (.ref D) } hΦ (L.lt.trans ⟨.refl _, .refl _, rfl⟩) ⟨rfl, F3⟩⟩
end
end Mine

end
section
open PySem PySem.W PyProof.Rows PySem.Calls PySem.Spec
namespace Mine
open Builtin.Re
/-- a pattern's object and its code -/
def IsPat (h : Heap) (P : Addr) (code : Array Nat) : Prop :=
  ∃ o vs k2 k6 C oc items n, h.get? P = some o ∧ o.cls = .type "re.Pattern" ∧ o.dict = none ∧ o.data = .fields vs ∧ vs.getD 6 .none = .int 0 k6 ∧ vs.getD 2 .none = .int 0 k2 ∧ vs.getD 5 .none = .ref C ∧
    h.get? C = some oc ∧ oc.data = .seq items n ∧ (items.map reRawOf).map (·.toNat) = code
theorem IsPat.keep {h h' : Heap} {P : Addr} {code : Array Nat} (x : IsPat h P code) (k : ∀ b o, h.get? b = some o → h'.get? b = some o) : IsPat h' P code := by
  obtain ⟨o, vs, k2, k6, C, oc, items, n, e1, e2, e3, e4, e5, e6, e7, e8, e9, e10⟩ := x
  exact ⟨o, vs, k2, k6, C, oc, items, n, k _ _ e1, e2, e3, e4, e5, e6, e7, k _ _ e8, e9, e10⟩
section
variable {prog : Program} {w : World} {A : Around} {E : Value → Shared → Prop} {s : Shared} {P : Addr} {code : Array Nat} {x : Str} {t : Tok}
theorem wp_whole {Q : ReTarget → Shared → Prop} (X : IsPat s.heap P code) (q : Q { pattern := .ref P, string := .str x t, code := code, text := x.cps, kind := 0, groups := 0, pos := 0, lim := x.cps.size } s) : wpAny (model prog w) A (reWholeTarget (.ref P) (.str x t)) Q E s := by
  obtain ⟨o, vs, k2, k6, C, oc, items, n, e1, e2, e3, e4, e5, e6, e7, e8, e9, rfl⟩ := X
  unfold reWholeTarget
  refine wpAny_bind (wpAny_fieldsOf e1 e4 ?_)
  refine wpAny_bind ?_
  refine (show wpAny _ _ (reTextOf (.str x t)) _ _ _ from wpAny_pure (show (fun (r : Array Nat × Nat) s' => _) (x.cps, 0) s from ?_))
  simp only [e5, reRawNat]
  refine wpAny_bind (wpAny_pure ?_)
  rw [e7]
  unfold reRawItems
  refine wpAny_bind (wpAny_bind (wpAny_seqItems e8 e9 (wpAny_pure ?_)))
  refine wpAny_pure ?_
  rw [e6]
  exact q
/-- what a search tells, from each place on -/
def Tells (code T : Array Nat) (nxt : Nat → Option (Nat × Nat)) : Prop := ∀ p, p ≤ T.size → ∃ n m, n < 2 ^ 60 ∧ Goes n (Sre.forSearch code T 0 p T.size false) m ∧
  (match nxt p with
  | some (d, e) => p ≤ d ∧ d < e ∧ e ≤ T.size ∧ m.outcome = some .matched ∧ m.start = d ∧ m.handed = e
  | none => m.outcome = some .failed)
def slice (T : Array Nat) (b e : Nat) : Str := ⟨T.extract b e⟩
/-- the pieces of the new text, from a place on -/
def pcs (T : Array Nat) (nxt : Nat → Option (Nat × Nat)) (r : Str) : Nat → Nat → List Str
  | 0, _ => []
  | k + 1, p => match nxt p with
    | some (d, e) => (if p < d then [slice T p d] else []) ++ r :: pcs T nxt r k e
    | none => if p < T.size then [slice T p T.size] else []
theorem wp_found {t' : ReTarget} {nxt : Nat → Option (Nat × Nat)} {p : Nat} {Q : Option Sre.M → Shared → Prop} (X : Tells t'.code t'.text nxt) (hp : p ≤ t'.text.size) (hg : t'.groups = 0) (hl : t'.lim = t'.text.size)
    (h1 : ∀ d e m, nxt p = some (d, e) → p ≤ d → d < e → e ≤ t'.text.size → m.start = d → m.handed = e → Q (some m) s) (h2 : nxt p = none → Q none s) : wpAny (model prog w) A (reNextFound t' p false) Q E s := by
  unfold reNextFound
  rw [hg, hl]
  obtain ⟨n, m, hn, hgo, hm⟩ := X p hp
  cases q : nxt p with
  | none => rw [q] at hm; exact wp_toEnd hgo hn (.inr ⟨hm, h2 q⟩)
  | some de =>
    obtain ⟨d, e⟩ := de
    rw [q] at hm
    obtain ⟨g1, g2, g3, g4, g5, g6⟩ := hm
    exact wp_toEnd hgo hn (.inl ⟨g4, h1 d e m q g1 g2 g3 g5 g6⟩)
theorem wp_slice {T : Array Nat} {b e : Nat} {Q : Value → Shared → Prop} (hz : T.size ≤ 100000) (q : Q (.str (slice T b e) s.toks) { s with toks := s.toks + 1 }) : wpAny (model prog w) A (reSlice T 0 b e) Q E s := by
  refine (show wpAny _ _ (mkStr ⟨T.extract b e⟩) _ _ _ from wpAny_mkStr q ?_)
  show (T.extract b e).size ≤ sizeLine
  have : (100000 : Nat) ≤ sizeLine := by decide
  rw [Array.size_extract]; exact o589 this hz
theorem wp_pushList {L : Addr} {l : List (Str × Tok)} {n : Nat} {y : Str} {ty : Tok} {h0 : Heap} {Q : Unit → Shared → Prop} (hl : s.heap.get? L = some (listOf (strValues l).toArray n)) (hs : Heap.SameBut L h0 s.heap) (hz : l.length + 1 ≤ sizeLine)
    (q : ∀ h' n', h'.get? L = some (listOf (strValues (l ++ [(y, ty)])).toArray n') → Heap.SameBut L h0 h' → Q () { s with heap := h' }) : wpAny (model prog w) A (updateSeq L (·.push (.str y ty))) Q E s := by
  have hz1 : (strValues l).toArray.size ≤ sizeLine := by unfold strValues; simp; exact o2 hz
  refine wpAny_updateSeq hl rfl ?_ hz1 (by rw [Array.size_push]; unfold strValues; simp; exact o2 hz)
  obtain ⟨n', e1⟩ := getUpd hl (fun x => x.push (.str y ty))
  have hp : (strValues l).toArray.push (.str y ty) = (strValues (l ++ [(y, ty)])).toArray := by unfold strValues; simp
  rw [hp] at e1
  refine q _ n' e1 ?_
  have h2 := Heap.SameBut.update (h := s.heap) (a := L) (f := Obj.mapSeq fun x => x.push (.str y ty))
  exact ⟨h2.1.trans hs.1, fun b hb => (h2.2 b hb).trans (hs.2 b hb)⟩
end
end Mine

end
section
open PySem PySem.W PyProof.Rows PySem.Calls PySem.Spec
namespace Mine
open Builtin.Re
theorem wp_notTurned {prog : Program} {w : World} {A : Around} {E : Value → Shared → Prop} {s : Shared} {r : Str} {tr : Tok} {Q : Unit → Shared → Prop} (q : Q () s) : wpAny (model prog w) A (reLiteralCannotBeTurned (.str r tr)) Q E s :=
  (show wpAny _ _ (pure ()) _ _ _ from wpAny_pure q)
theorem wp_pos {prog : Program} {w : World} {A : Around} {E : Value → Shared → Prop} {s : Shared} {α : Type} {c : Prop} [Decidable c] {t u : Sem α} {Q : α → Shared → Prop} (h : c) (q : wpAny (model prog w) A t Q E s) : wpAny (model prog w) A (if c then t else u) Q E s := by rw [if_pos h]; exact q
theorem wp_neg {prog : Program} {w : World} {A : Around} {E : Value → Shared → Prop} {s : Shared} {α : Type} {c : Prop} [Decidable c] {t u : Sem α} {Q : α → Shared → Prop} (h : ¬ c) (q : wpAny (model prog w) A u Q E s) : wpAny (model prog w) A (if c then t else u) Q E s := by rw [if_neg h]; exact q
theorem slice_len {T : Array Nat} {b e : Nat} (h : e ≤ T.size) : (slice T b e).length = e - b := by
  show (T.extract b e).size = _
  rw [Array.size_extract]; exact o533 h
theorem sumSnoc (l : List (Str × Tok)) (y : Str) (ty : Tok) : (((l ++ [(y, ty)]).map (·.1)).map (·.length)).sum = ((l.map (·.1)).map (·.length)).sum + y.length := by simp
def joinS (l : List Str) : Str := Txt.join ⟨#[]⟩ l
section
variable {prog : Program} {w : World} {A : Around} {P L : Addr} {code : Array Nat} {x r : Str} {t tr : Tok} {nxt : Nat → Option (Nat × Nat)} {h0 : Heap}
abbrev loopArgs (P L : Addr) (x r : Str) (t tr : Tok) (n p : Nat) : Args := ⟨[.ref P, .str x t, .str r tr, rawInt 0, rawInt 0, rawInt n, rawInt p, rawInt p, .bool false, .ref L, .bool false], []⟩
theorem wp_loop (s0 : Shared) (X : Tells code x.cps nxt) (hz : x.cps.size ≤ 100000) (hr : r.length ≤ 2) (hP : IsPat h0 P code) (hPL : ∀ h', Heap.SameBut L h0 h' → IsPat h' P code) {R : Result → Shared → Prop} (R0 : List Str)
    (fin : ∀ (t' : Tok) (h' : Heap) (k : Tok), Heap.SameBut L h0 h' → R (.ok (.ret (.str (joinS R0) t'))) { s0 with heap := h', toks := k }) :
    ∀ (k p n : Nat) (l : List (Str × Tok)) (h : Heap) (tk : Tok) (nn : Nat), x.cps.size < p + k → p ≤ x.cps.size → h.get? L = some (listOf (strValues l).toArray nn) → Heap.SameBut L h0 h → l.length ≤ 2 * p → ((l.map (·.1)).map (·.length)).sum ≤ 2 * p →
      l.map (·.1) ++ pcs x.cps nxt r k p = R0 → codeAny (model prog w) A (.builtin "re.Pattern.sub.loop" (loopArgs P L x r t tr n p)) R { s0 with heap := h, toks := tk } := by
  have hM : (1000000 : Nat) ≤ sizeLine := by decide
  intro k
  induction k with
  | zero => intro p n l h tk nn h1 h2; exact (o645 h1 h2).elim
  | succ k ih =>
    intro p n l h tk nn hk hp hL hs hl hsum hR
    refine codeAny_builtin RF.entry_loop ?_
    rw [Around.under_plainId RF.plain_loop]
    show wpAny _ _ (do
      let t' ← reWholeTarget (.ref P) (.str x t)
      _) _ _ _
    refine wpAny_bind (wp_whole (hPL _ hs) ?_)
    show wpAny _ _ (do
      let __r ← reLiteralCannotBeTurned (.str r tr)
      _) _ _ _
    refine wpAny_bind (wp_notTurned ?_)
    show wpAny _ _ (do
      let __do_lift ← reNextFound { pattern := .ref P, string := .str x t, code := code, text := x.cps, kind := 0, groups := 0, pos := 0, lim := x.cps.size } p false
      _) _ _ _
    refine wpAny_bind (wp_found (nxt := nxt) X hp rfl rfl (fun d e m hn h1 h2 h3 h4 h5 => ?_) fun hn => ?_)
    · have h3 : e ≤ x.cps.size := h3
      have after : ∀ (l2 : List (Str × Tok)) (hh2 : Heap) (tk2 : Tok) (nn2 : Nat), hh2.get? L = some (listOf (strValues l2).toArray nn2) → Heap.SameBut L h0 hh2 → l2.length ≤ 2 * p + 1 → ((l2.map (·.1)).map (·.length)).sum ≤ 2 * p + (d - p) → l2.map (·.1) ++ r :: pcs x.cps nxt r k e = R0 →
          wpAny (model prog w) A.in1 (do
            let __r ← updateSeq L (·.push (.str r tr))
            again (.builtin "re.Pattern.sub.loop" ⟨[.ref P, .str x t, .str r tr, rawInt 0, rawInt 0, rawInt (n + 1), rawInt m.handed, rawInt m.handed, .bool (m.handed == m.start), .ref L, .bool false], []⟩))
          (fun fin s' => match fin with | .done f => R (.ok f) s' | .again c' => c'.quiet = true ∧ codeAny (model prog w) A c' R s') (fun e s' => R (.error e) s') { s0 with heap := hh2, toks := tk2 } := by
        intro l2 hh2 tk2 nn2 g1 g2 g3 g4 g5
        refine wpAny_bind (wp_pushList (s := { s0 with heap := hh2, toks := tk2 }) g1 g2 (by exact o626 hM hz h2 g3 h1 h3) fun h' n' k1 k2 => ?_)
        refine wpAny_pure ⟨Code.quiet_builtin _ (by decide +kernel), ?_⟩
        have hne : (m.handed == m.start) = false := by rw [h4, h5]; exact beq_eq_false_iff_ne.mpr (by exact o422 h2)
        rw [hne, h5]
        refine ih e (n + 1) (l2 ++ [(r, tr)]) h' _ n' (by exact o147 h2 h1 hk) h3 k1 k2 ?_ ?_ ?_
        · rw [List.length_append, List.length_singleton]; exact o602 h2 g3 h1
        · rw [sumSnoc]; exact o622 hr h2 h1 g4
        · rw [List.map_append, List.append_assoc]; exact g5
      have hR : l.map (·.1) ++ ((if p < d then [slice x.cps p d] else []) ++ r :: pcs x.cps nxt r k e) = R0 := by rw [pcs, hn] at hR; exact hR
      by_cases hpd : p < d
      · rw [if_pos hpd] at hR
        refine wp_pos (show p < m.start by exact o30 hpd h4) ?_
        refine wpAny_bind (wp_slice hz ?_)
        refine wpAny_bind (wp_pushList (s := { s0 with heap := h, toks := tk + 1 }) (n := nn) (l := l) hL hs (by exact o627 hM hz hpd h2 hl h3) fun h' n' k1 k2 => ?_)
        refine after (l ++ [(slice x.cps p m.start, tk)]) h' _ n' k1 k2 (by rw [List.length_append, List.length_singleton]; exact o112 hl) (by rw [sumSnoc, h4, slice_len (by exact o60 h2 h3)]; exact o138 hsum) ?_
        rw [List.map_append, List.append_assoc, h4]; exact hR
      · rw [if_neg hpd] at hR
        refine wp_neg (show ¬ p < m.start by exact o540 h4 hpd) ?_
        exact after l h tk nn hL hs (by exact o113 hl) (by exact o137 hsum) hR
    · have hR : l.map (·.1) ++ (if p < x.cps.size then [slice x.cps p x.cps.size] else []) = R0 := by rw [pcs, hn] at hR; exact hR
      have last : ∀ (l2 : List (Str × Tok)) (hh2 : Heap) (tk2 : Tok) (nn2 : Nat), hh2.get? L = some (listOf (strValues l2).toArray nn2) → Heap.SameBut L h0 hh2 → l2.length ≤ 2 * p + 1 → ((l2.map (·.1)).map (·.length)).sum ≤ 2 * p + (x.cps.size - p) → l2.map (·.1) = R0 →
          wpAny (model prog w) A.in1 (do
            let joiner ← reSlice x.cps 0 0 0
            let __do_lift ← seqItems? (.ref L)
            if (__do_lift.getD #[]).isEmpty = true then do
              let text ← pure joiner
              ret text
            else do
              let text ← call (.builtin "str.join") [joiner, .ref L]
              ret text)
          (fun fin s' => match fin with | .done f => R (.ok f) s' | .again c' => c'.quiet = true ∧ codeAny (model prog w) A c' R s') (fun e s' => R (.error e) s') { s0 with heap := hh2, toks := tk2 } := by
        intro l2 hh2 tk2 nn2 g1 g2 g3 g4 g5
        refine wpAny_bind (wp_slice hz ?_)
        have e0 : slice x.cps 0 0 = ⟨#[]⟩ := by unfold slice; simp
        rw [e0]
        refine wpAny_bind (wpAny_seqItems g1 rfl ?_)
        have hjoin : joinS R0 = joinS (l2.map (·.1)) := by rw [g5]
        cases l2 with
        | nil =>
          refine wp_pos rfl ?_
          refine wpAny_bind (wpAny_pure (wpAny_pure ?_))
          have : joinS R0 = ⟨#[]⟩ := by rw [hjoin]; rfl
          have q := fin tk2 hh2 (tk2 + 1) g2
          rw [this] at q; exact q
        | cons y l3 =>
          refine wp_neg (by unfold strValues; simp) ?_
          have hl2 : hh2.IsList L (strValues (y :: l3)).toArray := ⟨_, g1, rfl, nn2, rfl⟩
          refine wpAny_bind (SC.join (s := { s0 with heap := hh2, toks := tk2 + 1 }) hl2 rfl (joinOk_of_weight ?_ (by decide)) fun t' k' => wpAny_pure ?_)
          · rw [List.length_map]; exact o605 hz g3 hp g4
          · have q := fin t' hh2 k' g2
            rw [hjoin] at q; exact q
      by_cases hpd : p < x.cps.size
      · rw [if_pos hpd] at hR
        refine wp_pos hpd ?_
        refine wpAny_bind (wp_slice hz ?_)
        refine wpAny_bind (wp_pushList (s := { s0 with heap := h, toks := tk + 1 }) (n := nn) (l := l) hL hs (by exact o590 hM hz hpd hl) fun h' n' k1 k2 => ?_)
        refine last (l ++ [(slice x.cps p x.cps.size, tk)]) h' _ n' k1 k2 (by rw [List.length_append, List.length_singleton]; exact o112 hl) (by rw [sumSnoc, slice_len (Nat.le_refl _)]; exact o138 hsum) ?_
        rw [List.map_append]; exact hR
      · rw [if_neg hpd] at hR
        refine wp_neg hpd ?_
        exact last l h tk nn hL hs (by exact o113 hl) (by exact o137 hsum) (by rw [List.append_nil] at hR; exact hR)
end
end Mine

end
section
open PySem PySem.W PyProof.Rows PySem.Calls PySem.Spec
namespace Mine
open Builtin.Re
namespace RF
theorem str_nocall : typeLookup (.type "str") "__call__" = pure none := by rw [typeLookup_type, builtinLookup_eq_fast]; kernel_rfl
theorem attrs : PlainAttrs "re.Pattern" := ⟨⟨"object.__getattribute__", by rw [typeLookup_type, builtinLookup_eq_fast]; kernel_rfl, by decide +kernel⟩, by rw [typeLookup_type, builtinLookup_eq_fast]; kernel_rfl⟩
end RF
section
variable {prog : Program} {w : World} {A : Around} {E : Value → Shared → Prop} {s : Shared} {P : Addr} {code : Array Nat} {x r : Str} {t tr : Tok} {nxt : Nat → Option (Nat × Nat)}
theorem wp_sub {Q : Value → Shared → Prop} (hP : IsPat s.heap P code) (X : Tells code x.cps nxt) (hz : x.cps.size ≤ 100000) (hr : r.length ≤ 2) (h92 : r.cps.contains 92 = false)
    (q : ∀ (t' : Tok) (h' : Heap) (k : Tok), (∀ b o, s.heap.get? b = some o → h'.get? b = some o) → Q (.str (joinS (pcs x.cps nxt r (x.cps.size + 1) 0)) t') { s with heap := h', toks := k }) :
    wpAny (model prog w) A (call (.builtin "re.Pattern.sub") [.ref P, .str r tr, .str x t]) Q E s := by
  have hT : s.TypeIs (.ref P) "re.Pattern" := by obtain ⟨o, vs, k2, k6, C, oc, items, n, e1, e2, _⟩ := hP; exact ⟨o, e1, e2⟩
  have hTs : s.TypeIs (.str r tr) "str" := rfl
  refine wpAny_call (codeAny_call_builtin RF.slot_sub.plain RF.entry_sub (RF.slot_sub.check _ _ _ _ _ _ _ _ hT (RF.args_sub _ _ _) ?_))
  show wpAny _ _ (do
    let __x ← reNamed "re.Pattern.sub" "sub" ["repl", "string", "count"] 2 [.str r tr, .str x t] []
    _) _ _ _
  refine wpAny_bind ?_
  have hnm : reNamed "re.Pattern.sub" "sub" ["repl", "string", "count"] 2 [.str r tr, .str x t] [] = pure [some (.str r tr), some (.str x t), none] := by rfl
  rw [hnm]
  refine wpAny_pure ?_
  refine wpAny_bind (wpAny_pure ?_)
  refine wpAny_bind (wpAny_specialOf hTs RF.str_nocall ?_)
  refine wpAny_bind ?_
  refine (show wpAny _ _ (pure (some r)) _ _ _ from wpAny_pure ?_)
  refine wpAny_bind (wpAny_pure ?_)
  show wpAny _ _ (if (!r.cps.contains 92) = true then _ else _) _ _ _
  rw [h92]
  refine wp_pos rfl ?_
  refine wpAny_bind (wpAny_pure ?_)
  refine wpAny_bind (wpAny_holding (wp_whole hP ?_))
  refine wpAny_bind (wpAny_newList ?_ (Nat.zero_le _))
  refine wpAny_pure ⟨Code.quiet_builtin _ (by decide +kernel), ?_⟩
  have hlt : ∀ b o, s.heap.get? b = some o → b ≠ s.heap.objs.size := fun b o e => Nat.ne_of_lt (Heap.lt_size e)
  have keep0 : ∀ b o, s.heap.get? b = some o → (s.heap.push { cls := .type "list", data := .seq ([] : List Value).toArray }).get? b = some o := fun b o e => Heap.get?_push_of_some _ e
  have keep : ∀ h', Heap.SameBut s.heap.objs.size (s.heap.push { cls := .type "list", data := .seq ([] : List Value).toArray }) h' → ∀ b o, s.heap.get? b = some o → h'.get? b = some o := fun h' hs b o e => (hs.2 b (hlt b o e)).trans (keep0 b o e)
  refine wp_loop s X hz hr (hP.keep keep0) (fun h' hs => hP.keep (keep h' hs)) (pcs x.cps nxt r (x.cps.size + 1) 0) ?_ (x.cps.size + 1) 0 0 [] _ s.toks 0 (by exact o42) (Nat.zero_le _) ?_ ⟨rfl, fun _ _ => rfl⟩ (Nat.zero_le _) (Nat.zero_le _) (List.nil_append _)
  · intro t' h' k hs
    exact q t' h' k (keep h' hs)
  · exact Heap.get?_push_size _ rfl
end
end Mine

end
section
open PySem PySem.W PyProof.Rows PySem.Calls PySem.Spec
namespace Mine
theorem joinS_cons (x : Str) (r : List Str) : joinS (x :: r) = x ++ joinS r := by
  show Builtin.Str.glued _ _ = _ ++ Builtin.Str.glued _ _
  rw [StrLaws.glued_eq_join, StrLaws.glued_eq_join]
  exact join_nil_cons x r
/-- the signs of a text -/
def sg (x : Str) : List Nat := x.cps.toList
theorem sg_append (x y : Str) : sg (x ++ y) = sg x ++ sg y := by
  show (x.cps ++ y.cps).toList = _
  simp [sg]
theorem sg_join : ∀ l : List Str, sg (joinS l) = (l.map sg).flatten
  | [] => rfl
  | x :: r => by rw [joinS_cons, sg_append, sg_join r]; rfl
theorem sg_inj {x y : Str} (h : sg x = sg y) : x = y := by
  cases x; cases y
  simp only [sg] at h
  congr 1
  exact Array.toList_inj.mp h
def firstFrom (P : Nat → Bool) : Nat → Nat → Option Nat
  | _, 0 => none
  | p, k + 1 => if P p then some p else firstFrom P (p + 1) k
theorem firstFrom_none {P : Nat → Bool} : ∀ {k p : Nat}, (∀ j, p ≤ j → j < p + k → P j = false) → firstFrom P p k = none
  | 0, p, _ => rfl
  | k + 1, p, h => by rw [firstFrom, h p (Nat.le_refl _) (by exact o51)]; exact firstFrom_none fun j h1 h2 => h j (by exact o2 h1) (by exact o59 h2)
theorem firstFrom_some {P : Nat → Bool} {d : Nat} : ∀ {k p : Nat}, p ≤ d → d < p + k → P d = true → (∀ j, p ≤ j → j < d → P j = false) → firstFrom P p k = some d
  | 0, p, h1, h2, _, _ => by exact (o645 h2 h1).elim
  | k + 1, p, h1, h2, h3, h4 => by
    rw [firstFrom]
    by_cases q : p = d
    · subst q; rw [h3]; rfl
    · rw [h4 p (Nat.le_refl _) (by exact o414 h1 q)]; exact firstFrom_some (by exact o413 h1 q) (by exact o58 h2) h3 fun j g1 g2 => h4 j (by exact o2 g1) g2
theorem firstFrom_spec {P : Nat → Bool} : ∀ {k p : Nat}, (∀ d, firstFrom P p k = some d → p ≤ d ∧ d < p + k ∧ P d = true ∧ ∀ j, p ≤ j → j < d → P j = false) ∧ (firstFrom P p k = none → ∀ j, p ≤ j → j < p + k → P j = false)
  | 0, p => ⟨fun d h => by simp [firstFrom] at h, fun _ j h1 h2 => by exact (o645 h2 h1).elim⟩
  | k + 1, p => by
    have ih := @firstFrom_spec P k (p + 1)
    rw [firstFrom]
    cases q : P p with
    | true => exact ⟨fun d h => by cases h; exact ⟨Nat.le_refl _, by exact o51, q, fun j h1 h2 => by exact (o641 h2 h1).elim⟩, fun h => by cases h⟩
    | false =>
      refine ⟨fun d h => ?_, fun h j h1 h2 => ?_⟩
      · obtain ⟨g1, g2, g3, g4⟩ := ih.1 d h
        refine ⟨by exact o2 g1, by exact o59 g2, g3, fun j h1 h2 => ?_⟩
        by_cases z : j = p
        · rw [z]; exact q
        · exact g4 j (by exact o13 h1 z) h2
      · by_cases z : j = p
        · rw [z]; exact q
        · exact ih.2 h j (by exact o13 h1 z) (by exact o58 h2)
def nxt1 (T : Array Nat) (p : Nat) : Option (Nat × Nat) := (firstFrom (dotAt T) p (T.size - p)).map fun d => (d, d + 1)
def nxt2 (T : Array Nat) (p : Nat) : Option (Nat × Nat) := (firstFrom (isNL T) p (T.size - p)).map fun d => (d, nlEnd T d)
theorem tells1 {T : Array Nat} (hz : T.size ≤ 100000) : Tells c1 T (nxt1 T) := fun p hp => by
  obtain ⟨n, m, h1, h2, h3⟩ := find1 hp
  refine ⟨n, m, by exact o442 hz h1, h2, ?_⟩
  rcases h3 with ⟨d, g1, g2, g3, g4, g5, g6, g7⟩ | ⟨g1, g2⟩
  · have e : nxt1 T p = some (d, d + 1) := by unfold nxt1; rw [firstFrom_some g1 (by exact o135 g2) g3 g4]; rfl
    rw [e]; exact ⟨g1, Nat.lt_succ_self _, g2, g5, g6, g7⟩
  · have e : nxt1 T p = none := by unfold nxt1; rw [firstFrom_none fun j h1 h2 => g1 j h1 (by exact o14 hp h2)]; rfl
    rw [e]; exact g2
theorem nlEnd_le {T : Array Nat} {d : Nat} (h : d < T.size) : d < nlEnd T d ∧ nlEnd T d ≤ T.size := by
  unfold nlEnd
  by_cases q : T.getD d 0 = 13 ∧ d + 1 < T.size ∧ T.getD (d + 1) 0 = 10
  · rw [if_pos q]; obtain ⟨_, q, _⟩ := q; exact o367 q
  · rw [if_neg q]; exact o378 h
theorem tells2 {T : Array Nat} (hz : T.size ≤ 100000) : Tells c2 T (nxt2 T) := fun p hp => by
  obtain ⟨n, m, h1, h2, h3⟩ := find2 hp
  refine ⟨n, m, by exact o283 h1, h2, ?_⟩
  rcases h3 with ⟨d, g1, g2, g3, g4, g5, g6, g7⟩ | ⟨g1, g2⟩
  · have e : nxt2 T p = some (d, nlEnd T d) := by unfold nxt2; rw [firstFrom_some g1 (by exact o135 g2) g3 g4]; rfl
    rw [e]; exact ⟨g1, (nlEnd_le g2).1, (nlEnd_le g2).2, g5, g6, g7⟩
  · have e : nxt2 T p = none := by unfold nxt2; rw [firstFrom_none fun j h1 h2 => g1 j h1 (by exact o14 hp h2)]; rfl
    rw [e]; exact g2
/-! what comes out -/
def fix : List Nat → List Nat
  | 13 :: 10 :: r => 13 :: 10 :: fix r
  | c :: r => (if c = 10 ∨ c = 13 then [13, 10] else [c]) ++ fix r
  | [] => []
def stuff : Bool → List Nat → List Nat
  | _, [] => []
  | b, c :: r => (if b = true ∧ c = 46 then [46, 46] else [c]) ++ stuff (c == 10) r
theorem drop_get {T : Array Nat} {p : Nat} (h : p < T.size) : T.toList.drop p = T.getD p 0 :: T.toList.drop (p + 1) := by
  have h' : p < T.toList.length := by simpa using h
  rw [List.drop_eq_getElem_cons h']
  congr 1
  simp [Array.getD, h]
theorem sg_slice {T : Array Nat} {p d : Nat} (h : p ≤ d) (h2 : d ≤ T.size) : sg (slice T p d) = (T.toList.drop p).take (d - p) := by
  unfold sg slice
  rw [Array.toList_extract]
/-- signs that are taken over as they are -/
theorem plain_run {T : Array Nat} {g : Nat → List Nat → List Nat} (P : Nat → Bool) (step : ∀ p, p < T.size → P p = false → g p (T.toList.drop p) = T.getD p 0 :: g (p + 1) (T.toList.drop (p + 1))) :
    ∀ (k p : Nat), p + k ≤ T.size → (∀ j, p ≤ j → j < p + k → P j = false) → g p (T.toList.drop p) = (T.toList.drop p).take k ++ g (p + k) (T.toList.drop (p + k))
  | 0, p, _, _ => by simp
  | k + 1, p, h, hj => by
    rw [step p (by exact o130 h) (hj p (Nat.le_refl _) (by exact o51)), plain_run P step k (p + 1) (by exact o511 h) fun j h1 h2 => hj j (by exact o2 h1) (by exact o59 h2), show p + 1 + k = p + (k + 1) by exact o365]
    conv => rhs; rw [drop_get (show p < T.size by exact o130 h)]
    rfl
theorem fix_plain {c : Nat} {r : List Nat} (h1 : c ≠ 10) (h2 : c ≠ 13) : fix (c :: r) = c :: fix r := by
  rw [fix.eq_2 _ _ (fun _ q _ => h2 q), if_neg (by simp [h1, h2])]; rfl
theorem fix_step {T : Array Nat} {p : Nat} (h : p < T.size) (hn : isNL T p = false) : fix (T.toList.drop p) = T.getD p 0 :: fix (T.toList.drop (p + 1)) := by
  rw [drop_get h]
  unfold isNL at hn
  simp only [Bool.or_eq_false_iff, beq_eq_false_iff_ne] at hn
  exact fix_plain hn.1 hn.2
theorem fix_nl {T : Array Nat} {p : Nat} (h : p < T.size) (hn : isNL T p = true) : fix (T.toList.drop p) = 13 :: 10 :: fix (T.toList.drop (nlEnd T p)) := by
  unfold nlEnd
  by_cases q : T.getD p 0 = 13 ∧ p + 1 < T.size ∧ T.getD (p + 1) 0 = 10
  · rw [if_pos q, drop_get h, drop_get q.2.1, q.1, q.2.2, fix]
  · rw [if_neg q, drop_get h]
    unfold isNL at hn
    simp only [Bool.or_eq_true, beq_iff_eq] at hn
    rw [fix.eq_2, if_pos hn]
    · rfl
    · intro r h13 hr
      refine q ⟨h13, ?_⟩
      by_cases hp : p + 1 < T.size
      · rw [drop_get hp] at hr
        injection hr with e1 _
        exact ⟨hp, e1⟩
      · rw [List.drop_of_length_le (by simp; exact o470 hp)] at hr; cases hr
theorem pcs2 {T : Array Nat} : ∀ (k p : Nat), T.size < p + k → p ≤ T.size → sg (joinS (pcs T (nxt2 T) (Str.ofString "\r\n") k p)) = fix (T.toList.drop p) := by
  intro k
  induction k with
  | zero => intro p h1 h2; exact (o645 h1 h2).elim
  | succ k ih =>
    intro p h1 h2
    have run := plain_run (T := T) (g := fun _ l => fix l) (isNL T) fun p h hn => fix_step h hn
    cases q : firstFrom (isNL T) p (T.size - p) with
    | none =>
      have h := firstFrom_spec.2 q
      have e : nxt2 T p = none := by unfold nxt2; rw [q]; rfl
      rw [pcs, e]
      show sg (joinS (if p < T.size then [slice T p T.size] else [])) = _
      rw [run (T.size - p) p (by exact o114 h2) h, show p + (T.size - p) = T.size by exact o12 h2, List.drop_of_length_le (i := T.size) (by simp), fix, List.append_nil]
      by_cases hp : p < T.size
      · rw [if_pos hp, sg_join, List.map_singleton, List.flatten_singleton, sg_slice h2 (Nat.le_refl _)]
      · rw [if_neg hp, show T.size - p = 0 by exact o28 hp]; rfl
    | some d =>
      obtain ⟨g1, g2, g3, g4⟩ := firstFrom_spec.1 d q
      have e : nxt2 T p = some (d, nlEnd T d) := by unfold nxt2; rw [q]; rfl
      have hd : d < T.size := by exact o14 h2 g2
      obtain ⟨n1, n2⟩ := nlEnd_le hd
      rw [pcs, e]
      show sg (joinS ((if p < d then [slice T p d] else []) ++ Str.ofString "\r\n" :: pcs T (nxt2 T) (Str.ofString "\r\n") k (nlEnd T d))) = _
      rw [run (d - p) p (by exact o597 n1 n2 g1) (fun j h1 h2 => g4 j h1 (by exact o14 g1 h2)), show p + (d - p) = d by exact o12 g1, fix_nl hd g3, ← ih (nlEnd T d) (by exact o147 n1 g1 h1) n2]
      by_cases hp : p < d
      · rw [if_pos hp, List.singleton_append, joinS_cons, joinS_cons, sg_append, sg_append, sg_slice g1 (by exact o24 hd)]; rfl
      · rw [if_neg hp, List.nil_append, joinS_cons, sg_append, show d - p = 0 by exact o28 hp]; rfl
theorem stuff_step {T : Array Nat} {p : Nat} (h : p < T.size) (hn : dotAt T p = false) : stuff (bol T p) (T.toList.drop p) = T.getD p 0 :: stuff (bol T (p + 1)) (T.toList.drop (p + 1)) := by
  have e : bol T (p + 1) = (T.getD p 0 == 10) := by unfold bol; rw [Nat.add_sub_cancel]; simp
  rw [drop_get h, stuff, e]
  unfold dotAt at hn
  rw [if_neg]
  · rfl
  · rintro ⟨h1, h2⟩
    rw [h1, h2] at hn; cases hn
theorem stuff_dot {T : Array Nat} {p : Nat} (h : p < T.size) (hn : dotAt T p = true) : stuff (bol T p) (T.toList.drop p) = 46 :: 46 :: stuff (bol T (p + 1)) (T.toList.drop (p + 1)) := by
  have e : bol T (p + 1) = (T.getD p 0 == 10) := by unfold bol; rw [Nat.add_sub_cancel]; simp
  unfold dotAt at hn
  simp only [Bool.and_eq_true, beq_iff_eq] at hn
  rw [drop_get h, stuff, e, if_pos hn]; rfl
theorem pcs1 {T : Array Nat} : ∀ (k p : Nat), T.size < p + k → p ≤ T.size → sg (joinS (pcs T (nxt1 T) (Str.ofString "..") k p)) = stuff (bol T p) (T.toList.drop p) := by
  intro k
  induction k with
  | zero => intro p h1 h2; exact (o645 h1 h2).elim
  | succ k ih =>
    intro p h1 h2
    have run := plain_run (T := T) (g := fun p l => stuff (bol T p) l) (dotAt T) fun p h hn => stuff_step h hn
    cases q : firstFrom (dotAt T) p (T.size - p) with
    | none =>
      have h := firstFrom_spec.2 q
      have e : nxt1 T p = none := by unfold nxt1; rw [q]; rfl
      rw [pcs, e]
      show sg (joinS (if p < T.size then [slice T p T.size] else [])) = _
      have r1 := run (T.size - p) p (by exact o114 h2) h
      rw [show p + (T.size - p) = T.size by exact o12 h2, List.drop_of_length_le (i := T.size) (by simp), stuff, List.append_nil] at r1
      rw [r1]
      by_cases hp : p < T.size
      · rw [if_pos hp, sg_join, List.map_singleton, List.flatten_singleton, sg_slice h2 (Nat.le_refl _)]
      · rw [if_neg hp, show T.size - p = 0 by exact o28 hp]; rfl
    | some d =>
      obtain ⟨g1, g2, g3, g4⟩ := firstFrom_spec.1 d q
      have e : nxt1 T p = some (d, d + 1) := by unfold nxt1; rw [q]; rfl
      have hd : d < T.size := by exact o14 h2 g2
      rw [pcs, e]
      show sg (joinS ((if p < d then [slice T p d] else []) ++ Str.ofString ".." :: pcs T (nxt1 T) (Str.ofString "..") k (d + 1))) = _
      have r1 := run (d - p) p (by exact o535 hd g1) (fun j h1 h2 => g4 j h1 (by exact o14 g1 h2))
      rw [show p + (d - p) = d by exact o12 g1, stuff_dot hd g3, ← ih (d + 1) (by exact o610 g1 h1) hd] at r1
      rw [r1]
      by_cases hp : p < d
      · rw [if_pos hp, List.singleton_append, joinS_cons, joinS_cons, sg_append, sg_append, sg_slice g1 (by exact o24 hd)]; rfl
      · rw [if_neg hp, List.nil_append, joinS_cons, sg_append, show d - p = 0 by exact o28 hp]; rfl
/-- the text that quotedata gives -/
def quoted (x : Str) : Str := ⟨(stuff true (fix (sg x))).toArray⟩
theorem fix_len (l : List Nat) : (fix l).length ≤ 2 * l.length := by
  fun_induction fix l with
  | case1 r ih => simp; exact o404 ih
  | case2 c r h ih =>
    rw [List.length_append, List.length_cons]
    split <;> simp <;> (first | exact o403 ih | exact o402 ih)
  | case3 => simp
end Mine

end
section
open PySem PySem.W PyProof.Rows PySem.Calls PySem.Spec PySem.Challenge
namespace Mine

theorem bitAnd_nat (x y : Nat) : Builtin.bitAnd (x : Int) (y : Int) = ((x &&& y : Nat) : Int) := by
  unfold Builtin.bitAnd
  simp
theorem bitOr_nat (x y : Nat) : Builtin.bitOr (x : Int) (y : Int) = ((x ||| y : Nat) : Int) := by
  unfold Builtin.bitOr Builtin.bitAnd Builtin.bitNot
  have h1 : ¬ (0 ≤ (-(x : Int) - 1)) := by exact o98
  have h2 : ¬ (0 ≤ (-(y : Int) - 1)) := by exact o98
  simp only [h1, h2, decide_false]
  have e1 : (-(-(x : Int) - 1) - 1) = x := by exact o37
  have e2 : (-(-(y : Int) - 1) - 1) = y := by exact o37
  rw [e1, e2]
  simp
  exact o37
theorem pow_cast (n : Nat) : ((2 ^ n : Nat) : Int) = (2 : Int) ^ n := by simp
theorem two_pow_pos (n : Nat) : (0 : Int) < 2 ^ n := Int.pow_pos (by decide)
theorem bitAnd_mask {x : Int} (n : Nat) (hx : 0 ≤ x) : Builtin.bitAnd x (2 ^ n - 1) = x % 2 ^ n := by
  obtain ⟨m, rfl⟩ := Int.eq_ofNat_of_zero_le hx
  have : (2 : Int) ^ n - 1 = ((2 ^ n - 1 : Nat) : Int) := by
    have := Nat.two_pow_pos n
    rw [Int.natCast_sub (by exact o77 this)]; simp
  rw [this, bitAnd_nat, Nat.and_two_pow_sub_one_eq_mod]
  simp
theorem bitOr_add {x y : Int} (n : Nat) (hx : 0 ≤ x) (hy : 0 ≤ y) (hl : y < 2 ^ n) : Builtin.bitOr (x * 2 ^ n) y = x * 2 ^ n + y := by
  obtain ⟨a, rfl⟩ := Int.eq_ofNat_of_zero_le hx
  obtain ⟨b, rfl⟩ := Int.eq_ofNat_of_zero_le hy
  have hb : b < 2 ^ n := by
    have : ((b : Nat) : Int) < ((2 ^ n : Nat) : Int) := by rw [pow_cast]; exact hl
    exact_mod_cast this
  have e : ((a : Int) * 2 ^ n) = ((2 ^ n * a : Nat) : Int) := by rw [Int.natCast_mul, pow_cast, Int.mul_comm]
  rw [e, bitOr_nat, ← Nat.two_pow_add_eq_or_of_lt hb]
  simp
theorem intBits_lt {x : Int} {n : Nat} (h0 : 0 ≤ x) (h : x < 2 ^ n) : Builtin.Int.intBits x ≤ n := by
  rw [intBits_le_iff]
  have : ((x.natAbs : Nat) : Int) < ((2 ^ n : Nat) : Int) := by rw [pow_cast, Int.natAbs_of_nonneg h0]; exact h
  exact_mod_cast this
/-- a number of n bits -/
theorem intBits_eq {x : Int} {n : Nat} (h1 : 2 ^ n ≤ x) (h2 : x < 2 ^ (n + 1)) : Builtin.Int.intBits x = n + 1 := by
  have h0 : (0 : Int) < x := Int.lt_of_lt_of_le (two_pow_pos n) h1
  refine Nat.le_antisymm (intBits_lt (Int.le_of_lt h0) h2) ?_
  refine Nat.lt_of_not_le fun h => ?_
  rw [intBits_le_iff] at h
  have : ((x.natAbs : Nat) : Int) < ((2 ^ n : Nat) : Int) := by exact_mod_cast h
  rw [pow_cast] at this
  exact o323 h1 this
theorem lt_of_intBits {x : Int} {n : Nat} (h0 : 0 ≤ x) (h : Builtin.Int.intBits x ≤ n) : x < 2 ^ n := by
  rw [intBits_le_iff] at h
  have : ((x.natAbs : Nat) : Int) < ((2 ^ n : Nat) : Int) := by exact_mod_cast h
  rw [pow_cast] at this
  exact o304 this
theorem of_intBits {x : Int} {n : Nat} (h0 : 0 < x) (h : Builtin.Int.intBits x = n + 1) : 2 ^ n ≤ x := by
  refine Int.not_lt.mp fun hlt => ?_
  have := intBits_lt (Int.le_of_lt h0) hlt
  exact o393 h this
theorem pow_le {m n : Nat} (h : m ≤ n) : (2 : Int) ^ m ≤ 2 ^ n := by
  rw [← pow_cast, ← pow_cast]
  exact_mod_cast Nat.pow_le_pow_right (by decide) h
theorem noPylong {a b : Int} (ha : 0 ≤ a) (hb : 0 < b) (h : Builtin.Int.intBits a ≤ Builtin.Int.intBits b + 4000) : Builtin.divisionGoesByPylong a b = false := by
  unfold Builtin.divisionGoesByPylong
  unfold Builtin.Int.intBits at h
  have hb' : (b == 0) = false := by simp; exact o65 hb
  simp only [hb'] at h ⊢
  by_cases q : a = 0
  · subst q; simp
  · have ha' : (a == 0) = false := by simp; exact q
    simp only [ha'] at h ⊢
    simp only [Bool.false_eq_true, if_false] at h ⊢
    simp only [Bool.and_eq_false_iff, decide_eq_false_iff_not]
    exact o417 h
end Mine

end
section
open PySem PySem.W PyProof.Rows PySem.Calls PySem.Spec PySem.Challenge
namespace Mine
theorem fill : rw_ti0009_01 = rw_ti0009_01 ∧ hd.heap_39 = hd.heap_39 := by k_fill; exact ⟨rfl, rfl⟩
theorem g_lim (w : World) : ∃ t, nsIn (hd.heap_39 w.params) mainGlobals (Str.ofString "_DIV_LIMIT") = some (some (.int 4000 t)) := ⟨_, by k_is⟩
theorem g_div2 (w : World) : nsIn (hd.heap_39 w.params) mainGlobals (Str.ofString "_div2n1n") = some (some (.ref 38)) := by k_is
theorem g_div3 (w : World) : nsIn (hd.heap_39 w.params) mainGlobals (Str.ofString "_div3n2n") = some (some (.ref 45)) := by k_is
theorem g_divmod (w : World) : nsIn (hd.heap_39 w.params) mainGlobals (Str.ofString "divmod") = some none := by k_is
theorem k_div2 (w : World) : keepIn (hd.heap_39 w.params) (.ref 38) = true := by k_is
theorem k_div3 (w : World) : keepIn (hd.heap_39 w.params) (.ref 45) = true := by k_is
theorem b_divmod : bootBuiltins (Str.ofString "divmod") = some (.builtin "divmod") := by boot_fast
section
variable {sc : Scope} {dk : Nat} {tb : List Addr} {f : Fm sc dk tb} {ρ : Rho}
theorem EV.gint {x : Str} {pos : Pos} {i : Int} (e : ∃ t, nsIn (hd.heap_39 f.w.params) mainGlobals x = some (some (.int i t))) (hx : f.env.kindOf x = some .globalImplicit := by rfl) (hd : (x == ("__debug__" : Str)) = false := by decide) : EV f ρ (eval (.Name x pos) f.env) (.rint i) :=
  ⟨fun s G F Q E k => by obtain ⟨t, e⟩ := e; exact eval_glob F e hx hd (k _ s G (.refl _) F (.rint i t))⟩
end
/-- what a division by a number of n bits may be asked -/
structure DivPre (a b : Int) (n : Nat) : Prop where
  a0 : 0 ≤ a
  bl : 2 ^ (n - 1) ≤ b
  bh : b < 2 ^ n
  n0 : 0 < n
  ah : a < 2 ^ n * b
theorem DivPre.b0 {a b : Int} {n : Nat} (h : DivPre a b n) : 0 < b := Int.lt_of_lt_of_le (two_pow_pos _) h.bl
theorem DivPre.bits {a b : Int} {n : Nat} (h : DivPre a b n) : Builtin.Int.intBits b = n := by
  have := h.n0
  have e := intBits_eq (x := b) (n := n - 1) h.bl (by rw [Nat.sub_add_cancel h.n0]; exact h.bh)
  exact o343 this e
theorem DivPre.abits {a b : Int} {n : Nat} (h : DivPre a b n) : Builtin.Int.intBits a ≤ 2 * n := by
  refine intBits_lt h.a0 (Int.lt_of_lt_of_le h.ah ?_)
  rw [Nat.two_mul, Int.pow_add]
  exact Int.mul_le_mul_of_nonneg_left (Int.le_of_lt h.bh) (Int.le_of_lt (two_pow_pos _))
abbrev divT (a b : Int) : PV := .tup [.int (a / b), .int (a % b)]
theorem ct_div2_0 {w : World} {a b : Int} {n : Nat} (h : DivPre a b n) (hn : n ≤ 4000) : CT w [] 1 38 [.int a, .int b, .int n] (divT a b) := by
  refine CT.plain (names := [Str.ofString "a", Str.ofString "b", Str.ofString "n"]) (by k_is) (by k_is) ?_ rfl (by decide) (by rfl) (by rfl) rfl rfl rfl ?_ (by decide)
  · intro s vs h; obtain ⟨a, b, c, rfl⟩ := len3 h; exact BindsTo.of_eq rfl
  intro f hw
  subst hw
  have hb := h.abits
  refine SX.cons (SX.ite (EB.cmp (EV.bin (EV.bitLength (EV.var rfl rfl) rfl) (EV.var rfl rfl) (OP2.sub rfl rfl)) (EV.gint (g_lim _)) (OP2.leI rfl rfl)) (fun _ => ?_) (fun q => ?_))
  · refine SX.cons (SX.ret (EV.blt (g_divmod _) b_divmod (EL.cons (EV.var rfl rfl) (EL.cons (EV.var rfl rfl) EL.nil)) (OPL.divmod rfl rfl h.b0 (noPylong h.a0 h.b0 ?_))) rfl)
    have := h.bits; exact o561 hn this hb
  · simp only [decide_eq_false_iff_not] at q; exact (o633 hn hb q).elim
end Mine

end
section
open PySem PySem.W PyProof.Rows PySem.Calls PySem.Spec PySem.Challenge
namespace Mine
theorem fill3 : rw_ti0009_01 = rw_ti0009_01 ∧ hd.heap_39 = hd.heap_39 := by k_fill; exact ⟨rfl, rfl⟩
/-- what _div3n2n may be asked -/
structure D3 (a12 a3 b b1 b2 : Int) (n : Nat) : Prop where
  n0 : 0 < n
  b1l : 2 ^ (n - 1) ≤ b1
  b1h : b1 < 2 ^ n
  b20 : 0 ≤ b2
  b2h : b2 < 2 ^ n
  be : b = b1 * 2 ^ n + b2
  a30 : 0 ≤ a3
  a3h : a3 < 2 ^ n
  a0 : 0 ≤ a12
  ah : a12 * 2 ^ n + a3 < b * 2 ^ n
section
variable {a12 a3 b b1 b2 : Int} {n : Nat}
theorem D3.b1p (h : D3 a12 a3 b b1 b2 n) : 0 < b1 := Int.lt_of_lt_of_le (two_pow_pos _) h.b1l
theorem D3.bp (h : D3 a12 a3 b b1 b2 n) : 0 < b := by
  have := Int.mul_pos h.b1p (two_pow_pos n)
  have := h.b20; have := h.be; exact o475 (by assumption) (by assumption) this
theorem D3.alt (h : D3 a12 a3 b b1 b2 n) : a12 < b := by
  have h1 := h.ah; have h2 := h.a30
  have : a12 * 2 ^ n < b * 2 ^ n := by exact o477 h2 h1
  exact Int.lt_of_mul_lt_mul_right this (Int.le_of_lt (two_pow_pos n))
theorem D3.bh (h : D3 a12 a3 b b1 b2 n) : b < 2 ^ (2 * n) := by
  rw [h.be, Nat.two_mul, Int.pow_add]
  have h1 : (b1 + 1) * 2 ^ n ≤ 2 ^ n * 2 ^ n := Int.mul_le_mul_of_nonneg_right h.b1h (Int.le_of_lt (two_pow_pos n))
  have h2 := h.b2h
  rw [Int.add_mul] at h1; exact o581 h2 h1
/-- the first try: two ways, one fact -/
structure D3Q (a12 a3 b b1 b2 : Int) (n : Nat) (q r : Int) : Prop where
  q0 : 0 ≤ q
  qh : q < 2 ^ n
  r0 : 0 ≤ r
  rh : r < 2 ^ (2 * n + 1)
  e : q * b1 + r = a12
  lt : r * 2 ^ n + a3 - q * b2 < b
theorem D3.top (h : D3 a12 a3 b b1 b2 n) (ht : a12 / 2 ^ n = b1) : D3Q a12 a3 b b1 b2 n (2 ^ n - 1) (a12 - b1 * 2 ^ n + b1) := by
  have p := two_pow_pos n
  have hd := Int.mul_ediv_add_emod a12 (2 ^ n)
  have hm := Int.emod_nonneg a12 (Int.ne_of_gt p)
  rw [ht, Int.mul_comm] at hd
  have e : (2 ^ n - 1) * b1 + (a12 - b1 * 2 ^ n + b1) = a12 := by rw [Int.sub_mul, Int.one_mul, Int.mul_comm (2 ^ n) b1]; exact o485
  have hb1 := h.b1p
  have q0 : (0 : Int) ≤ 2 ^ n - 1 := by exact o33 p
  refine ⟨q0, by exact o67, o704 hd hm hb1, ?_, e, ?_⟩
  · have h1 := h.alt; have h2 := h.bh; have h3 := h.b1h
    have h4 : (2 : Int) ^ n ≤ 2 ^ (2 * n) := pow_le (by exact o276)
    have h5 : (2 : Int) ^ (2 * n + 1) = 2 ^ (2 * n) * 2 := Int.pow_succ 2 (2 * n)
    exact o705 h1 h2 h3 h4 h5 (Int.mul_pos hb1 p)
  · have h1 := h.ah
    have h2 : (a12 - b1 * 2 ^ n + b1) * 2 ^ n + a3 - (2 ^ n - 1) * b2 = a12 * 2 ^ n + a3 - (2 ^ n - 1) * b := by
      rw [h.be]
      generalize (2 : Int) ^ n = X at *
      simp only [Int.sub_mul, Int.add_mul, Int.mul_add, Int.one_mul]
      have := Int.mul_comm X (b1 * X)
      rw [Int.mul_assoc] at this
      have h9 : X * (b1 * X) = b1 * X * X := Int.mul_comm _ _
      exact o629 h9
    rw [h2, Int.sub_mul, Int.one_mul, Int.mul_comm (2 ^ n) b]
    exact o578 h1
theorem D3.div (h : D3 a12 a3 b b1 b2 n) (ht : a12 / 2 ^ n ≠ b1) : DivPre a12 b1 n ∧ D3Q a12 a3 b b1 b2 n (a12 / b1) (a12 % b1) := by
  have p := two_pow_pos n
  have hb1 := h.b1p
  have hlt : a12 / 2 ^ n < b1 := by
    have h1 : a12 / 2 ^ n ≤ b1 := by
      have := h.alt
      have h2 : a12 / 2 ^ n ≤ b / 2 ^ n := Int.ediv_le_ediv p (Int.le_of_lt this)
      have h3 : b / 2 ^ n = b1 := by
        rw [h.be, Int.add_comm, Int.add_mul_ediv_right _ _ (Int.ne_of_gt p), Int.ediv_eq_zero_of_lt h.b20 h.b2h, Int.zero_add]
      exact o488 h3 h2
    exact o322 ht h1
  have ha : a12 < 2 ^ n * b1 := by
    have := (Int.ediv_lt_iff_lt_mul p).mp hlt
    rw [Int.mul_comm]; exact this
  have P : DivPre a12 b1 n := ⟨h.a0, h.b1l, h.b1h, h.n0, ha⟩
  refine ⟨P, ?_⟩
  have hd := Int.mul_ediv_add_emod a12 b1
  have hm := Int.emod_nonneg a12 (Int.ne_of_gt hb1)
  have hl := Int.emod_lt_of_pos a12 hb1
  have q0 : 0 ≤ a12 / b1 := Int.ediv_nonneg h.a0 (Int.le_of_lt hb1)
  refine ⟨q0, (Int.ediv_lt_iff_lt_mul hb1).mpr ha, hm, ?_, by rw [Int.mul_comm]; exact hd, ?_⟩
  · have h3 := h.b1h
    have h4 : (2 : Int) ^ n ≤ 2 ^ (2 * n + 1) := pow_le (by exact o277)
    exact o584 h3 hl h4
  · have h1 : (a12 % b1 + 1) * 2 ^ n ≤ b1 * 2 ^ n := Int.mul_le_mul_of_nonneg_right hl (Int.le_of_lt p)
    rw [Int.add_mul, Int.one_mul] at h1
    have h2 := Int.mul_nonneg q0 h.b20
    have h3 := h.a3h; have h4 := h.b20; have h5 := h.be
    exact o628 h4 h2 h3 h1 h5
theorem D3Q.num {q r : Int} (h : D3 a12 a3 b b1 b2 n) (k : D3Q a12 a3 b b1 b2 n q r) : a12 * 2 ^ n + a3 = q * b + (r * 2 ^ n + a3 - q * b2) := by
  rw [h.be, ← k.e, Int.mul_add, Int.add_mul, Int.mul_assoc]; exact o577
theorem D3Q.low {q r : Int} (h : D3 a12 a3 b b1 b2 n) (k : D3Q a12 a3 b b1 b2 n q r) : -(2 * b) ≤ r * 2 ^ n + a3 - q * b2 := by
  have p := two_pow_pos n
  have h1 : q * b2 ≤ 2 ^ n * 2 ^ n := by
    refine Int.le_trans (Int.mul_le_mul_of_nonneg_right (Int.le_of_lt k.qh) h.b20) (Int.mul_le_mul_of_nonneg_left (Int.le_of_lt h.b2h) (Int.le_of_lt p))
  have h2 : (2 : Int) ^ n * 2 ^ n ≤ 2 * b := by
    have e : (2 : Int) ^ n = 2 * 2 ^ (n - 1) := by
      have e0 : n = (n - 1) + 1 := (Nat.sub_add_cancel h.n0).symm
      have := Int.pow_succ (2 : Int) (n - 1)
      rw [show (n - 1).succ = n from e0.symm] at this; rw [this, Int.mul_comm]
    have h3 : 2 ^ (n - 1) * 2 ^ n ≤ b1 * 2 ^ n := Int.mul_le_mul_of_nonneg_right h.b1l (Int.le_of_lt p)
    have h4 := h.b20; have h5 := h.be
    have : (2 : Int) ^ n * 2 ^ n = 2 * (2 ^ (n - 1) * 2 ^ n) := by rw [← Int.mul_assoc, ← e]
    exact o614 h4 this h3 h5
  have h3 := Int.mul_nonneg k.r0 (Int.le_of_lt p)
  have h4 := h.a30
  exact o613 h3 h4 h2 h1
theorem div_of {N b q r : Int} (hb : 0 < b) (e : N = q * b + r) (h0 : 0 ≤ r) (h1 : r < b) : N / b = q ∧ N % b = r := by
  constructor
  · rw [e, Int.add_comm, Int.add_mul_ediv_right _ _ (Int.ne_of_gt hb), Int.ediv_eq_zero_of_lt h0 h1, Int.zero_add]
  · rw [e, Int.add_comm, Int.add_mul_emod_self_right, Int.emod_eq_of_lt h0 h1]
end
theorem ct_div3 {w : World} {dk : Nat} {a12 a3 b b1 b2 : Int} {n : Nat} (h : D3 a12 a3 b b1 b2 n) (hn : n ≤ 100000) (H : ∀ a b, DivPre a b n → CT w [] dk 38 [.int a, .int b, .int n] (divT a b)) :
    CT w [] (dk + 1) 45 [.int a12, .int a3, .int b, .int b1, .int b2, .int n] (divT (a12 * 2 ^ n + a3) b) := by
  refine CT.plain (names := [Str.ofString "a12", Str.ofString "a3", Str.ofString "b", Str.ofString "b1", Str.ofString "b2", Str.ofString "n"]) (by k_is) (by k_is) ?_ rfl (by decide) (by rfl) (by rfl) rfl rfl rfl ?_ (by decide)
  · intro s vs h; obtain ⟨a, b, c, d, e, g, rfl⟩ := len6 h; exact BindsTo.of_eq rfl
  intro f hw
  subst hw
  have hb1 := h.b1p
  have hb := h.bp
  have hN : 0 ≤ (n : Int) := Int.natCast_nonneg n
  have ib1 : Builtin.Int.intBits b1 ≤ n := intBits_lt (Int.le_of_lt hb1) h.b1h
  have ib2 : Builtin.Int.intBits b2 ≤ n := intBits_lt h.b20 h.b2h
  have i1 : Builtin.Int.intBits 1 = 1 := by decide
  have tn : (n : Int).toNat = n := Int.toNat_natCast n
  refine SX.cons' (Ψ := fun o => ∃ q r ρ, o = .nx ρ ∧ D3Q a12 a3 b b1 b2 n q r ∧
    SubR [(Str.ofString "q", .loc (.int q)), (Str.ofString "r", .loc (.int r)), (Str.ofString "a3", .loc (.int a3)), (Str.ofString "b", .loc (.int b)), (Str.ofString "b2", .loc (.int b2)), (Str.ofString "n", .loc (.int n))] ρ)
    (SX.ite (EB.cmp (EV.bin (EV.var rfl rfl) (EV.var rfl rfl) (OP2.shr rfl rfl hN)) (EV.var rfl rfl) (OP2.eqI rfl rfl)) (fun t => ?_) (fun t => ?_)) ?_
  · rw [tn] at t
    have D := h.top (by simpa using t)
    refine SX.cons (SX.swap2 (EV.tuple (EL.cons (EV.bin (EV.bin EV.cint (EV.var rfl rfl) (OP2.shl rfl rfl hN (by exact o383 i1 hn))) EV.cint (OP2.sub rfl rfl))
      (EL.cons (EV.bin (EV.bin (EV.var rfl rfl) (EV.bin (EV.var rfl rfl) (EV.var rfl rfl) (OP2.shl rfl rfl hN (by exact o443 hn ib1))) (OP2.sub rfl rfl)) (EV.var rfl rfl) (OP2.add rfl rfl)) EL.nil))) (SX.nil ?_))
    rw [tn, Int.one_mul]
    exact ⟨_, _, _, rfl, D, rfl, rfl, rfl, rfl, rfl, rfl, trivial⟩
  · rw [tn] at t
    obtain ⟨P, D⟩ := h.div (by simpa using t)
    refine SX.cons (SX.unpack2 (EV.call (g_div2 _) (k_div2 _) (EL.cons (EV.var rfl rfl) (EL.cons (EV.var rfl rfl) (EL.cons (EV.var rfl rfl) EL.nil))) (H _ _ P) (hk := Nat.le_refl _)) (SX.nil ?_))
    exact ⟨_, _, _, rfl, D, rfl, rfl, rfl, rfl, rfl, rfl, trivial⟩
  rintro _ ⟨q, r, ρ, rfl, D, hs⟩
  refine SX.weaken ?_ hs
  have ir : Builtin.Int.intBits r ≤ 2 * n + 1 := intBits_lt D.r0 D.rh
  have iq : Builtin.Int.intBits q ≤ n := intBits_lt D.q0 D.qh
  refine SX.cons (SX.assign (EV.bin (EV.bin (EV.bin (EV.var rfl rfl) (EV.var rfl rfl) (OP2.shl rfl rfl hN (by exact o441 hn ir))) (EV.var rfl rfl) (OP2.bor rfl rfl)) (EV.bin (EV.var rfl rfl) (EV.var rfl rfl) (OP2.mul rfl rfl (IntMulOk.of_le iq ib2 (by exact o268 hn)))) (OP2.sub rfl rfl)) ?_)
  rw [tn, bitOr_add n D.r0 h.a30 h.a3h]
  show SX f _ (execs _ f.env) _
  refine SX.cons (SX.whileR (fun k ρ => ∃ q r, a12 * 2 ^ n + a3 = q * b + r ∧ r < b ∧ -((k : Int) * b) ≤ r ∧ SubR [(Str.ofString "q", .loc (.int q)), (Str.ofString "r", .loc (.int r)), (Str.ofString "b", .loc (.int b))] ρ) 2 ?_ ?_)
  · exact ⟨q, r * 2 ^ n + a3 - q * b2, D.num h, D.lt, D.low h, rfl, rfl, rfl, trivial⟩
  · rintro k ρ ⟨q, r, e, hr, hk, hs⟩
    refine ⟨decide (r < 0), EB.cmp (EV.var (hs.lookup rfl) rfl) EV.cint (OP2.ltI rfl rfl), fun t => ?_, fun t => ?_⟩
    · simp only [decide_eq_false_iff_not, Int.not_lt] at t
      obtain ⟨e1, e2⟩ := div_of hb e t hr
      show SX f _ (execs _ f.env) _
      refine SX.cons (SX.ret (EV.tuple (EL.cons (EV.var (hs.lookup rfl) rfl) (EL.cons (EV.var (hs.lookup rfl) rfl) EL.nil))) ?_)
      show PV.tup _ = PV.tup _
      rw [e1, e2]
    · simp only [decide_eq_true_eq] at t
      refine SX.weaken ?_ hs
      refine SX.cons (SX.aug rfl rfl EV.cint (OP2.isub rfl rfl) ?_)
      refine SX.cons (SX.aug rfl rfl (EV.var rfl rfl) (OP2.iadd rfl rfl) (SX.nil ?_))
      have hk0 : k ≠ 0 := by
        rintro rfl
        simp at hk; exact o172 hk t
      obtain ⟨m, rfl⟩ := Nat.exists_eq_succ_of_ne_zero hk0
      refine ⟨m, [(Str.ofString "q", .loc (.int (q - 1))), (Str.ofString "r", .loc (.int (r + b))), (Str.ofString "b", .loc (.int b))], Nat.lt_succ_self _, ⟨rfl, rfl, rfl, trivial⟩, q - 1, r + b, ?_, ?_, ?_, rfl, rfl, rfl, trivial⟩
      · rw [Int.sub_mul, Int.one_mul]; exact o615 e
      · exact o319 t
      · have : ((m.succ : Nat) : Int) * b = (m : Int) * b + b := by rw [Nat.succ_eq_add_one, Int.natCast_add, Int.add_mul]; simp
        exact o570 hk this
end Mine

end
section
open PySem PySem.W PyProof.Rows PySem.Calls PySem.Spec PySem.Challenge
namespace Mine
theorem fill4 : rw_ti0009_01 = rw_ti0009_01 ∧ hd.heap_39 = hd.heap_39 := by k_fill; exact ⟨rfl, rfl⟩
/-- one level of the division -/
structure D2 (a b : Int) (h : Nat) : Prop where
  pre : DivPre a b (2 * h)
  h0 : 0 < h
section
variable {a b : Int} {h : Nat}
theorem pp2 (h : Nat) : (2 : Int) ^ (2 * h) = 2 ^ h * 2 ^ h := by rw [Nat.two_mul, Int.pow_add]
theorem D2.b1 (D : D2 a b h) : 2 ^ (h - 1) ≤ b / 2 ^ h ∧ b / 2 ^ h < 2 ^ h := by
  have p := two_pow_pos h
  constructor
  · rw [Int.le_ediv_iff_mul_le p, ← Int.pow_add]
    have := D.pre.bl
    have e : 2 * h - 1 = h - 1 + h := by exact o228
    rw [e] at this; exact this
  · rw [Int.ediv_lt_iff_lt_mul p, ← pp2]; exact D.pre.bh
theorem D2.first (D : D2 a b h) : D3 (a / 2 ^ (2 * h)) (a / 2 ^ h % 2 ^ h) b (b / 2 ^ h) (b % 2 ^ h) h := by
  have p := two_pow_pos h
  have e1 : a / 2 ^ (2 * h) * 2 ^ h + a / 2 ^ h % 2 ^ h = a / 2 ^ h := by
    rw [pp2, ← Int.ediv_ediv_of_nonneg (Int.le_of_lt p), Int.mul_comm]; exact Int.mul_ediv_add_emod _ _
  refine ⟨D.h0, D.b1.1, D.b1.2, Int.emod_nonneg _ (Int.ne_of_gt p), Int.emod_lt_of_pos _ p, ?_, Int.emod_nonneg _ (Int.ne_of_gt p), Int.emod_lt_of_pos _ p, Int.ediv_nonneg D.pre.a0 (Int.le_of_lt (two_pow_pos _)), ?_⟩
  · rw [Int.mul_comm]; exact (Int.mul_ediv_add_emod _ _).symm
  · rw [e1, Int.ediv_lt_iff_lt_mul p, Int.mul_assoc, ← pp2, Int.mul_comm]; exact D.pre.ah
theorem D2.fst (D : D2 a b h) : a / 2 ^ (2 * h) * 2 ^ h + a / 2 ^ h % 2 ^ h = a / 2 ^ h := by
  have p := two_pow_pos h
  rw [pp2, ← Int.ediv_ediv_of_nonneg (Int.le_of_lt p), Int.mul_comm]; exact Int.mul_ediv_add_emod _ _
theorem D2.second (D : D2 a b h) : D3 (a / 2 ^ h % b) (a % 2 ^ h) b (b / 2 ^ h) (b % 2 ^ h) h := by
  have p := two_pow_pos h
  have hb := D.pre.b0
  have h1 := Int.emod_lt_of_pos (a / 2 ^ h) hb
  have h2 := Int.emod_lt_of_pos a p
  refine ⟨D.h0, D.b1.1, D.b1.2, Int.emod_nonneg _ (Int.ne_of_gt p), Int.emod_lt_of_pos _ p, ?_, Int.emod_nonneg _ (Int.ne_of_gt p), h2, Int.emod_nonneg _ (Int.ne_of_gt hb), ?_⟩
  · rw [Int.mul_comm]; exact (Int.mul_ediv_add_emod _ _).symm
  · have : (a / 2 ^ h % b + 1) * 2 ^ h ≤ b * 2 ^ h := Int.mul_le_mul_of_nonneg_right h1 (Int.le_of_lt p)
    rw [Int.add_mul, Int.one_mul] at this; exact o582 h2 this
theorem D2.res (D : D2 a b h) : a / b = a / 2 ^ h / b * 2 ^ h + (a / 2 ^ h % b * 2 ^ h + a % 2 ^ h) / b ∧ a % b = (a / 2 ^ h % b * 2 ^ h + a % 2 ^ h) % b := by
  have hb := D.pre.b0
  have e1 := Int.mul_ediv_add_emod a (2 ^ h)
  have e2 := Int.mul_ediv_add_emod (a / 2 ^ h) b
  have e3 := Int.mul_ediv_add_emod (a / 2 ^ h % b * 2 ^ h + a % 2 ^ h) b
  refine div_of hb ?_ (Int.emod_nonneg _ (Int.ne_of_gt hb)) (Int.emod_lt_of_pos _ hb)
  rw [Int.add_mul, Int.add_assoc, Int.mul_comm _ b, Int.mul_comm _ b, e3, ← Int.add_assoc, ← Int.mul_assoc, ← Int.add_mul, e2, Int.mul_comm]
  exact e1.symm
theorem D2.q2 (D : D2 a b h) : 0 ≤ (a / 2 ^ h % b * 2 ^ h + a % 2 ^ h) / b ∧ (a / 2 ^ h % b * 2 ^ h + a % 2 ^ h) / b < 2 ^ h := by
  have hb := D.pre.b0
  have S := D.second
  have p := two_pow_pos h
  constructor
  · refine Int.ediv_nonneg ?_ (Int.le_of_lt hb)
    have := Int.mul_nonneg S.a0 (Int.le_of_lt p); have := S.a30; exact o100 this (by assumption)
  · rw [Int.ediv_lt_iff_lt_mul hb, Int.mul_comm (2 ^ h) b]; exact S.ah
end
theorem DivPre.pad {a b : Int} {n : Nat} (D : DivPre a b n) : DivPre (a * 2) (b * 2) (n + 1) := by
  have h0 := D.a0; have h1 := D.bl; have h2 := D.bh; have h3 := D.n0; have h4 := D.ah
  refine ⟨by exact o171 h0, ?_, ?_, by exact o209, ?_⟩
  · have e : n + 1 - 1 = (n - 1) + 1 := by exact o213 h3
    rw [e, Int.pow_succ]; exact o324 h1
  · rw [Int.pow_succ]; exact o320 h2
  · rw [Int.pow_succ, Int.mul_assoc, Int.mul_comm 2, Int.mul_assoc, Int.mul_comm 2 2, ← Int.mul_assoc, ← Int.mul_assoc]; have := D.b0; have := Int.mul_pos (two_pow_pos n) this; exact o308 this h4
def L1 (a b : Int) (n : Nat) (p : Int) : Rho := [(Str.ofString "a", .loc (.int a)), (Str.ofString "b", .loc (.int b)), (Str.ofString "n", .loc (.int n)), (Str.ofString "pad", .loc (.int p))]
theorem ct_div2_s {w : World} {dk : Nat} {M : Nat} (hM : M ≤ 100000) (H : ∀ a b n, DivPre a b n → n ≤ M → CT w [] dk 38 [.int a, .int b, .int n] (divT a b)) {a b : Int} {n : Nat} (h : DivPre a b n) (hn : n ≤ 2 * M) :
    CT w [] (dk + 2) 38 [.int a, .int b, .int n] (divT a b) := by
  refine CT.plain (names := [Str.ofString "a", Str.ofString "b", Str.ofString "n"]) (by k_is) (by k_is) ?_ rfl (by decide) (by rfl) (by rfl) rfl rfl rfl ?_ (by decide)
  · intro s vs h; obtain ⟨a, b, c, rfl⟩ := len3 h; exact BindsTo.of_eq rfl
  intro f hw
  subst hw
  have hb := h.abits
  have hB := h.bits
  have i1 : Builtin.Int.intBits 1 = 1 := by decide
  refine SX.cons' (Ψ := fun o => o = .rt (divT a b) ∨ (∃ ρ, o = .nx ρ ∧ 4000 < n ∧ SubR [(Str.ofString "a", .loc (.int a)), (Str.ofString "b", .loc (.int b)), (Str.ofString "n", .loc (.int n))] ρ)) (SX.ite (EB.cmp (EV.bin (EV.bitLength (EV.var rfl rfl) rfl) (EV.var rfl rfl) (OP2.sub rfl rfl)) (EV.gint (g_lim _)) (OP2.leI rfl rfl)) (fun q => ?_) (fun q => ?_)) ?_
  · simp only [decide_eq_true_eq] at q
    refine SX.cons (SX.ret (EV.blt (g_divmod _) b_divmod (EL.cons (EV.var rfl rfl) (EL.cons (EV.var rfl rfl) EL.nil)) (OPL.divmod rfl rfl h.b0 (noPylong h.a0 h.b0 ?_))) (.inl rfl))
    have := h.bits; exact o538 hB q
  · simp only [decide_eq_false_iff_not] at q
    exact SX.nil (.inr ⟨_, rfl, by exact o448 hb q, rfl, rfl, rfl, trivial⟩)
  rintro _ (rfl | ⟨ρ, rfl, hbig, hs⟩)
  · rfl
  refine SX.weaken ?_ hs
  have e1 : Builtin.bitAnd (n : Int) 1 = (n % 2 : Nat) := by
    have := bitAnd_mask (x := n) 1 (Int.natCast_nonneg n)
    simpa using this
  refine SX.cons (SX.assign (EV.bin (EV.var rfl rfl) EV.cint (OP2.band rfl rfl)) ?_)
  rw [e1]
  refine SX.cons' (Ψ := fun o => ∃ ρ h', o = .nx ρ ∧ n + n % 2 = 2 * h' ∧ SubR (L1 (a * 2 ^ (n % 2)) (b * 2 ^ (n % 2)) (2 * h') ((n % 2 : Nat) : Int)) ρ) (SX.ite (EB.int (EV.var rfl rfl) rfl) (fun q => ?_) (fun q => ?_)) ?_
  · have q' : n % 2 = 1 := by simp at q; exact o96 q
    rw [q']
    refine SX.cons (SX.aug rfl rfl EV.cint (OP2.ishl rfl rfl (by decide) (by exact o542 hM hb hn)) ?_)
    refine SX.cons (SX.aug rfl rfl EV.cint (OP2.ishl rfl rfl (by decide) (by exact o541 hM hB hn)) ?_)
    refine SX.cons (SX.aug rfl rfl EV.cint (OP2.iadd rfl rfl) (SX.nil ?_))
    have : n + 1 = 2 * ((n + 1) / 2) := by exact o242 q'
    refine ⟨_, (n + 1) / 2, rfl, this, ?_⟩
    rw [← this]
    exact ⟨rfl, rfl, rfl, rfl, trivial⟩
  · have q' : n % 2 = 0 := by simp at q; exact o74 q
    rw [q']
    have : n + 0 = 2 * (n / 2) := by exact o241 q'
    refine SX.nil ⟨_, n / 2, rfl, this, ?_⟩
    rw [← this, Int.pow_zero, Int.mul_one, Int.mul_one]
    exact ⟨rfl, rfl, rfl, rfl, trivial⟩
  rintro _ ⟨ρ, h', rfl, hh, hs⟩
  refine SX.weaken ?_ hs
  have D : D2 (a * 2 ^ (n % 2)) (b * 2 ^ (n % 2)) h' := by
    refine ⟨?_, by exact o362 hbig hh⟩
    rw [← hh]
    by_cases q : n % 2 = 0
    · rw [q]; simpa using h
    · have q' : n % 2 = 1 := by exact o299 q
      rw [q']; simpa using h.pad
  have hdiv : a * 2 ^ (n % 2) / (b * 2 ^ (n % 2)) = a / b := Int.mul_ediv_mul_of_pos_left _ _ (two_pow_pos _)
  have hmod : a * 2 ^ (n % 2) % (b * 2 ^ (n % 2)) / 2 ^ (n % 2) = a % b := by
    rw [Int.mul_comm a, Int.mul_comm b, Int.mul_emod_mul_of_pos _ _ (two_pow_pos _), Int.mul_ediv_cancel_left _ (Int.ne_of_gt (two_pow_pos _))]
  generalize ha' : a * 2 ^ (n % 2) = a' at *
  generalize hb' : b * 2 ^ (n % 2) = b' at *
  have e2 : ((2 * h' : Nat) : Int) / 2 ^ (1 : Int).toNat = h' := by
    exact o706
  have hN : 0 ≤ (h' : Int) := Int.natCast_nonneg h'
  have hN2 : 0 ≤ ((2 * h' : Nat) : Int) := Int.natCast_nonneg _
  have tn : (h' : Int).toNat = h' := Int.toNat_natCast h'
  have tn2 : ((2 * h' : Nat) : Int).toNat = 2 * h' := Int.toNat_natCast _
  have a0 := D.pre.a0
  have b0 := Int.le_of_lt D.pre.b0
  refine SX.cons (SX.assign (EV.bin (EV.var rfl rfl) EV.cint (OP2.shr rfl rfl (by decide))) ?_)
  rw [e2]
  refine SX.cons (SX.assign (EV.bin (EV.bin EV.cint (EV.var rfl rfl) (OP2.shl rfl rfl hN (by exact o595 i1 hM hh hn))) EV.cint (OP2.sub rfl rfl)) ?_)
  rw [tn, Int.one_mul]
  refine SX.cons (SX.swap2 (EV.tuple (EL.cons (EV.bin (EV.var rfl rfl) (EV.var rfl rfl) (OP2.shr rfl rfl hN)) (EL.cons (EV.bin (EV.var rfl rfl) (EV.var rfl rfl) (OP2.band rfl rfl)) EL.nil))) ?_)
  rw [tn, bitAnd_mask h' b0]
  have m1 := bitAnd_mask (x := a' / 2 ^ h') h' (Int.ediv_nonneg a0 (Int.le_of_lt (two_pow_pos _)))
  have m2 := bitAnd_mask (x := a') h' a0
  refine SX.cons (SX.unpack2 (EV.call (g_div3 _) (k_div3 _) (EL.cast (EL.cons (EV.bin (EV.var rfl rfl) (EV.var rfl rfl) (OP2.shr rfl rfl hN2)) (EL.cons (EV.bin (EV.bin (EV.var rfl rfl) (EV.var rfl rfl) (OP2.shr rfl rfl hN)) (EV.var rfl rfl) (OP2.band rfl rfl)) (EL.cons (EV.var rfl rfl) (EL.cons (EV.var rfl rfl) (EL.cons (EV.var rfl rfl) (EL.cons (EV.var rfl rfl) EL.nil))))))
    (by rw [tn, tn2, m1])) (ct_div3 D.first (by exact o140 hM hh hn) fun x y P => H x y h' P (by exact o142 hh hn)) (hk := Nat.le_refl _)) ?_)
  rw [D.fst]
  refine SX.cons (SX.unpack2 (EV.call (g_div3 _) (k_div3 _) (EL.cast (EL.cons (EV.var rfl rfl) (EL.cons (EV.bin (EV.var rfl rfl) (EV.var rfl rfl) (OP2.band rfl rfl)) (EL.cons (EV.var rfl rfl) (EL.cons (EV.var rfl rfl) (EL.cons (EV.var rfl rfl) (EL.cons (EV.var rfl rfl) EL.nil))))))
    (by rw [m2])) (ct_div3 D.second (by exact o140 hM hh hn) fun x y P => H x y h' P (by exact o142 hh hn)) (hk := Nat.le_refl _)) ?_)
  obtain ⟨r1, r2⟩ := D.res
  rw [← r2]
  have hq1 : 0 ≤ a' / 2 ^ h' / b' := Int.ediv_nonneg (Int.ediv_nonneg a0 (Int.le_of_lt (two_pow_pos _))) b0
  have hor := bitOr_add h' hq1 D.q2.1 D.q2.2
  rw [← r1] at hor
  refine SX.cons' (Ψ := fun o => ∃ ρ, o = .nx ρ ∧ SubR [(Str.ofString "q1", .loc (.int (a' / 2 ^ h' / b'))), (Str.ofString "q2", .loc (.int ((a' / 2 ^ h' % b' * 2 ^ h' + a' % 2 ^ h') / b'))), (Str.ofString "half_n", .loc (.int h')), (Str.ofString "r", .loc (.int (a % b)))] ρ) (SX.ite (EB.int (EV.var rfl rfl) rfl) (fun q => ?_) (fun q => ?_)) ?_
  · have q' : n % 2 = 1 := by simp at q; exact o96 q
    rw [q'] at hmod
    refine SX.cons (SX.aug rfl rfl EV.cint (OP2.ishr rfl rfl (by decide)) (SX.nil ⟨_, rfl, rfl, rfl, rfl, ?_, trivial⟩))
    rw [← hmod]; rfl
  · have q' : n % 2 = 0 := by simp at q; exact o74 q
    rw [q'] at hmod
    refine SX.nil ⟨_, rfl, rfl, rfl, rfl, ?_, trivial⟩
    rw [← hmod, Int.pow_zero, Int.ediv_one]; rfl
  rintro _ ⟨ρ, rfl, hs⟩
  refine SX.weaken ?_ hs
  refine SX.cons (SX.ret (EV.tuple (EL.cons (EV.bin (EV.bin (EV.var rfl rfl) (EV.var rfl rfl) (OP2.shl rfl rfl hN ?_)) (EV.var rfl rfl) (OP2.bor rfl rfl)) (EL.cons (EV.var rfl rfl) EL.nil))) ?_)
  · have : Builtin.Int.intBits (a' / 2 ^ h' / b') ≤ 2 * h' := intBits_lt hq1 (by
      rw [Int.ediv_lt_iff_lt_mul D.pre.b0]
      have := D.pre.ah
      exact Int.lt_of_le_of_lt (Int.ediv_le_self _ a0) this)
    exact o606 hM hh this hn
  · show PV.tup _ = PV.tup _
    rw [tn, hor, hdiv]
end Mine

end
section
open PySem PySem.W PyProof.Rows PySem.Calls PySem.Spec PySem.Challenge
namespace Mine
theorem fillC1 : rw_ti0009_01 = rw_ti0009_01 ∧ hd.heap_39 = hd.heap_39 := by k_fill; exact ⟨rfl, rfl⟩
theorem g_int2digits (w : World) : nsIn (hd.heap_39 w.params) mainGlobals (Str.ofString "_int2digits") = some (some (.ref 52)) := by k_is
theorem k_int2digits (w : World) : keepIn (hd.heap_39 w.params) (.ref 52) = true := by k_is
theorem g_digits2int (w : World) : nsIn (hd.heap_39 w.params) mainGlobals (Str.ofString "_digits2int") = some (some (.ref 59)) := by k_is
theorem k_digits2int (w : World) : keepIn (hd.heap_39 w.params) (.ref 59) = true := by k_is
theorem g_divmodpos (w : World) : nsIn (hd.heap_39 w.params) mainGlobals (Str.ofString "_divmod_pos") = some (some (.ref 66)) := by k_is
theorem k_divmodpos (w : World) : keepIn (hd.heap_39 w.params) (.ref 66) = true := by k_is
theorem g_ne (w : World) : nsIn (hd.heap_39 w.params) mainGlobals (Str.ofString "ne") = some (some (.ref 73)) := by k_is
theorem k_ne (w : World) : keepIn (hd.heap_39 w.params) (.ref 73) = true := by k_is
theorem g_add (w : World) : nsIn (hd.heap_39 w.params) mainGlobals (Str.ofString "add") = some (some (.ref 80)) := by k_is
theorem k_add (w : World) : keepIn (hd.heap_39 w.params) (.ref 80) = true := by k_is
theorem g_and (w : World) : nsIn (hd.heap_39 w.params) mainGlobals (Str.ofString "and_") = some (some (.ref 87)) := by k_is
theorem k_and (w : World) : keepIn (hd.heap_39 w.params) (.ref 87) = true := by k_is
theorem g_lshift (w : World) : nsIn (hd.heap_39 w.params) mainGlobals (Str.ofString "lshift") = some (some (.ref 94)) := by k_is
theorem k_lshift (w : World) : keepIn (hd.heap_39 w.params) (.ref 94) = true := by k_is
theorem g_mod (w : World) : nsIn (hd.heap_39 w.params) mainGlobals (Str.ofString "mod") = some (some (.ref 101)) := by k_is
theorem k_mod (w : World) : keepIn (hd.heap_39 w.params) (.ref 101) = true := by k_is
theorem g_mul (w : World) : nsIn (hd.heap_39 w.params) mainGlobals (Str.ofString "mul") = some (some (.ref 108)) := by k_is
theorem k_mul (w : World) : keepIn (hd.heap_39 w.params) (.ref 108) = true := by k_is
theorem g_or (w : World) : nsIn (hd.heap_39 w.params) mainGlobals (Str.ofString "or_") = some (some (.ref 115)) := by k_is
theorem k_or (w : World) : keepIn (hd.heap_39 w.params) (.ref 115) = true := by k_is
theorem g_rshift (w : World) : nsIn (hd.heap_39 w.params) mainGlobals (Str.ofString "rshift") = some (some (.ref 122)) := by k_is
theorem k_rshift (w : World) : keepIn (hd.heap_39 w.params) (.ref 122) = true := by k_is
theorem g_sub (w : World) : nsIn (hd.heap_39 w.params) mainGlobals (Str.ofString "sub") = some (some (.ref 129)) := by k_is
theorem k_sub (w : World) : keepIn (hd.heap_39 w.params) (.ref 129) = true := by k_is
theorem g_concat (w : World) : nsIn (hd.heap_39 w.params) mainGlobals (Str.ofString "concat") = some (some (.ref 136)) := by k_is
theorem k_concat (w : World) : keepIn (hd.heap_39 w.params) (.ref 136) = true := by k_is
theorem g_countOf (w : World) : nsIn (hd.heap_39 w.params) mainGlobals (Str.ofString "countOf") = some (some (.ref 143)) := by k_is
theorem k_countOf (w : World) : keepIn (hd.heap_39 w.params) (.ref 143) = true := by k_is
theorem g_indexOf (w : World) : nsIn (hd.heap_39 w.params) mainGlobals (Str.ofString "indexOf") = some (some (.ref 150)) := by k_is
theorem k_indexOf (w : World) : keepIn (hd.heap_39 w.params) (.ref 150) = true := by k_is
theorem g_quotedata (w : World) : nsIn (hd.heap_39 w.params) mainGlobals (Str.ofString "quotedata") = some (some (.ref 167)) := by k_is
theorem k_quotedata (w : World) : keepIn (hd.heap_39 w.params) (.ref 167) = true := by k_is
theorem g_Lplaces (w : World) : nsIn (hd.heap_39 w.params) mainGlobals (Str.ofString "_law_places") = some (some (.ref 174)) := by k_is
theorem k_Lplaces (w : World) : keepIn (hd.heap_39 w.params) (.ref 174) = true := by k_is
theorem g_Lrounds (w : World) : nsIn (hd.heap_39 w.params) mainGlobals (Str.ofString "_law_rounds") = some (some (.ref 179)) := by k_is
theorem k_Lrounds (w : World) : keepIn (hd.heap_39 w.params) (.ref 179) = true := by k_is
theorem g_Lhard (w : World) : nsIn (hd.heap_39 w.params) mainGlobals (Str.ofString "_law_hard") = some (some (.ref 186)) := by k_is
theorem k_Lhard (w : World) : keepIn (hd.heap_39 w.params) (.ref 186) = true := by k_is
theorem g_Lmasks (w : World) : nsIn (hd.heap_39 w.params) mainGlobals (Str.ofString "_law_masks") = some (some (.ref 193)) := by k_is
theorem k_Lmasks (w : World) : keepIn (hd.heap_39 w.params) (.ref 193) = true := by k_is
theorem g_Lsearch (w : World) : nsIn (hd.heap_39 w.params) mainGlobals (Str.ofString "_law_search") = some (some (.ref 198)) := by k_is
theorem k_Lsearch (w : World) : keepIn (hd.heap_39 w.params) (.ref 198) = true := by k_is
theorem g_Ldepths (w : World) : nsIn (hd.heap_39 w.params) mainGlobals (Str.ofString "_law_depths") = some (some (.ref 203)) := by k_is
theorem k_Ldepths (w : World) : keepIn (hd.heap_39 w.params) (.ref 203) = true := by k_is
theorem g_Leven (w : World) : nsIn (hd.heap_39 w.params) mainGlobals (Str.ofString "_law_even") = some (some (.ref 208)) := by k_is
theorem k_Leven (w : World) : keepIn (hd.heap_39 w.params) (.ref 208) = true := by k_is
theorem g_Lcovers (w : World) : nsIn (hd.heap_39 w.params) mainGlobals (Str.ofString "_law_covers") = some (some (.ref 213)) := by k_is
theorem k_Lcovers (w : World) : keepIn (hd.heap_39 w.params) (.ref 213) = true := by k_is
theorem g_len (w : World) : nsIn (hd.heap_39 w.params) mainGlobals (Str.ofString "len") = some none := by k_is
theorem b_len : bootBuiltins (Str.ofString "len") = some (.builtin "len") := by boot_fast
theorem g_range (w : World) : nsIn (hd.heap_39 w.params) mainGlobals (Str.ofString "range") = some none := by k_is
theorem b_range : bootBuiltins (Str.ofString "range") = some (.type "range") := by boot_fast
theorem g_sum (w : World) : nsIn (hd.heap_39 w.params) mainGlobals (Str.ofString "sum") = some none := by k_is
theorem b_sum : bootBuiltins (Str.ofString "sum") = some (.builtin "sum") := by boot_fast
theorem g_chr (w : World) : nsIn (hd.heap_39 w.params) mainGlobals (Str.ofString "chr") = some none := by k_is
theorem b_chr : bootBuiltins (Str.ofString "chr") = some (.builtin "chr") := by boot_fast
theorem g_ord (w : World) : nsIn (hd.heap_39 w.params) mainGlobals (Str.ofString "ord") = some none := by k_is
theorem b_ord : bootBuiltins (Str.ofString "ord") = some (.builtin "ord") := by boot_fast
theorem g_hasattr (w : World) : nsIn (hd.heap_39 w.params) mainGlobals (Str.ofString "hasattr") = some none := by k_is
theorem b_hasattr : bootBuiltins (Str.ofString "hasattr") = some (.builtin "hasattr") := by boot_fast
theorem g_enumerate (w : World) : nsIn (hd.heap_39 w.params) mainGlobals (Str.ofString "enumerate") = some none := by k_is
theorem b_enumerate : bootBuiltins (Str.ofString "enumerate") = some (.type "enumerate") := by boot_fast
theorem g_reversed (w : World) : nsIn (hd.heap_39 w.params) mainGlobals (Str.ofString "reversed") = some none := by k_is
theorem b_reversed : bootBuiltins (Str.ofString "reversed") = some (.type "reversed") := by boot_fast
theorem g_isinstance (w : World) : nsIn (hd.heap_39 w.params) mainGlobals (Str.ofString "isinstance") = some none := by k_is
theorem b_isinstance : bootBuiltins (Str.ofString "isinstance") = some (.builtin "isinstance") := by boot_fast
theorem g_bool (w : World) : nsIn (hd.heap_39 w.params) mainGlobals (Str.ofString "bool") = some none := by k_is
theorem b_bool : bootBuiltins (Str.ofString "bool") = some (.type "bool") := by boot_fast
theorem g_max (w : World) : nsIn (hd.heap_39 w.params) mainGlobals (Str.ofString "max") = some none := by k_is
theorem b_max : bootBuiltins (Str.ofString "max") = some (.builtin "max") := by boot_fast
theorem g_min (w : World) : nsIn (hd.heap_39 w.params) mainGlobals (Str.ofString "min") = some none := by k_is
theorem b_min : bootBuiltins (Str.ofString "min") = some (.builtin "min") := by boot_fast
theorem g_sorted (w : World) : nsIn (hd.heap_39 w.params) mainGlobals (Str.ofString "sorted") = some none := by k_is
theorem b_sorted : bootBuiltins (Str.ofString "sorted") = some (.builtin "sorted") := by boot_fast
theorem g_list (w : World) : nsIn (hd.heap_39 w.params) mainGlobals (Str.ofString "list") = some none := by k_is
theorem b_list : bootBuiltins (Str.ofString "list") = some (.type "list") := by boot_fast
end Mine

end
section
open PySem
namespace Mine
namespace HA
theorem typeOf_lgi : typeOf (.builtin "list.__getitem__") = pure (.type "method_descriptor") := by kernel_rfl
theorem typeOf_sgi : typeOf (.builtin "str.__getitem__") = pure (.type "wrapper_descriptor") := by kernel_rfl
theorem slot_md : Slot "method_descriptor" "__get__" "method_descriptor.__get__" :=
  .of (owner := "method_descriptor") (n := "__get__") (by rw [typeLookup_type, builtinLookup_eq_fast]; kernel_rfl) (by decide +kernel) (by decide +kernel) (by decide +kernel)
    (by first | exact .inl (by decide +kernel) | exact .inr (by decide +kernel)) (by rw [isSubtype_type]; kernel_rfl)
theorem slot_wd : Slot "wrapper_descriptor" "__get__" "wrapper_descriptor.__get__" :=
  .of (owner := "wrapper_descriptor") (n := "__get__") (by rw [typeLookup_type, builtinLookup_eq_fast]; kernel_rfl) (by decide +kernel) (by decide +kernel) (by decide +kernel)
    (by first | exact .inl (by decide +kernel) | exact .inr (by decide +kernel)) (by rw [isSubtype_type]; kernel_rfl)
theorem md_set : typeLookup (.type "method_descriptor") "__set__" = pure none := by rw [typeLookup_type, builtinLookup_eq_fast]; kernel_rfl
theorem md_del : typeLookup (.type "method_descriptor") "__delete__" = pure none := by rw [typeLookup_type, builtinLookup_eq_fast]; kernel_rfl
theorem wd_set : typeLookup (.type "wrapper_descriptor") "__set__" = pure none := by rw [typeLookup_type, builtinLookup_eq_fast]; kernel_rfl
theorem wd_del : typeLookup (.type "wrapper_descriptor") "__delete__" = pure none := by rw [typeLookup_type, builtinLookup_eq_fast]; kernel_rfl
theorem entry_md : entryFor table "method_descriptor.__get__" = some Builtin.«method_descriptor.__get__» := entryFor_of_tree (by kernel_rfl)
theorem entry_wd : entryFor table "wrapper_descriptor.__get__" = some Builtin.«wrapper_descriptor.__get__» := entryFor_of_tree (by kernel_rfl)
theorem args_md (a b c : Value) : argsOk "method_descriptor.__get__" ⟨[a, b, c], []⟩ := by unfold argsOk; kernel_rfl
theorem args_wd (a b c : Value) : argsOk "wrapper_descriptor.__get__" ⟨[a, b, c], []⟩ := by unfold argsOk; kernel_rfl
theorem entry_hasattr : entryFor table "hasattr" = some Builtin.«hasattr» := entryFor_of_tree (by kernel_rfl)
theorem args_hasattr (a b : Value) : argsOk "hasattr" ⟨[a, b], []⟩ := by unfold argsOk; kernel_rfl
theorem own_l : (".".intercalate ("list.__getitem__".cutAt '.').dropLast) = "list" := by
  have e0 : "list.__getitem__".cutAt '.' = ["list", "__getitem__"] := by first | rfl | decide +kernel
  rw [e0]; decide +kernel
theorem own_s : (".".intercalate ("str.__getitem__".cutAt '.').dropLast) = "str" := by
  have e0 : "str.__getitem__".cutAt '.' = ["str", "__getitem__"] := by first | rfl | decide +kernel
  rw [e0]; decide +kernel
theorem sub_list : isSubtype (.type "list") (.type (".".intercalate ("list.__getitem__".cutAt '.').dropLast)) = pure true := by
  rw [own_l, isSubtype_type]; kernel_rfl
theorem sub_str : isSubtype (.type "str") (.type (".".intercalate ("str.__getitem__".cutAt '.').dropLast)) = pure true := by
  rw [own_s, isSubtype_type]; kernel_rfl
theorem sub_list_module : isSubtype (.type "list") (.type "module") = pure false := by rw [isSubtype_type]; kernel_rfl
end HA
section
variable {prog : Program} {w : World} {A : Around} {E : Value → Shared → Prop} {h : Heap} {g : Array GenState} {d : Drawn} {t : Nat} {os : OsState} {a : Addr} {o : Obj} {x : Str} {u : Tok}
def bmL (a : Addr) : Obj := { cls := .type "builtin_function_or_method", data := .fields #[.builtin "list.__getitem__", .ref a] }
def bmS (x : Str) (u : Tok) : Obj := { cls := .type "method-wrapper", data := .fields #[.builtin "str.__getitem__", .str x u] }
theorem get_list {R : Result → Shared → Prop} (hx : h.get? a = some o) (hc : o.cls = .type "list")
    (hq : R (.ok (.ret (.ref h.objs.size))) ⟨h.push (bmL a), g, d, t, os⟩) :
    codeAny (model prog w) A (.call (.builtin "method_descriptor.__get__") ⟨[.builtin "list.__getitem__", .ref a, .type "list"], []⟩) R ⟨h, g, d, t, os⟩ := by
  have hT : (⟨h, g, d, t, os⟩ : Shared).TypeIs (.ref a) "list" := ⟨_, hx, hc⟩
  have hT5 : (⟨h, g, d, t, os⟩ : Shared).TypeIs (.builtin "list.__getitem__") "method_descriptor" := HA.typeOf_lgi
  have f8 := HA.sub_list
  unfold bmL at hq
  refine codeAny_call_builtin HA.slot_md.plain HA.entry_md (HA.slot_md.check _ _ _ _ _ _ _ _ hT5 (HA.args_md _ _ _) ?_)
  repeat (any_goals (first | assumption | wp_step))
theorem get_str {R : Result → Shared → Prop}
    (hq : R (.ok (.ret (.ref h.objs.size))) ⟨h.push (bmS x u), g, d, t, os⟩) :
    codeAny (model prog w) A (.call (.builtin "wrapper_descriptor.__get__") ⟨[.builtin "str.__getitem__", .str x u, .type "str"], []⟩) R ⟨h, g, d, t, os⟩ := by
  have hT : (⟨h, g, d, t, os⟩ : Shared).TypeIs (.str x u) "str" := rfl
  have hT5 : (⟨h, g, d, t, os⟩ : Shared).TypeIs (.builtin "str.__getitem__") "wrapper_descriptor" := HA.typeOf_sgi
  have f8 := HA.sub_str
  unfold bmS at hq
  refine codeAny_call_builtin HA.slot_wd.plain HA.entry_wd (HA.slot_wd.check _ _ _ _ _ _ _ _ hT5 (HA.args_wd _ _ _) ?_)
  repeat (any_goals (first | assumption | wp_step))
theorem entry_list {tk : Tok} {its : Array Value} {n : Nat} {Q : Fin → Shared → Prop} (hx : h.get? a = some { cls := .type "list", dict := none, data := .seq its n, slots := #[] }) (hq : Q (.done (.ret (.ref h.objs.size))) ⟨h.push (bmL a), g, d, t, os⟩) :
    wpAny (model prog w) A (Builtin.«object.__getattribute__» ⟨[.ref a, .str "__getitem__" tk], []⟩) Q E ⟨h, g, d, t, os⟩ := by
  have hT : (⟨h, g, d, t, os⟩ : Shared).TypeIs (.ref a) "list" := ⟨_, hx, rfl⟩
  have hT5 : (⟨h, g, d, t, os⟩ : Shared).TypeIs (.builtin "list.__getitem__") "method_descriptor" := HA.typeOf_lgi
  have f4 := slot_list_getitem.lookup
  have f5 := HA.typeOf_lgi
  have f6 := HA.slot_md.lookup
  have f7 := HA.md_set
  have f8 := HA.md_del
  repeat (any_goals (first | assumption | wp_step))
  all_goals first | (refine get_list hx rfl ?_) | skip
  repeat (any_goals (first | assumption | wp_step))
theorem entry_str {tk : Tok} {Q : Fin → Shared → Prop} (hq : Q (.done (.ret (.ref h.objs.size))) ⟨h.push (bmS x u), g, d, t, os⟩) :
    wpAny (model prog w) A (Builtin.«object.__getattribute__» ⟨[.str x u, .str "__getitem__" tk], []⟩) Q E ⟨h, g, d, t, os⟩ := by
  have hT : (⟨h, g, d, t, os⟩ : Shared).TypeIs (.str x u) "str" := rfl
  have hT5 : (⟨h, g, d, t, os⟩ : Shared).TypeIs (.builtin "str.__getitem__") "wrapper_descriptor" := HA.typeOf_sgi
  have f4 := F.slot_str_getitem.lookup
  have f5 := HA.typeOf_sgi
  have f6 := HA.slot_wd.lookup
  have f7 := HA.wd_set
  have f8 := HA.wd_del
  repeat (any_goals (first | assumption | wp_step))
  refine get_str ?_
  repeat (any_goals (first | assumption | wp_step))
theorem call_list {tk : Tok} {its : Array Value} {n : Nat} {R : Result → Shared → Prop} (hx : h.get? a = some { cls := .type "list", dict := none, data := .seq its n, slots := #[] }) (hq : R (.ok (.ret (.ref h.objs.size))) ⟨h.push (bmL a), g, d, t, os⟩) :
    codeAny (model prog w) A (.call (.builtin "list.__getattribute__") ⟨[.ref a, .str "__getitem__" tk], []⟩) R ⟨h, g, d, t, os⟩ :=
  codeAny_call_builtin F.slot_list_getattribute.plain F.entry_list_ga (F.slot_list_getattribute.check _ _ _ _ _ _ _ _ (show (⟨h, g, d, t, os⟩ : Shared).TypeIs (.ref a) "list" from ⟨_, hx, rfl⟩) (F.args_list_getattribute_2 _ _) (entry_list hx hq))
theorem call_str {tk : Tok} {R : Result → Shared → Prop} (hq : R (.ok (.ret (.ref h.objs.size))) ⟨h.push (bmS x u), g, d, t, os⟩) :
    codeAny (model prog w) A (.call (.builtin "object.__getattribute__") ⟨[.str x u, .str "__getitem__" tk], []⟩) R ⟨h, g, d, t, os⟩ :=
  codeAny_call_builtin F.slot_str_getattribute.plain F.entry_object_getattribute (F.slot_str_getattribute.check _ _ _ _ _ _ _ _ (show (⟨h, g, d, t, os⟩ : Shared).TypeIs (.str x u) "str" from rfl) (F.args_object_getattribute_2 _ _) (entry_str hq))
theorem by_list {tk : Tok} {its : Array Value} {n : Nat} {Q : Value → Shared → Prop} (hx : h.get? a = some { cls := .type "list", dict := none, data := .seq its n, slots := #[] }) (hq : Q (.ref h.objs.size) ⟨h.push (bmL a), g, d, t, os⟩) :
    wpAny (model prog w) A (getAttrBy (.ref a) (.str "__getitem__" tk) false) Q E ⟨h, g, d, t, os⟩ := by
  have hT : (⟨h, g, d, t, os⟩ : Shared).TypeIs (.ref a) "list" := ⟨_, hx, rfl⟩
  have f2 := F.slot_list_getattribute.lookup
  have f3 := F.slot_list_getattribute.bind (.ref a)
  repeat (any_goals (first | assumption | wp_step))
  refine call_list hx ?_
  repeat (any_goals (first | assumption | wp_step))
theorem by_str {tk : Tok} {Q : Value → Shared → Prop} (hq : Q (.ref h.objs.size) ⟨h.push (bmS x u), g, d, t, os⟩) :
    wpAny (model prog w) A (getAttrBy (.str x u) (.str "__getitem__" tk) false) Q E ⟨h, g, d, t, os⟩ := by
  have hT : (⟨h, g, d, t, os⟩ : Shared).TypeIs (.str x u) "str" := rfl
  have f2 := F.slot_str_getattribute.lookup
  have f3 := F.slot_str_getattribute.bind (.str x u)
  repeat (any_goals (first | assumption | wp_step))
  refine call_str ?_
  repeat (any_goals (first | assumption | wp_step))
theorem hasattr_list {tk : Tok} {its : Array Value} {n : Nat} {Q : Value → Shared → Prop} (hx : h.get? a = some { cls := .type "list", dict := none, data := .seq its n, slots := #[] }) (hq : Q (.bool true) ⟨h.push (bmL a), g, d, t, os⟩) :
    wpAny (model prog w) A (call (.builtin "hasattr") [.ref a, .str "__getitem__" tk]) Q E ⟨h, g, d, t, os⟩ := by
  refine Calls.call_function_entry (by decide +kernel) (by decide +kernel) HA.entry_hasattr (HA.args_hasattr _ _) ?_
  have hT : (⟨h, g, d, t, os⟩ : Shared).TypeIs (.ref a) "list" := ⟨_, hx, rfl⟩
  have f4 := slot_list_getitem.lookup
  have f5 := F.slot_list_getattribute.lookup
  have f6 := HA.sub_list_module
  repeat (any_goals (first | assumption | with_reducible apply by_list hx | wp_step))
  exact ⟨_, rfl, hq⟩
theorem hasattr_str {tk : Tok} {Q : Value → Shared → Prop} (hq : Q (.bool true) ⟨h.push (bmS x u), g, d, t, os⟩) :
    wpAny (model prog w) A (call (.builtin "hasattr") [.str x u, .str "__getitem__" tk]) Q E ⟨h, g, d, t, os⟩ := by
  refine Calls.call_function_entry (by decide +kernel) (by decide +kernel) HA.entry_hasattr (HA.args_hasattr _ _) ?_
  have hT : (⟨h, g, d, t, os⟩ : Shared).TypeIs (.str x u) "str" := rfl
  have f4 := F.slot_str_getitem.lookup
  have f5 := F.slot_str_getattribute.lookup
  repeat (any_goals (first | assumption | with_reducible apply by_str | wp_step))
  exact ⟨_, rfl, hq⟩
end
end Mine

end
section
open PySem PySem.W PyProof.Rows PySem.Calls PySem.Spec PySem.Challenge
namespace Mine
section
variable {sc : Scope} {dk : Nat} {tb : List Addr} {f : Fm sc dk tb} {G : Gh} {ρ : Rho} {s : Shared}
theorem OPL.hasattrL {l : List PV} : OPL f (fun vs => PySem.call (.builtin "hasattr") vs) [.list l, .tstr (Str.ofString "__getitem__")] (.bool true) := ⟨fun ρ s G vs F hvs Q E k => by
  obtain ⟨v, w, rfl, hv, hw⟩ := hvs.len2
  obtain ⟨a, ws, n, rfl, e1, r1⟩ := hv.isList
  obtain ⟨t, rfl⟩ := hw.isStr rfl
  obtain ⟨hp, g, d, tk, os⟩ := s
  refine hasattr_list (F.vis _ _ e1).1 ?_
  exact k _ _ G (.refl _) (F.all (h' := hp.push (bmL a)) (tk := tk) (fun b ob e => Heap.get?_push_of_some _ e) (Nat.le_refl _)) (.bool true)⟩
theorem OPL.hasattrS {p : PV} {x : Str} (hp : p.asS = some x) : OPL f (fun vs => PySem.call (.builtin "hasattr") vs) [p, .tstr (Str.ofString "__getitem__")] (.bool true) := ⟨fun ρ s G vs F hvs Q E k => by
  obtain ⟨v, w, rfl, hv, hw⟩ := hvs.len2
  obtain ⟨u, rfl⟩ := hv.isStr hp
  obtain ⟨t, rfl⟩ := hw.isStr rfl
  obtain ⟨hp, g, d, tk, os⟩ := s
  refine hasattr_str ?_
  exact k _ _ G (.refl _) (F.all (h' := hp.push (bmS x u)) (tk := tk) (fun b ob e => Heap.get?_push_of_some _ e) (Nat.le_refl _)) (.bool true)⟩
end
end Mine

end
section
open PySem PySem.W PyProof.Rows PySem.Calls PySem.Spec PySem.Challenge
namespace Mine
theorem fillC2 : rw_ti0009_01 = rw_ti0009_01 ∧ hd.heap_39 = hd.heap_39 := by k_fill; exact ⟨rfl, rfl⟩
theorem ct_add {w : World} {a b : PV} {i j : Int} (ha : a.asI = some i) (hb : b.asI = some j) : CT w [] 1 80 [a, b] (.int (i + j)) := by
  refine CT.plain (names := [Str.ofString "a", Str.ofString "b"]) (by k_is) (by k_is) ?_ rfl (by decide) (by rfl) (by rfl) rfl rfl rfl ?_ (by decide)
  · intro s vs h; obtain ⟨a, b, rfl⟩ := len2 h; exact BindsTo.of_eq rfl
  intro f hw
  subst hw
  exact SX.cons (SX.ret (EV.bin (EV.var rfl rfl) (EV.var rfl rfl) (OP2.add ha hb)) rfl)
theorem ct_sub {w : World} {a b : PV} {i j : Int} (ha : a.asI = some i) (hb : b.asI = some j) : CT w [] 1 129 [a, b] (.int (i - j)) := by
  refine CT.plain (names := [Str.ofString "a", Str.ofString "b"]) (by k_is) (by k_is) ?_ rfl (by decide) (by rfl) (by rfl) rfl rfl rfl ?_ (by decide)
  · intro s vs h; obtain ⟨a, b, rfl⟩ := len2 h; exact BindsTo.of_eq rfl
  intro f hw
  subst hw
  exact SX.cons (SX.ret (EV.bin (EV.var rfl rfl) (EV.var rfl rfl) (OP2.sub ha hb)) rfl)
theorem ct_ne {w : World} {a b : PV} {i j : Int} (ha : a.asI = some i) (hb : b.asI = some j) : CT w [] 1 73 [a, b] (.bool (i != j)) := by
  refine CT.plain (names := [Str.ofString "a", Str.ofString "b"]) (by k_is) (by k_is) ?_ rfl (by decide) (by rfl) (by rfl) rfl rfl rfl ?_ (by decide)
  · intro s vs h; obtain ⟨a, b, rfl⟩ := len2 h; exact BindsTo.of_eq rfl
  intro f hw
  subst hw
  exact SX.cons (SX.ret (EV.cmp (EV.var rfl rfl) (EV.var rfl rfl) (OP2.neI ha hb)) rfl)
theorem ct_and {w : World} {a b : PV} {i j : Int} (ha : a.asI = some i) (hb : b.asI = some j) : CT w [] 1 87 [a, b] (.int (Builtin.bitAnd i j)) := by
  refine CT.plain (names := [Str.ofString "a", Str.ofString "b"]) (by k_is) (by k_is) ?_ rfl (by decide) (by rfl) (by rfl) rfl rfl rfl ?_ (by decide)
  · intro s vs h; obtain ⟨a, b, rfl⟩ := len2 h; exact BindsTo.of_eq rfl
  intro f hw
  subst hw
  exact SX.cons (SX.ret (EV.bin (EV.var rfl rfl) (EV.var rfl rfl) (OP2.band ha hb)) rfl)
theorem ct_lshift {w : World} {a b : PV} {i j : Int} (ha : a.asI = some i) (hb : b.asI = some j) (h0 : 0 ≤ j) (hs : (Builtin.Int.intBits i : Int) + j ≤ 2 ^ 27) : CT w [] 1 94 [a, b] (.int (i * 2 ^ j.toNat)) := by
  refine CT.plain (names := [Str.ofString "a", Str.ofString "b"]) (by k_is) (by k_is) ?_ rfl (by decide) (by rfl) (by rfl) rfl rfl rfl ?_ (by decide)
  · intro s vs h; obtain ⟨a, b, rfl⟩ := len2 h; exact BindsTo.of_eq rfl
  intro f hw
  subst hw
  exact SX.cons (SX.ret (EV.bin (EV.var rfl rfl) (EV.var rfl rfl) (OP2.shl ha hb h0 hs)) rfl)
theorem ct_mod {w : World} {a b : PV} {i j : Int} (ha : a.asI = some i) (hb : b.asI = some j) (h0 : 0 < j) : CT w [] 1 101 [a, b] (.int (i % j)) := by
  refine CT.plain (names := [Str.ofString "a", Str.ofString "b"]) (by k_is) (by k_is) ?_ rfl (by decide) (by rfl) (by rfl) rfl rfl rfl ?_ (by decide)
  · intro s vs h; obtain ⟨a, b, rfl⟩ := len2 h; exact BindsTo.of_eq rfl
  intro f hw
  subst hw
  exact SX.cons (SX.ret (EV.bin (EV.var rfl rfl) (EV.var rfl rfl) (OP2.mod ha hb h0)) rfl)
theorem ct_mul {w : World} {a b : PV} {i j : Int} (ha : a.asI = some i) (hb : b.asI = some j) (hm : IntMulOk i j) : CT w [] 1 108 [a, b] (.int (i * j)) := by
  refine CT.plain (names := [Str.ofString "a", Str.ofString "b"]) (by k_is) (by k_is) ?_ rfl (by decide) (by rfl) (by rfl) rfl rfl rfl ?_ (by decide)
  · intro s vs h; obtain ⟨a, b, rfl⟩ := len2 h; exact BindsTo.of_eq rfl
  intro f hw
  subst hw
  exact SX.cons (SX.ret (EV.bin (EV.var rfl rfl) (EV.var rfl rfl) (OP2.mul ha hb hm)) rfl)
theorem ct_or {w : World} {a b : PV} {i j : Int} (ha : a.asI = some i) (hb : b.asI = some j) : CT w [] 1 115 [a, b] (.int (Builtin.bitOr i j)) := by
  refine CT.plain (names := [Str.ofString "a", Str.ofString "b"]) (by k_is) (by k_is) ?_ rfl (by decide) (by rfl) (by rfl) rfl rfl rfl ?_ (by decide)
  · intro s vs h; obtain ⟨a, b, rfl⟩ := len2 h; exact BindsTo.of_eq rfl
  intro f hw
  subst hw
  exact SX.cons (SX.ret (EV.bin (EV.var rfl rfl) (EV.var rfl rfl) (OP2.bor ha hb)) rfl)
theorem ct_rshift {w : World} {a b : PV} {i j : Int} (ha : a.asI = some i) (hb : b.asI = some j) (h0 : 0 ≤ j) : CT w [] 1 122 [a, b] (.int (i / 2 ^ j.toNat)) := by
  refine CT.plain (names := [Str.ofString "a", Str.ofString "b"]) (by k_is) (by k_is) ?_ rfl (by decide) (by rfl) (by rfl) rfl rfl rfl ?_ (by decide)
  · intro s vs h; obtain ⟨a, b, rfl⟩ := len2 h; exact BindsTo.of_eq rfl
  intro f hw
  subst hw
  exact SX.cons (SX.ret (EV.bin (EV.var rfl rfl) (EV.var rfl rfl) (OP2.shr ha hb h0)) rfl)
theorem ct_concatS {w : World} {a b : PV} {x y : Str} (ha : a.asS = some x) (hb : b.asS = some y) (hsz : x.length + y.length ≤ sizeLine) : CT w [] 1 136 [a, b] (.str (x ++ y)) := by
  refine CT.plain (names := [Str.ofString "a", Str.ofString "b"]) (by k_is) (by k_is) ?_ rfl (by decide) (by rfl) (by rfl) rfl rfl rfl ?_ (by decide)
  · intro s vs h; obtain ⟨a, b, rfl⟩ := len2 h; exact BindsTo.of_eq rfl
  intro f hw
  subst hw
  refine SX.cons (SX.ite (EB.not (EB.bool (EV.blt (g_hasattr _) b_hasattr (EL.cons (EV.var rfl rfl) (EL.cons EV.cstr EL.nil)) (OPL.hasattrS ha)))) (fun q => by cases q) (fun _ => SX.nil ?_))
  exact SX.cons (SX.ret (EV.bin (EV.var rfl rfl) (EV.var rfl rfl) (OP2.addS ha hb hsz)) rfl)
theorem ct_concatL {w : World} {x y : List PV} (hsz : x.length + y.length ≤ sizeLine) : CT w [] 1 136 [.list x, .list y] (.list (x ++ y)) := by
  refine CT.plain (names := [Str.ofString "a", Str.ofString "b"]) (by k_is) (by k_is) ?_ rfl (by decide) (by rfl) (by rfl) rfl rfl rfl ?_ (by decide)
  · intro s vs h; obtain ⟨a, b, rfl⟩ := len2 h; exact BindsTo.of_eq rfl
  intro f hw
  subst hw
  refine SX.cons (SX.ite (EB.not (EB.bool (EV.blt (g_hasattr _) b_hasattr (EL.cons (EV.var rfl rfl) (EL.cons EV.cstr EL.nil)) OPL.hasattrL))) (fun q => by cases q) (fun _ => SX.nil ?_))
  exact SX.cons (SX.ret (EV.bin (EV.var rfl rfl) (EV.var rfl rfl) (OP2.addL hsz)) rfl)
end Mine

end
section
open PySem PySem.W PyProof.Rows PySem.Calls PySem.Spec PySem.Challenge
namespace Mine
theorem fillRA : rw_ti0009_01 = rw_ti0009_01 ∧ hd.heap_39 = hd.heap_39 := by k_fill; exact ⟨rfl, rfl⟩
theorem g_twin1 (w : World) : nsIn (hd.heap_39 w.params) mainGlobals (Str.ofString "_twin_re_1") = some (some (.ref 155)) := by k_is
theorem g_twin2 (w : World) : nsIn (hd.heap_39 w.params) mainGlobals (Str.ofString "_twin_re_2") = some (some (.ref 160)) := by k_is
theorem g_crlf (w : World) : ∃ t, nsIn (hd.heap_39 w.params) mainGlobals (Str.ofString "CRLF") = some (some (.str (Str.ofString "\r\n") t)) := ⟨_, by k_is⟩
theorem isPat1 {w : World} {h : Heap} (X : (hd.heap_39 w.params).In h) : IsPat h 155 c1 := ⟨_, _, _, _, _, _, _, _, X _ _ (by k_is), rfl, rfl, rfl, rfl, rfl, rfl, X _ _ (by k_is), rfl, by decide +kernel⟩
theorem isPat2 {w : World} {h : Heap} (X : (hd.heap_39 w.params).In h) : IsPat h 160 c2 := ⟨_, _, _, _, _, _, _, _, X _ _ (by k_is), rfl, rfl, rfl, rfl, rfl, rfl, X _ _ (by k_is), rfl, by decide +kernel⟩
section
variable {sc : Scope} {dk : Nat} {tb : List Addr} {f : Fm sc dk tb} {ρ : Rho}
theorem EV.gstr {x : Str} {pos : Pos} {y : Str} (e : ∃ t, nsIn (hd.heap_39 f.w.params) mainGlobals x = some (some (.str y t))) (hx : f.env.kindOf x = some .globalImplicit := by rfl) (hd : (x == ("__debug__" : Str)) = false := by decide) : EV f ρ (eval (.Name x pos) f.env) (.str y) :=
  ⟨fun s G F Q E k => by obtain ⟨t, e⟩ := e; exact eval_glob F e hx hd (k _ s G (.refl _) F (.str y t))⟩
theorem EV.subP {x : Str} {px apos cpos : Pos} {a : Addr} {code : Array Nat} {nxt : Nat → Option (Nat × Nat)} {e1 e2 : Expr} {p1 p2 : PV} {r y : Str} (hx : nsIn (hd.heap_39 f.w.params) mainGlobals x = some (some (.ref a))) (hpat : ∀ h, (hd.heap_39 f.w.params).In h → IsPat h a code)
    (h1 : EV f ρ (eval e1 f.env) p1) (hr : p1.asS = some r) (h2 : EV f ρ (eval e2 f.env) p2) (hy : p2.asS = some y) (X : Tells code y.cps nxt) (hz : y.cps.size ≤ 100000) (hr2 : r.length ≤ 2) (h92 : r.cps.contains 92 = false)
    (hkd : f.env.kindOf x = some .globalImplicit := by rfl) (hd : (x == ("__debug__" : Str)) = false := by decide)
    (hst : starEach [e1, e2] f.env = (false, eval e1 f.env) :: starEach [e2] f.env := by rfl) (hst2 : starEach [e2] f.env = (false, eval e2 f.env) :: starEach [] f.env := by rfl) (hpl : (backTo cpos (starEach [e2] f.env)).any (·.1) = false := by rfl)
    {pl : Sem Bool} (he' : eval (.Call (.Attribute (.Name x px) (Str.ofString "sub") apos) [e1, e2] [] cpos) f.env = (do
      let ov ← eval (.Name x px) f.env
      standAt apos.atName
      let (f', first) ← holding [ov] (getMethod ov (Str.ofString "sub") pl)
      callWith cpos f' first (backTo cpos (starEach [e1, e2] f.env)) []) := by rfl) :
    EV f ρ (eval (.Call (.Attribute (.Name x px) (Str.ofString "sub") apos) [e1, e2] [] cpos) f.env) (.str (joinS (pcs y.cps nxt r (y.cps.size + 1) 0))) := ⟨fun s G F Q E k => by
  with_reducible refine MethodCall_ ?_ he'
  refine eval_glob F hx hkd hd ?_
  obtain ⟨K, _⟩ := id F.ok.gl
  have hP := hpat _ (K.keeps F.keep0)
  obtain ⟨o, vs, k2, k6, C, oc, items, n, e1', e2', e3', _⟩ := id hP
  have hT : s.TypeIs (.ref a) "re.Pattern" := ⟨o, e1', e2'⟩
  refine getMethod_builtin hT RF.attrs RF.slot_sub RF.type_sub (fun b hb => by cases hb; exact ⟨o, e1', e3'⟩) ?_
  with_reducible refine callWith_method1 ?_ hst hpl
  refine (EL.cons h1 (EL.cons h2 EL.nil hst2) hst).run s G F _ _ fun vs' s1 G1 L1 F1 r1 => ?_
  obtain ⟨v, u, rfl, rv, ru⟩ := r1.len2
  obtain ⟨tv, rfl⟩ := rv.isStr hr
  obtain ⟨tu, rfl⟩ := ru.isStr hy
  refine grow (wp_sub (hpat _ (K.keeps F1.keep0)) X hz hr2 h92 fun t' h' tk hk gr => ?_)
  exact k _ _ G1 L1 (F1.all hk gr.toks) (.str _ _)⟩
end
theorem ct_quote {w : World} {p : PV} {x : Str} (hp : p.asS = some x) (hz : x.cps.size ≤ 40000) : CT w [] 1 167 [p] (.str (quoted x)) := by
  refine CT.plain (names := [Str.ofString "data"]) (by k_is) (by k_is) ?_ rfl (by decide) (by rfl) (by rfl) rfl rfl rfl ?_ (by decide)
  · intro s vs h; obtain ⟨a, rfl⟩ := len1 h; exact BindsTo.of_eq rfl
  intro f hw
  subst hw
  have q2 := pcs2 (T := x.cps) (x.cps.size + 1) 0 (by exact o42) (Nat.zero_le _)
  rw [List.drop_zero] at q2
  generalize hy : joinS (pcs x.cps (nxt2 x.cps) (Str.ofString "\r\n") (x.cps.size + 1) 0) = y at q2
  have hys : y.cps.size ≤ 80000 := by
    have : (sg y).length ≤ 2 * x.cps.toList.length := by rw [q2]; exact fix_len _
    unfold sg at this
    simp only [Array.length_toList] at this
    exact o454 hz this
  have q1 := pcs1 (T := y.cps) (y.cps.size + 1) 0 (by exact o42) (Nat.zero_le _)
  rw [List.drop_zero] at q1
  have e : joinS (pcs y.cps (nxt1 y.cps) (Str.ofString "..") (y.cps.size + 1) 0) = quoted x := by
    refine sg_inj ?_
    rw [q1, show y.cps.toList = sg y from rfl, q2]
    show stuff true _ = ((stuff true (fix (sg x))).toArray).toList
    simp [sg]
  refine SX.cons (SX.ret (EV.cast (EV.subP (g_twin1 _) (fun _ X => isPat1 X) EV.cstr rfl (EV.cast (EV.subP (g_twin2 _) (fun _ X => isPat2 X) (EV.gstr (g_crlf _)) rfl (EV.var rfl rfl) hp (tells2 (by exact o90 hz)) (by exact o90 hz) (by decide +kernel) (by decide +kernel)) (by rw [hy])) rfl (tells1 (by exact o92 hys)) (by exact o92 hys) (by decide +kernel) (by decide +kernel)) (by rw [e])) rfl)
end Mine

end
section
open PySem PySem.W PyProof.Rows PySem.Calls PySem.Spec PySem.Challenge
namespace Mine
variable {sc : Scope} {dk : Nat} {tb : List Addr}
end Mine

end
section
open PySem PySem.W PyProof.Rows PySem.Calls PySem.Spec PySem.Challenge
namespace Mine
/-! function values: the contract of a def that was made inside a def -/
structure CTF (w : World) (k : Nat) (clos : List (Str × Addr)) (cf : List (Str × PV)) (o : Obj) (qual : Str) (cv : Value) (pvs : List PV) (pv : PV) : Prop where
  run : ∀ (A : Around) (g0 : Heap) (s : Shared) (τ : Tau) (κ : Kap) (vs : List Value) (a : Addr), A.handled = none → A.depth + k < recursionLimit → A.units + 4 * k + 80 < cLine → Gl w g0 →
    (∀ b o, g0.get? b = some o → s.heap.get? b = some o) → Tabs s.heap → TokOk τ s.toks → (∀ b o, κ b = some o → s.heap.get? b = some o ∧ b ≠ 47 ∧ b ≠ 54) → RpAll τ κ vs pvs →
    s.heap.get? a = some o → s.heap.CodeRec cv qual → (∀ p ∈ cf, ∃ c oc v, clos.lookup p.1 = some c ∧ s.heap.get? c = some oc ∧ oc.data = .cell (some v) ∧ Rp τ κ v p.2) →
    ∀ R : Result → Shared → Prop, (∀ v s' τ' κ', TLe τ τ' → KLe κ κ' → (∀ b o, s.heap.get? b = some o → s'.heap.get? b = some o) → Tabs s'.heap → TokOk τ' s'.toks →
      s'.gens = s.gens → s'.drawn = s.drawn → s'.os = s.os → (∀ b o, κ' b = some o → s'.heap.get? b = some o ∧ b ≠ 47 ∧ b ≠ 54 ∧ (κ b = some o ∨ s.heap.objs.size ≤ b)) → Rp τ' κ' v pv → R (.ok (.ret v)) s') →
    codeAny (model PG w) A (.call (.ref a) ⟨vs, []⟩) R s
/-- the same where a list, held in a cell, is turned -/
structure CTD (w : World) (k : Nat) (clos : List (Str × Addr)) (cf : List (Str × PV)) (o : Obj) (qual : Str) (cv : Value) (yd : Str) (l : List PV) (pvs : List PV) (l' : List PV) : Prop where
  run : ∀ (A : Around) (g0 : Heap) (s : Shared) (τ : Tau) (κ : Kap) (vs ws : List Value) (n : Nat) (a D : Addr), A.handled = none → A.depth + k < recursionLimit → A.units + 4 * k + 80 < cLine → Gl w g0 →
    (∀ b o, g0.get? b = some o → s.heap.get? b = some o) → Tabs s.heap → TokOk τ s.toks → (∀ b o, κ b = some o → s.heap.get? b = some o ∧ b ≠ 47 ∧ b ≠ 54 ∧ b ≠ D) → RpAll τ κ vs pvs →
    s.heap.get? a = some o → s.heap.CodeRec cv qual → (∀ p ∈ cf, ∃ c oc v, clos.lookup p.1 = some c ∧ s.heap.get? c = some oc ∧ oc.data = .cell (some v) ∧ Rp τ κ v p.2) →
    s.heap.get? D = some (listOf ws.toArray n) → RpAll τ κ ws l → D ≠ 47 → D ≠ 54 → g0.get? D = none → (∃ c oc, clos.lookup yd = some c ∧ s.heap.get? c = some oc ∧ oc.data = .cell (some (.ref D))) →
    ∀ R : Result → Shared → Prop, (∀ s' τ' κ' ws' n', TLe τ τ' → KLe κ κ' → (∀ b o, b ≠ D → s.heap.get? b = some o → s'.heap.get? b = some o) → Tabs s'.heap → TokOk τ' s'.toks →
      s'.gens = s.gens → s'.drawn = s.drawn → s'.os = s.os → (∀ b o, κ' b = some o → s'.heap.get? b = some o ∧ b ≠ 47 ∧ b ≠ 54 ∧ b ≠ D ∧ (κ b = some o ∨ s.heap.objs.size ≤ b)) →
      s'.heap.get? D = some (listOf ws'.toArray n') → RpAll τ' κ' ws' l' → R (.ok (.ret .none)) s') →
    codeAny (model PG w) A (.call (.ref a) ⟨vs, []⟩) R s
variable {sc : Scope} {dk : Nat}
theorem cfLook {cf : List (Str × PV)} {x : Str} {e : Ent} : (cf.map fun p => (p.1, Ent.fre p.2)).lookup x = some e → ∃ pv, (x, pv) ∈ cf ∧ e = .fre pv := fun h => by
  have h' := map_look (fun _ => Ent.fre) (l := cf) (x := x)
  rw [h'] at h
  cases q : cf.lookup x with
  | none => rw [q] at h; cases h
  | some pv => rw [q] at h; cases h; exact ⟨pv, mem_of_lookup q, rfl⟩
theorem CTF.plain {w : World} {clos : List (Str × Addr)} {cf : List (Str × PV)} {pvs : List PV} {pv : PV} {name qual : Str} {params : Arguments} {body : List Stmt} {doc pm cdv ct : Value} {names : List Str}
    (hcf : cf.all (fun p => sc.names.lookup p.1 == some .free) = true)
    (hbind : ∀ (s : Shared) (vs : List Value), vs.length = pvs.length → BindsTo s (fnX name qual params body sc clos .none .none doc pm none cdv ct) ⟨vs, []⟩ (names.zip vs))
    (hlen : names.length = pvs.length) (hnd : names.Nodup) (hloc : names.all (fun x => sc.names.lookup x == some .local) = true) (hcell : sc.names.all (fun x => x.2 != .cell) = true)
    (hco : sc.isCoroutine = false) (hgen : sc.isGenerator = false) (hk : sc.kind = .function) (hinj : ∀ x y c, clos.lookup x = some c → clos.lookup y = some c → x = y)
    (h : ∀ f : Fm sc dk [], f.w = w → f.cells = clos → f.code = cdv → f.out = [] → f.br = [] → f.h0.CodeRec cdv qual → SX f (names.zip (pvs.map Ent.loc) ++ cf.map fun p => (p.1, Ent.fre p.2)) (execs body f.env) (retOk pv)) :
    CTF w (dk + 1) clos cf { cls := .type "function", data := .func (fnX name qual params body sc clos .none .none doc pm none cdv ct) } qual cdv pvs pv := ⟨by
  intro A g0 s τ κ vs a hh hroom hunits hgl hkeep htabs htok hκ hvs ho hcd hcl R hR
  obtain ⟨X, g47, g54, p, loose, mg, mb, T⟩ := id hgl
  have hbig : 54 < s.heap.objs.size := by obtain ⟨_, e, _⟩ := htabs.2; exact Heap.lt_size e
  refine codeAny_call_def (fd := fnX name qual params body sc clos .none .none doc pm none cdv ct) (body := body) (binds := names.zip vs) (by exact o7 hroom) ho rfl (T.nolimit.keeps hkeep) hcd rfl (hbind s vs hvs.length) ?_ ?_ (fun h₁ hns hk₁ => ?_) hco hgen hk
  · intro x hx q
    have := List.all_eq_true.mp hcell x hx
    rw [q] at this; exact absurd this (by decide)
  · intro x hx
    have h1 : x.1 ∈ names := (List.of_mem_zip (a := x.1) (b := x.2) hx).1
    have := List.all_eq_true.mp hloc x.1 h1
    exact beq_iff_eq.mp this
  let f : Fm sc dk [] := { w := w, A := A.deeper (callEnv (fnX name qual params body sc clos .none .none doc pm none cdv ct) s.heap.objs.size a), L := s.heap.objs.size, cells := clos, qual := qual ++ ".<locals>.", func := some a, code := cdv, frame := (some s.heap.objs.size), g0 := g0, h0 := s.heap, κ0 := κ, br := [], out := [], rs := false, gens := s.gens, drawn := s.drawn, os := s.os }
  let G : Gh := ⟨τ, κ, fun x => (names.zip vs).reverse.lookup x, [], []⟩
  have F : FS f G (names.zip (pvs.map Ent.loc) ++ cf.map fun p => (p.1, Ent.fre p.2)) { s with heap := h₁, toks := s.toks + (names.zip vs).length } :=
    { ok := ⟨hh, hgl, hk, (by show A.depth + 1 + dk < recursionLimit; exact o6 hroom), (by show A.units + 3 + 4 * dk + 80 < cLine; exact o8 hunits), hkeep, hbig, Nat.le_refl _, (fun b q => nomatch q), hinj, (fun b q => nomatch q), (fun b q => nomatch q), (fun q => nomatch q)⟩
      keep := fun b o _ _ e => hk₁ b o e
      slots := fun b o hb => nomatch hb
      ns := hns
      own := fun p hp => nomatch hp
      nd := List.nodup_nil
      fr := fun p hp => nomatch hp
      nfr := List.nodup_nil
      vis := fun b o e => ⟨hk₁ b o (hκ b o e).1, ltNe (Heap.lt_size (hκ b o e).1), List.not_mem_nil, List.not_mem_nil, (hκ b o e).2.1, (hκ b o e).2.2, .inl e, List.not_mem_nil⟩
      tabs := htabs.keeps hk₁
      tok := htok.le (Nat.le_add_right _ _)
      gens := rfl
      drawn := rfl
      os := rfl
      ents := fun x e hx => by
        rw [List.lookup_append] at hx
        cases q : (names.zip (pvs.map Ent.loc)).lookup x with
        | some e' =>
          rw [q] at hx; cases hx
          obtain ⟨h1, v, pv, rfl, h2, h3⟩ := binds_look names hlen hnd hvs q
          have := List.all_eq_true.mp hloc x h1
          exact ⟨beq_iff_eq.mp this, v, h2, h3⟩
        | none =>
          rw [q] at hx
          obtain ⟨pv, hm, rfl⟩ := cfLook (show _ = some e from hx)
          obtain ⟨c, oc, v, e1, e2, e3, e4⟩ := hcl _ hm
          have := List.all_eq_true.mp hcf _ hm
          exact ⟨v, ⟨.inl (beq_iff_eq.mp this), c, oc, e1, e2, List.not_mem_nil, ⟨List.not_mem_nil, List.not_mem_nil⟩, e3⟩, e4⟩ }
  refine (h f rfl rfl rfl rfl rfl hcd).run _ G F _ _ fun o fl s' G' ho ht hok => ?_
  have fin : ∀ v, FS f G' [] s' → Rp G'.τ G'.κ v pv → R (.ok (.ret v)) s' := fun v F' r =>
    hR v s' G'.τ G'.κ ht.τ ht.κ (fun b o e => F'.keep b o (fun q => nomatch q) ⟨(fun q => nomatch q), fun q => nomatch q⟩ e) F'.tabs F'.tok F'.gens F'.drawn F'.os (fun b o e => by obtain ⟨v1, _, _, _, v5, v6, v7, _⟩ := F'.vis b o e; exact ⟨v1, v5, v6, v7⟩) r
  cases o with
  | rt p => obtain ⟨v, rfl, F', r⟩ := hok; cases ho; exact fin v F' r
  | nx ρ' => obtain ⟨rfl, F'⟩ := hok; cases ho; exact fin .none (F'.weaken trivial) .none
  | bk ρ' => exact ho.elim
  | ct ρ' => exact ho.elim⟩
section
variable {tb : List Addr} {f : Fm sc dk tb} {G : Gh} {ρ : Rho} {s : Shared}
/-- a body whose work is done on a list that an outer frame holds -/
structure SD (f : Fm sc dk tb) (ρ : Rho) (t : Sem Flow) (P : Flow → Prop) (yd : Str) (l' : List PV) : Prop where
  run : ∀ s G, FS f G ρ s → ∀ (Q : Flow → Shared → Prop) (E : Value → Shared → Prop),
    (∀ fl s' G', P fl → G.Lt G' → FS f G' [(yd, .fown l')] s' → Q fl s') → wpAny (model PG f.w) f.A t Q E s
def isNx (ρ' : Rho) : Out → Prop
  | .nx ρ => ρ = ρ'
  | _ => False
def endFl (fl : Flow) : Prop := fl = .next ∨ fl = .ret .none
def retFl (fl : Flow) : Prop := fl = .ret .none
theorem SD.nil {yd : Str} {l' : List PV} (h : ρ.lookup yd = some (.fown l')) : SD f ρ (execs [] f.env) endFl yd l' := ⟨fun s G F Q E k => by
  have q := k _ s G (.inl rfl) (.refl _) (F.weaken ⟨h, trivial⟩)
  with_reducible exact wpAny_execs_nil q⟩
theorem SD.ret {yd : Str} {l' : List PV} {pos : Pos} (h : ρ.lookup yd = some (.fown l')) : SD f ρ (exec (.Return none pos) f.env) retFl yd l' := ⟨fun s G F Q E k => by
  with_reducible refine wpAny_Return_none ?_
  exact k _ s G rfl (.refl _) (F.weaken ⟨h, trivial⟩)⟩
theorem SD.cons {st : Stmt} {rest : List Stmt} {P : Flow → Prop} {yd : Str} {l' : List PV} {ρ' : Rho} (h : SX f ρ (exec st f.env) (isNx ρ')) (h2 : SD f ρ' (execs rest f.env) P yd l') : SD f ρ (execs (st :: rest) f.env) P yd l' := ⟨fun s G F Q E k => by
  with_reducible refine wpAny_execs_cons ?_
  refine h.run s G F _ E fun o fl s' G' ho lt ok => ?_
  cases o with
  | nx r => obtain ⟨rfl, F'⟩ := ok; cases ho; exact h2.run s' G' F' Q E fun fl s2 G2 hp lt2 F2 => k fl s2 G2 hp (lt.trans lt2) F2
  | rt p => exact ho.elim
  | bk ρ' => exact ho.elim
  | ct ρ' => exact ho.elim⟩
theorem SD.consRet {st : Stmt} {rest : List Stmt} {P : Flow → Prop} {yd : Str} {l' : List PV} (h : SD f ρ (exec st f.env) retFl yd l') (hP : P (.ret .none)) : SD f ρ (execs (st :: rest) f.env) P yd l' := ⟨fun s G F Q E k => by
  with_reducible refine wpAny_execs_cons ?_
  refine h.run s G F _ E fun fl s' G' hp lt F' => ?_
  cases hp
  exact k _ s' G' hP lt F'⟩
theorem SD.iteT {test : Expr} {body orelse : List Stmt} {pos : Pos} {P : Flow → Prop} {yd : Str} {l' : List PV} (h : EB f ρ (isTrue test f.env (eval test f.env)) true) (h1 : SD f ρ (execs body f.env) P yd l') : SD f ρ (exec (.If test body orelse pos) f.env) P yd l' := ⟨fun s G F Q E k => by
  with_reducible refine wpAny_If ?_
  refine h.run s G F _ E fun s' G' L F' => ?_
  exact h1.run s' G' F' Q E fun fl s2 G2 hp lt F2 => k fl s2 G2 hp (L.lt.trans lt) F2⟩
theorem FS.extOwn (F : FS f G ρ s) {a : Addr} {vs ws : List Value} {n n' : Nat} {s' : Shared} (ha : (a, listOf vs.toArray n) ∈ G.own) (hk : ∀ b o, b ≠ a → s.heap.get? b = some o → s'.heap.get? b = some o) (e : s'.heap.get? a = some (listOf ws.toArray n'))
    (ht : Tabs s'.heap) (hle : s.toks ≤ s'.toks) (e1 : s'.gens = s.gens) (e2 : s'.drawn = s.drawn) (e3 : s'.os = s.os) : FS f { G with own := repl a (listOf ws.toArray n') G.own } (clean ρ) s' where
  ok := F.ok
  keep := fun b ob hb hb' eb => hk b ob (by
    rintro rfl
    rcases (F.own _ ha).2.2.2.2 with q | q
    · exact absurd (Heap.lt_size eb) (Nat.not_lt.mpr q)
    · exact hb'.1 q) (F.keep b ob hb hb' eb)
  slots := fun b ob hb eb => by
    obtain ⟨sl, e'⟩ := F.slots b ob hb eb
    refine ⟨sl, hk b _ ?_ e'⟩
    rintro rfl
    rcases (F.own _ ha).2.2.2.2 with q | q
    · exact absurd (Heap.lt_size eb) (Nat.not_lt.mpr q)
    · exact (F.ok.outs _ hb).2.2.2.1 q
  ns := F.ns.at' fun o eo => hk _ o (Ne.symm (F.own _ ha).2.1) eo
  own := fun p hp => by
    rcases repl_mem hp with rfl | ⟨hne, hp⟩
    · exact ⟨e, (F.own _ ha).2⟩
    · exact ⟨hk _ _ hne (F.own p hp).1, (F.own p hp).2⟩
  nd := by rw [repl_keys]; exact F.nd
  fr := fun p hp => by
    obtain ⟨h1, h2, h3, h4⟩ := F.fr p hp
    refine ⟨hk _ _ ?_ h1, h2, by rw [repl_keys]; exact h3, h4⟩
    intro q
    exact h3 (q ▸ List.mem_map.mpr ⟨_, ha, rfl⟩)
  nfr := F.nfr
  vis := fun b ob eb => by
    obtain ⟨h1, h2, h3, h4⟩ := F.vis b ob eb
    refine ⟨hk _ _ ?_ h1, h2, by rw [repl_keys]; exact h3, h4⟩
    rintro rfl
    exact h3 (List.mem_map.mpr ⟨_, ha, rfl⟩)
  tabs := ht
  tok := F.tok.le hle
  gens := e1.trans F.gens
  drawn := e2.trans F.drawn
  os := e3.trans F.os
  ents := fun y ent hy => by
    obtain ⟨e₀, h0, rfl⟩ := clean_look hy
    have := F.ents y e₀ h0
    have cl : ∀ {v}, OwnCell f G y v → OwnCell f { G with own := repl a (listOf ws.toArray n') G.own } y v := fun q => by
      obtain ⟨k1, c, o, k2, k3, k4, k5⟩ := q
      exact ⟨k1, c, o, k2, repl_ne k3 (cell_ne F ha k3 k5), k4, k5⟩
    cases e₀ with
    | loc pv => exact this
    | fre pv => exact this
    | dead | owned l | cown l | fown l => trivial
    | cel pv => obtain ⟨v', a, b⟩ := this; exact ⟨v', cl a, b⟩
    | ucel => obtain ⟨v', a⟩ := this; exact ⟨v', cl a⟩
/-- the cell behind a name -/
theorem EntOk.cellAt (F : FS f G ρ s) {x : Str} {e : Ent} {pv : PV} (h : EntOk f G x e) (hv : e.val = some pv) (hl : ∀ pv, e ≠ .loc pv) : ∃ c oc v, f.env.cells.lookup x = some c ∧ s.heap.get? c = some oc ∧ oc.data = .cell (some v) ∧ Rp G.τ G.κ v pv := by
  cases e with
  | loc _ => exact absurd rfl (hl _)
  | cel _ => cases hv; obtain ⟨v, ⟨_, c, o, h1, h2, _, h3⟩, h4⟩ := h; exact ⟨c, o, v, h1, (F.own _ h2).1, h3, h4⟩
  | fre _ => cases hv; obtain ⟨v, ⟨_, c, o, h1, h2, h3, h4, h5⟩, h6⟩ := h; exact ⟨c, o, v, h1, F.keep _ _ h3 h4 h2, h5, h6⟩
  | owned _ | ucel | cown _ | fown _ | dead => cases hv
/-- where the code object of a def stands that was made inside -/
def CodeIn (f : Fm sc dk tb) (ex : List (Addr × Obj)) (qual : Str) (cv : Value) : Prop := ∃ c oc vs t, cv = .ref c ∧ oc.data = .fields vs ∧ vs[1]? = some (.str qual t) ∧
  ((f.h0.get? c = some oc ∧ c ∉ tb ∧ c ∉ f.br ∧ c ∉ f.out) ∨ ex = [(c, oc)])
theorem CodeIn.rec {ex : List (Addr × Obj)} {qual : Str} {cv v : Value} {o : Obj} (h : CodeIn f ex qual cv) (F : FS f G ρ s) (r : Rp G.τ G.κ v (.fn o ex)) : s.heap.CodeRec cv qual := by
  obtain ⟨c, oc, vs, t, rfl, h1, h2, h3⟩ := h
  refine ⟨c, oc, vs, t, rfl, ?_, h1, h2⟩
  rcases h3 with ⟨h3, h4, h5⟩ | rfl
  · exact F.keep _ _ h4 h5 h3
  · cases r with | fn _ r => exact (F.vis _ _ (r _ (.head _))).1
/-- a call of a def that was made inside -/
theorem CTF.call {A : Around} {k : Nat} {clos : List (Str × Addr)} {cf : List (Str × PV)} {o : Obj} {ex : List (Addr × Obj)} {qual : Str} {cv : Value} {a : Addr} {vs : List Value} {pvs : List PV} {pv : PV} (C : CTF f.w k clos cf o qual cv pvs pv) (F : FS f G ρ s) (hk : k ≤ dk)
    (hcd : CodeIn f ex qual cv) (hclos : clos = f.cells ∨ ∀ p ∈ cf, clos.lookup p.1 = f.cells.lookup p.1) (hcf : ∀ p ∈ cf, ∃ e, ρ.lookup p.1 = some e ∧ e.val = some p.2 ∧ ∀ pv, e ≠ .loc pv) (ra : Rp G.τ G.κ (.ref a) (.fn o ex)) (hvs : RpAll G.τ G.κ vs pvs)
    {Q : Value → Shared → Prop} {E : Value → Shared → Prop} (h : ∀ v s' G', G.Le G' → FS f G' ρ s' → Rp G'.τ G'.κ v pv → Q v s') : wpAny (model PG f.w) f.A (call (.ref a) vs) Q E s := by
  refine wpAny_call (grow_code ?_)
  have ho : s.heap.get? a = some o := by cases ra with | fn e _ => exact (F.vis _ _ e).1
  refine C.run f.A f.g0 s G.τ G.κ vs a F.ok.hh (by have := F.ok.room; exact o18 hk this) (by have := F.ok.units; exact o17 hk this) F.ok.gl F.keep0 F.tabs F.tok (fun b o e => by obtain ⟨h1, _, _, _, h5, h6, _⟩ := F.vis b o e; exact ⟨h1, h5, h6⟩) hvs ho (hcd.rec F ra) (fun p hp => ?_) _ ?_
  · obtain ⟨e, h1, h2, h3⟩ := hcf p hp
    obtain ⟨c, oc, v, g1, g2⟩ := (F.ents _ _ h1).cellAt F h2 h3
    refine ⟨c, oc, v, ?_, g2⟩
    rcases hclos with q | q
    · rw [q]; exact g1
    · rw [q p hp]; exact g1
  intro v s' τ' κ' ht hκ hkeep htabs htok e1 e2 e3 hv hr g
  have F1 := F.extT (s' := s') (fun b o hb e => hkeep b o e) htabs g.toks e1 e2 e3
  obtain ⟨F2, L⟩ := F1.setTK ht hκ htok fun b o e => ⟨(hv b o e).1, (hv b o e).2.2.2.imp id fun q => F.far q⟩
  exact h v s' _ L F2 hr
theorem CTD.call {A : Around} {k : Nat} {clos : List (Str × Addr)} {cf : List (Str × PV)} {o : Obj} {ex : List (Addr × Obj)} {qual yd : Str} {cv : Value} {a : Addr} {vs : List Value} {pvs l l' : List PV} {ent : Ent} (C : CTD f.w k clos cf o qual cv yd l pvs l') (F : FS f G ρ s) (hk : k ≤ dk)
    (hcd : CodeIn f ex qual cv) (hclos : clos = f.cells ∨ ∀ y, (y = yd ∨ ∃ p ∈ cf, p.1 = y) → clos.lookup y = f.cells.lookup y) (hcf : ∀ p ∈ cf, ∃ e, ρ.lookup p.1 = some e ∧ e.val = some p.2 ∧ ∀ pv, e ≠ .loc pv) (hy : ρ.lookup yd = some ent) (hl : ent.ol = some l) (hloc : ∀ l, ent ≠ .owned l)
    (ra : Rp G.τ G.κ (.ref a) (.fn o ex)) (hvs : RpAll G.τ G.κ vs pvs)
    {Q : Value → Shared → Prop} {E : Value → Shared → Prop} (h : ∀ s' G', G.Lt G' → FS f G' ((yd, ent.setL l') :: clean ρ) s' → Q .none s') : wpAny (model PG f.w) f.A (call (.ref a) vs) Q E s := by
  refine wpAny_call (grow_code ?_)
  have ho : s.heap.get? a = some o := by cases ra with | fn e _ => exact (F.vis _ _ e).1
  obtain ⟨D, ws, n, oa, hD, rl⟩ := (F.ents _ _ hy).ownAt hl
  have hoD := F.own _ hD
  have hcl : ∀ y c, (y = yd ∨ ∃ p ∈ cf, p.1 = y) → f.env.cells.lookup y = some c → clos.lookup y = some c := fun y c hy hc => by
    rcases hclos with q | q
    · rw [q]; exact hc
    · rw [q y hy]; exact hc
  refine C.run f.A f.g0 s G.τ G.κ vs ws n a D F.ok.hh (by have := F.ok.room; exact o18 hk this) (by have := F.ok.units; exact o17 hk this) F.ok.gl F.keep0 F.tabs F.tok (fun b o e => by obtain ⟨h1, _, h3, _, h5, h6, _⟩ := F.vis b o e; exact ⟨h1, h5, h6, fun q => h3 (q ▸ List.mem_map.mpr ⟨_, hD, rfl⟩)⟩) hvs ho (hcd.rec F ra) (fun p hp => ?_) hoD.1 rl hoD.2.2.1 hoD.2.2.2.1 ?_ ?_ _ ?_
  · obtain ⟨e, h1, h2, h3⟩ := hcf p hp
    obtain ⟨c, oc, v, g1, g2⟩ := (F.ents _ _ h1).cellAt F h2 h3
    exact ⟨c, oc, v, hcl _ _ (.inr ⟨p, hp, rfl⟩) g1, g2⟩
  · rcases hoD.2.2.2.2 with q | q
    · cases e : f.g0.get? D with
      | none => rfl
      | some o => exact absurd (Heap.lt_size (F.ok.g0h _ _ e)) (Nat.not_lt.mpr q)
    · exact (F.ok.brs _ q).2.2
  · cases ent with
    | cown _ => obtain ⟨_, c, o, g1, g2, _, g3⟩ := oa; exact ⟨c, o, hcl _ _ (.inl rfl) g1, (F.own _ g2).1, g3⟩
    | fown _ => obtain ⟨_, c, o, g1, g2, g3, g4, g5⟩ := oa; exact ⟨c, o, hcl _ _ (.inl rfl) g1, F.keep _ _ g3 g4 g2, g5⟩
    | owned _ => exact absurd rfl (hloc _)
    | loc _ | cel _ | fre _ | ucel | dead => cases hl
  intro s' τ' κ' ws' n' ht hκ hkeep htabs htok e1 e2 e3 hv eD rD g
  have F1 := F.extOwn hD hkeep eD htabs g.toks e1 e2 e3
  obtain ⟨F2, L⟩ := F1.setTK ht hκ htok fun b o e => ⟨(hv b o e).1, (hv b o e).2.2.2.2.imp id fun q => by
    have X := F.far q
    exact ⟨X.L, by rw [repl_keys]; exact X.own, X.fr, X.n47, X.n54, X.h0, X.κ, X.out⟩⟩
  refine h s' _ ⟨L.τ, L.κ, L.fr⟩ { F2 with ents := fun y e hy => ?_ }
  rcases look_cons hy with ⟨rfl, rfl⟩ | ⟨_, hy⟩
  · cases ent with
    | cown _ =>
      obtain ⟨hk, c, o, hc, hco, hh, hd⟩ := oa
      exact ⟨D, ⟨hk, c, o, hc, repl_ne hco (cell_ne F hD hco hd), hh, hd⟩, ws', n', repl_self hD, rD⟩
    | fown _ => exact ⟨D, oa, ws', n', repl_self hD, rD⟩
    | owned _ => exact absurd rfl (hloc _)
    | loc _ | cel _ | fre _ | ucel | dead => cases hl
  · exact F2.ents y e hy
end
theorem CTD.plain {w : World} {clos : List (Str × Addr)} {cf : List (Str × PV)} {pvs l l' : List PV} {name qual yd : Str} {params : Arguments} {body : List Stmt} {doc pm cdv ct : Value} {names : List Str}
    (hcf : cf.all (fun p => sc.names.lookup p.1 == some .free) = true) (hyd : sc.names.lookup yd = some .free)
    (hbind : ∀ (s : Shared) (vs : List Value), vs.length = pvs.length → BindsTo s (fnX name qual params body sc clos .none .none doc pm none cdv ct) ⟨vs, []⟩ (names.zip vs))
    (hlen : names.length = pvs.length) (hnd : names.Nodup) (hloc : names.all (fun x => sc.names.lookup x == some .local) = true) (hcell : sc.names.all (fun x => x.2 != .cell) = true)
    (hco : sc.isCoroutine = false) (hgen : sc.isGenerator = false) (hk : sc.kind = .function) (hinj : ∀ x y c, clos.lookup x = some c → clos.lookup y = some c → x = y)
    (h : ∀ f : Fm sc dk [], f.w = w → f.cells = clos → f.code = cdv → (∃ D, f.out = [] ∧ f.br = [D] ∧ ∃ vs n, f.h0.get? D = some (listOf vs n)) → f.h0.CodeRec cdv qual → SD f (names.zip (pvs.map Ent.loc) ++ (yd, .fown l) :: cf.map fun p => (p.1, Ent.fre p.2)) (execs body f.env) endFl yd l') :
    CTD w (dk + 1) clos cf { cls := .type "function", data := .func (fnX name qual params body sc clos .none .none doc pm none cdv ct) } qual cdv yd l pvs l' := ⟨by
  intro A g0 s τ κ vs ws n a D hh hroom hunits hgl hkeep htabs htok hκ hvs ho hcd hcl hD rl hD47 hD54 hDg hDc R hR
  obtain ⟨X, g47, g54, p, loose, mg, mb, T⟩ := id hgl
  have hbig : 54 < s.heap.objs.size := by obtain ⟨_, e, _⟩ := htabs.2; exact Heap.lt_size e
  refine codeAny_call_def (fd := fnX name qual params body sc clos .none .none doc pm none cdv ct) (body := body) (binds := names.zip vs) (by exact o7 hroom) ho rfl (T.nolimit.keeps hkeep) hcd rfl (hbind s vs hvs.length) ?_ ?_ (fun h₁ hns hk₁ => ?_) hco hgen hk
  · intro x hx q
    have := List.all_eq_true.mp hcell x hx
    rw [q] at this; exact absurd this (by decide)
  · intro x hx
    have h1 : x.1 ∈ names := (List.of_mem_zip (a := x.1) (b := x.2) hx).1
    have := List.all_eq_true.mp hloc x.1 h1
    exact beq_iff_eq.mp this
  let f : Fm sc dk [] := { w := w, A := A.deeper (callEnv (fnX name qual params body sc clos .none .none doc pm none cdv ct) s.heap.objs.size a), L := s.heap.objs.size, cells := clos, qual := qual ++ ".<locals>.", func := some a, code := cdv, frame := (some s.heap.objs.size), g0 := g0, h0 := s.heap, κ0 := κ, br := [D], out := [], rs := false, gens := s.gens, drawn := s.drawn, os := s.os }
  let G : Gh := ⟨τ, κ, fun x => (names.zip vs).reverse.lookup x, [(D, listOf ws.toArray n)], []⟩
  have mem1 : ∀ {b : Addr}, b ∈ [D] → b = D := fun h => by simpa using h
  have cellNe : ∀ {c : Addr} {oc : Obj} {v : Option Value}, s.heap.get? c = some oc → oc.data = .cell v → c ∉ [D] := fun e hd q => by
    rw [mem1 q, hD] at e; cases e; cases hd
  have F : FS f G (names.zip (pvs.map Ent.loc) ++ (yd, .fown l) :: cf.map fun p => (p.1, Ent.fre p.2)) { s with heap := h₁, toks := s.toks + (names.zip vs).length } :=
    { ok := ⟨hh, hgl, hk, (by show A.depth + 1 + dk < recursionLimit; exact o6 hroom), (by show A.units + 3 + 4 * dk + 80 < cLine; exact o8 hunits), hkeep, hbig, Nat.le_refl _, (fun b q => nomatch q), hinj, (fun b q => by rw [mem1 q]; exact ⟨hD47, hD54, hDg⟩), (fun b q => nomatch q), (fun q => nomatch q)⟩
      keep := fun b o _ _ e => hk₁ b o e
      slots := fun b o hb => nomatch hb
      ns := hns
      own := fun p hp => by
        have : p = (D, listOf ws.toArray n) := by simpa [G] using hp
        subst this
        exact ⟨hk₁ _ _ hD, ltNe (Heap.lt_size hD), hD47, hD54, .inr (.head _)⟩
      nd := by show ([D] : List Addr).Nodup; simp
      fr := fun p hp => nomatch hp
      nfr := List.nodup_nil
      vis := fun b o e => ⟨hk₁ b o (hκ b o e).1, ltNe (Heap.lt_size (hκ b o e).1), (fun q => (hκ b o e).2.2.2 (mem1 q)), List.not_mem_nil, (hκ b o e).2.1, (hκ b o e).2.2.1, .inl e, List.not_mem_nil⟩
      tabs := htabs.keeps hk₁
      tok := htok.le (Nat.le_add_right _ _)
      gens := rfl
      drawn := rfl
      os := rfl
      ents := fun x e hx => by
        rw [List.lookup_append] at hx
        cases q : (names.zip (pvs.map Ent.loc)).lookup x with
        | some e' =>
          rw [q] at hx; cases hx
          obtain ⟨h1, v, pv, rfl, h2, h3⟩ := binds_look names hlen hnd hvs q
          have := List.all_eq_true.mp hloc x h1
          exact ⟨beq_iff_eq.mp this, v, h2, h3⟩
        | none =>
          rw [q] at hx
          rcases look_cons (show _ = some e from hx) with ⟨rfl, rfl⟩ | ⟨_, hx⟩
          · obtain ⟨c, oc, e1, e2, e3⟩ := hDc
            exact ⟨D, ⟨.inl hyd, c, oc, e1, e2, List.not_mem_nil, ⟨cellNe e2 e3, List.not_mem_nil⟩, e3⟩, ws, n, .head _, rl⟩
          · obtain ⟨pv, hm, rfl⟩ := cfLook hx
            obtain ⟨c, oc, v, e1, e2, e3, e4⟩ := hcl _ hm
            have := List.all_eq_true.mp hcf _ hm
            exact ⟨v, ⟨.inl (beq_iff_eq.mp this), c, oc, e1, e2, List.not_mem_nil, ⟨cellNe e2 e3, List.not_mem_nil⟩, e3⟩, e4⟩ }
  refine (h f rfl rfl rfl ⟨D, rfl, rfl, _, _, hD⟩ hcd).run _ G F _ _ fun fl s' G' ho ht F' => ?_
  have fin : R (.ok (.ret .none)) s' := by
    obtain ⟨D', ⟨_, c, oc, e1, e2, _, _, e3⟩, ws', n', hm, rl'⟩ := F'.ents yd (.fown l') (by rw [List.lookup_cons, beq_self_eq_true])
    have hDD : D' = D := by
      obtain ⟨c2, oc2, g1, g2, g3⟩ := hDc
      have e1' : clos.lookup yd = some c := e1
      rw [g1] at e1'; cases e1'
      have e2' : s.heap.get? c = some oc := e2
      rw [g2] at e2'; cases e2'
      rw [g3] at e3; cases e3; rfl
    subst hDD
    refine hR s' G'.τ G'.κ ws' n' ht.τ ht.κ (fun b o hb e => F'.keep b o (fun q => nomatch q) ⟨(fun q => hb (mem1 q)), fun q => nomatch q⟩ e) F'.tabs F'.tok F'.gens F'.drawn F'.os (fun b o e => ?_) (F'.own _ hm).1 rl'
    obtain ⟨v1, _, v3, _, v5, v6, v7, _⟩ := F'.vis b o e
    exact ⟨v1, v5, v6, (fun q => v3 (q ▸ List.mem_map.mpr ⟨_, hm, rfl⟩)), v7⟩
  rcases ho with rfl | rfl <;> exact fin⟩
section
variable {tb : List Addr} {f : Fm sc dk tb} {ρ : Rho}
/-- a call of a def that was made inside, by its name -/
theorem EV.callF {x : Str} {xp pos : Pos} {e : Expr} {rest : List Expr} {k : Nat} {clos : List (Str × Addr)} {cf : List (Str × PV)} {o : Obj} {fd : FuncData} {ex : List (Addr × Obj)} {qual : Str} {cv : Value} {ent : Ent} {pvs : List PV} {pv : PV} (hx : ρ.lookup x = some ent) (hv : ent.val = some (.fn o ex))
    (hfd : o.data = .func fd) (hargs : EL f ρ (spliced (backTo pos (starEach (e :: rest) f.env))) pvs) (C : CTF f.w k clos cf o qual cv pvs pv) (hcd : CodeIn f ex qual cv) (hclos : clos = f.cells ∨ ∀ p ∈ cf, clos.lookup p.1 = f.cells.lookup p.1)
    (hcf : ∀ p ∈ cf, ∃ e, ρ.lookup p.1 = some e ∧ e.val = some p.2 ∧ ∀ pv, e ≠ .loc pv) (hk : k ≤ dk := by decide)
    (hd : (x == ("__debug__" : Str)) = false := by decide) (hn : (x == ("__classdict__" : Str)) = false := by decide) (he : starEach (e :: rest) f.env = (false, eval e f.env) :: starEach rest f.env := by rfl) (hplain : (backTo pos (starEach rest f.env)).any (·.1) = false := by rfl)
    (he' : eval (.Call (.Name x xp) (e :: rest) [] pos) f.env = (do callWith pos (← eval (.Name x xp) f.env) [] (backTo pos (starEach (e :: rest) f.env)) (backToKw pos (keywordEach [] f.env))) := by rfl) :
    EV f ρ (eval (.Call (.Name x xp) (e :: rest) [] pos) f.env) pv :=
  ⟨fun s G F Q E k => by
    with_reducible refine Call_ ?_ he'
    refine (EV.var hx hv hd hn).run s G F _ E fun v s0 G0 L0 F0 r0 => ?_
    cases r0 with
    | @fn a _ _ e1 e2 =>
      have hf : FnAt a s0.heap := by
        have := (F0.vis _ _ e1).1
        obtain ⟨oc, od, dt, sl⟩ := o
        cases hfd
        exact ⟨_, _, _, _, this⟩
      with_reducible refine callWith_F hf ?_ he hplain
      refine hargs.run s0 G0 F0 _ _ fun vs s₁ G₁ L₁ F₁ r₁ => ?_
      have ra : Rp G₁.τ G₁.κ (.ref a) (.fn o ex) := (Rp.fn e1 e2).mono L₁.τ L₁.κ
      refine ⟨?_, ?_⟩
      · have := (F₁.vis _ _ (L₁.κ _ _ e1)).1
        obtain ⟨oc, od, dt, sl⟩ := o
        cases hfd
        exact ⟨_, _, _, _, this⟩
      rw [List.nil_append]
      exact C.call (A := f.A) F₁ hk hcd hclos hcf ra r₁ fun v s' G' L F' r => k v s' G' ((L0.trans L₁).trans L) F' r⟩
theorem SX.exprD {x yd : Str} {xp pos pos' : Pos} {e : Expr} {rest : List Expr} {k : Nat} {clos : List (Str × Addr)} {cf : List (Str × PV)} {o : Obj} {fd : FuncData} {ex : List (Addr × Obj)} {qual : Str} {cv : Value} {ent enty : Ent} {pvs l l' : List PV} {Φ : Out → Prop} (hx : ρ.lookup x = some ent) (hv : ent.val = some (.fn o ex))
    (hfd : o.data = .func fd) (hargs : EL f ρ (spliced (backTo pos (starEach (e :: rest) f.env))) pvs) (C : CTD f.w k clos cf o qual cv yd l pvs l') (hcd : CodeIn f ex qual cv) (hclos : clos = f.cells ∨ ∀ y, (y = yd ∨ ∃ p ∈ cf, p.1 = y) → clos.lookup y = f.cells.lookup y)
    (hcf : ∀ p ∈ cf, ∃ e, ρ.lookup p.1 = some e ∧ e.val = some p.2 ∧ ∀ pv, e ≠ .loc pv) (hy : ρ.lookup yd = some enty) (hl : enty.ol = some l) (hloc : ∀ l, enty ≠ .owned l) (hΦ : Φ (.nx ((yd, enty.setL l') :: clean ρ))) (hk : k ≤ dk := by decide)
    (hd : (x == ("__debug__" : Str)) = false := by decide) (hn : (x == ("__classdict__" : Str)) = false := by decide) (he : starEach (e :: rest) f.env = (false, eval e f.env) :: starEach rest f.env := by rfl) (hplain : (backTo pos (starEach rest f.env)).any (·.1) = false := by rfl)
    (hi : interactive f.env = false := by rfl) (hs : swapsWith (.Call (.Name x xp) (e :: rest) [] pos) none pos'.line f.env = pure false := by rfl)
    (he' : eval (.Call (.Name x xp) (e :: rest) [] pos) f.env = (do callWith pos (← eval (.Name x xp) f.env) [] (backTo pos (starEach (e :: rest) f.env)) (backToKw pos (keywordEach [] f.env))) := by rfl) :
    SX f ρ (exec (.Expr (.Call (.Name x xp) (e :: rest) [] pos) pos') f.env) Φ :=
  ⟨fun s G F Q E k => by
    with_reducible refine wpAny_Expr ?_ hi hs
    with_reducible refine Call_ ?_ he'
    refine (EV.var hx hv hd hn).run s G F _ E fun v s0 G0 L0 F0 r0 => ?_
    cases r0 with
    | @fn a _ _ e1 e2 =>
      have hf : FnAt a s0.heap := by
        have := (F0.vis _ _ e1).1
        obtain ⟨oc, od, dt, sl⟩ := o
        cases hfd
        exact ⟨_, _, _, _, this⟩
      with_reducible refine callWith_F hf ?_ he hplain
      refine hargs.run s0 G0 F0 _ _ fun vs s₁ G₁ L₁ F₁ r₁ => ?_
      have ra : Rp G₁.τ G₁.κ (.ref a) (.fn o ex) := (Rp.fn e1 e2).mono L₁.τ L₁.κ
      refine ⟨?_, ?_⟩
      · have := (F₁.vis _ _ (L₁.κ _ _ e1)).1
        obtain ⟨oc, od, dt, sl⟩ := o
        cases hfd
        exact ⟨_, _, _, _, this⟩
      rw [List.nil_append]
      exact C.call (A := f.A) F₁ hk hcd hclos hcf hy hl hloc ra r₁ fun s' G' L F' => k _ .next s' G' hΦ ((L0.trans L₁).lt.trans L) ⟨rfl, F'⟩⟩
end
end Mine

end
section
open PySem PySem.W PyProof.Rows PySem.Calls PySem.Spec PySem.Challenge
namespace Mine
variable {sc : Scope} {dk : Nat} {tb : List Addr}
/-- the same frame, these tables let turn -/
def Fm.up (f : Fm sc dk []) (tb : List Addr) : Fm sc dk tb := { w := f.w, A := f.A, L := f.L, cells := f.cells, qual := f.qual, func := f.func, code := f.code, frame := f.frame, g0 := f.g0, h0 := f.h0, κ0 := f.κ0, br := f.br, out := f.out, rs := f.rs, gens := f.gens, drawn := f.drawn, os := f.os }
section
variable {f : Fm sc dk []} {G : Gh} {ρ : Rho} {s : Shared}
theorem not_tab {ps vs : Array Value} {h : Heap} {c P : Addr} {o : Obj} {q : Str} {t : Tok} (hP : h.get? P = some (tabObj ps)) (ht : TriplesOk ps.toList) (hc : h.get? c = some o) (hd : o.data = .fields vs) (h1 : vs[1]? = some (.str q t)) : c ≠ P := by
  rintro rfl
  rw [hP] at hc; cases hc; cases hd
  rw [← Array.getElem?_toList] at h1
  match hl : ps.toList, ht with
  | [], _ => rw [hl] at h1; cases h1
  | .int _ _ :: .int _ _ :: _ :: _, _ => rw [hl] at h1; cases h1
theorem FS.up (F : FS f G ρ s) (htb : ∀ b ∈ tb, b = 47 ∨ b = 54) : FS (f.up tb) G ρ s where
  ok := ⟨F.ok.hh, F.ok.gl, F.ok.kind, F.ok.room, F.ok.units, F.ok.g0h, F.ok.big, F.ok.low, htb, F.ok.cinj, F.ok.brs, F.ok.outs, F.ok.stack⟩
  keep := fun b o _ hb e => F.keep b o (fun q => nomatch q) hb e
  slots := F.slots
  ns := F.ns
  own := F.own
  nd := F.nd
  fr := F.fr
  nfr := F.nfr
  vis := F.vis
  tabs := F.tabs
  tok := F.tok
  gens := F.gens
  drawn := F.drawn
  os := F.os
  ents := fun y e hy => by
    have fc : ∀ {v}, FreCell f y v → FreCell (f.up tb) y v := fun q => by
      obtain ⟨k, c, o, h1, h2, h3, h4, h5⟩ := q
      refine ⟨k, c, o, h1, h2, fun q => ?_, h4, h5⟩
      have e1 := F.keep _ _ h3 h4 h2
      rcases htb _ q with rfl | rfl
      · obtain ⟨ps, e2, _⟩ := F.tabs.1
        rw [e1] at e2; cases e2; cases h5
      · obtain ⟨ps, e2, _⟩ := F.tabs.2
        rw [e1] at e2; cases e2; cases h5
    have := F.ents y e hy
    cases e with
    | loc pv => exact this
    | cel pv => exact this
    | fre pv => obtain ⟨v, a, b⟩ := this; exact ⟨v, fc a, b⟩
    | owned l => exact this
    | ucel => exact this
    | cown l => exact this
    | fown l => obtain ⟨a, b, c⟩ := this; exact ⟨a, fc b, c⟩
    | dead => trivial
structure SXU (f : Fm sc dk []) (tb : List Addr) (ρ : Rho) (t : Sem Flow) (Φ : Out → Prop) : Prop where
  run : ∀ s G, FS f G ρ s → ∀ (Q : Flow → Shared → Prop) (E : Value → Shared → Prop),
    (∀ o fl s' G', Φ o → G.Lt G' → OutOk (f.up tb) G' o fl s' → Q fl s') → wpAny (model PG f.w) f.A t Q E s
theorem SXU.cons {st : Stmt} {rest : List Stmt} {Φ : Out → Prop} {ρ' : Rho} (h : SX f ρ (exec st f.env) (isNx ρ')) (h2 : SXU f tb ρ' (execs rest f.env) Φ) : SXU f tb ρ (execs (st :: rest) f.env) Φ := ⟨fun s G F Q E k => by
  with_reducible refine wpAny_execs_cons ?_
  refine h.run s G F _ E fun o fl s' G' ho lt ok => ?_
  cases o with
  | nx r => obtain ⟨rfl, F'⟩ := ok; cases ho; exact h2.run s' G' F' Q E fun o fl s2 G2 hp lt2 F2 => k o fl s2 G2 hp (lt.trans lt2) F2
  | rt p => exact ho.elim
  | bk ρ' => exact ho.elim
  | ct ρ' => exact ho.elim⟩
theorem SXU.nest {P cc : Addr} {name qual : Str} {params : Arguments} {body : List Stmt} {scope : Scope} {clos : List (Str × Addr)} {pos : Pos} {rest : List Stmt} {Φ : Out → Prop} (hP : P = 47 ∨ P = 54) (hC : NestOk f.g0 → CodeHd f.g0 cc P) (hcode : f.code = .ref cc) (hbr : f.br = []) (hout : f.out = [])
    (hT0 : TabAt f.h0 P pos qual) (hmk : ∀ h h' : Heap, Tabs h → TabAt h' P pos qual → (∀ b o, b ≠ P → h.get? b = some o → h'.get? b = some o) → Tabs h') (hx : ρ.lookup name = some .ucel) (hcl : closureFor scope f.env = pure clos)
    (hq : qualnameIn f.env name name = qual)
    (k : ∀ doc pm c' ctv ex, CodeIn (f.up [P]) ex qual (.ref c') → SX (f.up [P]) ((name, .cel (.fn (fnMade name qual params body scope clos doc pm c' ctv) ex)) :: ρ) (execs rest f.env) Φ)
    (hd0 : params.defaults = [] := by rfl) (hk0 : params.kw_defaults = [] := by rfl) (ha : annTrees params none f.env = [] := by rfl) :
    SXU f [P] ρ (execs (.FunctionDef name params body [] none [] scope none name pos :: rest) f.env) Φ := ⟨fun s G F Q E kQ => by
  with_reducible refine wpAny_execs_cons ?_
  refine nestDef_K hd0 hk0 ha ?_
  rw [hq]
  have htb : ∀ b ∈ [P], b = 47 ∨ b = 54 := fun b hb => by rw [show b = P by simpa using hb]; exact hP
  have fin : ∀ (a : Addr) doc pm c' ctv ex s2 G2, G.Lt G2 → FS (f.up [P]) G2 ρ s2 → G2.κ a = some (fnMade name qual params body scope clos doc pm c' ctv) → (∀ p ∈ ex, G2.κ p.1 = some p.2) → CodeIn (f.up [P]) ex qual (.ref c') →
      wpAny (model PG f.w) f.A (storeName f.env name (.ref a)) (fun _ s'' => wpAny (model PG f.w) f.A (execs rest f.env) Q E s'') E s2 := fun a doc pm c' ctv ex s2 G2 L F2 ea ec hcd =>
    store_cel F2 hx rfl (Rp.fn ea ec) fun s3 G3 L3 F3 => (k doc pm c' ctv ex hcd).run s3 G3 F3 _ _ fun o fl s4 G4 ho L4 ok => kQ o fl s4 G4 ho ((L.trans L3).trans L4) ok
  obtain ⟨ps, e47, htr, r⟩ := hT0
  have nbr : ∀ b : Addr, b ∉ f.br ∧ b ∉ f.out := fun b => by rw [hbr, hout]; exact ⟨List.not_mem_nil, List.not_mem_nil⟩
  have hPs : s.heap.get? P = some (tabObj ps) := F.keep P _ List.not_mem_nil (nbr P) e47
  have nok := F.ok.gl.2.2.1.2
  have C := (hC nok).keeps F.keep0
  obtain ⟨_, _, mg, bm, o, hmg, hb, n1, n2, hbo, hcls, hdict, hdata⟩ := nok
  have gP : f.g0.get? P = none := by rcases hP with rfl | rfl; exact F.ok.gl.2.1; exact F.ok.gl.2.2.1.1
  have BA : s.heap.BuiltinsAt mg P := ⟨bm, o, hb, n1, n2, (fun q => by rw [q, gP] at hbo; cases hbo), F.keep0 _ _ hbo, hcls, hdict, hdata⟩
  have hg : s.heap.Ns mainGlobals mg := hmg.keeps F.keep0
  have hgP : mainGlobals ≠ P := by rcases hP with rfl | rfl <;> decide
  have hLP : P ≠ f.env.locals := by rcases hP with rfl | rfl; exact F.big47; exact F.big54
  rcases r with hn | ⟨c', o', vs, t, h1, h2, h3, h4⟩
  · refine grow (makeFunction_K (c := cc) (clos := clos) hcl rfl hg hcode C hPs htr hn hgP BA fun c' ctv doc h' tk hx' hge hlt hrec hPt gr => ?_)
    obtain ⟨c', oc, vs, t, e, hoc, hd, hv⟩ := hrec
    cases e
    have hk : ∀ b o, b ≠ P → s.heap.get? b = some o → h'.get? b = some o := fun b o hb e => hx' b o hb e
    have ht : Tabs h' := hmk _ _ F.tabs ⟨_, hPt, by simpa using TriplesOk_snoc _ _ _ _ htr, .inr ⟨c', oc, vs, t, by simpa using codeAmong_snoc _ htr hn, hoc, hd, hv⟩⟩ hk
    have F1 := (F.up htb).ext (h' := h') (tk := tk) (fun b o hb _ e => hk b o (fun q => hb (by rw [q]; exact .head _)) e) (F.ns.at' fun o e => hk _ o (Ne.symm hLP) e) ht gr.toks
    obtain ⟨F2, L2⟩ := F1.addK ((F.up htb).far hge) hoc
    obtain ⟨G3, L3, F3, e3⟩ := F2.alloc (fnMade name qual params body scope clos doc ((mg "__name__").getD .none) c' ctv) rfl
    refine fin _ doc ((mg "__name__").getD .none) c' ctv [(c', oc)] _ G3 (L2.trans L3).lt F3 e3 (fun p hp => ?_) ⟨c', oc, vs, t, rfl, hd, hv, .inr rfl⟩
    have : p = (c', oc) := by simpa using hp
    subst this
    exact L3.κ _ _ (addK_self _ _ _)
  · refine grow (makeFunction_hit (c := cc) (clos := clos) hcl rfl hg hcode C hPs htr h1 BA fun ctv doc h' tk hk hsz gr => ?_)
    have F1 := (F.up htb).all (h' := h') (tk := tk) hk gr.toks
    obtain ⟨G3, L3, F3, e3⟩ := F1.alloc (fnMade name qual params body scope clos doc ((mg "__name__").getD .none) c' ctv) rfl
    refine fin _ doc ((mg "__name__").getD .none) c' ctv [] _ G3 L3.lt F3 e3 (fun p hp => nomatch hp) ⟨c', o', vs, t, rfl, h3, h4, .inl ⟨h2, fun q => ?_, nbr c'⟩⟩
    exact not_tab e47 htr h2 h3 h4 (by simpa using q)⟩
end
theorem mk47 (h h' : Heap) (x : Tabs h) (n : TabAt h' 47 posI (Str.ofString "_int2digits.<locals>.inner")) (k : ∀ b o, b ≠ 47 → h.get? b = some o → h'.get? b = some o) : Tabs h' :=
  ⟨n, x.2.step (fun o e => k 54 o (by decide) e) fun b o vs q t hd h1 e => k b o (by obtain ⟨ps, e', ht, _⟩ := x.1; exact not_tab e' ht e hd h1) e⟩
theorem mk54 (h h' : Heap) (x : Tabs h) (n : TabAt h' 54 posD (Str.ofString "_digits2int.<locals>.inner")) (k : ∀ b o, b ≠ 54 → h.get? b = some o → h'.get? b = some o) : Tabs h' :=
  ⟨x.1.step (fun o e => k 47 o (by decide) e) fun b o vs q t hd h1 e => k b o (by obtain ⟨ps, e', ht, _⟩ := x.2; exact not_tab e' ht e hd h1) e, n⟩
theorem CT.cellsU {w : World} {a : Addr} {pvs : List PV} {pv : PV} {name qual : Str} {params : Arguments} {body : List Stmt} {dV kV doc pm cdv ct oc : Value} {an od : Option Addr} {osl : Array (Option Value)} {names : List Str}
    (ho : (hd.heap_39 w.params).lookup a = some ⟨oc, od, .func (fnOf name qual params body sc dV kV doc pm an cdv ct), osl⟩) (hcd : codeIn (hd.heap_39 w.params) cdv qual = true)
    (hbind : ∀ (s : Shared) (vs : List Value), vs.length = pvs.length → BindsTo s (fnOf name qual params body sc dV kV doc pm an cdv ct) ⟨vs, []⟩ (names.zip vs))
    (hlen : names.length = pvs.length) (hnd : names.Nodup) (hloc : names.all (fun x => sc.names.lookup x == some .local || sc.names.lookup x == some .cell) = true) (hnames : ∀ x ∈ sc.names, sc.names.lookup x.1 = some x.2)
    (hco : sc.isCoroutine = false) (hgen : sc.isGenerator = false) (hk : sc.kind = .function)
    (h : ∀ f : Fm sc dk [], f.w = w → f.code = cdv → f.qual = qual ++ ".<locals>." → f.br = [] → f.out = [] → Tabs f.h0 → (∃ n, f.cells = cellsFrom n sc.names []) → SXU f tb (rho0 sc names pvs) (execs body f.env) (retOk pv)) (htb : ∀ b ∈ tb, b = 47 ∨ b = 54) : CT w tb (dk + 1) a pvs pv := ⟨by
  intro A g0 s τ κ vs hh hroom hunits hgl hkeep htabs htok hκ hvs R hR
  obtain ⟨X, g47, g54, p, loose, mg, mb, T⟩ := id hgl
  have X' := X.keeps hkeep
  have hbig : 54 < s.heap.objs.size := by obtain ⟨_, e, _⟩ := htabs.2; exact Heap.lt_size e
  have mem_cell : ∀ {x : Str}, sc.names.lookup x = some .cell → (x, NameKind.cell) ∈ sc.names := fun h => mem_of_lookup h
  refine codeAny_call_function (fd := fnOf name qual params body sc dV kV doc pm an cdv ct) (body := body) (by exact o7 hroom) (X' _ _ ho) rfl hco hgen rfl (codeRec_of X' hcd) (hbind s vs hvs.length _ _ _ _ ?_)
  refine grow (wpAny_newFunctionEnv_cells hk (fun x hx => ?_) fun env he s₁ x gr => ⟨(T.nolimit.keeps hkeep).keeps x.toInCall.keep, codeAny_func ?_⟩)
  · have h1 : x.1 ∈ names := (List.of_mem_zip (a := x.1) (b := x.2) hx).1
    have h2 := List.all_eq_true.mp hloc x.1 h1
    simp only [Bool.or_eq_true, beq_iff_eq] at h2
    rcases h2 with h2 | h2
    · exact .inl h2
    · exact .inr ⟨h2, cellsFrom_some (.inl (mem_cell h2))⟩
  have he' : env = callEnvC (fnOf name qual params body sc dV kV doc pm an cdv ct) s.heap.objs.size a := he
  clear he
  subst he'
  let f : Fm sc dk [] := { w := w, A := A.deeper (callEnvC (fnOf name qual params body sc dV kV doc pm an cdv ct) s.heap.objs.size a), L := s.heap.objs.size, cells := cellsFrom (s.heap.objs.size + 1) sc.names [], qual := qual ++ ".<locals>.", func := some a, code := cdv, frame := (some s.heap.objs.size), g0 := g0, h0 := s.heap, κ0 := κ, br := [], out := [], rs := false, gens := s.gens, drawn := s.drawn, os := s.os }
  let kf := (callEnvC (fnOf name qual params body sc dV kV doc pm an cdv ct) s.heap.objs.size a).kindOf
  let cs := cellsFrom (s.heap.objs.size + 1) sc.names []
  obtain ⟨h₁, tk₁, hs₁⟩ := x.toInCall.same
  have hcell : ∀ y c, cs.lookup y = some c → ∃ o, s₁.heap.get? c = some o ∧ o.data = .cell (bindC kf (names.zip vs) (fun _ => none) y) := fun y c h => x.cell y c h
  have habove : ∀ y c, cs.lookup y = some c → s.heap.objs.size < c := fun y c h => x.above y c (mem_of_lookup h)
  let own : List (Addr × Obj) := (cs.filter fun p => cs.lookup p.1 == some p.2).map fun p => (p.2, (s₁.heap.get? p.2).getD default)
  have hown : ∀ q ∈ own, ∃ y, cs.lookup y = some q.1 ∧ q.2 = (s₁.heap.get? q.1).getD default := fun q hq => by
    obtain ⟨p, hp, rfl⟩ := List.mem_map.mp hq
    exact ⟨p.1, beq_iff_eq.mp (List.mem_filter.mp hp).2, rfl⟩
  have ownMem : ∀ y c, cs.lookup y = some c → (c, (s₁.heap.get? c).getD default) ∈ own := fun y c h => List.mem_map.mpr ⟨(y, c), List.mem_filter.mpr ⟨mem_of_lookup h, beq_iff_eq.mpr h⟩, rfl⟩
  let G : Gh := ⟨τ, κ, bindL kf (names.zip vs) fun _ => none, own, []⟩
  have F : FS f G (rho0 sc names pvs) s₁ :=
    { ok := ⟨hh, hgl, hk, (by show A.depth + 1 + dk < recursionLimit; exact o6 hroom), (by show A.units + 3 + 4 * dk + 80 < cLine; exact o8 hunits), hkeep, hbig, Nat.le_refl _, (fun b q => nomatch q),
        (fun x1 y c e1 e2 => name_of_addr x.apart (mem_of_lookup e1) (mem_of_lookup e2)), (fun b q => nomatch q), (fun b q => nomatch q), (fun q => nomatch q)⟩
      keep := fun b o _ _ e => x.toInCall.keep b o e
      slots := fun b o hb => nomatch hb
      ns := x.toInCall.ns
      own := fun q hq => by
        obtain ⟨y, h1, h2⟩ := hown q hq
        obtain ⟨o, e1, e2⟩ := hcell y _ h1
        have hlt := habove y _ h1
        refine ⟨by rw [h2, e1]; rfl, Nat.ne_of_gt hlt, gtNe (Nat.lt_of_lt_of_le (by decide) (Nat.le_of_lt (Nat.lt_trans hbig hlt))), gtNe (Nat.lt_trans hbig hlt), .inl (Nat.le_of_lt hlt)⟩
      nd := by
        show (own.map (·.1)).Nodup
        have e : own.map (·.1) = (cs.filter fun p => cs.lookup p.1 == some p.2).map (·.2) := by rw [List.map_map]; rfl
        rw [e]
        exact List.pairwise_map.mpr (x.apart.filter _)
      fr := fun p hp => nomatch hp
      nfr := List.nodup_nil
      vis := fun b o e => ⟨x.toInCall.keep b o (hκ b o e).1, ltNe (Heap.lt_size (hκ b o e).1), (fun q => by
          obtain ⟨y, hy, e'⟩ := List.mem_map.mp q
          obtain ⟨z, h1, _⟩ := hown y hy
          have hlt := habove z _ h1
          have := Heap.lt_size (hκ b o e).1
          rw [← show y.1 = b from e'] at this
          exact absurd this (Nat.not_lt.mpr (Nat.le_of_lt hlt))), List.not_mem_nil, (hκ b o e).2.1, (hκ b o e).2.2, .inl e, List.not_mem_nil⟩
      tabs := htabs.keeps x.toInCall.keep
      tok := htok.le gr.toks
      gens := by rw [hs₁]
      drawn := by rw [hs₁]
      os := by rw [hs₁]
      ents := fun y e hx => by
        have cellAt : sc.names.lookup y = some .cell → ∃ c o, cs.lookup y = some c ∧ s₁.heap.get? c = some o ∧ o.data = .cell (bindC kf (names.zip vs) (fun _ => none) y) ∧ (c, o) ∈ own ∧ s.heap.objs.size ≤ c := fun h => by
          obtain ⟨c, hc⟩ := Option.isSome_iff_exists.mp (cellsFrom_some (n := s.heap.objs.size + 1) (acc := []) (.inl (mem_cell h)))
          obtain ⟨o, e1, e2⟩ := hcell y c hc
          have := ownMem y c hc
          rw [e1] at this
          exact ⟨c, o, hc, e1, e2, this, Nat.le_of_lt (habove y c hc)⟩
        unfold rho0 at hx
        rw [List.lookup_append] at hx
        have e1 : ((names.zip pvs).map (entP sc)).lookup y = ((names.zip pvs).lookup y).map fun pv => if sc.names.lookup y = some .cell then .cel pv else .loc pv :=
          map_look (fun z pv => if sc.names.lookup z = some .cell then Ent.cel pv else Ent.loc pv)
        rw [e1] at hx
        cases q : (names.zip pvs).lookup y with
        | some pv =>
          rw [q] at hx
          obtain ⟨h1, v, h2, h3, h4⟩ := bind_look (kf := kf) names (fun _ => none) (fun _ => none) hlen hnd hvs q
          have hx : some (if sc.names.lookup y = some .cell then Ent.cel pv else Ent.loc pv) = some e := hx
          injection hx with hx
          by_cases hc : sc.names.lookup y = some .cell
          · rw [if_pos hc] at hx
            subst hx
            obtain ⟨c, o, c1, c2, c3, c4, c5⟩ := cellAt hc
            have : bindC kf (names.zip vs) (fun _ => none) y = some v := h4 (by show ¬ sc.names.lookup y = some .local; rw [hc]; decide)
            exact ⟨v, ⟨hc, c, o, c1, c4, c5, by rw [c3, this]⟩, h2⟩
          · rw [if_neg hc] at hx
            subst hx
            have hl := List.all_eq_true.mp hloc y h1
            simp only [Bool.or_eq_true, beq_iff_eq] at hl
            have hl' := hl.resolve_right hc
            exact ⟨hl', v, h3 hl', h2⟩
        | none =>
          rw [q] at hx
          have hx : ((sc.names.filter fun x => x.2 == .cell).map fun x => (x.1, Ent.ucel)).lookup y = some e := hx
          have hm := mem_of_lookup hx
          obtain ⟨p, hp, he⟩ := List.mem_map.mp hm
          obtain ⟨hp1, hp2⟩ := List.mem_filter.mp hp
          injection he with he1 he2
          subst he1 he2
          have hc : sc.names.lookup p.1 = some .cell := by rw [hnames p hp1, beq_iff_eq.mp hp2]
          obtain ⟨c, o, c1, c2, c3, c4, c5⟩ := cellAt hc
          exact ⟨_, hc, c, o, c1, c4, c5, c3⟩ }
  refine (h f rfl rfl rfl rfl rfl htabs ⟨_, rfl⟩).run _ G F _ _ fun o fl s' G' ho ht hok => ?_
  have fin : ∀ v, FS (f.up tb) G' [] s' → Rp G'.τ G'.κ v pv → R (.ok (.ret v)) s' := fun v F' r =>
    hR v s' G'.τ G'.κ ht.τ ht.κ (fun b o hb e => F'.keep b o hb ⟨(fun q => nomatch q), fun q => nomatch q⟩ e) F'.tabs F'.tok F'.gens F'.drawn F'.os (fun b o e => by obtain ⟨v1, _, _, _, v5, v6, v7, _⟩ := F'.vis b o e; exact ⟨v1, v5, v6, v7⟩) r
  cases o with
  | rt p => obtain ⟨v, rfl, F', r⟩ := hok; cases ho; exact fin v F' r
  | nx ρ' => obtain ⟨rfl, F'⟩ := hok; cases ho; exact fin .none (F'.weaken trivial) .none
  | bk ρ' => exact ho.elim
  | ct ρ' => exact ho.elim⟩
/-- a list in a cell of the frame's own is given back -/
theorem SX.retCown {f : Fm sc dk tb} {ρ : Rho} {x : Str} {px pos : Pos} {l : List PV} {Φ : Out → Prop} (hbr : f.br = []) (hx : ρ.lookup x = some (.cown l)) (hΦ : Φ (.rt (.list l))) (hd : (x == ("__debug__" : Str)) = false := by decide) (hn : (x == ("__classdict__" : Str)) = false := by decide) : SX f ρ (exec (.Return (some (.Name x px)) pos) f.env) Φ := ⟨fun s G F Q E k => by
  with_reducible refine wpAny_Return_some ?_
  with_reducible refine wpAny_Name ?_ hd
  obtain ⟨a, vs, n, ho, ha, r⟩ := (F.ents x _ hx).ownAt (l := l) rfl
  refine ho.load F hn ?_
  obtain ⟨F2, L⟩ := F.freeze ha ((F.own _ ha).2.2.2.2.resolve_right fun q => by rw [hbr] at q; cases q)
  exact k (.rt (.list l)) _ s _ hΦ L ⟨_, rfl, F2.weaken trivial, .list (Mine.addK_self _ _ _) (r.mono L.τ L.κ)⟩⟩
theorem closInj {clos : List (Str × Addr)} (h : (clos.map (·.2)).Nodup) : ∀ x y c, clos.lookup x = some c → clos.lookup y = some c → x = y := fun x y c h1 h2 => by
  have m1 := mem_of_lookup h1
  have m2 := mem_of_lookup h2
  clear h1 h2
  induction clos with
  | nil => cases m1
  | cons p r ih =>
    rw [List.map_cons, List.nodup_cons] at h
    rcases List.mem_cons.mp m1 with e1 | e1 <;> rcases List.mem_cons.mp m2 with e2 | e2
    · rw [← e1] at e2; cases e2; rfl
    · subst e1; exact absurd (List.mem_map.mpr ⟨_, e2, rfl⟩) h.1
    · subst e2; exact absurd (List.mem_map.mpr ⟨_, e1, rfl⟩) h.1
    · exact ih h.2 e1 e2
end Mine

end
section
open PySem PySem.W PyProof.Rows PySem.Calls PySem.Spec PySem.Challenge
namespace Mine
theorem fillD1 : rw_ti0009_01 = rw_ti0009_01 ∧ hd.heap_39 = hd.heap_39 := by k_fill; exact ⟨rfl, rfl⟩
theorem g_share (w : World) : nsIn (hd.heap_39 w.params) cStatics sharingNotToldKey = some none := by k_is
variable {sc : Scope} {dk : Nat} {tb : List Addr}
section
variable {f : Fm sc dk tb} {G : Gh} {ρ : Rho} {s : Shared}
/-- values of one kind that == tells apart -/
def PV.eqv : PV → PV → Option Bool
  | .int i, .int j => some (i == j)
  | .tstr x, .tstr y => some (x == y)
  | .bool x, .bool y => some (x == y)
  | _, _ => .none
theorem FS.share (F : FS f G ρ s) (t : Tok) {Q : Bool → Shared → Prop} {E : Value → Shared → Prop} (h : Q false s) : wpAny (model PG f.w) f.A (sharingNotTold t) Q E s := by
  obtain ⟨X, _⟩ := F.ok.gl
  unfold sharingNotTold
  refine wpAny_bind ((looks_nsIn (X.keeps F.keep0) (g_share f.w)).here ?_)
  exact wpAny_pure h
theorem FS.created (F : FS f G ρ s) {e : Bool} {t u : Tok} (h0 : 0 < t) (h1 : 0 < u) (he : t = u → e = true) {Q : Bool → Shared → Prop} {E : Value → Shared → Prop} (h : ∀ r : Bool, (r = true → e = true) → Q r s) : wpAny (model PG f.w) f.A (isSame.created e t u) Q E s := by
  unfold isSame.created
  refine wpAny_ite ?_
  split
  · rename_i q
    have e0 : (t == 0 || u == 0) = false := by
      have : (t == 0) = false := by simpa using Nat.ne_of_gt h0
      have : (u == 0) = false := by simpa using Nat.ne_of_gt h1
      simp [*]
    rw [e0] at q; cases q
  refine wpAny_ite ?_
  split
  · rename_i q; exact wpAny_pure (h true fun _ => he (by simpa using q))
  refine wpAny_ite ?_
  split
  · exact wpAny_pure (h false fun q => by cases q)
  rename_i q
  have he' : e = true := by simpa using q
  refine wpAny_bind (F.share t ?_)
  first | rw [if_neg Bool.false_ne_true] | simp only [Bool.false_eq_true, if_false]
  refine wpAny_bind (F.share u ?_)
  first | rw [if_neg Bool.false_ne_true] | simp only [Bool.false_eq_true, if_false]
  exact wpAny_bind (wpAny_rule (wpAny_bind (wpAny_askSetting (wpAny_pure (h _ fun _ => he')))))
theorem Rp.intI {τ : Tau} {κ : Kap} {v : Value} {i : Int} (h : Rp τ κ v (.int i)) : ∃ t, v = .int i t ∧ τ t = some (.int i) := by cases h; exact ⟨_, rfl, ‹_›⟩
theorem Rp.tstrI {τ : Tau} {κ : Kap} {v : Value} {x : Str} (h : Rp τ κ v (.tstr x)) : ∃ t, v = .str x t ∧ τ t = some (.str x) := by cases h; exact ⟨_, rfl, ‹_›⟩
theorem Rp.boolI {τ : Tau} {κ : Kap} {v : Value} {b : Bool} (h : Rp τ κ v (.bool b)) : v = .bool b := by cases h; rfl
theorem PV.eqv_inv {a b : PV} {e : Bool} (h : a.eqv b = some e) : (∃ i j : Int, a = .int i ∧ b = .int j ∧ (i == j) = e) ∨ (∃ x y : Str, a = .tstr x ∧ b = .tstr y ∧ (x == y) = e) ∨ ∃ x y : Bool, a = .bool x ∧ b = .bool y ∧ (x == y) = e := by
  unfold PV.eqv at h
  split at h
  · exact .inl ⟨_, _, rfl, rfl, Option.some.inj h⟩
  · exact .inr (.inl ⟨_, _, rfl, rfl, Option.some.inj h⟩)
  · exact .inr (.inr ⟨_, _, rfl, rfl, Option.some.inj h⟩)
  · cases h
theorem FS.isSame (F : FS f G ρ s) {v w : Value} {a b : PV} {e : Bool} (hv : Rp G.τ G.κ v a) (hw : Rp G.τ G.κ w b) (he : a.eqv b = some e) {Q : Bool → Shared → Prop} {E : Value → Shared → Prop} (h : ∀ r : Bool, (r = true → e = true) → Q r s) : wpAny (model PG f.w) f.A (PySem.isSame v w) Q E s := by
  rcases PV.eqv_inv he with ⟨i, j, rfl, rfl, rfl⟩ | ⟨x, y, rfl, rfl, rfl⟩ | ⟨x, y, rfl, rfl, rfl⟩
  · obtain ⟨t, rfl, ht⟩ := hv.intI
    obtain ⟨u, rfl, hu⟩ := hw.intI
    have t0 := F.tok.2 _ _ ht
    have u0 := F.tok.2 _ _ hu
    have tu : t = u → (i == j) = true := fun q => by subst q; rw [ht] at hu; injection hu with hu; injection hu with hu; simpa using hu
    show wpAny _ _ (if (i == j && smallInt i) = true then isSame.cachedInt t u else isSame.created (i == j) t u) _ _ s
    refine wpAny_ite ?_
    split
    · rename_i q
      have q1 : (i == j) = true := by simp only [Bool.and_eq_true] at q; exact q.1
      unfold isSame.cachedInt
      refine wpAny_ite ?_
      split
      · rename_i q
        have e0 : (t == 0 || u == 0) = false := by
          have : (t == 0) = false := by simpa using Nat.ne_of_gt t0.1
          have : (u == 0) = false := by simpa using Nat.ne_of_gt u0.1
          simp [*]
        rw [e0] at q; cases q
      · exact wpAny_bind (wpAny_rule (wpAny_pure (h true fun _ => q1)))
    · exact F.created t0.1 u0.1 tu fun r hr => h r hr
  · obtain ⟨t, rfl, ht⟩ := hv.tstrI
    obtain ⟨u, rfl, hu⟩ := hw.tstrI
    have t0 := F.tok.2 _ _ ht
    have u0 := F.tok.2 _ _ hu
    have tu : t = u → (x == y) = true := fun q => by subst q; rw [ht] at hu; injection hu with hu; injection hu with hu; simpa using hu
    show wpAny _ _ (isSame.created (x == y) t u) _ _ s
    exact F.created t0.1 u0.1 tu fun r hr => h r hr
  · cases hv.boolI; cases hw.boolI; exact wpAny_of_eq (a := (x == y)) (by cases x <;> cases y <;> rfl) (h _ fun q => q)
theorem OP2.eqv {a b : PV} {e : Bool} (he : a.eqv b = some e) : OP2 f (compareOp .Eq) a b (.bool e) := ⟨fun ρ s G v w F hv hw Q E k => by
  rcases PV.eqv_inv he with ⟨i, j, rfl, rfl, rfl⟩ | ⟨x, y, rfl, rfl, rfl⟩ | ⟨x, y, rfl, rfl, rfl⟩
  · obtain ⟨t, rfl, ht⟩ := hv.intI; obtain ⟨u, rfl, hu⟩ := hw.intI; with_reducible exact eq_int (k _ _ G (.refl _) F (.bool _))
  · obtain ⟨t, rfl, ht⟩ := hv.tstrI; obtain ⟨u, rfl, hu⟩ := hw.tstrI; with_reducible exact PyProof.Rows.eq_str (k _ _ G (.refl _) F (.bool _))
  · cases hv.boolI; cases hw.boolI; with_reducible exact eq_bool (k _ _ G (.refl _) F (.bool _))⟩
theorem EB.isOrEq {l r l2 r2 : Expr} {p1 p2 pos : Pos} {whole : Sem Value} {a b : PV} {e : Bool} (hl : EV f ρ (eval l f.env) a) (hr : EV f ρ (eval r f.env) b) (hl2 : EV f ρ (eval l2 f.env) a) (hr2 : EV f ρ (eval r2 f.env) b) (he : a.eqv b = some e) (hm : behindInMarks .Is r = false := by rfl) (hm' : behindInMarks .Eq r2 = false := by rfl) :
    EB f ρ (isTrue (.BoolOp .Or [.Compare l [.Is] [r] p1, .Compare l2 [.Eq] [r2] p2] pos) f.env whole) e := ⟨fun s G F Q E k => by
  with_reducible refine isTrue_or ?_
  refine wpAny_isTrue_Compare1 ?_ hm
  refine hl.run s G F _ _ fun v s₁ G₁ L₁ F₁ r₁ => hr.run s₁ G₁ F₁ _ _ fun w s₂ G₂ L₂ F₂ r₂ => ?_
  show wpAny _ _ (do return Value.bool (← PySem.isSame v w)) _ _ _
  refine wpAny_bind (F₂.isSame (r₁.mono L₂.τ L₂.κ) r₂ he fun q hq => wpAny_pure ?_)
  refine wpAny_truthy_bool ?_
  cases q with
  | true => rw [hq rfl] at k; exact k s₂ G₂ (L₁.trans L₂) F₂
  | false =>
    simp only [Bool.false_eq_true, if_false]
    with_reducible refine isTrue_or ?_
    refine (EB.cmp hl2 hr2 (OP2.eqv he) hm').run s₂ G₂ F₂ _ E fun s₃ G₃ L₃ F₃ => ?_
    cases e with
    | true => exact k s₃ G₃ ((L₁.trans L₂).trans L₃) F₃
    | false =>
      simp only [Bool.false_eq_true, if_false]
      with_reducible refine isTrue_or_nil ?_
      exact k s₃ G₃ ((L₁.trans L₂).trans L₃) F₃⟩
end
/-- how often -/
def cntOf (g : PV → Bool) (l : List PV) : Int := ((l.filter g).length : Nat)
/-- what a value gives when it is walked -/
def IterOf (a : PV) (l : List PV) : Prop := ∀ (sc : Scope) (dk : Nat) (tb : List Addr) (f : Fm sc dk tb) (ρ : Rho) (e : Sem Value), EV f ρ e a → IT f ρ e l
theorem IterOf.list (l : List PV) : IterOf (.list l) l := fun _ _ _ _ _ _ h => IT.list h
theorem IterOf.str {p : PV} {x : Str} (hp : p.asS = some x) : IterOf p (x.cps.toList.map fun c => .tstr ⟨#[c]⟩) := fun _ _ _ _ _ _ h => IT.str h hp
theorem ct_countOf {w : World} {a b : PV} {l : List PV} {g : PV → Bool} (hit : IterOf a l)
    (hg : ∀ x ∈ l, PV.eqv x b = some (g x)) : CT w [] 1 143 [a, b] (.int (cntOf g l)) := by
  refine CT.plain (names := [Str.ofString "a", Str.ofString "b"]) (by k_is) (by k_is) ?_ rfl (by decide) (by rfl) (by rfl) rfl rfl rfl ?_ (by decide)
  · intro s vs h; obtain ⟨a, b, rfl⟩ := len2 h; exact BindsTo.of_eq rfl
  intro f hw
  subst hw
  refine SX.cons (SX.assign EV.cint ?_)
  refine SX.cons (SX.for (fun l' ρ => ∃ n : Int, (∀ x ∈ l', PV.eqv x b = some (g x)) ∧ n + cntOf g l' = cntOf g l ∧ SubR [(Str.ofString "count", .loc (.int n)), (Str.ofString "b", .loc b)] ρ) (hit _ _ _ _ _ _ (EV.var rfl rfl)) ⟨0, hg, by simp, rfl, rfl, trivial⟩ ?_ ?_)
  · rintro x l' ρ ⟨n, hg', e, hs⟩
    refine ⟨_, AS.loc, ?_⟩
    have hx := hg' x (.head _)
    have ec : cntOf g (x :: l') = (if g x then 1 else 0) + cntOf g l' := by
      unfold cntOf; rw [List.filter_cons]; split <;> simp; exact o196
    refine SX.weaken (ρ' := [(Str.ofString "i", .loc x), (Str.ofString "count", .loc (.int n)), (Str.ofString "b", .loc b)]) ?_ ⟨rfl, hs.lookup rfl, hs.lookup rfl, trivial⟩
    refine SX.cons' (Ψ := fun o => ∃ ρ, o = .nx ρ ∧ SubR [(Str.ofString "count", .loc (.int (n + (if g x then 1 else 0)))), (Str.ofString "b", .loc b)] ρ) (SX.ite (EB.isOrEq (EV.var rfl rfl) (EV.var rfl rfl) (EV.var rfl rfl) (EV.var rfl rfl) hx) (fun q => ?_) (fun q => ?_)) ?_
    · rw [q]; exact SX.cons (SX.aug rfl rfl EV.cint (OP2.iadd rfl rfl) (SX.nil ⟨_, rfl, rfl, rfl, trivial⟩))
    · rw [q]; exact SX.nil ⟨_, rfl, by simp; rfl, rfl, trivial⟩
    · rintro _ ⟨ρ, rfl, hs⟩
      exact SX.nil ⟨_, hs, _, fun y hy => hg' y (.tail _ hy), by exact o616 e ec, rfl, rfl, trivial⟩
  · rintro ρ ⟨n, _, e, hs⟩
    refine SX.nil ?_
    show SX f _ (execs _ f.env) _
    refine SX.cons (SX.ret (EV.var (hs.lookup rfl) rfl) ?_)
    have : cntOf g [] = 0 := rfl
    rw [this] at e
    show PV.int n = PV.int _
    rw [← e]; simp
end Mine

end
section
open PySem PySem.W PyProof.Rows PySem.Calls PySem.Spec PySem.Challenge
namespace Mine
theorem fillD2 : rw_ti0009_01 = rw_ti0009_01 ∧ hd.heap_39 = hd.heap_39 := by k_fill; exact ⟨rfl, rfl⟩
variable {sc : Scope} {dk : Nat} {tb : List Addr}
section
variable {f : Fm sc dk tb} {G : Gh} {ρ : Rho} {s : Shared}
theorem FS.setFrL {l l' r : List (Addr × Obj)} (F : FS f { G with fr := l ++ r } ρ s) {h' : Heap} {tk : Nat} (hk : l'.map (·.1) = l.map (·.1)) (hs : ∀ b ob, b ∉ l.map (·.1) → s.heap.get? b = some ob → h'.get? b = some ob) (e : ∀ p ∈ l', h'.get? p.1 = some p.2) (hle : s.toks ≤ tk)
    (hc : ∀ p ∈ l, ∀ vs (q : Str) (t : Tok), p.2.data = .fields vs → vs[1]? ≠ some (.str q t)) : FS f { G with fr := l' ++ r } ρ { s with heap := h', toks := tk } := by
  have hin : ∀ b ∈ l.map (·.1), ∃ o, (b, o) ∈ l := fun b hb => by obtain ⟨p, hp, rfl⟩ := List.mem_map.mp hb; exact ⟨p.2, hp⟩
  have hfr : ∀ b, b ∈ l.map (·.1) → s.heap.get? b ≠ none ∧ b ≠ f.env.locals ∧ b ∉ G.own.map (·.1) ∧ b ≠ 47 ∧ b ≠ 54 ∧ (f.h0.objs.size ≤ b ∨ b ∈ f.br) := fun b hb => by
    obtain ⟨o, ho⟩ := hin b hb
    have := F.fr _ (List.mem_append_left _ ho)
    exact ⟨(by rw [this.1]; exact nofun), this.2⟩
  have keys : (l' ++ r).map (·.1) = (l ++ r).map (·.1) := by rw [List.map_append, List.map_append, hk]
  have nd : ∀ p ∈ r, p.1 ∉ l.map (·.1) := fun p hp q => by
    have := F.nfr
    rw [show (({ G with fr := l ++ r } : Gh).fr) = l ++ r from rfl, List.map_append] at this
    exact (List.nodup_append.mp this).2.2 _ q _ (List.mem_map.mpr ⟨p, hp, rfl⟩) rfl
  refine { ok := F.ok, keep := fun b ob hb hb' eb => hs b ob (fun q => ?_) (F.keep b ob hb hb' eb), slots := fun b ob hb eb => ?_, ns := F.ns.at' fun ob eb => hs _ ob (fun q => ?_) eb, own := fun p hp => ⟨hs _ _ (fun q => ?_) (F.own p hp).1, (F.own p hp).2⟩, nd := F.nd, fr := fun p hp => ?_, nfr := ?_, vis := fun b ob eb => ?_,
           tabs := F.tabs.step (fun o e => hs _ _ (fun q => ?_) e) (fun o e => hs _ _ (fun q => ?_) e) fun b ob vs qq t hd h1 eb => hs _ _ (fun q => ?_) eb, tok := F.tok.le hle, gens := F.gens, drawn := F.drawn, os := F.os, ents := fun y ent hy => (F.ents y ent hy).fr (r := l' ++ r) }
  · obtain ⟨_, _, _, _, _, h6⟩ := hfr b q
    exact h6.elim (fun z => absurd (Heap.lt_size eb) (Nat.not_lt.mpr z)) hb'.1
  · obtain ⟨sl, e'⟩ := F.slots b ob hb eb
    refine ⟨sl, hs b _ (fun q => ?_) e'⟩
    obtain ⟨_, _, _, _, _, h6⟩ := hfr b q
    exact h6.elim (fun z => absurd (Heap.lt_size eb) (Nat.not_lt.mpr z)) (F.ok.outs b hb).2.2.2.1
  · exact (hfr _ q).2.1 rfl
  · exact (hfr _ q).2.2.1 (List.mem_map.mpr ⟨p, hp, rfl⟩)
  · rcases List.mem_append.mp hp with hp | hp
    · have : p.1 ∈ l.map (·.1) := hk ▸ List.mem_map.mpr ⟨p, hp, rfl⟩
      exact ⟨e p hp, (hfr _ this).2⟩
    · have h := F.fr p (List.mem_append_right _ hp)
      exact ⟨hs _ _ (nd p hp) h.1, h.2⟩
  · show ((l' ++ r).map (·.1)).Nodup
    rw [keys]; exact F.nfr
  · obtain ⟨h1, h2, h3, h4, h5⟩ := F.vis b ob eb
    refine ⟨hs _ _ (fun q => h4 ?_) h1, h2, h3, ?_, h5⟩
    · show b ∈ (l ++ r).map (·.1)
      rw [List.map_append]; exact List.mem_append_left _ q
    · show b ∉ (l' ++ r).map (·.1)
      rw [keys]; exact h4
  · exact (hfr _ q).2.2.2.1 rfl
  · exact (hfr _ q).2.2.2.2.1 rfl
  · obtain ⟨o, ho⟩ := hin b q
    have := (F.fr _ (List.mem_append_left _ ho)).1
    rw [eb] at this; cases this
    exact hc _ ho vs qq t hd h1
def enObj (it : Addr) (i : Int) (old : Value) : Obj := { cls := .type "enumerate", dict := none, data := .fields #[.none, .bool false, .ref it, rawInt i, .none, old], slots := #[] }
def enOut (it : Addr) (i : Int) (old : Value) (a : Addr) : Obj := { cls := .type "enumerate", dict := none, data := .fields #[rawInt a, .bool false, .ref it, rawInt i, .none, old], slots := #[] }
theorem forEnum {x : Str} {xp cpos : Pos} {xi xv : Str} {pi pv tp : Pos} {k1 : Nat} {e : Expr} {body orelse : List Stmt} {pos : Pos} {l : List PV} {Φ : Out → Prop} (R : Nat → List PV → Rho → Prop)
    (hx : nsIn (hd.heap_39 f.w.params) mainGlobals x = some .none) (hb : bootBuiltins x = some (.type "enumerate")) (h : EV f ρ (eval e f.env) (.list l)) (h0 : R 0 l ρ)
    (turn : ∀ i y l ρ, R i (y :: l) ρ → SX f ((xv, .loc y) :: (xi, .loc (.int (i : Nat))) :: ρ) (execs body f.env) (FOut (R (i + 1)) Φ l))
    (F : FS f G ρ s) {Q : Flow → Shared → Prop} {E : Value → Shared → Prop}
    (fin : ∀ i ρ' s' G', R i [] ρ' → G.Lt G' → FS f G' ρ' s' → wpAny (model PG f.w) f.A (execs orelse f.env) Q (notedBy (model PG f.w) f.A f.env (cameBackBy (model PG f.w) f.A f.env E)) s')
    (k : ∀ o fl s' G', Φ o → G.Lt G' → OutOk f G' o fl s' → Q fl s')
    (hxi : f.env.kindOf xi = some .local := by rfl) (hxv : f.env.kindOf xv = some .local := by rfl) (hkd : f.env.kindOf x = some .globalImplicit := by rfl)
    (hn : x ≠ "__name__" := by decide) (hdb : (x == ("__debug__" : Str)) = false := by decide) (he : starEach [e] f.env = (false, eval e f.env) :: starEach [] f.env := by rfl) (hplain : (backTo cpos (starEach [] f.env)).any (·.1) = false := by rfl)
    (he' : eval (.Call (.Name x xp) [e] [] cpos) f.env = (do callWith cpos (← eval (.Name x xp) f.env) [] (backTo cpos (starEach [e] f.env)) (backToKw cpos (keywordEach [] f.env))) := by rfl)
    (hs : ∀ v, foldedSetIterable (.Call (.Name x xp) [e] [] cpos) f.env v = pure v := by intro _; rfl) :
    wpAny (model PG f.w) f.A (exec (.For (.Tuple [.Name xi pi, .Name xv pv] k1 tp) (.Call (.Name x xp) [e] [] cpos) body orelse pos) f.env) Q E s := by
  with_reducible refine wpAny_For ?_ hs
  with_reducible refine Call_ ?_ he'
  refine eval_bltn F hx hb hn hkd hdb ?_
  with_reducible refine PyProof.Rows.callWith_type1 ?_ he hplain
  refine (EL.cons h EL.nil he).run s G F _ _ fun vs s₁ G₁ L₁ F₁ r₁ => ?_
  obtain ⟨v, rfl, rv⟩ := r₁.len1
  obtain ⟨a, vs, n', rfl, e1, r2⟩ := rv.isList
  refine call_enumerate_list (F₁.listAt e1) fun h' hen hit hsz hkp => ?_
  refine wpAny_pyIter_enum hen ?_
  obtain ⟨oi, ho1, ho2, ho3⟩ := id hit
  have Fa := F₁.all (h' := h') (tk := s₁.toks) hkp (Nat.le_refl _)
  have X1 := F₁.far (Nat.le_refl s₁.heap.objs.size)
  have X2 := F₁.far (Nat.le_succ s₁.heap.objs.size)
  have Fb := Fa.pushFr X1 ho1
  have X2' : Far f { G₁ with fr := (s₁.heap.objs.size, oi) :: G₁.fr } (s₁.heap.objs.size + 1) :=
    { X2 with
      fr := fun q => by
        rcases List.mem_cons.mp q with q | q
        · exact absurd q (Nat.succ_ne_self _)
        · exact X2.fr q }
  have Fc := Fb.pushFr X2' (o := enObj s₁.heap.objs.size 0 .none) hen
  generalize hit' : s₁.heap.objs.size = it at *
  generalize hee : it + 1 = ee at *
  have hne : ee ≠ it := by rw [← hee]; exact Nat.succ_ne_self _
  refine codeAny_forLoop_any (fun n s₂ => ∃ G₂ ρ₂ o₂ i old, i ≤ l.length ∧ n = l.length - i ∧ G₁.Lt { G₂ with fr := G₁.fr } ∧ FS f { G₂ with fr := (ee, enObj it ((i : Nat) : Int) old) :: (it, o₂) :: G₁.fr } ρ₂ s₂ ∧ o₂.cls = .type "list_iterator" ∧ o₂.data = .fields #[.ref a, .int (i : Nat) 0] ∧ R i (l.drop i) ρ₂) ?_ l.length
    ⟨G₁, ρ, oi, 0, .none, Nat.zero_le _, by simp, .refl _, Fc, ho2, ho3, h0⟩
  rintro n s₂ ⟨G₂, ρ₂, o₂, i, old, hi, rfl, L₂, F₂, hc2, hd2, hR⟩
  have hen2 : IsEnum s₂.heap ee it ((i : Nat) : Int) old := (F₂.fr _ (.head _)).1
  have hit2 : s₂.heap.IsListIter it a i := ⟨o₂, (F₂.fr _ (.tail _ (.head _))).1, hc2, hd2⟩
  have e2 : G₂.κ a = some (listOf vs.toArray n') := L₂.κ _ _ e1
  have hl2 : s₂.heap.IsList a vs.toArray := F₂.listAt e2
  have r2' := r2.mono L₂.τ L₂.κ
  have hci : ∀ vs (q : Str) (t : Tok), o₂.data = .fields vs → vs[1]? ≠ some (.str q t) := fun vs q t e => by rw [hd2] at e; cases e; exact nofun
  rcases Nat.lt_or_ge i l.length with hlt | hge
  · have hdr : l.drop i = l[i] :: l.drop (i + 1) := List.drop_eq_getElem_cons hlt
    obtain ⟨v, hv, rv⟩ := r2'.get (List.getElem?_eq_getElem hlt)
    refine wpAny_pyNext_enum_item hen2 hit2 hl2 (by simpa using hv) hne fun h₁ heo hit₁ ht₁ hz₁ hk₁ => ?_
    obtain ⟨o₃, g1, g2, g3⟩ := id hit₁
    have F₃ : FS f { G₂ with fr := [(ee, enOut it ((i : Int) + 1) v s₂.heap.objs.size), (it, o₃)] ++ G₁.fr } ρ₂ { s₂ with heap := h₁, toks := s₂.toks + 1 } := by
      refine FS.setFrL (l := [(ee, enObj it ((i : Nat) : Int) old), (it, o₂)]) F₂ rfl (fun b ob hb eb => hk₁ b ob (fun q => hb (q ▸ .head _)) (fun q => hb (q ▸ .tail _ (.head _))) eb) (fun p hp => ?_) (Nat.le_succ _) (fun p hp => ?_)
      · rcases List.mem_cons.mp hp with rfl | hp
        · exact heo
        · rcases List.mem_cons.mp hp with rfl | hp
          · exact g1
          · cases hp
      · rcases List.mem_cons.mp hp with rfl | hp
        · intro vs q t e; cases e; exact nofun
        · rcases List.mem_cons.mp hp with rfl | hp
          · exact hci
          · cases hp
    refine wpAny_letOwnedTupleGo_enum heo fun h₂ he₂ hs₂ => ?_
    have F₄ : FS f { G₂ with fr := [(ee, enObj it ((i : Int) + 1) v)] ++ ((it, o₃) :: G₁.fr) } ρ₂ { s₂ with heap := h₂, toks := s₂.toks + 1 } := by
      refine FS.setFrL (l := [(ee, enOut it ((i : Int) + 1) v s₂.heap.objs.size)]) F₃ rfl (fun b ob hb eb => (hs₂.2 b (fun q => hb (q ▸ .head _))).trans eb) (fun p hp => ?_) (Nat.le_refl _) (fun p hp => ?_)
      · rcases List.mem_cons.mp hp with rfl | hp
        · exact he₂
        · cases hp
      · rcases List.mem_cons.mp hp with rfl | hp
        · intro vs q t e; cases e; exact nofun
        · cases hp
    have hτ : G₂.τ s₂.toks = none := F₂.tok.none (Nat.le_refl _)
    obtain ⟨F₅, L₅⟩ := F₄.addT (t := s₂.toks) (.int (i : Nat)) hτ F₂.tok.1 (Nat.lt_succ_self _)
    have heH : ee < s₂.heap.objs.size := Heap.lt_size hen2
    have ht₂ : IsTup h₂ s₂.heap.objs.size #[.int (i : Nat) s₂.toks, v] := ⟨_, (hs₂.2 _ (Nat.ne_of_gt heH)).trans ht₁, rfl, _, rfl⟩
    refine assign_Tuple_tuple F₅.ok.hh ht₂ rfl rfl fun h' he => ?_
    have F₆ := F₅.extSize he
    refine assignInOrder_cons (wpAny_assign_Name (store_loc F₆ hxi (v := .int (i : Nat) s₂.toks) (pv := .int (i : Nat)) (.int (addT_self _ _ _)) fun s7 G7 t7 F7 => ?_))
    refine assignInOrder_cons (wpAny_assign_Name (store_loc F7 hxv (rv.mono (L₅.τ.trans t7.τ) (L₅.κ.trans t7.κ)) fun s8 G8 t8 F8 => assignInOrder_nil ?_))
    rw [hdr] at hR
    refine (turn i l[i] _ ρ₂ hR).run s8 G8 F8 _ _ fun oo fl s9 G9 ho t9 ok => ?_
    have tt := (t7.trans t8).trans t9
    have lt2 : G₁.Lt { G9 with fr := G₁.fr } := L₂.trans ⟨L₅.τ.trans tt.τ, L₅.κ.trans tt.κ, rfl⟩
    have e9 : G9.fr = (ee, enObj it ((i : Int) + 1) v) :: (it, o₃) :: G₁.fr := tt.fr
    have fr9 : ∀ {ρ₄}, FS f G9 ρ₄ s9 → FS f { G9 with fr := (ee, enObj it ((i : Int) + 1) v) :: (it, o₃) :: G₁.fr } ρ₄ s9 := fun F₄ => by rw [← e9]; exact F₄
    have LL : G.Lt { G9 with fr := G₁.fr } := L₁.lt.trans lt2
    have more : ∀ ρ', FS f G9 ρ' s9 → (∃ ρ'', SubR ρ'' ρ' ∧ R (i + 1) (l.drop (i + 1)) ρ'') → ∃ m, m < l.length - i ∧ ∃ (G₂ : Gh) (ρ₂ : Rho) (o₂ : Obj) (i : Nat) (old : Value), i ≤ l.length ∧ m = l.length - i ∧ G₁.Lt { G₂ with fr := G₁.fr } ∧ FS f { G₂ with fr := (ee, enObj it ((i : Nat) : Int) old) :: (it, o₂) :: G₁.fr } ρ₂ s9 ∧ o₂.cls = .type "list_iterator" ∧ o₂.data = .fields #[.ref a, .int (i : Nat) 0] ∧ R i (l.drop i) ρ₂ := fun ρ' F9 h => by
      obtain ⟨ρ'', hsub, hR'⟩ := h
      exact ⟨l.length - (i + 1), by exact o420 hlt, G9, ρ'', o₃, i + 1, v, hlt, rfl, lt2, (fr9 F9).weaken hsub, g2, g3, hR'⟩
    cases oo with
    | nx ρ' => obtain ⟨rfl, F9⟩ := ok; exact more ρ' F9 ho
    | ct ρ' => obtain ⟨rfl, F9⟩ := ok; exact more ρ' F9 ho
    | bk ρ' => obtain ⟨rfl, F9⟩ := ok; exact k _ .next s9 { G9 with fr := G₁.fr } ho ⟨LL.τ, LL.κ, L₁.fr⟩ ⟨rfl, (fr9 F9).popFr.popFr⟩
    | rt pv => obtain ⟨u, rfl, F9, r⟩ := ok; exact k _ (.ret u) s9 { G9 with fr := G₁.fr } ho ⟨LL.τ, LL.κ, L₁.fr⟩ ⟨u, rfl, (fr9 F9).popFr.popFr, r⟩
  · have hnil : l.drop i = [] := List.drop_eq_nil_of_le hge
    rw [hnil] at hR
    refine wpAny_pyNext_enum_end F.ok.hh hen2 hit2 hl2 (by simp only [List.getElem?_toArray]; exact List.getElem?_eq_none (by rw [r2.length]; exact hge)) fun h₁ he₁ => ?_
    have F₃ := (F₂.popFr).dropFr he₁ hci
    exact fin i ρ₂ _ { G₂ with fr := G₁.fr } hR ⟨L₁.τ.trans L₂.τ, L₁.κ.trans L₂.κ, L₁.fr⟩ F₃
end
end Mine

end
section
open PySem PySem.W PyProof.Rows PySem.Calls PySem.Spec PySem.Challenge
namespace Mine
theorem fillD3 : rw_ti0009_01 = rw_ti0009_01 ∧ hd.heap_39 = hd.heap_39 := by k_fill; exact ⟨rfl, rfl⟩
theorem g_VE (w : World) : nsIn (hd.heap_39 w.params) mainGlobals (Str.ofString "ValueError") = some none := by k_is
theorem b_VE : bootBuiltins (Str.ofString "ValueError") = some (.type "ValueError") := PyProof.Rows.Boot.«ValueError»
variable {sc : Scope} {dk : Nat} {tb : List Addr}
/-- the place of the first -/
theorem ct_indexOf {w : World} {b : PV} {l : List PV} {g : PV → Bool} {n : Nat} (hg : ∀ x ∈ l, PV.eqv x b = some (g x)) (hn : l.findIdx? g = some n) : CT w [] 1 150 [.list l, b] (.int (n : Nat)) := by
  refine CT.plain (names := [Str.ofString "a", Str.ofString "b"]) (by k_is) (by k_is) ?_ rfl (by decide) (by rfl) (by rfl) rfl rfl rfl ?_ (by decide)
  · intro s vs h; obtain ⟨a, b, rfl⟩ := len2 h; exact BindsTo.of_eq rfl
  intro f hw
  subst hw
  refine SX.cons ⟨fun s G F Q E k => forEnum (Φ := thenS f [] (retOk (.int (n : Nat)))) (fun i l' ρ => ∃ m, (∀ x ∈ l', PV.eqv x b = some (g x)) ∧ l'.findIdx? g = some m ∧ i + m = n ∧ SubR [(Str.ofString "b", .loc b)] ρ)
    (g_enumerate _) b_enumerate (EV.var rfl rfl) ⟨n, hg, hn, by exact o206, rfl, trivial⟩ ?_ F ?_ k⟩
  · rintro i y l' ρ ⟨m, hg', hm, e, hs⟩
    have hy := hg' y (.head _)
    rw [List.findIdx?_cons] at hm
    refine SX.weaken (ρ' := [(Str.ofString "j", .loc y), (Str.ofString "i", .loc (.int (i : Nat))), (Str.ofString "b", .loc b)]) ?_ ⟨rfl, rfl, hs.lookup rfl, trivial⟩
    refine SX.cons (SX.ite (EB.isOrEq (EV.var rfl rfl) (EV.var rfl rfl) (EV.var rfl rfl) (EV.var rfl rfl) hy) (fun q => ?_) (fun q => ?_))
    · rw [q] at hm
      have : m = 0 := by simpa using hm.symm
      subst this
      refine SX.cons (SX.ret (EV.var rfl rfl) ?_)
      show PV.int _ = PV.int _
      rw [← e]; rfl
    · rw [q] at hm
      simp only [Bool.false_eq_true, if_false, Option.map_eq_some_iff] at hm
      obtain ⟨m', hm', rfl⟩ := hm
      exact SX.nil (SX.nil ⟨[(Str.ofString "b", .loc b)], ⟨rfl, trivial⟩, m', fun x hx => hg' x (.tail _ hx), hm', by exact o57 e, rfl, trivial⟩)
  · rintro i ρ s' G' ⟨m, _, hm, _⟩
    simp at hm
/-- a def's contract that raises -/
structure CTR (w : World) (k : Nat) (a : Addr) (pvs : List PV) (X : String) : Prop where
  run : ∀ (A : Around) (g0 : Heap) (s : Shared) (τ : Tau) (κ : Kap) (vs : List Value) (outer : List Env) (base : Heap), A.handled = none → A.depth + k < recursionLimit → A.units + 4 * k + 80 < cLine → Gl w g0 →
    (∀ b o, g0.get? b = some o → s.heap.get? b = some o) → Tabs s.heap → TokOk τ s.toks → (∀ b o, κ b = some o → s.heap.get? b = some o ∧ b ≠ 47 ∧ b ≠ 54) → RpAll τ κ vs pvs →
    A.frames = some outer → base.StaysIn s.heap → s.heap.FunFrames base outer →
    ∀ R : Result → Shared → Prop, (∀ e t h' tk, Heap.FlyingW base outer e (.type X) (.ref t) h' → s.heap.UpToSlots h' → TokOk τ tk → R (.error (.ref e)) { s with heap := h', toks := tk }) →
    codeAny (model PG w) A (.call (.ref a) ⟨vs, []⟩) R s
/-- statements that raise a new exception of class X -/
structure SXR (f : Fm sc dk tb) (ρ : Rho) (t : Sem Flow) (X : String) : Prop where
  run : ∀ s G, FS f G ρ s → ∀ (Q : Flow → Shared → Prop) (E : Value → Shared → Prop), PassesOwn (model PG f.w) f.A f.env E →
    (∀ e h' s₁ G₁ vs, TLe G.τ G₁.τ → FS f G₁ [] s₁ → Heap.MadeExcOf s₁.heap h' e (.type X) vs → E (.ref e) { s₁ with heap := h' }) → wpAny (model PG f.w) f.A t Q E s
theorem CTR.plain {w : World} {a : Addr} {pvs : List PV} {X : String} {name qual : Str} {params : Arguments} {body : List Stmt} {dV kV doc pm cdv ct oc : Value} {an od : Option Addr} {osl : Array (Option Value)} {names : List Str}
    (ho : (hd.heap_39 w.params).lookup a = some ⟨oc, od, .func (fnOf name qual params body sc dV kV doc pm an cdv ct), osl⟩) (hcd : codeIn (hd.heap_39 w.params) cdv qual = true)
    (hbind : ∀ (s : Shared) (vs : List Value), vs.length = pvs.length → BindsTo s (fnOf name qual params body sc dV kV doc pm an cdv ct) ⟨vs, []⟩ (names.zip vs))
    (hlen : names.length = pvs.length) (hnd : names.Nodup) (hloc : names.all (fun x => sc.names.lookup x == some .local) = true) (hcell : sc.names.all (fun x => x.2 != .cell) = true)
    (hco : sc.isCoroutine = false) (hgen : sc.isGenerator = false) (hk : sc.kind = .function)
    (h : ∀ f : Fm sc dk [], f.w = w → SXR f (names.zip (pvs.map .loc)) (execs body f.env) X) : CTR w (dk + 1) a pvs X := ⟨by
  intro A g0 s τ κ vs outer base hh hroom hunits hgl hkeep htabs htok hκ hvs hfr hst hff R hR
  obtain ⟨XX, g47, g54, p, loose, mg, mb, T⟩ := id hgl
  have X' := XX.keeps hkeep
  have hbig : 54 < s.heap.objs.size := by obtain ⟨_, e, _⟩ := htabs.2; exact Heap.lt_size e
  refine codeAny_call_def (fd := fnOf name qual params body sc dV kV doc pm an cdv ct) (body := body) (binds := names.zip vs) (by exact o7 hroom) (X' _ _ ho) rfl (T.nolimit.keeps hkeep) (codeRec_of X' hcd) rfl (hbind s vs hvs.length) ?_ ?_ (fun h₁ hns hk₁ => ?_) hco hgen hk
  · intro x hx q
    have := List.all_eq_true.mp hcell x hx
    rw [q] at this; exact absurd this (by decide)
  · intro x hx
    have h1 : x.1 ∈ names := (List.of_mem_zip (a := x.1) (b := x.2) hx).1
    have := List.all_eq_true.mp hloc x.1 h1
    exact beq_iff_eq.mp this
  let f : Fm sc dk [] := { w := w, A := A.deeper (callEnv (fnOf name qual params body sc dV kV doc pm an cdv ct) s.heap.objs.size a), L := s.heap.objs.size, cells := [], qual := qual ++ ".<locals>.", func := some a, code := cdv, frame := (some s.heap.objs.size), g0 := g0, h0 := s.heap, κ0 := κ, br := [], out := [], rs := false, gens := s.gens, drawn := s.drawn, os := s.os }
  let G : Gh := ⟨τ, κ, fun x => (names.zip vs).reverse.lookup x, [], []⟩
  have F : FS f G (names.zip (pvs.map .loc)) { s with heap := h₁, toks := s.toks + (names.zip vs).length } :=
    { ok := ⟨hh, hgl, hk, (by show A.depth + 1 + dk < recursionLimit; exact o6 hroom), (by show A.units + 3 + 4 * dk + 80 < cLine; exact o8 hunits), hkeep, hbig, Nat.le_refl _, (fun b q => nomatch q), (fun x y c e => nomatch e), (fun b q => nomatch q), (fun b q => nomatch q), (fun q => nomatch q)⟩
      keep := fun b o _ _ e => hk₁ b o e
      slots := fun b o hb => nomatch hb
      ns := hns
      own := fun p hp => nomatch hp
      nd := List.nodup_nil
      fr := fun p hp => nomatch hp
      nfr := List.nodup_nil
      vis := fun b o e => ⟨hk₁ b o (hκ b o e).1, ltNe (Heap.lt_size (hκ b o e).1), List.not_mem_nil, List.not_mem_nil, (hκ b o e).2.1, (hκ b o e).2.2, .inl e, List.not_mem_nil⟩
      tabs := htabs.keeps hk₁
      tok := htok.le (Nat.le_add_right _ _)
      gens := rfl
      drawn := rfl
      os := rfl
      ents := fun x e hx => by
        obtain ⟨h1, v, pv, rfl, h2, h3⟩ := binds_look names hlen hnd hvs hx
        have := List.all_eq_true.mp hloc x h1
        exact ⟨beq_iff_eq.mp this, v, h2, h3⟩ }
  refine (h f rfl).run _ G F _ _ PassesOwn.leaving fun e h' s₁ G₁ vs' ht F₁ hx => ?_
  have kk : ∀ b o, s.heap.get? b = some o → s₁.heap.get? b = some o := fun b o e => F₁.keep b o (fun q => nomatch q) ⟨(fun q => nomatch q), fun q => nomatch q⟩ e
  have hL : base.get? s.heap.objs.size = none := by
    cases q : base.get? s.heap.objs.size with
    | none => rfl
    | some o => exact absurd (Heap.lt_size (hst _ _ q)) (Nat.lt_irrefl _)
  have hL1 : ∃ o, s₁.heap.get? s.heap.objs.size = some o ∧ ∀ vs, o.data ≠ .fields vs := by
    obtain ⟨o, es, ep, e1, e2, _⟩ := F₁.ns
    exact ⟨o, e1, fun vs q => by rw [e2] at q; cases q⟩
  obtain ⟨oL, eL1, eL2⟩ := hL1
  have ff : s₁.heap.FunFrames base (callEnv (fnOf name qual params body sc dV kV doc pm an cdv ct) s.heap.objs.size a :: outer) :=
    ⟨by show sc.kind ≠ .module; rw [hk]; decide, ⟨_, oL, rfl, hL, eL1, eL2⟩, hff.of_keeps fun b o e _ => ⟨o, kk b o e, rfl⟩⟩
  refine wpAny_leaves_madeW (base := base) (h := s₁.heap) (Around.frames_deeper hfr) rfl (fun b o e => kk b o (hst b o e)) ff hx fun h'' t k1 k2 k3 k4 => ?_
  have := hR e t h'' s₁.toks k1 ((Heap.UpToSlots.of_keeps kk).trans ((Heap.UpToSlots.of_keeps hx.keeps).trans k4)) ⟨F₁.tok.1, fun u x e => F₁.tok.2 u x (ht u x e)⟩
  have e1 : s₁.gens = s.gens := F₁.gens
  have e2 : s₁.drawn = s.drawn := F₁.drawn
  have e3 : s₁.os = s.os := F₁.os
  show R _ { heap := h'', gens := s₁.gens, drawn := s₁.drawn, toks := s₁.toks, os := s₁.os }
  rw [e1, e2, e3]
  exact this⟩
theorem ctr_indexOf {w : World} {b : PV} {l : List PV} (hg : ∀ x ∈ l, PV.eqv x b = some false) : CTR w 1 150 [.list l, b] "ValueError" := by
  refine CTR.plain (names := [Str.ofString "a", Str.ofString "b"]) (by k_is) (by k_is) ?_ rfl (by decide) (by rfl) (by rfl) rfl rfl rfl ?_
  · intro s vs h; obtain ⟨a, b, rfl⟩ := len2 h; exact BindsTo.of_eq rfl
  intro f hw
  subst hw
  refine ⟨fun s G F Q E hE k => ?_⟩
  with_reducible refine wpAny_execs_cons ?_
  refine forEnum (Φ := fun _ => False) (fun i l' ρ => (∀ x ∈ l', PV.eqv x b = some false) ∧ SubR [(Str.ofString "b", .loc b)] ρ) (g_enumerate _) b_enumerate (EV.var rfl rfl) ⟨hg, rfl, trivial⟩ ?_ F ?_ (fun o fl s' G' h => h.elim)
  · rintro i y l' ρ ⟨hg', hs⟩
    have hy := hg' y (.head _)
    refine SX.weaken (ρ' := [(Str.ofString "j", .loc y), (Str.ofString "i", .loc (.int (i : Nat))), (Str.ofString "b", .loc b)]) ?_ ⟨rfl, rfl, hs.lookup rfl, trivial⟩
    refine SX.cons (SX.ite (EB.isOrEq (EV.var rfl rfl) (EV.var rfl rfl) (EV.var rfl rfl) (EV.var rfl rfl) hy) (fun q => by cases q) (fun q => ?_))
    exact SX.nil (SX.nil ⟨[(Str.ofString "b", .loc b)], ⟨rfl, trivial⟩, fun x hx => hg' x (.tail _ hx), rfl, trivial⟩)
  · rintro i ρ s' G' _ L' F'
    refine wpAny_passesOwn hE ?_
    with_reducible refine wpAny_execs_cons ?_
    refine Raise_madeB PySem.F.excCall_ValueError PySem.F.excRaise_ValueError F'.ok.hh ?_
    refine eval_bltn F' (g_VE _) b_VE (by decide) rfl (by decide) ⟨rfl, ?_⟩
    refine (EL.cons EV.cstr EL.nil).run s' G' F' _ _ fun vs s₂ G₂ L₂ F₂ r₂ => ⟨by rw [r₂.length]; decide, fun h' e hx => ?_⟩
    exact k e h' s₂ G₂ vs (L'.τ.trans L₂.τ) (F₂.weaken trivial) (Heap.MadeExc.of hx)
end Mine

end
section
open PySem PySem.W PyProof.Rows PySem.Calls PySem.Spec PySem.Challenge
namespace Mine
variable {sc : Scope} {dk : Nat} {tb : List Addr}
section
variable {f : Fm sc dk tb} {G : Gh} {ρ : Rho} {s : Shared}
/-- the step in which frames' slots may turn -/
theorem FS.extS (F : FS f G ρ s) {s' : Shared} (hk : ∀ b o, b ≠ f.env.locals → b ∉ f.out → s.heap.get? b = some o → s'.heap.get? b = some o)
    (hsl : ∀ b o, (b = f.env.locals ∨ b ∈ f.out) → s.heap.get? b = some o → (∀ vs, o.data ≠ .fields vs) → ∃ sl, s'.heap.get? b = some { o with slots := sl }) (htok : TokOk G.τ s'.toks) (e1 : s'.gens = s.gens) (e2 : s'.drawn = s.drawn) (e3 : s'.os = s.os) : FS f G ρ s' where
  ok := F.ok
  keep := fun b o hb hb' e => hk b o (ltNe (Nat.lt_of_lt_of_le (Heap.lt_size e) F.ok.low)) hb'.2 (F.keep b o hb hb' e)
  slots := fun b o hb e => by
    obtain ⟨sl, e'⟩ := F.slots b o hb e
    obtain ⟨_, _, _, _, o', eo, hd⟩ := F.ok.outs b hb
    rw [e] at eo; cases eo
    obtain ⟨sl', e''⟩ := hsl b _ (.inr hb) e' hd
    exact ⟨sl', e''⟩
  ns := by
    obtain ⟨o, es, ep, ho, hd, r⟩ := F.ns
    obtain ⟨sl, hs⟩ := hsl _ o (.inl rfl) ho fun vs q => by rw [hd] at q; cases q
    exact ⟨_, es, ep, hs, hd, r⟩
  own := fun p hp => by
    have h := F.own p hp
    refine ⟨hk _ _ h.2.1 (fun q => ?_) h.1, h.2⟩
    rcases h.2.2.2.2 with z | z
    · obtain ⟨_, _, _, _, o', eo, _⟩ := F.ok.outs _ q
      exact absurd (Heap.lt_size eo) (Nat.not_lt.mpr z)
    · exact (F.ok.outs _ q).2.2.2.1 z
  nd := F.nd
  fr := fun p hp => by
    have h := F.fr p hp
    refine ⟨hk _ _ h.2.1 (fun q => ?_) h.1, h.2⟩
    rcases h.2.2.2.2.2 with z | z
    · obtain ⟨_, _, _, _, o', eo, _⟩ := F.ok.outs _ q
      exact absurd (Heap.lt_size eo) (Nat.not_lt.mpr z)
    · exact (F.ok.outs _ q).2.2.2.1 z
  nfr := F.nfr
  vis := fun b o e => by
    have h := F.vis b o e
    exact ⟨hk _ _ h.2.1 h.2.2.2.2.2.2.2 h.1, h.2⟩
  tabs := F.tabs.step (fun o e => hk _ _ F.big47 (fun q => (F.ok.outs _ q).1 rfl) e) (fun o e => hk _ _ F.big54 (fun q => (F.ok.outs _ q).2.1 rfl) e) fun b o vs qq t hd h1 e => hk b o (notCode F.ns e hd) (fun q => by
    obtain ⟨_, _, _, _, o', eo, hd'⟩ := F.ok.outs _ q
    obtain ⟨sl, e'⟩ := F.slots b o' q eo
    rw [e] at e'; cases e'; exact hd' _ hd) e
  tok := htok
  gens := e1.trans F.gens
  drawn := e2.trans F.drawn
  os := e3.trans F.os
  ents := F.ents
/-- the frames' addresses -/
theorem FS.stk (F : FS f G ρ s) (hrs : f.rs = true) : ∃ outer, f.A.frames = some (f.env :: outer) ∧ f.env.frame = some f.env.locals ∧ (∀ b ∈ (f.env :: outer).filterMap (·.frame), b = f.env.locals ∨ b ∈ f.out) ∧
    s.heap.FunFrames (hideAll s.heap ((f.env :: outer).filterMap (·.frame))) (f.env :: outer) ∧ (hideAll s.heap ((f.env :: outer).filterMap (·.frame))).StaysIn s.heap := by
  obtain ⟨outer, h1, h2, h3⟩ := F.ok.stack hrs
  have hin : ∀ b ∈ (f.env :: outer).filterMap (·.frame), b = f.env.locals ∨ b ∈ f.out := fun b hb => by
    obtain ⟨e, he, hf⟩ := List.mem_filterMap.mp hb
    rcases List.mem_cons.mp he with rfl | he
    · rw [h2] at hf; cases hf; exact .inl rfl
    · obtain ⟨_, b', hb', hf'⟩ := h3 e he
      rw [hf'] at hf; cases hf; exact .inr hb'
  have obj : ∀ b, b = f.env.locals ∨ b ∈ f.out → ∃ o, s.heap.get? b = some o ∧ ∀ vs, o.data ≠ .fields vs := fun b hb => by
    rcases hb with rfl | hb
    · obtain ⟨o, es, ep, e1, e2, _⟩ := F.ns
      exact ⟨o, e1, fun vs q => by rw [e2] at q; cases q⟩
    · obtain ⟨_, _, _, _, o', eo, hd'⟩ := F.ok.outs _ hb
      obtain ⟨sl, e'⟩ := F.slots b o' hb eo
      exact ⟨_, e', hd'⟩
  have ff : ∀ l : List Env, (∀ e ∈ l, e.scope.kind ≠ .module ∧ ∃ b, e.frame = some b ∧ b ∈ (f.env :: outer).filterMap (·.frame)) → s.heap.FunFrames (hideAll s.heap ((f.env :: outer).filterMap (·.frame))) l := by
    intro l
    induction l with
    | nil => intro _; trivial
    | cons e r ih =>
      intro hl
      obtain ⟨hm, b, hf, hb⟩ := hl e (.head _)
      obtain ⟨o, eo, hd⟩ := obj b (hin b hb)
      exact ⟨hm, ⟨b, o, hf, hideAll_none _ hb, eo, hd⟩, ih fun e' he' => hl e' (.tail _ he')⟩
  refine ⟨outer, h1, h2, hin, ff _ fun e he => ?_, fun b o q => of_hideAll _ q⟩
  rcases List.mem_cons.mp he with rfl | he'
  · exact ⟨by show f.env.scope.kind ≠ .module; rw [F.kindF]; decide, _, h2, List.mem_filterMap.mpr ⟨_, .head _, h2⟩⟩
  · obtain ⟨hm, b, hb, hf⟩ := h3 e he'
    exact ⟨hm, b, hf, List.mem_filterMap.mpr ⟨e, .tail _ he', hf⟩⟩
theorem FS.flown (F : FS f G ρ s) {outer : List Env} (hin : ∀ b ∈ (f.env :: outer).filterMap (·.frame), b = f.env.locals ∨ b ∈ f.out) {h' : Heap} {tk : Nat} (hst : (hideAll s.heap ((f.env :: outer).filterMap (·.frame))).StaysIn h') (hu : s.heap.UpToSlots h') (htok : TokOk G.τ tk) : FS f G ρ { s with heap := h', toks := tk } := by
  refine F.extS (fun b o h1 h2 e => hst b o (hideAll_get _ e fun q => (hin b q).elim h1 h2)) (fun b o _ e hd => hu b o e hd) htok rfl rfl rfl
theorem eval_bltnA {A : Around} {x : Str} {pos : Pos} {v : Value} (F : FS f G ρ s) (e : nsIn (hd.heap_39 f.w.params) mainGlobals x = some .none) (hv : bootBuiltins x = some v) (hn : x ≠ "__name__") (hx : f.env.kindOf x = some .globalImplicit) (hd : (x == ("__debug__" : Str)) = false)
    {Q : Value → Shared → Prop} {E : Value → Shared → Prop} (k : Q v s) : wpAny (model PG f.w) A (eval (.Name x pos) f.env) Q E s := by
  obtain ⟨X, _, _, p, loose, mg, mb, T⟩ := F.ok.gl
  have hg : s.heap.Ns f.env.globals mg := T.g.keeps F.keep0
  have hb : s.heap.Ns f.env.builtins mb := T.b.keeps F.keep0
  have hm := mg_none_of X T.g e
  have hv' := (T.builtins x hn).trans hv
  with_reducible exact Name_function_global F.kindF hx (loadGlobal_builtin hg hm hb hv' k) hd
theorem CTR.call {k : Nat} {a : Addr} {vs : List Value} {pvs : List PV} {X : String} (C : CTR f.w k a pvs X) (F : FS f G ρ s) (hrs : f.rs = true) (hk : k ≤ dk) (hvs : RpAll G.τ G.κ vs pvs)
    {Q : Value → Shared → Prop} {E : Value → Shared → Prop} (h : ∀ e t s' base outer, f.A.frames = some (f.env :: outer) → f.env.frame = some f.env.locals → base = hideAll s.heap ((f.env :: outer).filterMap (·.frame)) → (∀ b ∈ (f.env :: outer).filterMap (·.frame), b = f.env.locals ∨ b ∈ f.out) → s.heap.UpToSlots s'.heap →
      Heap.FlyingW base (f.env :: outer) e (.type X) (.ref t) s'.heap → FS f G ρ s' → s'.gens = s.gens → s'.drawn = s.drawn → s'.os = s.os → E (.ref e) s') : wpAny (model PG f.w) f.A (PySem.call (.ref a) vs) Q E s := by
  obtain ⟨outer, h1, h2, hin, ff, hst⟩ := F.stk hrs
  refine wpAny_call ?_
  refine C.run f.A f.g0 s G.τ G.κ vs _ _ F.ok.hh (by have := F.ok.room; exact o18 hk this) (by have := F.ok.units; exact o17 hk this) F.ok.gl F.keep0 F.tabs F.tok (fun b o e => by obtain ⟨h1, _, _, _, h5, h6, _⟩ := F.vis b o e; exact ⟨h1, h5, h6⟩) hvs h1 hst ff _ ?_
  intro e t h' tk hfl hu htok
  exact h e t _ _ outer h1 h2 rfl hin hu hfl (F.flown hin hfl.1 hu htok) rfl rfl rfl
/-- a try around a call that may raise, whose handler gives an empty list -/
theorem SX.tryCall {x fn : Str} {px fp cpos apos lp rp np hp pos : Pos} {e0 : Expr} {rest : List Expr} {a : Addr} {pvs : List PV} {pv : PV} {k : Nat} {Φ : Out → Prop} (hrs : f.rs = true) (hx : nsIn (hd.heap_39 f.w.params) mainGlobals fn = some (some (.ref a))) (hkeep : keepIn (hd.heap_39 f.w.params) (.ref a) = true)
    (hve : nsIn (hd.heap_39 f.w.params) mainGlobals (Str.ofString "ValueError") = some .none)
    (hargs : EL f ρ (spliced (backTo cpos (starEach (e0 :: rest) f.env))) pvs) (hk : k ≤ dk)
    (hres : (CT f.w [] k a pvs pv ∧ Φ (.nx ((x, .loc pv) :: ρ))) ∨ (CTR f.w k a pvs "ValueError" ∧ Φ (.rt (.list []))))
    (hkx : f.env.kindOf x = some .local := by rfl) (hkd : f.env.kindOf fn = some .globalImplicit := by rfl) (hkv : f.env.kindOf (Str.ofString "ValueError") = some .globalImplicit := by rfl)
    (hdb : (fn == ("__debug__" : Str)) = false := by decide) (he : starEach (e0 :: rest) f.env = (false, eval e0 f.env) :: starEach rest f.env := by rfl) (hplain : (backTo cpos (starEach rest f.env)).any (·.1) = false := by rfl)
    (he' : eval (.Call (.Name fn fp) (e0 :: rest) [] cpos) f.env = (do callWith cpos (← eval (.Name fn fp) f.env) [] (backTo cpos (starEach (e0 :: rest) f.env)) (backToKw cpos (keywordEach [] f.env))) := by rfl)
    (hs : swapsWith (.Call (.Name fn fp) (e0 :: rest) [] cpos) (some (.Name x px)) apos.line f.env = pure false := by rfl) :
    SX f ρ (exec (.Try [.Assign [.Name x px] (.Call (.Name fn fp) (e0 :: rest) [] cpos) apos] [.ExceptHandler (some (.Name (Str.ofString "ValueError") np)) none [.Return (some (.List [] lp)) rp] hp] [] [] pos) f.env) Φ := ⟨fun s G F Q E kk => by
  with_reducible refine wpAny_Try_except ?_
  with_reducible refine wpAny_execs_cons ?_
  with_reducible refine wpAny_Assign_Name ?_ hs
  with_reducible refine Call_ ?_ he'
  refine eval_glob F hx hkd hdb ?_
  obtain ⟨X, _⟩ := F.ok.gl
  with_reducible refine callWith_K X hkeep ?_ he hplain
  refine hargs.run s G F _ _ fun vs s₁ G₁ L₁ F₁ r₁ => ⟨X.keeps F₁.keep0, ?_⟩
  rw [List.nil_append]
  rcases hres with ⟨C, hΦ⟩ | ⟨C, hΦ⟩
  · refine C.call (A := f.A) F₁ hk (fun b q => nomatch q) r₁ fun v s' G' L F' r => ?_
    refine store_loc F' hkx r fun s2 G2 t2 F2 => ?_
    with_reducible refine wpAny_execs_nil ?_
    with_reducible refine wpAny_execs_nil ?_
    exact kk _ _ s2 G2 hΦ ((L₁.trans L).lt.trans t2) ⟨rfl, F2⟩
  · refine C.call F₁ hrs hk r₁ fun e t s' base outer h1 h2 hbase hin hu hfl F' g1 g2 g3 => ?_
    subst hbase
    have fly : ∀ {h' : Heap}, (hideAll s₁.heap ((f.env :: outer).filterMap (·.frame))).StaysIn h' → s₁.heap.UpToSlots h' → FS f G₁ ρ { s' with heap := h' } := fun st u =>
      F₁.extS (fun b o n1 n2 e => st b o (hideAll_get _ e fun q => (hin b q).elim n1 n2)) (fun b o _ e hd => u b o e hd) F'.tok g1 g2 g3
    refine wpAny_looks_onW h1 h2 hfl fun h₄ hheld₄ hsm₄ => ?_
    refine wpAny_landsW hheld₄ fun h₅ hheld hsm₅ => ?_
    have F₅ := fly hheld.1 ((hu.trans hsm₄).trans hsm₅)
    obtain ⟨ob, hob, hobc⟩ := hheld.there
    refine wpAny_handleBy_builtin (X := "ValueError") (T := "ValueError") (b := true) PySem.F.isExc_ValueError PySem.F.notTuple_ValueError (by rw [isSubtype_type]; kernel_rfl) ?_
    refine eval_bltnA F₅ hve PyProof.Rows.Boot.«ValueError» (by decide) hkv (by decide) ⟨rfl, ⟨ob, hob, hobc⟩, ?_⟩
    refine lands_againW hheld fun h₆ hfl₆ hsm₆ => ?_
    have F₆ := fly hfl₆.1 (((hu.trans hsm₄).trans hsm₅).trans hsm₆)
    refine wpAny_execs_cons (wpAny_Return_some (List_ (args_nil ?_)))
    obtain ⟨G₂, L₂, F₇, e7⟩ := F₆.alloc (listOf ([] : List Value).toArray 0) rfl
    exact wpAny_newObj_type (kk (.rt (.list [])) _ _ G₂ hΦ (L₁.trans L₂).lt ⟨_, rfl, F₇.weaken trivial, .list e7 .nil⟩) (by show (0 : Nat) ≤ sizeLine; decide)⟩
/-- the contract of a def in which outer frames' slots may turn -/
structure CTS (w : World) (k : Nat) (a : Addr) (pvs : List PV) (pv : PV) : Prop where
  run : ∀ (A : Around) (g0 : Heap) (s : Shared) (τ : Tau) (κ : Kap) (vs : List Value) (outer : List Env) (out : List Addr), A.handled = none → A.depth + k < recursionLimit → A.units + 4 * k + 80 < cLine → Gl w g0 →
    (∀ b o, g0.get? b = some o → s.heap.get? b = some o) → Tabs s.heap → TokOk τ s.toks → (∀ b o, κ b = some o → s.heap.get? b = some o ∧ b ≠ 47 ∧ b ≠ 54 ∧ b ∉ out) → RpAll τ κ vs pvs →
    A.frames = some outer → (∀ e ∈ outer, e.scope.kind ≠ .module ∧ ∃ b ∈ out, e.frame = some b) → (∀ b ∈ out, b ≠ 47 ∧ b ≠ 54 ∧ g0.get? b = none ∧ ∃ o, s.heap.get? b = some o ∧ ∀ vs, o.data ≠ .fields vs) →
    ∀ R : Result → Shared → Prop, (∀ v s' τ' κ', TLe τ τ' → KLe κ κ' → (∀ b o, b ∉ out → s.heap.get? b = some o → s'.heap.get? b = some o) → (∀ b o, b ∈ out → s.heap.get? b = some o → ∃ sl, s'.heap.get? b = some { o with slots := sl }) → Tabs s'.heap → TokOk τ' s'.toks →
      s'.gens = s.gens → s'.drawn = s.drawn → s'.os = s.os → (∀ b o, κ' b = some o → s'.heap.get? b = some o ∧ b ≠ 47 ∧ b ≠ 54 ∧ (κ b = some o ∨ s.heap.objs.size ≤ b)) → Rp τ' κ' v pv → R (.ok (.ret v)) s') →
    codeAny (model PG w) A (.call (.ref a) ⟨vs, []⟩) R s
theorem EV.callS {x : Str} {xp pos : Pos} {e : Expr} {rest : List Expr} {a : Addr} {k : Nat} {pvs : List PV} {pv : PV} (hrs : f.rs = true) (hx : nsIn (hd.heap_39 f.w.params) mainGlobals x = some (some (.ref a))) (hkeep : keepIn (hd.heap_39 f.w.params) (.ref a) = true)
    (hargs : EL f ρ (spliced (backTo pos (starEach (e :: rest) f.env))) pvs) (C : CTS f.w k a pvs pv) (hk : k ≤ dk) (hkd : f.env.kindOf x = some .globalImplicit := by rfl)
    (hd : (x == ("__debug__" : Str)) = false := by decide) (he : starEach (e :: rest) f.env = (false, eval e f.env) :: starEach rest f.env := by rfl) (hplain : (backTo pos (starEach rest f.env)).any (·.1) = false := by rfl)
    (he' : eval (.Call (.Name x xp) (e :: rest) [] pos) f.env = (do callWith pos (← eval (.Name x xp) f.env) [] (backTo pos (starEach (e :: rest) f.env)) (backToKw pos (keywordEach [] f.env))) := by rfl) :
    EV f ρ (eval (.Call (.Name x xp) (e :: rest) [] pos) f.env) pv :=
  ⟨fun s G F Q E k => by
    with_reducible refine Call_ ?_ he'
    refine eval_glob F hx hkd hd ?_
    obtain ⟨X, _⟩ := F.ok.gl
    with_reducible refine callWith_K X hkeep ?_ he hplain
    refine hargs.run s G F _ _ fun vs s₁ G₁ L₁ F₁ r₁ => ⟨X.keeps F₁.keep0, ?_⟩
    rw [List.nil_append]
    obtain ⟨outer, h1, h2, h3⟩ := F₁.ok.stack hrs
    have obj : ∀ b ∈ f.env.locals :: f.out, b ≠ 47 ∧ b ≠ 54 ∧ f.g0.get? b = none ∧ ∃ o, s₁.heap.get? b = some o ∧ ∀ vs, o.data ≠ .fields vs := fun b hb => by
      rcases List.mem_cons.mp hb with rfl | hb
      · obtain ⟨o, es, ep, e1, e2, _⟩ := F₁.ns
        refine ⟨F₁.big47.symm, F₁.big54.symm, ?_, o, e1, fun vs q => by rw [e2] at q; cases q⟩
        cases q : f.g0.get? f.env.locals with
        | none => rfl
        | some o' => exact absurd (Heap.lt_size (F₁.ok.g0h _ _ q)) (Nat.not_lt.mpr F₁.ok.low)
      · obtain ⟨i1, i2, i3, _, o', eo, hd'⟩ := F₁.ok.outs _ hb
        obtain ⟨sl, e'⟩ := F₁.slots b o' hb eo
        exact ⟨i1, i2, i3, _, e', hd'⟩
    refine wpAny_call ?_
    refine C.run f.A f.g0 s₁ G₁.τ G₁.κ vs _ (f.env.locals :: f.out) F₁.ok.hh (by have := F₁.ok.room; exact o18 hk this) (by have := F₁.ok.units; exact o17 hk this) F₁.ok.gl F₁.keep0 F₁.tabs F₁.tok (fun b o e => ?_) r₁ h1 (fun e he => ?_) obj _ ?_
    · obtain ⟨v1, v2, _, _, v5, v6, _, v8⟩ := F₁.vis b o e
      exact ⟨v1, v5, v6, fun q => (List.mem_cons.mp q).elim v2 v8⟩
    · rcases List.mem_cons.mp he with rfl | he
      · exact ⟨by show f.env.scope.kind ≠ .module; rw [F₁.kindF]; decide, _, .head _, h2⟩
      · obtain ⟨i1, b, i2, i3⟩ := h3 e he; exact ⟨i1, b, .tail _ i2, i3⟩
    intro v s' τ' κ' ht hκ hkp hsl htabs htok e1 e2 e3 hv hr
    have F2 : FS f G₁ ρ s' := F₁.extS (fun b o n1 n2 e => hkp b o (fun q => (List.mem_cons.mp q).elim n1 n2) e) (fun b o h e _ => hsl b o (by rcases h with rfl | h; exact .head _; exact .tail _ h) e) ⟨htok.1, fun u y e => htok.2 u y (ht u y e)⟩ e1 e2 e3
    obtain ⟨F3, L⟩ := F2.setTK ht hκ htok fun b o e => ⟨(hv b o e).1, (hv b o e).2.2.2.imp id fun q => F₁.far q⟩
    exact k v s' _ (L₁.trans L) F3 hr⟩
end
theorem CTS.cells {w : World} {a : Addr} {pvs : List PV} {pv : PV} {name qual : Str} {params : Arguments} {body : List Stmt} {dV kV doc pm cdv ct oc : Value} {an od : Option Addr} {osl : Array (Option Value)} {names : List Str}
    (ho : (hd.heap_39 w.params).lookup a = some ⟨oc, od, .func (fnOf name qual params body sc dV kV doc pm an cdv ct), osl⟩) (hcd : codeIn (hd.heap_39 w.params) cdv qual = true)
    (hbind : ∀ (s : Shared) (vs : List Value), vs.length = pvs.length → BindsTo s (fnOf name qual params body sc dV kV doc pm an cdv ct) ⟨vs, []⟩ (names.zip vs))
    (hlen : names.length = pvs.length) (hnd : names.Nodup) (hloc : names.all (fun x => sc.names.lookup x == some .local || sc.names.lookup x == some .cell) = true) (hnames : ∀ x ∈ sc.names, sc.names.lookup x.1 = some x.2)
    (hco : sc.isCoroutine = false) (hgen : sc.isGenerator = false) (hk : sc.kind = .function)
    (h : ∀ f : Fm sc dk [], f.w = w → f.rs = true → SX f (rho0 sc names pvs) (execs body f.env) (retOk pv)) : CTS w (dk + 1) a pvs pv := ⟨by
  intro A g0 s τ κ vs outer out hh hroom hunits hgl hkeep htabs htok hκ hvs hfr hol hout R hR
  obtain ⟨X, g47, g54, p, loose, mg, mb, T⟩ := id hgl
  have X' := X.keeps hkeep
  have hbig : 54 < s.heap.objs.size := by obtain ⟨_, e, _⟩ := htabs.2; exact Heap.lt_size e
  have mem_cell : ∀ {x : Str}, sc.names.lookup x = some .cell → (x, NameKind.cell) ∈ sc.names := fun h => mem_of_lookup h
  refine codeAny_call_function (fd := fnOf name qual params body sc dV kV doc pm an cdv ct) (body := body) (by exact o7 hroom) (X' _ _ ho) rfl hco hgen rfl (codeRec_of X' hcd) (hbind s vs hvs.length _ _ _ _ ?_)
  refine grow (wpAny_newFunctionEnv_cells hk (fun x hx => ?_) fun env he s₁ x gr => ⟨(T.nolimit.keeps hkeep).keeps x.toInCall.keep, codeAny_func ?_⟩)
  · have h1 : x.1 ∈ names := (List.of_mem_zip (a := x.1) (b := x.2) hx).1
    have h2 := List.all_eq_true.mp hloc x.1 h1
    simp only [Bool.or_eq_true, beq_iff_eq] at h2
    rcases h2 with h2 | h2
    · exact .inl h2
    · exact .inr ⟨h2, cellsFrom_some (.inl (mem_cell h2))⟩
  have he' : env = callEnvC (fnOf name qual params body sc dV kV doc pm an cdv ct) s.heap.objs.size a := he
  clear he
  subst he'
  let f : Fm sc dk [] := { w := w, A := A.deeper (callEnvC (fnOf name qual params body sc dV kV doc pm an cdv ct) s.heap.objs.size a), L := s.heap.objs.size, cells := cellsFrom (s.heap.objs.size + 1) sc.names [], qual := qual ++ ".<locals>.", func := some a, code := cdv, frame := (some s.heap.objs.size), g0 := g0, h0 := s.heap, κ0 := κ, br := [], out := out, rs := true, gens := s.gens, drawn := s.drawn, os := s.os }
  let kf := (callEnvC (fnOf name qual params body sc dV kV doc pm an cdv ct) s.heap.objs.size a).kindOf
  let cs := cellsFrom (s.heap.objs.size + 1) sc.names []
  obtain ⟨h₁, tk₁, hs₁⟩ := x.toInCall.same
  have hcell : ∀ y c, cs.lookup y = some c → ∃ o, s₁.heap.get? c = some o ∧ o.data = .cell (bindC kf (names.zip vs) (fun _ => none) y) := fun y c h => x.cell y c h
  have habove : ∀ y c, cs.lookup y = some c → s.heap.objs.size < c := fun y c h => x.above y c (mem_of_lookup h)
  let own : List (Addr × Obj) := (cs.filter fun p => cs.lookup p.1 == some p.2).map fun p => (p.2, (s₁.heap.get? p.2).getD default)
  have hown : ∀ q ∈ own, ∃ y, cs.lookup y = some q.1 ∧ q.2 = (s₁.heap.get? q.1).getD default := fun q hq => by
    obtain ⟨p, hp, rfl⟩ := List.mem_map.mp hq
    exact ⟨p.1, beq_iff_eq.mp (List.mem_filter.mp hp).2, rfl⟩
  have ownMem : ∀ y c, cs.lookup y = some c → (c, (s₁.heap.get? c).getD default) ∈ own := fun y c h => List.mem_map.mpr ⟨(y, c), List.mem_filter.mpr ⟨mem_of_lookup h, beq_iff_eq.mpr h⟩, rfl⟩
  let G : Gh := ⟨τ, κ, bindL kf (names.zip vs) fun _ => none, own, []⟩
  have F : FS f G (rho0 sc names pvs) s₁ :=
    { ok := ⟨hh, hgl, hk, (by show A.depth + 1 + dk < recursionLimit; exact o6 hroom), (by show A.units + 3 + 4 * dk + 80 < cLine; exact o8 hunits), hkeep, hbig, Nat.le_refl _, (fun b q => nomatch q),
        (fun x1 y c e1 e2 => name_of_addr x.apart (mem_of_lookup e1) (mem_of_lookup e2)), (fun b q => nomatch q), (fun b hb => by obtain ⟨i1, i2, i3, i4⟩ := hout b hb; exact ⟨i1, i2, i3, List.not_mem_nil, i4⟩), (fun _ => ⟨outer, Around.frames_deeper hfr, rfl, hol⟩)⟩
      keep := fun b o _ _ e => x.toInCall.keep b o e
      slots := fun b o hb e => ⟨o.slots, x.toInCall.keep b o e⟩
      ns := x.toInCall.ns
      own := fun q hq => by
        obtain ⟨y, h1, h2⟩ := hown q hq
        obtain ⟨o, e1, e2⟩ := hcell y _ h1
        have hlt := habove y _ h1
        refine ⟨by rw [h2, e1]; rfl, Nat.ne_of_gt hlt, gtNe (Nat.lt_of_lt_of_le (by decide) (Nat.le_of_lt (Nat.lt_trans hbig hlt))), gtNe (Nat.lt_trans hbig hlt), .inl (Nat.le_of_lt hlt)⟩
      nd := by
        show (own.map (·.1)).Nodup
        have e : own.map (·.1) = (cs.filter fun p => cs.lookup p.1 == some p.2).map (·.2) := by rw [List.map_map]; rfl
        rw [e]
        exact List.pairwise_map.mpr (x.apart.filter _)
      fr := fun p hp => nomatch hp
      nfr := List.nodup_nil
      vis := fun b o e => ⟨x.toInCall.keep b o (hκ b o e).1, ltNe (Heap.lt_size (hκ b o e).1), (fun q => by
          obtain ⟨y, hy, e'⟩ := List.mem_map.mp q
          obtain ⟨z, h1, _⟩ := hown y hy
          have hlt := habove z _ h1
          have := Heap.lt_size (hκ b o e).1
          rw [← show y.1 = b from e'] at this
          exact absurd this (Nat.not_lt.mpr (Nat.le_of_lt hlt))), List.not_mem_nil, (hκ b o e).2.1, (hκ b o e).2.2.1, .inl e, (hκ b o e).2.2.2⟩
      tabs := htabs.keeps x.toInCall.keep
      tok := htok.le gr.toks
      gens := by rw [hs₁]
      drawn := by rw [hs₁]
      os := by rw [hs₁]
      ents := fun y e hx => by
        have cellAt : sc.names.lookup y = some .cell → ∃ c o, cs.lookup y = some c ∧ s₁.heap.get? c = some o ∧ o.data = .cell (bindC kf (names.zip vs) (fun _ => none) y) ∧ (c, o) ∈ own ∧ s.heap.objs.size ≤ c := fun h => by
          obtain ⟨c, hc⟩ := Option.isSome_iff_exists.mp (cellsFrom_some (n := s.heap.objs.size + 1) (acc := []) (.inl (mem_cell h)))
          obtain ⟨o, e1, e2⟩ := hcell y c hc
          have := ownMem y c hc
          rw [e1] at this
          exact ⟨c, o, hc, e1, e2, this, Nat.le_of_lt (habove y c hc)⟩
        unfold rho0 at hx
        rw [List.lookup_append] at hx
        have e1 : ((names.zip pvs).map (entP sc)).lookup y = ((names.zip pvs).lookup y).map fun pv => if sc.names.lookup y = some .cell then .cel pv else .loc pv :=
          map_look (fun z pv => if sc.names.lookup z = some .cell then Ent.cel pv else Ent.loc pv)
        rw [e1] at hx
        cases q : (names.zip pvs).lookup y with
        | some pv =>
          rw [q] at hx
          obtain ⟨h1, v, h2, h3, h4⟩ := bind_look (kf := kf) names (fun _ => none) (fun _ => none) hlen hnd hvs q
          have hx : some (if sc.names.lookup y = some .cell then Ent.cel pv else Ent.loc pv) = some e := hx
          injection hx with hx
          by_cases hc : sc.names.lookup y = some .cell
          · rw [if_pos hc] at hx
            subst hx
            obtain ⟨c, o, c1, c2, c3, c4, c5⟩ := cellAt hc
            have : bindC kf (names.zip vs) (fun _ => none) y = some v := h4 (by show ¬ sc.names.lookup y = some .local; rw [hc]; decide)
            exact ⟨v, ⟨hc, c, o, c1, c4, c5, by rw [c3, this]⟩, h2⟩
          · rw [if_neg hc] at hx
            subst hx
            have hl := List.all_eq_true.mp hloc y h1
            simp only [Bool.or_eq_true, beq_iff_eq] at hl
            have hl' := hl.resolve_right hc
            exact ⟨hl', v, h3 hl', h2⟩
        | none =>
          rw [q] at hx
          have hx : ((sc.names.filter fun x => x.2 == .cell).map fun x => (x.1, Ent.ucel)).lookup y = some e := hx
          have hm := mem_of_lookup hx
          obtain ⟨p, hp, he⟩ := List.mem_map.mp hm
          obtain ⟨hp1, hp2⟩ := List.mem_filter.mp hp
          injection he with he1 he2
          subst he1 he2
          have hc : sc.names.lookup p.1 = some .cell := by rw [hnames p hp1, beq_iff_eq.mp hp2]
          obtain ⟨c, o, c1, c2, c3, c4, c5⟩ := cellAt hc
          exact ⟨_, hc, c, o, c1, c4, c5, c3⟩ }
  refine (h f rfl rfl).run _ G F _ _ fun o fl s' G' ho ht hok => ?_
  have fin : ∀ v, FS f G' [] s' → Rp G'.τ G'.κ v pv → R (.ok (.ret v)) s' := fun v F' r =>
    hR v s' G'.τ G'.κ ht.τ ht.κ (fun b o hb e => F'.keep b o (fun q => nomatch q) ⟨(fun q => nomatch q), hb⟩ e) (fun b o hb e => F'.slots b o hb e) F'.tabs F'.tok F'.gens F'.drawn F'.os (fun b o e => by obtain ⟨v1, _, _, _, v5, v6, v7, _⟩ := F'.vis b o e; exact ⟨v1, v5, v6, v7⟩) r
  cases o with
  | rt p => obtain ⟨v, rfl, F', r⟩ := hok; cases ho; exact fin v F' r
  | nx ρ' => obtain ⟨rfl, F'⟩ := hok; cases ho; exact fin .none (F'.weaken trivial) .none
  | bk ρ' => exact ho.elim
  | ct ρ' => exact ho.elim⟩
end Mine

end
section
open PySem PySem.W PyProof.Rows PySem.Calls PySem.Spec PySem.Challenge
namespace Mine
variable {sc : Scope} {dk : Nat} {tb : List Addr}
section
variable {f : Fm sc dk tb} {G : Gh} {ρ : Rho} {s : Shared}
theorem FS.tokAt (F : FS f G ρ s) (x : TV) {t tk : Tok} (h1 : s.toks ≤ t) (h2 : t < tk) : ∃ G', G.Le G' ∧ FS f G' ρ { s with toks := tk } ∧ G'.τ t = some x := by
  have F1 := F.toks (Nat.le_trans h1 (Nat.le_of_lt h2))
  obtain ⟨F2, L⟩ := F1.addT x (F.tok.none h1) (Nat.lt_of_lt_of_le F.tok.1 h1) h2
  exact ⟨_, L, F2, addT_self _ _ _⟩
/-- a list, the frame's own or seen -/
structure EQL (f : Fm sc dk tb) (ρ : Rho) (t : Sem Value) (l : List PV) : Prop where
  run : ∀ s G, FS f G ρ s → ∀ (Q : Value → Shared → Prop) (E : Value → Shared → Prop),
    (∀ a s' G', G.Le G' → FS f G' ρ s' → (∀ s₂ G₂, G'.Le G₂ → FS f G₂ ρ s₂ → ∃ vs n, s₂.heap.get? a = some (listOf vs.toArray n) ∧ RpAll G₂.τ G₂.κ vs l) → Q (.ref a) s') → wpAny (model PG f.w) f.A t Q E s
theorem EQL.of {t : Sem Value} {l : List PV} (h : EV f ρ t (.list l)) : EQL f ρ t l := ⟨fun s G F Q E k => h.run s G F _ E fun v s' G' L F' r => by
  obtain ⟨a, vs, n, rfl, e1, r1⟩ := r.isList
  exact k a s' G' L F' fun s₂ G₂ L₂ F₂ => ⟨vs, n, (F₂.vis _ _ (L₂.κ _ _ e1)).1, r1.mono L₂.τ L₂.κ⟩⟩
theorem EQL.own {x : Str} {pos : Pos} {ent : Ent} {l : List PV} (hx : ρ.lookup x = some ent) (hl : ent.ol = some l) (hd : (x == ("__debug__" : Str)) = false := by decide) (hn : (x == ("__classdict__" : Str)) = false := by decide) : EQL f ρ (eval (.Name x pos) f.env) l := ⟨fun s G F Q E k => by
  with_reducible refine wpAny_Name ?_ hd
  obtain ⟨a, vs, n, ho, ha, r⟩ := (F.ents x ent hx).ownAt hl
  refine ho.load F hn (k a s G (.refl _) F fun s₂ G₂ L₂ F₂ => ?_)
  exact ⟨vs, n, (F₂.own (a, listOf vs.toArray n) (by rw [L₂.own]; exact ha)).1, r.mono L₂.τ L₂.κ⟩⟩
theorem EV.item {value slice : Expr} {pos : Pos} {l : List PV} {iv pv : PV} {j : Int} (hv : EQL f ρ (eval value f.env) l) (hi : EV f ρ (eval slice f.env) iv) (hj : iv.asI = some j) (h0 : 0 ≤ j) (h1 : j < 2 ^ 40) (hx : l[j.toNat]? = some pv)
    (hs : ∀ o i, subscripted slice false o i = operate [o, i] (getItem o i) := by intro _ _; rfl) : EV f ρ (eval (.Subscript value slice pos) f.env) pv := ⟨fun s G F Q E k => by
  refine Subscript_ ?_
  refine hv.run s G F _ _ fun a s₁ G₁ L₁ F₁ hl => ?_
  refine hi.run s₁ G₁ F₁ _ _ fun u s₂ G₂ L₂ F₂ r₂ => ?_
  obtain ⟨t, rfl⟩ := r₂.isInt hj
  obtain ⟨vs, n, e, r⟩ := hl s₂ G₂ L₂ F₂
  obtain ⟨v, hv', rv⟩ := r.get hx
  have hla : s₂.heap.IsList a vs.toArray := ⟨_, e, rfl, n, rfl⟩
  refine subscriptTail_builtinR (x := v) hla.typeIs slot_list_getitem.lookup ?_ (hs _ _)
  with_reducible refine wpAny_getItem_list hla h0 (by exact o68 h1) (by simpa using hv') ?_
  exact ⟨rfl, k v s₂ G₂ (L₁.trans L₂) F₂ rv⟩⟩
theorem EV.itemNeg {value slice : Expr} {pos : Pos} {l : List PV} {iv pv : PV} {j : Int} (hv : EQL f ρ (eval value f.env) l) (hi : EV f ρ (eval slice f.env) iv) (hj : iv.asI = some j) (h0 : j < 0) (h1 : -(l.length : Int) ≤ j) (hf : -(2 ^ 40) < j) (hx : l[(j + l.length).toNat]? = some pv)
    (hs : ∀ o i, subscripted slice false o i = operate [o, i] (getItem o i) := by intro _ _; rfl) : EV f ρ (eval (.Subscript value slice pos) f.env) pv := ⟨fun s G F Q E k => by
  refine Subscript_ ?_
  refine hv.run s G F _ _ fun a s₁ G₁ L₁ F₁ hl => ?_
  refine hi.run s₁ G₁ F₁ _ _ fun u s₂ G₂ L₂ F₂ r₂ => ?_
  obtain ⟨t, rfl⟩ := r₂.isInt hj
  obtain ⟨vs, n, e, r⟩ := hl s₂ G₂ L₂ F₂
  obtain ⟨v, hv', rv⟩ := r.get hx
  have hla : s₂.heap.IsList a vs.toArray := ⟨_, e, rfl, n, rfl⟩
  have hsz : vs.toArray.size = l.length := by rw [List.size_toArray, r.length]
  refine subscriptTail_builtinR (x := v) hla.typeIs slot_list_getitem.lookup ?_ (hs _ _)
  with_reducible refine wpAny_getItem_list_neg hla h0 (by rw [hsz]; exact h1) (by exact o167 hf) (by rw [hsz]; simpa using hv') ?_
  exact ⟨rfl, k v s₂ G₂ (L₁.trans L₂) F₂ rv⟩⟩
theorem OPL.len {l : List PV} (hsz : l.length < 2 ^ 40) : OPL f (fun vs => PySem.call (.builtin "len") vs) [.list l] (.int (l.length : Nat)) := ⟨fun ρ s G vs F hvs Q E k => by
  obtain ⟨v, rfl, hv⟩ := hvs.len1
  obtain ⟨a, ws, n, rfl, e1, r1⟩ := hv.isList
  have hs : ws.toArray.size = l.length := by rw [List.size_toArray, r1.length]
  obtain ⟨G', L, F', e⟩ := F.tokAt (.int (l.length : Nat)) (t := s.toks + 1) (tk := s.toks + 1 + 1) (Nat.le_succ _) (Nat.lt_succ_self _)
  refine call_len_list (F.listAt e1) (by rw [hs]; exact o21 hsz) ?_
  rw [hs]
  exact k _ _ G' L F' (.int e)⟩
/-- len of a list of the frame's own -/
theorem EV.lenOwn {x : Str} {xp pos : Pos} {e : Expr} {l : List PV} (hx : nsIn (hd.heap_39 f.w.params) mainGlobals x = some .none) (hb : bootBuiltins x = some (.builtin "len")) (hl : EQL f ρ (eval e f.env) l) (hsz : l.length < 2 ^ 40) (hkd : f.env.kindOf x = some .globalImplicit := by rfl)
    (hn : x ≠ "__name__" := by decide) (hd : (x == ("__debug__" : Str)) = false := by decide) (he : starEach [e] f.env = (false, eval e f.env) :: starEach [] f.env := by rfl) (hplain : (backTo pos (starEach [] f.env)).any (·.1) = false := by rfl)
    (he' : eval (.Call (.Name x xp) [e] [] pos) f.env = (do callWith pos (← eval (.Name x xp) f.env) [] (backTo pos (starEach [e] f.env)) (backToKw pos (keywordEach [] f.env))) := by rfl) :
    EV f ρ (eval (.Call (.Name x xp) [e] [] pos) f.env) (.int (l.length : Nat)) := ⟨fun s G F Q E k => by
  with_reducible refine Call_ ?_ he'
  refine eval_bltn F hx hb hn hkd hd ?_
  with_reducible refine PyProof.Rows.callWith_builtin1 ?_ he hplain
  with_reducible refine args_cons ?_ he
  refine hl.run s G F _ _ fun a s₁ G₁ L₁ F₁ hq => ?_
  with_reducible refine args_nil ?_
  obtain ⟨vs, n, e1, r⟩ := hq s₁ G₁ (.refl _) F₁
  have hs : vs.toArray.size = l.length := by rw [List.size_toArray, r.length]
  obtain ⟨G', L, F', e⟩ := F₁.tokAt (.int (l.length : Nat)) (t := s₁.toks + 1) (tk := s₁.toks + 1 + 1) (Nat.le_succ _) (Nat.lt_succ_self _)
  refine call_len_list (items := vs.toArray) ⟨_, e1, rfl, n, rfl⟩ (by rw [hs]; exact o21 hsz) ?_
  rw [hs]
  exact k _ _ G' (L₁.trans L) F' (.int e)⟩
theorem OPL.range1 {p : PV} {j : Int} (hp : p.asI = some j) : OPL f (fun vs => PySem.call (.type "range") vs) [p] (.rng 0 j) := ⟨fun ρ s G vs F hvs Q E k => by
  obtain ⟨v, rfl, hv⟩ := hvs.len1
  obtain ⟨t, rfl⟩ := hv.isInt hp
  refine grow (range1_rows F.fr0 F.news0 fun h' tk t₁ u₁ v₁ hr F' N' hk gr => ?_)
  have F1 := F.all (h' := h') (tk := tk) hk gr.toks
  obtain ⟨F2, L⟩ := F1.addK (o := rngOf 0 j t₁ u₁ v₁) (F.far (Nat.le_refl _)) hr
  exact k _ _ _ L F2 (.rng (addK_self _ _ _))⟩
theorem OPL.range2 {p q : PV} {i j : Int} (hp : p.asI = some i) (hq : q.asI = some j) : OPL f (fun vs => PySem.call (.type "range") vs) [p, q] (.rng i j) := ⟨fun ρ s G vs F hvs Q E k => by
  obtain ⟨v, w, rfl, hv, hw⟩ := hvs.len2
  obtain ⟨t, rfl⟩ := hv.isInt hp
  obtain ⟨u, rfl⟩ := hw.isInt hq
  refine grow (range2_rows F.fr0 F.news0 fun h' tk t₁ u₁ v₁ hr F' N' hk gr => ?_)
  have F1 := F.all (h' := h') (tk := tk) hk gr.toks
  obtain ⟨F2, L⟩ := F1.addK (o := rngOf i j t₁ u₁ v₁) (F.far (Nat.le_refl _)) hr
  exact k _ _ _ L F2 (.rng (addK_self _ _ _))⟩
def PV.isNone : PV → Bool
  | .none => true
  | _ => false
theorem OP2.isNot {a : PV} : OP2 f (compareOp .IsNot) a .none (.bool (!a.isNone)) := ⟨fun ρ s G v w F hv hw Q E k => by
  cases hw
  have q : ∀ b : Bool, plainIs v .none = true → (!(v == .none)) = b → Q (.bool b) s → wpAny (model PG f.w) f.A (compareOp .IsNot v .none) Q E s := fun b hp e hq => wpAny_isNot_plain hp (by rw [e]; exact hq)
  cases hv <;> exact q _ rfl rfl (k _ _ G (.refl _) F (.bool _))⟩
end
end Mine

end
section
open PySem PySem.W PyProof.Rows PySem.Calls PySem.Spec PySem.Challenge
namespace Mine
theorem fillS1 : rw_ti0009_01 = rw_ti0009_01 ∧ hd.heap_39 = hd.heap_39 := by k_fill; exact ⟨rfl, rfl⟩
/-- the search, with a bound on its depth -/
def tryTurns (c : Nat → Bool) (g : Nat → Option (Option (List Nat))) : List Nat → Option (Option (List Nat))
  | [] => some none
  | t :: ts => if c t then (match g t with
      | none => none
      | some (some rest) => some (some (t :: rest))
      | some none => tryTurns c g ts) else tryTurns c g ts
def srch : Nat → List Nat → Nat → Nat → Option (Option (List Nat))
  | 0, _, _, _ => none
  | n + 1, masks, taken, size => match (List.range size).findIdx? (fun k => taken / 2 ^ k % 2 == 0) with
    | none => some (some [])
    | some place => tryTurns (fun t => masks.getD t 0 / 2 ^ place % 2 == 1 && (masks.getD t 0 &&& taken) == 0) (fun t => srch n masks (masks.getD t 0 ||| taken) size) (List.range size)
theorem tryTurns_some {c : Nat → Bool} {g : Nat → Option (Option (List Nat))} {l : List Nat} : ∀ {ts : List Nat}, tryTurns c g ts = some (some l) → ∃ t rest, l = t :: rest ∧ g t = some (some rest)
  | [], h => by cases h
  | t :: ts, h => by
    unfold tryTurns at h
    split at h
    · split at h
      · cases h
      · rename_i rest hg
        cases h
        exact ⟨t, rest, rfl, hg⟩
      · exact tryTurns_some h
    · exact tryTurns_some h
theorem srch_len : ∀ {n : Nat} {masks : List Nat} {taken size : Nat} {l : List Nat}, srch n masks taken size = some (some l) → l.length ≤ n
  | 0, _, _, _, _, h => by cases h
  | n + 1, masks, taken, size, l, h => by
    unfold srch at h
    split at h
    · cases h; exact Nat.zero_le _
    · obtain ⟨t, rest, rfl, hg⟩ := tryTurns_some h
      exact Nat.succ_le_succ (srch_len hg)
def natL (l : List Nat) : PV := .list (l.map fun (k : Nat) => .int k)
def srchV : Option (List Nat) → PV
  | none => .none
  | some l => natL l
theorem rngL_nat (n : Nat) : rngL 0 n = (List.range n).map fun (k : Nat) => PV.int k := by
  unfold rngL
  refine (congrArg _ ?_).trans (List.map_congr_left fun k _ => ?_)
  · simp
  · show PV.int _ = PV.int _
    congr 1; exact o76
theorem bit_and1 (x : Nat) : Builtin.bitAnd (x : Int) 1 = ((x % 2 : Nat) : Int) := by
  have := bitAnd_mask (x := x) 1 (Int.natCast_nonneg x)
  simpa using this
theorem shr_nat (x k : Nat) : (x : Int) / 2 ^ ((k : Int)).toNat = ((x / 2 ^ k : Nat) : Int) := by simp
def bitY (taken : Nat) : PV → PV
  | .int k => .int ((taken / 2 ^ k.toNat % 2 : Nat) : Int)
  | v => v
def isZ : PV → Bool
  | .int i => i == 0
  | _ => false
theorem natL_get {masks : List Nat} {t : Nat} (h : t < masks.length) : (masks.map fun (k : Nat) => PV.int k)[((t : Nat) : Int).toNat]? = some (.int (masks.getD t 0 : Nat)) := by
  simp [List.getElem?_eq_getElem h]
theorem ct_search {w : World} {masks : List Nat} {size : Nat} (hsz : masks.length = size) (h64 : size ≤ 1000) : ∀ (n : Nat) (taken : Nat) (r : Option (List Nat)), srch n masks taken size = some r → n ≤ 200 → CTS w (n + 1) 198 [natL masks, .int taken, .int size] (srchV r)
  | 0, taken, r, h, _ => by cases h
  | n + 1, taken, r, h, hn => by
    refine CTS.cells (names := [Str.ofString "masks", Str.ofString "taken", Str.ofString "size"]) (by k_is) (by k_is) ?_ rfl (by decide) (by rfl) (by decide) rfl rfl rfl ?_
    · intro s vs h; obtain ⟨a, b, c, rfl⟩ := len3 h; exact BindsTo.of_eq rfl
    intro f hw hrs
    subst hw
    unfold srch at h
    refine SX.weaken (ρ' := [(Str.ofString "masks", .loc (natL masks)), (Str.ofString "taken", .cel (.int taken)), (Str.ofString "size", .loc (.int size))]) ?_ ⟨rfl, rfl, rfl, trivial⟩
    have hidx : (((List.range size).map fun (k : Nat) => PV.int k).map (bitY taken)).findIdx? isZ = (List.range size).findIdx? (fun k => taken / 2 ^ k % 2 == 0) := by
      rw [List.findIdx?_map, List.findIdx?_map]
      congr 1
      funext k
      show (((taken / 2 ^ ((k : Nat) : Int).toNat % 2 : Nat) : Int) == 0) = _
      rw [Int.toNat_natCast]
      generalize taken / 2 ^ k % 2 = x
      rw [Bool.eq_iff_iff]; simp only [beq_iff_eq]; exact o75
    have hmem : ∀ v ∈ (List.range size).map fun (k : Nat) => PV.int k, ∃ k : Nat, k < size ∧ v = .int k := fun v hv => by
      obtain ⟨k, hk, rfl⟩ := List.mem_map.mp hv; exact ⟨k, List.mem_range.mp hk, rfl⟩
    have hg : ∀ x ∈ ((List.range size).map fun (k : Nat) => PV.int k).map (bitY taken), PV.eqv x (.int 0) = some (isZ x) := fun x hx => by
      obtain ⟨v, hv, rfl⟩ := List.mem_map.mp hx
      obtain ⟨k, _, rfl⟩ := hmem v hv
      rfl
    refine SX.cons' (Ψ := fun o => ((List.range size).findIdx? (fun k => taken / 2 ^ k % 2 == 0) = none ∧ o = .rt (.list [])) ∨ ∃ pl, (List.range size).findIdx? (fun k => taken / 2 ^ k % 2 == 0) = some pl ∧ o = .nx [(Str.ofString "place", .loc (.int pl)), (Str.ofString "masks", .loc (natL masks)), (Str.ofString "taken", .cel (.int taken)), (Str.ofString "size", .loc (.int size))])
      (SX.tryCall (pv := .int (((List.range size).findIdx? (fun k => taken / 2 ^ k % 2 == 0)).getD 0 : Nat)) (pvs := [.list (((List.range size).map fun (k : Nat) => PV.int k).map (bitY taken)), .int 0]) hrs (g_indexOf _) (k_indexOf _) (g_VE _)
      (EL.cons (EV.cast (EV.comp (l := (List.range size).map fun (k : Nat) => PV.int k) (ρ₂ := fun v => [(Str.ofString "k", .loc v), (Str.ofString "taken", .fre (.int taken))]) (p := fun _ => true) (y := bitY taken)
          (by rw [← rngL_nat]; exact IT.range (EV.ty (g_range _) b_range (EL.cons (EV.var rfl rfl) EL.nil) (OPL.range1 rfl)) (by decide) (by decide) (by exact o1) (by exact o22 h64))
          ⟨fun f' hw v hv => ASO.loc (by rfl), fun f' hw v hv => TS.nil, fun f' hw v hv _ => ?_, fun v hv => ⟨⟨rfl, trivial⟩, ⟨rfl, trivial⟩⟩⟩ (by rw [List.length_map, List.length_range]; exact Nat.le_trans h64 (by decide))) (by rw [List.filter_eq_self.mpr (fun _ _ => rfl)])) (EL.cons EV.cint EL.nil)) (Nat.le_add_left 1 n) ?_) ?_
    · obtain ⟨k, hk, rfl⟩ := hmem v hv
      refine EV.cast (EV.call (g_and _) (k_and _) (EL.cons (EV.call (g_rshift _) (k_rshift _) (EL.cons (EV.var rfl rfl) (EL.cons (EV.var rfl rfl) EL.nil)) (ct_rshift rfl rfl (Int.natCast_nonneg k)) (hk := Nat.le_add_left 1 n)) (EL.cons EV.cint EL.nil)) (ct_and rfl rfl) (hk := Nat.le_add_left 1 n)) ?_
      show PV.int _ = PV.int _
      rw [shr_nat, bit_and1, Int.toNat_natCast]
    · cases hi : (List.range size).findIdx? (fun k => taken / 2 ^ k % 2 == 0) with
      | none =>
        right
        refine ⟨ctr_indexOf fun x hx => ?_, .inl ⟨rfl, rfl⟩⟩
        rw [hi] at hidx
        have := List.findIdx?_eq_none_iff.mp hidx x hx
        rw [hg x hx, this]
      | some pl =>
        left
        exact ⟨ct_indexOf hg (hidx.trans hi), .inr ⟨pl, rfl, rfl⟩⟩
    rintro o (⟨hi, rfl⟩ | ⟨pl, hi, rfl⟩)
    · rw [hi] at h
      cases h
      rfl
    rw [hi] at h
    have hpl : pl < size := by
      have := (List.findIdx?_eq_some_iff_getElem.mp hi).1
      simpa using this
    show SX f _ (execs _ f.env) _
    have ih := fun (t : Nat) (r : Option (List Nat)) (q : srch n masks (masks.getD t 0 ||| taken) size = some r) => ct_search (w := f.w) hsz h64 n (masks.getD t 0 ||| taken) r q (by exact o243 hn)
    let Lp : Rho := [(Str.ofString "place", .loc (.int pl)), (Str.ofString "masks", .loc (natL masks)), (Str.ofString "taken", .cel (.int taken)), (Str.ofString "size", .loc (.int size))]
    refine SX.cons (SX.for (fun l' ρ => ∃ ts : List Nat, l' = ts.map (fun (k : Nat) => PV.int k) ∧ (∀ t ∈ ts, t < size) ∧ tryTurns (fun t => masks.getD t 0 / 2 ^ pl % 2 == 1 && (masks.getD t 0 &&& taken) == 0) (fun t => srch n masks (masks.getD t 0 ||| taken) size) ts = some r ∧ SubR Lp ρ)
      (IT.range (EV.ty (g_range _) b_range (EL.cons (EV.var rfl rfl) EL.nil) (OPL.range1 rfl)) (by decide) (by decide) (by exact o1) (by exact o22 h64)) ⟨List.range size, rngL_nat size, fun t ht => List.mem_range.mp ht, h, rfl, rfl, rfl, rfl, trivial⟩ ?_ ?_)
    · rintro x l' ρ ⟨ts, hts, hlt, htry, hs⟩
      cases ts with
      | nil => cases hts
      | cons t ts =>
        injection hts with h1 h2
        subst h1 h2
        have ht : t < size := hlt t (.head _)
        have ht' : t < masks.length := by exact o30 ht hsz
        refine ⟨_, AS.loc, ?_⟩
        refine SX.weaken (ρ' := (Str.ofString "turn", .loc (.int (t : Nat))) :: Lp) ?_ ⟨rfl, hs.lookup rfl, hs.lookup rfl, hs.lookup rfl, hs.lookup rfl, trivial⟩
        unfold tryTurns at htry
        generalize hm : masks.getD t 0 = m at htry
        have iht := ih t
        rw [hm] at iht
        have hget := natL_get (masks := masks) ht'
        rw [hm] at hget
        have hti : (t : Int) < 2 ^ 40 := by exact o56 h64 ht
        have e1 : ∀ x : Nat, ((x : Int) == 1) = (x == 1) := fun x => by rw [Bool.eq_iff_iff]; simp only [beq_iff_eq]; exact o198
        have e0 : ∀ x : Nat, ((x : Int) == 0) = (x == 0) := fun x => by rw [Bool.eq_iff_iff]; simp only [beq_iff_eq]; exact o75
        have k1 : 1 ≤ n + 1 := Nat.le_add_left 1 n
        refine SX.cons' (Ψ := fun o => (∃ rest : List Nat, r = some (t :: rest) ∧ o = .rt (natL (t :: rest))) ∨ (tryTurns (fun t => masks.getD t 0 / 2 ^ pl % 2 == 1 && (masks.getD t 0 &&& taken) == 0) (fun t => srch n masks (masks.getD t 0 ||| taken) size) ts = some r ∧ ∃ ρ, o = .nx ρ ∧ SubR Lp ρ))
          (SX.ite (b := (m / 2 ^ pl % 2 == 1) && ((m &&& taken) == 0)) (EB.cast (EB.and2
            (EB.cmp (EV.call (g_and _) (k_and _) (EL.cons (EV.call (g_rshift _) (k_rshift _) (EL.cons (EV.item (EQL.of (EV.var rfl rfl)) (EV.var rfl rfl) rfl (Int.natCast_nonneg t) hti hget) (EL.cons (EV.var rfl rfl) EL.nil)) (ct_rshift rfl rfl (Int.natCast_nonneg pl)) (hk := k1)) (EL.cons EV.cint EL.nil)) (ct_and rfl rfl) (hk := k1)) EV.cint (OP2.eqI rfl rfl))
            (fun _ => EB.cmp (EV.call (g_and _) (k_and _) (EL.cons (EV.item (EQL.of (EV.var rfl rfl)) (EV.var rfl rfl) rfl (Int.natCast_nonneg t) hti hget) (EL.cons (EV.var rfl rfl) EL.nil)) (ct_and rfl rfl) (hk := k1)) EV.cint (OP2.eqI rfl rfl)))
            (by rw [shr_nat, bit_and1, bitAnd_nat, e1, e0])) (fun q => ?_) (fun q => ?_)) ?_
        · rw [q] at htry
          simp only [if_true] at htry
          cases hsr : srch n masks (m ||| taken) size with
          | none => rw [hsr] at htry; cases htry
          | some r' =>
            rw [hsr] at htry
            refine SX.cons (SX.assign (EV.callS hrs (g_Lsearch _) (k_Lsearch _) (EL.cast (EL.cons (EV.var rfl rfl) (EL.cons (EV.call (g_or _) (k_or _) (EL.cons (EV.item (EQL.of (EV.var rfl rfl)) (EV.var rfl rfl) rfl (Int.natCast_nonneg t) hti hget) (EL.cons (EV.var rfl rfl) EL.nil)) (ct_or rfl rfl) (hk := k1)) (EL.cons (EV.var rfl rfl) EL.nil))) (by rw [bitOr_nat])) (iht r' hsr) (Nat.le_refl _)) ?_)
            cases r' with
            | none =>
              simp only at htry
              refine SX.cons (SX.ite (b := false) (EB.cmp (EV.var rfl rfl) EV.cnone OP2.isNot) (fun q => by cases q) (fun _ => SX.nil ?_))
              exact SX.nil (.inr ⟨htry, _, rfl, rfl, rfl, rfl, rfl, trivial⟩)
            | some rest =>
              simp only at htry
              cases htry
              refine SX.cons (SX.ite (b := true) (EB.cmp (EV.var rfl rfl) EV.cnone OP2.isNot) (fun _ => ?_) (fun q => by cases q))
              refine SX.cons (SX.ret (EV.call (g_concat _) (k_concat _) (EL.cons (EV.list (EL.cons (EV.var rfl rfl) EL.nil)) (EL.cons (EV.var rfl rfl) EL.nil)) (ct_concatL (x := [.int (t : Nat)]) (y := rest.map fun (k : Nat) => .int k) ?_) (hk := k1)) ?_)
              · have := srch_len hsr
                have : (1 : Nat) + 200 ≤ sizeLine := by decide
                simp only [List.length_cons, List.length_nil, List.length_map]; exact o493 this hn (by assumption)
              · exact .inl ⟨rest, rfl, rfl⟩
        · rw [q] at htry
          simp only [Bool.false_eq_true, if_false] at htry
          exact SX.nil (.inr ⟨htry, _, rfl, rfl, rfl, rfl, rfl, trivial⟩)
        · rintro o (⟨rest, rfl, rfl⟩ | ⟨htry, ρ, rfl, hs⟩)
          · rfl
          · exact SX.nil ⟨_, hs, ts, rfl, fun t ht => hlt t (.tail _ ht), htry, rfl, rfl, rfl, rfl, trivial⟩
    · rintro ρ ⟨ts, hts, _, htry, hs⟩
      cases ts with
      | cons t ts => cases hts
      | nil =>
        cases htry
        refine SX.nil ?_
        show SX f _ (execs _ f.env) _
        exact SX.cons (SX.ret EV.cnone rfl)
end Mine

end
section
open PySem PySem.W PyProof.Rows PySem.Calls PySem.Spec PySem.Challenge
namespace Mine
variable {sc : Scope} {dk : Nat} {tb : List Addr}
section
variable {f : Fm sc dk tb} {G : Gh} {ρ : Rho} {s : Shared} {τ : Tau} {κ : Kap}
/-- a list of numbers -/
def asIs : List PV → Option (List Int)
  | [] => some []
  | p :: l => match p.asI, asIs l with
    | some i, some r => some (i :: r)
    | _, _ => .none
def PV.asInts : PV → Option (List Int)
  | .list l => asIs l
  | .ints ns => some ns
  | _ => .none
theorem asIs_int (ns : List Int) : asIs (ns.map PV.int) = some ns := by
  induction ns with
  | nil => rfl
  | cons n r ih => rw [List.map_cons]; unfold asIs; rw [ih]; rfl
theorem asIs_nat (ns : List Nat) : asIs (ns.map fun (k : Nat) => PV.int k) = some (ns.map fun (k : Nat) => (k : Int)) := by
  have := asIs_int (ns.map fun (k : Nat) => (k : Int))
  rwa [List.map_map] at this
theorem RpAll.ints {vs : List Value} {l : List PV} {ns : List Int} (h : RpAll τ κ vs l) (e : asIs l = some ns) : IntsAre vs ns := by
  induction vs generalizing l ns with
  | nil => cases h; obtain rfl := Option.some.inj e; exact .nil
  | cons v vs ih =>
    cases h with
    | cons hv r =>
      unfold asIs at e
      split at e
      · rename_i i r' h1 h2
        obtain rfl := Option.some.inj e
        obtain ⟨t, rfl⟩ := hv.isInt h1
        exact .cons _ _ (ih r h2)
      · cases e
theorem Rp.isInts {v : Value} {p : PV} {ns : List Int} (h : Rp τ κ v p) (hp : p.asInts = some ns) : ∃ a o vs n, v = .ref a ∧ κ a = some o ∧ o.cls = .type "list" ∧ o.data = .seq (List.toArray vs) n ∧ IntsAre vs ns := by
  cases h with
  | list e r => exact ⟨_, _, _, _, rfl, e, rfl, rfl, r.ints hp⟩
  | «ints» e c d i => cases hp; exact ⟨_, _, _, _, rfl, e, c, d, i⟩
  | none | bool | int | rint | str | tstr | tup | rng | fn => cases hp
theorem FS.isL (F : FS f G ρ s) {a : Addr} {o : Obj} {vs : List Value} {n : Nat} (e : G.κ a = some o) (hc : o.cls = .type "list") (hd : o.data = .seq vs.toArray n) : s.heap.IsList a vs.toArray := ⟨o, (F.vis _ _ e).1, hc, n, hd⟩
theorem OP2.notinI {p q : PV} {k : Int} {ns : List Int} (hp : p.asI = some k) (hq : q.asInts = some ns) : OP2 f (compareOp .NotIn) p q (.bool (!(ns.any (· == k)))) := ⟨fun ρ s G v w F hv hw Q E kk => by
  obtain ⟨t, rfl⟩ := hv.isInt hp
  obtain ⟨a, o, vs, n, rfl, e, hc, hd, hi⟩ := hw.isInts hq
  exact notin_list_ints (F.isL e hc hd) hi (kk _ _ G (.refl _) F (.bool _))⟩
/-- in, not in: a list of the frame's own -/
theorem EB.inOwn {l r : Expr} {pos : Pos} {whole : Sem Value} {p : PV} {k : Int} {ls : List PV} {ns : List Int} (hl : EV f ρ (eval l f.env) p) (hp : p.asI = some k) (hr : EQL f ρ (eval r f.env) ls) (hq : asIs ls = some ns) (hm : behindInMarks .In r = false := by rfl) :
    EB f ρ (isTrue (.Compare l [.In] [r] pos) f.env whole) (ns.any (· == k)) := ⟨fun s G F Q E kk => by
  refine wpAny_isTrue_Compare1 ?_ hm
  refine hl.run s G F _ _ fun v s₁ G₁ L₁ F₁ r₁ => hr.run s₁ G₁ F₁ _ _ fun a s₂ G₂ L₂ F₂ hq2 => ?_
  obtain ⟨t, rfl⟩ := r₁.isInt hp
  obtain ⟨vs, n, e, r⟩ := hq2 s₂ G₂ (.refl _) F₂
  refine in_list_ints (l := a) (vs := vs) ⟨_, e, rfl, n, rfl⟩ (r.ints hq) ?_
  exact wpAny_truthy_bool (kk s₂ G₂ (L₁.trans L₂) F₂)⟩
theorem EB.notinOwn {l r : Expr} {pos : Pos} {whole : Sem Value} {p : PV} {k : Int} {ls : List PV} {ns : List Int} (hl : EV f ρ (eval l f.env) p) (hp : p.asI = some k) (hr : EQL f ρ (eval r f.env) ls) (hq : asIs ls = some ns) (hm : behindInMarks .NotIn r = false := by rfl) :
    EB f ρ (isTrue (.Compare l [.NotIn] [r] pos) f.env whole) (!(ns.any (· == k))) := ⟨fun s G F Q E kk => by
  refine wpAny_isTrue_Compare1 ?_ hm
  refine hl.run s G F _ _ fun v s₁ G₁ L₁ F₁ r₁ => hr.run s₁ G₁ F₁ _ _ fun a s₂ G₂ L₂ F₂ hq2 => ?_
  obtain ⟨t, rfl⟩ := r₁.isInt hp
  obtain ⟨vs, n, e, r⟩ := hq2 s₂ G₂ (.refl _) F₂
  refine notin_list_ints (l := a) (vs := vs) ⟨_, e, rfl, n, rfl⟩ (r.ints hq) ?_
  exact wpAny_truthy_bool (kk s₂ G₂ (L₁.trans L₂) F₂)⟩
/-! equality of any data -/
mutual
def PV.toD : PV → Option PyData
  | .none => some .none
  | .bool b => some (.bool b)
  | .int i => some (.int i)
  | .rint i => some (.int i)
  | .str x => some (.str x)
  | .tstr x => some (.str x)
  | .list l => (toDs l).map .list
  | .tup l => (toDs l).map .tuple
  | .ints ns => some (.list (ns.map .int))
  | .rng _ _ => .none
  | .fn _ _ => .none
def toDs : List PV → Option (List PyData)
  | [] => some []
  | p :: l => match p.toD, toDs l with
    | some d, some ds => some (d :: ds)
    | _, _ => .none
end
theorem Rp.reads (F : FS f G ρ s) {v : Value} {p : PV} {d : PyData} (h : Rp G.τ G.κ v p) : p.toD = some d → ∃ as, Reads s.heap v d as := by
  refine Rp.rec (motive_1 := fun v p _ => ∀ d, p.toD = some d → ∃ as, Reads s.heap v d as) (motive_2 := fun vs l _ => ∀ ds, toDs l = some ds → ∃ as, ReadsAll s.heap vs ds as) ?_ ?_ ?_ ?_ ?_ ?_ ?_ ?_ ?_ ?_ ?_ ?_ ?_ h d
  · intro d h; obtain rfl := Option.some.inj h; exact ⟨_, .none⟩
  · intro b d h; obtain rfl := Option.some.inj h; exact ⟨_, .bool b⟩
  · intro i t _ d h; obtain rfl := Option.some.inj h; exact ⟨_, .int _ _⟩
  · intro i t d h; obtain rfl := Option.some.inj h; exact ⟨_, .int _ _⟩
  · intro x t d h; obtain rfl := Option.some.inj h; exact ⟨_, .str _ _⟩
  · intro x t _ d h; obtain rfl := Option.some.inj h; exact ⟨_, .str _ _⟩
  · intro a vs n ds e r ih d h
    obtain ⟨ds, h1, rfl⟩ := Option.map_eq_some_iff.mp (show (toDs ds).map .list = some d from h)
    obtain ⟨as, ra⟩ := ih _ h1
    exact ⟨_, .list (F.vis _ _ e).1 rfl rfl ra⟩
  · intro a vs n ds e r ih d h
    obtain ⟨ds, h1, rfl⟩ := Option.map_eq_some_iff.mp (show (toDs ds).map .tuple = some d from h)
    obtain ⟨as, ra⟩ := ih _ h1
    exact ⟨_, .tuple (F.vis _ _ e).1 rfl rfl ra⟩
  · intro a o vs n ns e c dd i d h; obtain rfl := Option.some.inj h; exact ⟨_, reads_of_ints (F.isL e c dd) i⟩
  · intro r a b t u v _ d h; cases (show (Option.none : Option PyData) = some d from h)
  · intro a o ex _ _ d h; cases (show (Option.none : Option PyData) = some d from h)
  · intro ds h; obtain rfl := Option.some.inj h; exact ⟨_, .nil⟩
  · intro v vs d ds hv r ih1 ih2 es h
    unfold toDs at h
    split at h
    · rename_i d ds h1 h2
      obtain rfl := Option.some.inj h
      obtain ⟨as, ra⟩ := ih1 _ h1
      obtain ⟨bs, rb⟩ := ih2 _ h2
      exact ⟨_, .cons ra rb⟩
    · cases h
theorem OP2.eqD {a b : PV} {d d' : PyData} (ha : a.toD = some d) (hb : b.toD = some d') (h1 : PySem.SeqAt.shaped d = true) (h2 : PySem.SeqAt.shaped d' = true) (hm : PySem.SeqAt.noMix d d' = true) : OP2 f (compareOp .Eq) a b (.bool (PySem.Spec.same d d')) := ⟨fun ρ s G v w F hv hw Q E k => by
  obtain ⟨as, ra⟩ := hv.reads F ha
  obtain ⟨bs, rb⟩ := hw.reads F hb
  exact eq_dataH_same ra rb h1 h2 (by have := F.ok.units; exact o29 this) hm (k _ _ G (.refl _) F (.bool _))⟩
theorem OP2.neD {a b : PV} {d d' : PyData} (ha : a.toD = some d) (hb : b.toD = some d') (h1 : PySem.SeqAt.shaped d = true) (h2 : PySem.SeqAt.shaped d' = true) (hm : PySem.SeqAt.noMix d d' = true) : OP2 f (compareOp .NotEq) a b (.bool (!PySem.Spec.same d d')) := ⟨fun ρ s G v w F hv hw Q E k => by
  obtain ⟨as, ra⟩ := hv.reads F ha
  obtain ⟨bs, rb⟩ := hw.reads F hb
  exact ne_dataH_same ra rb h1 h2 (by have := F.ok.units; exact o29 this) hm (k _ _ G (.refl _) F (.bool _))⟩
theorem OPL.sorted {p : PV} {ns : List Int} (hp : p.asInts = some ns) (h64 : ns.length < 64) (hw : PyData.layable0 (.list (ns.map .int)) = true) (srt : List Int) (h1 : srt.Perm ns) (h2 : srt.Pairwise (· ≤ ·)) : OPL f (fun vs => PySem.call (.builtin "sorted") vs) [p] (.ints srt) := ⟨fun ρ s G vs F hvs Q E k => by
  obtain ⟨v, rfl, hv⟩ := hvs.len1
  obtain ⟨a, o, ws, n, rfl, e, hc, hd, hi⟩ := hv.isInts hp
  refine sorted_N2 F.fr0 F.news0 (F.isL e hc hd) hi hw (by rw [hi.length]; exact h64) fun h' vs' ns' ee F' N' hl hi' _ _ _ hperm hpw => ?_
  have hns : ns' = srt := by
    refine List.Perm.eq_of_pairwise (le := (· ≤ ·)) (fun a b _ _ h h' => Int.le_antisymm h h') hpw h2 (hperm.trans h1.symm)
  subst hns
  obtain ⟨G', L, F2, e2, _⟩ := F.allocLib (tk := s.toks) F' N' (Nat.le_refl _) (Nat.le_succ _)
  exact k _ _ G' L F2 (.ints e2 rfl rfl hi')⟩
theorem OPL.max {p : PV} {ns : List Int} {M : Int} (hp : p.asInts = some ns) (hM : M ∈ ns) (hx : ∀ a ∈ ns, a ≤ M) : OPL f (fun vs => PySem.call (.builtin "max") vs) [p] (.rint M) := ⟨fun ρ s G vs F hvs Q E k => by
  obtain ⟨v, rfl, hv⟩ := hvs.len1
  obtain ⟨a, o, ws, n, rfl, e, hc, hd, hi⟩ := hv.isInts hp
  refine grow (max_list_N F.ok.hh F.fr0 F.news0 (F.isL e hc hd) hi (List.length_pos_of_mem hM) fun h' M' t tk F' N' hm hle gr => ?_)
  have : M' = M := Int.le_antisymm (hx _ hm) (hle _ hM)
  subst this
  exact k _ _ G (.refl _) (F.ofLib (news := []) F' N' gr.toks) (.rint _ _)⟩
theorem OPL.min {p : PV} {ns : List Int} {M : Int} (hp : p.asInts = some ns) (hM : M ∈ ns) (hx : ∀ a ∈ ns, M ≤ a) : OPL f (fun vs => PySem.call (.builtin "min") vs) [p] (.rint M) := ⟨fun ρ s G vs F hvs Q E k => by
  obtain ⟨v, rfl, hv⟩ := hvs.len1
  obtain ⟨a, o, ws, n, rfl, e, hc, hd, hi⟩ := hv.isInts hp
  refine grow (min_list_N F.ok.hh F.fr0 F.news0 (F.isL e hc hd) hi (List.length_pos_of_mem hM) fun h' M' t tk F' N' hm hle gr => ?_)
  have : M' = M := Int.le_antisymm (hle _ hM) (hx _ hm)
  subst this
  exact k _ _ G (.refl _) (F.ofLib (news := []) F' N' gr.toks) (.rint _ _)⟩
theorem OPL.sum {p : PV} {ns : List Int} (hp : p.asInts = some ns) : OPL f (fun vs => PySem.call (.builtin "sum") vs) [p] (.rint ns.sum) := ⟨fun ρ s G vs F hvs Q E k => by
  obtain ⟨v, rfl, hv⟩ := hvs.len1
  obtain ⟨a, o, ws, n, rfl, e, hc, hd, hi⟩ := hv.isInts hp
  obtain ⟨xs, hx⟩ := hi.allInts.items
  have hl' : s.heap.IsList a (intItems xs) := hx ▸ F.isL e hc hd
  refine grow (sum_intListG F.ok.hh hl' fun h' tk t' hk gr => ?_)
  have e1 : ns = xs.toList.map (·.1) := by
    rw [← nums_intItems, ← hx]
    exact (show numsOf ws.toArray.toList = ns from hi.numsOf).symm
  have e2 : preSum (numAt xs) xs.size = ns.sum := by
    rw [preSum_eq, List.take_of_length_le (by simp), e1]
  rw [e2]
  exact k _ _ G (.refl _) (F.all hk gr.toks) (.rint _ _)⟩
theorem intsAre_of : ∀ {vs : List Value} {g : Nat → Int}, (∀ (j : Nat) (v : Value), vs[j]? = some v → ∃ t : Tok, v = Value.int (g j) t) → IntsAre vs ((List.range vs.length).map g)
  | [], g, _ => .nil
  | v :: vs, g, h => by
    obtain ⟨t, rfl⟩ := h 0 v rfl
    rw [List.length_cons, List.range_succ_eq_map, List.map_cons, List.map_map]
    exact .cons _ _ (intsAre_of (g := g ∘ Nat.succ) fun j v hv => h (j + 1) v (by simpa using hv))
theorem OPL.listRange {a b : Int} (ha : -(2 ^ 40) ≤ a) (ha' : a ≤ 2 ^ 40) (hb : -(2 ^ 40) ≤ b) (hb' : b ≤ 2 ^ 40) (hn : (b - a).toNat ≤ 2 ^ 24) : OPL f (fun vs => PySem.call (.type "list") vs) [.rng a b] (.ints ((List.range (b - a).toNat).map fun (k : Nat) => a + k)) := ⟨fun ρ s G vs F hvs Q E k => by
  obtain ⟨v, rfl, hv⟩ := hvs.len1
  cases hv with
  | @rng r a b t u w e =>
    refine grow (call_list_range F.ok.hh (F.vis _ _ e).1 (range_small ha ha' hb hb') (rangeSize1 a b) hn fun h' tk acc' c' hk hS hacc gr => ?_)
    have F1 := F.all (h' := h') (tk := tk) hk gr.toks
    obtain ⟨F2, L⟩ := F1.addK (F.far (Nat.le_refl _)) hS
    refine k _ _ _ L F2 (.ints (o := { cls := .type "list", dict := none, data := .seq acc' c', slots := #[] }) (vs := acc'.toList) (n := c') (addK_self _ _ _) rfl (by simp) ?_)
    have h1 : acc'.toList.length = (b - a).toNat := by simpa using hacc.1
    have := intsAre_of (vs := acc'.toList) (g := fun (k : Nat) => a + k) fun j v hv => by
      obtain ⟨t, h⟩ := hacc.2 j v (by simpa using hv)
      exact ⟨t, by rw [h]; simp⟩
    rw [h1] at this
    exact this⟩
/-- lists of numbers are the same -/
theorem OP2.eqI2 {p q : PV} {ns ms : List Int} (hp : p.asInts = some ns) (hq : q.asInts = some ms) : OP2 f (compareOp .Eq) p q (.bool (decide (ns = ms))) := ⟨fun ρ s G v w F hv hw Q E k => by
  obtain ⟨a, o, vs, n, rfl, e, hc, hd, hi⟩ := hv.isInts hp
  obtain ⟨a', o', vs', n', rfl, e', hc', hd', hi'⟩ := hw.isInts hq
  exact eq_intsK (F.isL e hc hd) hi (F.isL e' hc' hd') hi' (by have := F.ok.units; exact o29 this) (k _ _ G (.refl _) F (.bool _))⟩
theorem OP2.neI2 {p q : PV} {ns ms : List Int} (hp : p.asInts = some ns) (hq : q.asInts = some ms) : OP2 f (compareOp .NotEq) p q (.bool (!decide (ns = ms))) := ⟨fun ρ s G v w F hv hw Q E k => by
  obtain ⟨a, o, vs, n, rfl, e, hc, hd, hi⟩ := hv.isInts hp
  obtain ⟨a', o', vs', n', rfl, e', hc', hd', hi'⟩ := hw.isInts hq
  exact ne_intsK (F.isL e hc hd) hi (F.isL e' hc' hd') hi' (by have := F.ok.units; exact o29 this) (k _ _ G (.refl _) F (.bool _))⟩
end
end Mine

end
section
open PySem PySem.W PyProof.Rows PySem.Calls PySem.Spec PySem.Challenge
namespace Mine
theorem fillS2 : rw_ti0009_01 = rw_ti0009_01 ∧ hd.heap_39 = hd.heap_39 := by k_fill; exact ⟨rfl, rfl⟩
/-- a list of lists of numbers -/
def natLL (l : List (List Nat)) : PV := .list (l.map natL)
def maskOf (m : Nat) (l : List Nat) : Nat := l.foldl (fun m s => m ||| 2 ^ s) m
theorem set_map {α β : Type} (g : α → β) (l : List α) (i : Nat) (a : α) : (l.map g).set i (g a) = (l.set i a).map g := by
  rw [List.map_set]
theorem ct_masks {w : World} {seen : List (List Nat)} (hlen : seen.length ≤ 1000) (hsp : ∀ l ∈ seen, l.length ≤ 1000 ∧ ∀ s ∈ l, s ≤ 1000) : CT w [] 2 193 [natLL seen] (natL (seen.map (maskOf 0))) := by
  refine CT.plain (names := [Str.ofString "seen"]) (by k_is) (by k_is) ?_ rfl (by decide) (by rfl) (by rfl) rfl rfl rfl ?_ (by decide)
  · intro s vs h; obtain ⟨a, rfl⟩ := len1 h; exact BindsTo.of_eq rfl
  intro f hw
  subst hw
  have hll : (seen.map natL).length = seen.length := List.length_map ..
  have hl40 : (seen.map natL).length < 2 ^ 40 := by rw [hll]; exact o266 hlen
  have h0 : ∀ (x : Nat), (List.replicate (Int.toNat ((seen.map natL).length : Nat)) [PV.int 0]).flatten = (List.replicate seen.length 0).map fun (k : Nat) => PV.int k := fun _ => by
    rw [Int.toNat_natCast, hll, List.map_replicate]
    generalize seen.length = n
    induction n with
    | zero => rfl
    | succ n ih => rw [List.replicate_succ, List.flatten_cons, ih]; rfl
  refine SX.cons (SX.own (EO.mulL (EV.list (EL.cons EV.cint EL.nil)) (EV.blt (g_len _) b_len (EL.cons (EV.var rfl rfl) EL.nil) (OPL.len hl40)) rfl (by simp) (Int.natCast_nonneg _) (by rw [Int.toNat_natCast, hll]; simp only [List.length_cons, List.length_nil]; exact o700 (Nat.le_trans hlen (by decide)))) ?_)
  rw [h0 0]
  refine SX.cons (SX.for (fun l' ρ => ∃ i : Nat, i ≤ seen.length ∧ l' = ((List.range seen.length).drop i).map (fun (k : Nat) => PV.int k) ∧ SubR [(Str.ofString "masks", .owned (((seen.take i).map (maskOf 0) ++ List.replicate (seen.length - i) 0).map fun (k : Nat) => PV.int k)), (Str.ofString "seen", .loc (natLL seen))] ρ)
    (IT.range (EV.ty (g_range _) b_range (EL.cons (EV.blt (g_len _) b_len (EL.cons (EV.var rfl rfl) EL.nil) (OPL.len hl40)) EL.nil) (OPL.range1 rfl)) (by decide) (by decide) (by exact o1) (by exact o440 hlen hll)) ⟨0, Nat.zero_le _, by rw [hll, rngL_nat]; rfl, rfl, rfl, trivial⟩ ?_ ?_)
  · rintro x l' ρ ⟨i, hi, hl', hs⟩
    have hil : i < seen.length := by
      have := congrArg List.length hl'
      simp at this; exact o32 this
    rw [List.drop_eq_getElem_cons (by simpa using hil), List.map_cons] at hl'
    injection hl' with h1 h2
    have hx : x = .int (i : Nat) := by rw [h1]; simp
    subst hx
    have hii : (i : Int) < 2 ^ 40 := by exact o56 hlen hil
    have hseen : (seen.map natL)[((i : Nat) : Int).toNat]? = some (natL seen[i]) := by simp [List.getElem?_eq_getElem hil]
    obtain ⟨hin, hsm⟩ := hsp _ (List.getElem_mem hil)
    have hrep : List.replicate (seen.length - i) 0 = 0 :: List.replicate (seen.length - (i + 1)) 0 := by
      rw [show seen.length - i = (seen.length - (i + 1)) + 1 by exact o421 hil, List.replicate_succ]
    generalize hpre : (seen.take i).map (maskOf 0) = pre at hs
    have hprel : pre.length = i := by rw [← hpre]; simp; exact o380 hil
    have hpost : ∀ m : Nat, (((pre ++ m :: List.replicate (seen.length - (i + 1)) 0).map fun (k : Nat) => PV.int k))[((i : Nat) : Int).toNat]? = some (.int (m : Nat)) := fun m => by
      rw [Int.toNat_natCast, List.getElem?_map, List.getElem?_append_right (by exact o25 hprel), hprel]; simp
    have hset : ∀ m m' : Nat, (((pre ++ m :: List.replicate (seen.length - (i + 1)) 0).map fun (k : Nat) => PV.int k)).set ((i : Nat) : Int).toNat (.int (m' : Nat)) = ((pre ++ m' :: List.replicate (seen.length - (i + 1)) 0).map fun (k : Nat) => PV.int k) := fun m m' => by
      rw [Int.toNat_natCast, set_map (fun (k : Nat) => PV.int k), List.set_append_right _ _ (by exact o25 hprel), hprel]; simp
    have hlm : ∀ m : Nat, (((pre ++ m :: List.replicate (seen.length - (i + 1)) 0).map fun (k : Nat) => PV.int k)).length = seen.length := fun m => by simp; exact o553 hil hprel
    have hsl : seen.length ≤ sizeLine := Nat.le_trans hlen (by decide)
    rw [hrep] at hs
    refine ⟨_, AS.loc, ?_⟩
    refine SX.weaken (ρ' := [(Str.ofString "turn", .loc (.int (i : Nat))), (Str.ofString "masks", .owned ((pre ++ 0 :: List.replicate (seen.length - (i + 1)) 0).map fun (k : Nat) => PV.int k)), (Str.ofString "seen", .loc (natLL seen))]) ?_ ⟨rfl, hs.lookup rfl, hs.lookup rfl, trivial⟩
    refine SX.cons (SX.for (fun l'' ρ => ∃ (m : Nat) (js : List Nat), l'' = js.map (fun (k : Nat) => PV.int k) ∧ maskOf m js = maskOf 0 seen[i] ∧ (∀ j ∈ js, j ≤ 1000) ∧ SubR [(Str.ofString "turn", .loc (.int (i : Nat))), (Str.ofString "masks", .owned ((pre ++ m :: List.replicate (seen.length - (i + 1)) 0).map fun (k : Nat) => PV.int k)), (Str.ofString "seen", .loc (natLL seen))] ρ)
      (IT.list (EV.item (EQL.of (EV.var rfl rfl)) (EV.var rfl rfl) rfl (Int.natCast_nonneg i) hii hseen)) ⟨0, seen[i], rfl, rfl, hsm, rfl, rfl, rfl, trivial⟩ ?_ ?_)
    · rintro y l'' ρ ⟨m, js, hjs, hm, hj, hs⟩
      cases js with
      | nil => cases hjs
      | cons j js =>
        injection hjs with h3 h4
        subst h3 h4
        have hj0 := hj j (.head _)
        refine ⟨_, AS.loc, ?_⟩
        refine SX.weaken (ρ' := [(Str.ofString "spot", .loc (.int (j : Nat))), (Str.ofString "turn", .loc (.int (i : Nat))), (Str.ofString "masks", .owned ((pre ++ m :: List.replicate (seen.length - (i + 1)) 0).map fun (k : Nat) => PV.int k)), (Str.ofString "seen", .loc (natLL seen))]) ?_ ⟨rfl, hs.lookup rfl, hs.lookup rfl, hs.lookup rfl, trivial⟩
        refine SX.cons (SX.setItem rfl rfl (EV.cast (q := .int ((m ||| 2 ^ j : Nat) : Int)) (EV.call (g_or _) (k_or _) (EL.cons (EV.item (EQL.own rfl rfl) (EV.var rfl rfl) rfl (Int.natCast_nonneg i) hii (hpost m)) (EL.cons (EV.call (g_lshift _) (k_lshift _) (EL.cons EV.cint (EL.cons (EV.var rfl rfl) EL.nil)) (ct_lshift rfl rfl (Int.natCast_nonneg j) (by
            have : Builtin.Int.intBits 1 = 1 := by decide
            exact o382 this hj0))) EL.nil)) (ct_or rfl rfl)) (by
              rw [Int.one_mul, Int.toNat_natCast, ← pow_cast, bitOr_nat])) (EV.var rfl rfl) rfl (Int.natCast_nonneg i) (by rw [hlm]; exact o109 hil) (by rw [hlm]; exact hsl) (SX.nil ?_))
        rw [hset]
        exact ⟨[(Str.ofString "turn", .loc (.int (i : Nat))), (Str.ofString "masks", .owned ((pre ++ (m ||| 2 ^ j) :: List.replicate (seen.length - (i + 1)) 0).map fun (k : Nat) => PV.int k)), (Str.ofString "seen", .loc (natLL seen))], ⟨rfl, rfl, rfl, trivial⟩, m ||| 2 ^ j, js, rfl, hm, fun k hk => hj k (.tail _ hk), rfl, rfl, rfl, trivial⟩
    · rintro ρ ⟨m, js, hjs, hm, _, hs⟩
      cases js with
      | cons j js => cases hjs
      | nil =>
        have hm' : m = maskOf 0 seen[i] := hm
        refine SX.nil (SX.nil ⟨_, hs, i + 1, hil, h2, ?_, rfl, trivial⟩)
        have e : (seen.take (i + 1)).map (maskOf 0) ++ List.replicate (seen.length - (i + 1)) 0 = pre ++ m :: List.replicate (seen.length - (i + 1)) 0 := by
          rw [List.take_succ_eq_append_getElem hil, List.map_append, hpre, hm']; simp
        rw [e]
        rfl
  · rintro ρ ⟨i, hi, hl', hs⟩
    have : i = seen.length := by
      have := congrArg List.length hl'
      simp at this; exact o49 this hi
    subst this
    refine SX.nil ?_
    show SX f _ (execs _ f.env) _
    refine SX.cons (SX.retOwn (hs.lookup rfl) ?_)
    show PV.list _ = natL _
    simp [natL]
end Mine

end
section
open PySem PySem.W PyProof.Rows PySem.Calls PySem.Spec PySem.Challenge
namespace Mine
theorem fillS3 : rw_ti0009_01 = rw_ti0009_01 ∧ hd.heap_39 = hd.heap_39 := by k_fill; exact ⟨rfl, rfl⟩
theorem getD_lt {α : Type} {l : List α} {t : Nat} {d : α} (h : t < l.length) : l.getD t d = l[t] := by simp [List.getD, List.getElem?_eq_getElem h]
def covLoop (seen : List (List Nat)) (size : Nat) : List Nat → List Nat → Option (List Nat)
  | [], c => some c
  | t :: ts, c => match (List.range size).filter (fun k => !c.contains k) with
    | [] => none
    | k :: _ => if (seen.getD t []).contains k then covLoop seen size ts (c ++ seen.getD t []) else none
def coversP (found : List Nat) (seen : List (List Nat)) (size : Nat) : Bool := match covLoop seen size found [] with
  | none => false
  | some c => decide (c.mergeSort (· ≤ ·) = List.range size)
abbrev toZ (l : List Nat) : List Int := l.map fun (k : Nat) => (k : Int)
theorem asInts_natL (l : List Nat) : (natL l).asInts = some (toZ l) := asIs_nat l
theorem any_toZ (l : List Nat) (k : Nat) : (toZ l).any (· == (k : Int)) = l.contains k := by
  rw [List.any_map, List.contains_eq_any_beq]
  congr 1; funext x
  rw [Bool.eq_iff_iff]; simp only [Function.comp, beq_iff_eq]; exact o336
theorem toZ_inj {a b : List Nat} : (toZ a = toZ b) ↔ a = b := by
  constructor
  · intro h
    induction a generalizing b with
    | nil => cases b with
      | nil => rfl
      | cons y b => cases h
    | cons x a ih => cases b with
      | nil => cases h
      | cons y b =>
        rw [toZ, toZ, List.map_cons, List.map_cons] at h
        injection h with h1 h2
        rw [ih h2, Int.ofNat.inj h1]
  · intro h; rw [h]
theorem weight_toZ : ∀ {l : List Nat}, (∀ k ∈ l, k < 2 ^ 20) → PyData.weightAll ((toZ l).map .int) ≤ 21 * l.length
  | [], _ => by simp [PyData.weightAll]
  | k :: l, h => by
    have ih := weight_toZ (l := l) fun x hx => h x (.tail _ hx)
    have hk := h k (.head _)
    have : PyData.weight (.int (k : Int)) ≤ 20 := by
      unfold PyData.weight
      split
      · exact Nat.zero_le _
      · rename_i q
        have hk0 : k ≠ 0 := fun e => q (by subst e; rfl)
        have := (Nat.log2_lt hk0).mpr hk
        rw [Int.natAbs_natCast]; exact o247 this
    rw [toZ, List.map_cons, List.map_cons]
    unfold PyData.weightAll
    rw [List.length_cons]
    have ih' : PyData.weightAll ((List.map (fun (k : Nat) => (k : Int)) l).map .int) ≤ 21 * l.length := ih
    exact o529 this ih'
theorem layable_toZ {l : List Nat} (h : l.length < 64) (hb : ∀ k ∈ l, k < 2 ^ 20) : PyData.layable0 (.list ((toZ l).map .int)) = true := by
  have h1 := PySem.W.canLayAll0_ints (toZ l)
  have h2 := PySem.W.depthAll_ints (toZ l)
  have h3 := weight_toZ hb
  unfold PyData.layable0
  simp only [Bool.and_eq_true, decide_eq_true_eq]
  refine ⟨⟨by simp only [PyData.canLay0]; exact h1, by simp only [PyData.depth]; exact o85 h2⟩, ?_⟩
  unfold PyData.weight
  exact o418 h h3
theorem srt_toZ (l : List Nat) : (toZ (l.mergeSort (· ≤ ·))).Perm (toZ l) ∧ (toZ (l.mergeSort (· ≤ ·))).Pairwise (· ≤ ·) := by
  refine ⟨(List.mergeSort_perm l _).map _, ?_⟩
  have := List.pairwise_mergeSort (le := fun (a b : Nat) => decide (a ≤ b)) (fun a b c h1 h2 => by simp at *; exact o61 h2 h1) (fun a b => by simp; exact o53) l
  rw [List.pairwise_map]
  refine this.imp fun h => ?_
  simp at h; exact o26 h
theorem ct_covers {w : World} {found : List Nat} {seen : List (List Nat)} {size : Nat} (hf : ∀ t ∈ found, t < seen.length) (hfl : found.length ≤ 15) (hl4 : ∀ l ∈ seen, l.length ≤ 4) (hsl : seen.length ≤ 1000) (hsz : size ≤ 1000) (hB : ∀ l ∈ seen, ∀ k ∈ l, k < 2 ^ 20) :
    CT w [] 1 213 [natL found, natLL seen, .int size] (.bool (coversP found seen size)) := by
  refine CT.cells (names := [Str.ofString "found", Str.ofString "seen", Str.ofString "size"]) (by k_is) (by k_is) ?_ rfl (by decide) (by rfl) (by decide) rfl rfl rfl ?_ (by decide)
  · intro s vs h; obtain ⟨a, b, c, rfl⟩ := len3 h; exact BindsTo.of_eq rfl
  intro f hw
  subst hw
  let B0 : Rho := [(Str.ofString "found", .loc (natL found)), (Str.ofString "seen", .loc (natLL seen)), (Str.ofString "size", .loc (.int size))]
  refine SX.weaken (ρ' := (Str.ofString "covered", .ucel) :: B0) ?_ ⟨rfl, rfl, rfl, rfl, trivial⟩
  refine SX.cons (SX.assignC (EV.list EL.nil) rfl rfl ?_)
  refine SX.cons (SX.for (fun l' ρ => ∃ (ts c : List Nat), l' = ts.map (fun (k : Nat) => PV.int k) ∧ (∀ t ∈ ts, t < seen.length) ∧ c.length + 4 * ts.length ≤ 60 ∧ (∀ k ∈ c, k < 2 ^ 20) ∧ coversP found seen size = (match covLoop seen size ts c with
      | none => false
      | some c => decide (c.mergeSort (· ≤ ·) = List.range size)) ∧ SubR ((Str.ofString "covered", .cel (natL c)) :: B0) ρ) (IT.list (EV.var rfl rfl)) ⟨found, [], rfl, hf, by simp; exact o274 hfl, (fun k hk => nomatch hk), rfl, rfl, rfl, rfl, rfl, trivial⟩ ?_ ?_)
  · rintro x l' ρ ⟨ts, c, hts, hlt, hlen, hcb, hP, hs⟩
    cases ts with
    | nil => cases hts
    | cons t ts =>
      injection hts with h1 h2
      subst h1 h2
      have ht := hlt t (.head _)
      have hti : (t : Int) < 2 ^ 40 := by exact o56 hsl ht
      have hseen : (seen.map natL)[((t : Nat) : Int).toNat]? = some (natL seen[t]) := by simp [List.getElem?_eq_getElem ht]
      have hgd : seen.getD t [] = seen[t] := getD_lt ht
      have h4 := hl4 _ (List.getElem_mem ht)
      refine ⟨_, AS.loc, ?_⟩
      refine SX.weaken (ρ' := (Str.ofString "turn", .loc (.int (t : Nat))) :: (Str.ofString "covered", .cel (natL c)) :: B0) ?_ ⟨rfl, hs.lookup rfl, hs.lookup rfl, hs.lookup rfl, hs.lookup rfl, trivial⟩
      unfold covLoop at hP
      rw [hgd] at hP
      have hmem : ∀ v ∈ (List.range size).map fun (k : Nat) => PV.int k, ∃ k : Nat, k < size ∧ v = .int k := fun v hv => by
        obtain ⟨k, hk, rfl⟩ := List.mem_map.mp hv; exact ⟨k, List.mem_range.mp hk, rfl⟩
      let pf : PV → Bool := fun v => match v with
        | .int k => !((toZ c).any (· == k))
        | _ => false
      have hfil : (((List.range size).map fun (k : Nat) => PV.int k).filter pf).map (fun v => v) = ((List.range size).filter fun k => !c.contains k).map fun (k : Nat) => PV.int k := by
        rw [List.map_id', List.filter_map]
        congr 1
        congr 1
        funext k
        show (!((toZ c).any (· == (k : Int)))) = _
        rw [any_toZ]
      refine SX.cons (SX.comp (l := (List.range size).map fun (k : Nat) => PV.int k) (ρ₂ := fun v => [(Str.ofString "k", .loc v), (Str.ofString "covered", .fre (natL c))]) (p := pf) (y := fun v => v)
        (by rw [← rngL_nat]; exact IT.range (EV.ty (g_range _) b_range (EL.cons (EV.var rfl rfl) EL.nil) (OPL.range1 rfl)) (by decide) (by decide) (by exact o1) (by exact o22 hsz))
        ⟨fun f' hw v hv => ASO.loc (by rfl), fun f' hw v hv => ?_, fun f' hw v hv _ => EV.var rfl rfl, fun v hv => ⟨⟨rfl, trivial⟩, ⟨rfl, trivial⟩⟩⟩ (by rw [List.length_map, List.length_range]; exact Nat.le_trans hsz (by decide)) ?_)
      · obtain ⟨k, hk, rfl⟩ := hmem v hv
        exact TS.one (EB.cmp (EV.var rfl rfl) (EV.var rfl rfl) (OP2.notinI rfl (asInts_natL c)))
      rw [hfil]
      generalize hfr : (List.range size).filter (fun k => !c.contains k) = fr at hP ⊢
      show SX f _ (execs _ f.env) _
      have efr : PV.asInts (.list (fr.map fun (k : Nat) => PV.int k)) = some (toZ fr) := asIs_nat fr
      refine SX.cons' (Ψ := fun o => (o = .rt (.bool false) ∧ coversP found seen size = false) ∨ (∃ k rest, fr = k :: rest ∧ seen[t].contains k = true ∧ ∃ ρ, o = .nx ρ ∧ SubR ((Str.ofString "turn", .loc (.int (t : Nat))) :: (Str.ofString "covered", .cel (natL c)) :: B0) ρ))
        (SX.ite (b := decide (toZ fr = []) || !((toZ seen[t]).any (· == ((fr.headD 0 : Nat) : Int)))) (EB.or2 (EB.cmp (EV.var rfl rfl) (EV.list EL.nil) (OP2.eqI2 efr rfl)) (fun hne => ?_)) (fun q => ?_) (fun q => ?_)) ?_
      · have hne' : fr ≠ [] := fun e => by subst e; simp at hne
        obtain ⟨k, rest, rfl⟩ := List.exists_cons_of_ne_nil hne'
        exact EB.cmp (EV.item (EQL.of (EV.var rfl rfl)) EV.cint rfl (by decide) (by decide) (pv := .int (k : Nat)) rfl) (EV.item (EQL.of (EV.var rfl rfl)) (EV.var rfl rfl) rfl (Int.natCast_nonneg t) hti hseen) (OP2.notinI rfl (asInts_natL _))
      · refine SX.cons (SX.ret EV.cbool (.inl ⟨rfl, ?_⟩))
        cases fr with
        | nil => exact hP
        | cons k rest =>
          have q' : seen[t].contains k = false := by
            have : decide (toZ (k :: rest) = []) = false := by simp
            rw [this, Bool.false_or, List.headD_cons, any_toZ] at q
            simpa using q
          simp only at hP
          rw [q'] at hP
          exact hP
      · cases fr with
        | nil => simp at q
        | cons k rest =>
          rw [Bool.or_eq_false_iff] at q
          have q2 := q.2
          rw [List.headD_cons, any_toZ] at q2
          exact SX.nil (.inr ⟨k, rest, rfl, by simpa using q2, _, rfl, rfl, rfl, rfl, rfl, rfl, trivial⟩)
      · rintro o (⟨rfl, hF⟩ | ⟨k, rest, rfl, hcon, ρ, rfl, hs⟩)
        · show PV.bool _ = PV.bool _
          rw [hF]
        · show SX f _ (execs _ f.env) _
          simp only [hcon, if_true] at hP
          refine SX.weaken ?_ hs
          refine SX.cons (SX.assignC (EV.bin (EV.var rfl rfl) (EV.item (EQL.of (EV.var rfl rfl)) (EV.var rfl rfl) rfl (Int.natCast_nonneg t) hti hseen) (OP2.addL (x := c.map fun (k : Nat) => PV.int k) (y := seen[t].map fun (k : Nat) => PV.int k) ?_)) rfl rfl (SX.nil ?_))
          · have : (100 : Nat) ≤ sizeLine := by decide
            simp only [List.length_map, List.length_cons] at hlen ⊢; exact o587 this h4 hlen
          · rw [← List.map_append]
            refine ⟨(Str.ofString "covered", .cel (natL (c ++ seen[t]))) :: B0, ⟨rfl, rfl, rfl, rfl, trivial⟩, ts, c ++ seen[t], rfl, fun t' ht' => hlt t' (.tail _ ht'), ?_, fun k' hk' => ?_, hP, rfl, rfl, rfl, rfl, trivial⟩
            · simp only [List.length_append, List.length_cons] at hlen ⊢; exact o547 h4 hlen
            · rcases List.mem_append.mp hk' with hk' | hk'
              · exact hcb k' hk'
              · exact hB _ (List.getElem_mem ht) k' hk'
  · rintro ρ ⟨ts, c, hts, _, hlen, hcb, hP, hs⟩
    cases ts with
    | cons t ts => cases hts
    | nil =>
      refine SX.nil ?_
      show SX f _ (execs _ f.env) _
      have hP' : coversP found seen size = decide (c.mergeSort (· ≤ ·) = List.range size) := hP
      obtain ⟨s1, s2⟩ := srt_toZ c
      refine SX.cons (SX.ret (EV.cmp (EV.blt (g_sorted _) b_sorted (EL.cons (EV.var (hs.lookup rfl) rfl) EL.nil) (OPL.sorted (asInts_natL c) (by simp at hlen ⊢; exact o91 hlen) (layable_toZ (by simp at hlen; exact o91 hlen) hcb) _ s1 s2))
        (EV.ty (g_list _) b_list (EL.cons (EV.ty (g_range _) b_range (EL.cons (EV.var (hs.lookup rfl) rfl) EL.nil) (OPL.range1 rfl)) EL.nil) (OPL.listRange (by decide) (by decide) (by exact o1) (by exact o22 hsz) (by exact o263 hsz))) (OP2.eqI2 rfl rfl)) ?_)
      show PV.bool _ = PV.bool _
      rw [hP']
      have e : (List.map (fun (k : Nat) => (0 : Int) + k) (List.range ((size : Int) - 0).toNat)) = toZ (List.range size) := by
        rw [show ((size : Int) - 0).toNat = size by exact o72]
        exact List.map_congr_left fun k _ => by exact o76
      rw [e]
      congr 1
      rw [Bool.eq_iff_iff]; simp only [decide_eq_true_eq]; exact toZ_inj
end Mine

end
section
open PySem PySem.W PyProof.Rows PySem.Calls PySem.Spec PySem.Challenge
namespace Mine
theorem fillS6 : rw_ti0009_01 = rw_ti0009_01 ∧ hd.heap_39 = hd.heap_39 := by k_fill; exact ⟨rfl, rfl⟩
def cntE (places : List Nat) (base step k j : Nat) : Nat := (places.filter fun p => p % (base * step) == k + step * j).length
def evenP (places : List Nat) (base step : Nat) : Bool := (List.range step).all fun k => (List.range base).all fun j => cntE places base step k j == cntE places base step k 0
theorem exMax : ∀ {l : List Nat}, l ≠ [] → ∃ M ∈ l, ∀ a ∈ l, a ≤ M
  | [a], _ => ⟨a, .head _, fun b hb => by simp at hb; exact o25 hb⟩
  | a :: b :: l, _ => by
    obtain ⟨M, hM, h⟩ := exMax (l := b :: l) (by simp)
    by_cases q : a ≤ M
    · exact ⟨M, .tail _ hM, fun c hc => by rcases List.mem_cons.mp hc with rfl | hc; exact q; exact h c hc⟩
    · exact ⟨a, .head _, fun c hc => by rcases List.mem_cons.mp hc with rfl | hc; exact Nat.le_refl _; exact Nat.le_trans (h c hc) (by exact o127 q)⟩
theorem exMin : ∀ {l : List Nat}, l ≠ [] → ∃ M ∈ l, ∀ a ∈ l, M ≤ a
  | [a], _ => ⟨a, .head _, fun b hb => by simp at hb; exact o428 hb⟩
  | a :: b :: l, _ => by
    obtain ⟨M, hM, h⟩ := exMin (l := b :: l) (by simp)
    by_cases q : M ≤ a
    · exact ⟨M, .tail _ hM, fun c hc => by rcases List.mem_cons.mp hc with rfl | hc; exact q; exact h c hc⟩
    · exact ⟨a, .head _, fun c hc => by rcases List.mem_cons.mp hc with rfl | hc; exact Nat.le_refl _; exact Nat.le_trans (by exact o127 q) (h c hc)⟩
def cntY (places : List Nat) (base step k : Nat) : PV → PV
  | .int j => .int ((cntE places base step k j.toNat : Nat) : Int)
  | v => v
theorem smallMul {a b A B : Nat} (ha : a ≤ A) (hb : b ≤ B) (hA : A ≤ 1000 := by decide) (hB : B ≤ 1000 := by decide) : IntMulOk (a : Int) (b : Int) := by
  have h1 : Builtin.Int.intBits (a : Int) ≤ 10 := intBits_lt (by exact o0) (by exact o119 hA ha)
  have h2 : Builtin.Int.intBits (b : Int) ≤ 10 := intBits_lt (by exact o0) (by exact o119 hB hb)
  exact IntMulOk.of_le h1 h2 (by decide)
theorem ASOw {sc : Scope} {dk : Nat} {tb : List Addr} {f : Fm sc dk tb} {ρ ρ' ρ₂ : Rho} {t : Value → Sem Unit} {pv : PV} (h : ASO f ρ t pv ρ') (hs : SubR ρ₂ ρ') : ASO f ρ t pv ρ₂ := ⟨fun s G v F r Q E k => h.run s G v F r Q E fun s' G' lt ow F' => k s' G' lt ow (F'.weaken hs)⟩
theorem ct_even {w : World} {places : List Nat} {base step : Nat} (hb : 0 < base) (hb3 : base ≤ 3) (hs0 : 0 < step) (hs : step ≤ 100) (hn : places.length ≤ 100) :
    CT w [] 1 208 [natL places, .int base, .int step] (.bool (evenP places base step)) := by
  refine CT.cells (names := [Str.ofString "places", Str.ofString "base", Str.ofString "step"]) (by k_is) (by k_is) ?_ rfl (by decide) (by rfl) (by decide) rfl rfl rfl ?_ (by decide)
  · intro s vs h; obtain ⟨a, b, c, rfl⟩ := len3 h; exact BindsTo.of_eq rfl
  intro f hw
  subst hw
  let B0 : Rho := [(Str.ofString "places", .cel (natL places)), (Str.ofString "base", .cel (.int base)), (Str.ofString "step", .cel (.int step))]
  refine SX.weaken (ρ' := (Str.ofString "k", .ucel) :: B0) ?_ ⟨rfl, rfl, rfl, rfl, trivial⟩
  have big : (1000 : Nat) ≤ sizeLine := by decide
  refine SX.cons (SX.for (fun l' ρ => ∃ ks : List Nat, l' = ks.map (fun (k : Nat) => PV.int k) ∧ (ks.all fun k => (List.range base).all fun j => cntE places base step k j == cntE places base step k 0) = evenP places base step ∧ (∃ e, ρ.lookup (Str.ofString "k") = some e ∧ e.isCel = true) ∧ SubR B0 ρ)
    (IT.range (EV.ty (g_range _) b_range (EL.cons (EV.var rfl rfl) EL.nil) (OPL.range1 rfl)) (by decide) (by decide) (by exact o1) (by exact o260 hs)) ⟨List.range step, rngL_nat _, rfl, ⟨_, rfl, rfl⟩, rfl, rfl, rfl, trivial⟩ ?_ ?_)
  · rintro x l' ρ ⟨ks, hks, hall, ⟨e, hk1, hk2⟩, hsb⟩
    cases ks with
    | nil => cases hks
    | cons k ks =>
      injection hks with h1 h2
      subst h1 h2
      refine ⟨_, AS.cel hk1 hk2, ?_⟩
      refine SX.weaken (ρ' := (Str.ofString "k", .cel (.int (k : Nat))) :: B0) ?_ ⟨rfl, hsb.lookup rfl, hsb.lookup rfl, hsb.lookup rfl, trivial⟩
      have hmem : ∀ v ∈ (List.range base).map fun (k : Nat) => PV.int k, ∃ j : Nat, j < base ∧ v = .int j := fun v hv => by
        obtain ⟨j, hj, rfl⟩ := List.mem_map.mp hv; exact ⟨j, List.mem_range.mp hj, rfl⟩
      refine SX.cons (SX.comp1 (jn := Str.ofString "j") (l := (List.range base).map fun (k : Nat) => PV.int k) (ρ₂ := fun v => [(Str.ofString "j", .cel v), (Str.ofString "base", .fre (.int base)), (Str.ofString "k", .fre (.int (k : Nat))), (Str.ofString "places", .fre (natL places)), (Str.ofString "step", .fre (.int step))]) (p := fun _ => true) (y := cntY places base step k)
        (by rw [← rngL_nat]; exact IT.range (EV.ty (g_range _) b_range (EL.cons (EV.var rfl rfl) EL.nil) (OPL.range1 rfl)) (by decide) (by decide) (by exact o1) (by exact o282 hb3))
        ⟨fun f' hw v hv => ?_, fun f' hw v hv => TS.nil, fun f' hw v hv _ => ?_, fun v hv => ⟨⟨rfl, rfl, rfl, rfl, rfl, trivial⟩, ⟨rfl, rfl, rfl, rfl, rfl, trivial⟩⟩⟩ (by rw [List.length_map, List.length_range]; exact o349 big hb3) ?_)
      · exact ASOw (ASO.cel rfl rfl) ⟨rfl, rfl, rfl, rfl, rfl, trivial⟩
      · obtain ⟨j, hj, rfl⟩ := hmem v hv
        have hpm : ∀ v ∈ places.map fun (k : Nat) => PV.int k, ∃ p : Nat, v = .int p := fun v hv => by
          obtain ⟨p, _, rfl⟩ := List.mem_map.mp hv; exact ⟨p, rfl⟩
        let pf : PV → Bool := fun v => match v with
          | .int p => (p % ((base : Int) * step)) == ((k : Int) + step * j)
          | _ => false
        have hfil : (((places.map fun (k : Nat) => PV.int k).filter pf).map (fun v => v)).length = cntE places base step k j := by
          rw [List.map_id', List.filter_map, List.length_map]
          unfold cntE
          congr 1
          refine List.filter_congr fun p _ => ?_
          show ((p : Int) % ((base : Int) * step) == ((k : Int) + step * j)) = _
          rw [Bool.eq_iff_iff]; simp only [beq_iff_eq]
          constructor
          · intro h; exact_mod_cast h
          · intro h; exact_mod_cast h
        have hbs : (0 : Int) < (base : Int) * step := Int.mul_pos (by exact o3 hb) (by exact o3 hs0)
        refine EV.cast (EV.blt (g_len _) b_len (EL.cons (EV.comp (l := places.map fun (k : Nat) => PV.int k) (ρ₂ := fun v => [(Str.ofString "place", .loc v), (Str.ofString "base", .fre (.int base)), (Str.ofString "j", .fre (.int (j : Nat))), (Str.ofString "k", .fre (.int (k : Nat))), (Str.ofString "step", .fre (.int step))]) (p := pf) (y := fun v => v)
          (IT.list (EV.var rfl rfl)) ⟨fun f'' hw v hv => ASO.loc (by rfl), fun f'' hw v hv => ?_, fun f'' hw v hv _ => EV.var rfl rfl, fun v hv => ⟨⟨rfl, rfl, rfl, rfl, trivial⟩, ⟨rfl, rfl, rfl, rfl, trivial⟩⟩⟩ (by rw [List.length_map]; exact o348 big hn)) EL.nil) (OPL.len (by rw [hfil]; have : cntE places base step k j ≤ places.length := List.length_filter_le _ _; exact o439 hn this))) ?_
        · obtain ⟨p, rfl⟩ := hpm v hv
          exact TS.one (EB.cmp (EV.bin (EV.var rfl rfl) (EV.bin (EV.var rfl rfl) (EV.var rfl rfl) (OP2.mul rfl rfl (smallMul hb3 hs))) (OP2.mod rfl rfl hbs)) (EV.bin (EV.var rfl rfl) (EV.bin (EV.var rfl rfl) (EV.var rfl rfl) (OP2.mul rfl rfl (smallMul (by exact o262 hs : step ≤ 100) (by exact o452 hb3 hj : j ≤ 100)))) (OP2.add rfl rfl)) (OP2.eqI rfl rfl))
        · rw [hfil]; rfl
      rw [List.filter_eq_self.mpr (fun _ _ => rfl)]
      have ecs : ((List.range base).map fun (k : Nat) => PV.int k).map (cntY places base step k) = ((List.range base).map (cntE places base step k)).map fun (k : Nat) => PV.int k := by
        rw [List.map_map, List.map_map]
        exact List.map_congr_left fun j _ => rfl
      rw [ecs]
      generalize hcs : (List.range base).map (cntE places base step k) = cs
      have hne : cs ≠ [] := by rw [← hcs]; intro q; have := congrArg List.length q; simp at this; exact o215 hb this
      obtain ⟨M, hM, hMx⟩ := exMax hne
      obtain ⟨m, hm, hmx⟩ := exMin hne
      have hM' : (M : Int) ∈ toZ cs := List.mem_map.mpr ⟨M, hM, rfl⟩
      have hm' : (m : Int) ∈ toZ cs := List.mem_map.mpr ⟨m, hm, rfl⟩
      have hMx' : ∀ a ∈ toZ cs, a ≤ (M : Int) := fun a ha => by obtain ⟨b, hb, rfl⟩ := List.mem_map.mp ha; have := hMx b hb; exact o26 this
      have hmx' : ∀ a ∈ toZ cs, (m : Int) ≤ a := fun a ha => by obtain ⟨b, hb, rfl⟩ := List.mem_map.mp ha; have := hmx b hb; exact o26 this
      have heq : (M == m) = ((List.range base).all fun j => cntE places base step k j == cntE places base step k 0) := by
        rw [Bool.eq_iff_iff]
        simp only [beq_iff_eq, List.all_eq_true, List.mem_range]
        have h0 : cntE places base step k 0 ∈ cs := by rw [← hcs]; exact List.mem_map.mpr ⟨0, List.mem_range.mpr hb, rfl⟩
        constructor
        · intro h j hj
          have hj' : cntE places base step k j ∈ cs := by rw [← hcs]; exact List.mem_map.mpr ⟨j, List.mem_range.mpr hj, rfl⟩
          have := hMx _ hj'; have := hmx _ hj'; have := hMx _ h0; have := hmx _ h0; exact o603 h this (by assumption) (by assumption) (by assumption)
        · intro h
          rw [← hcs] at hM hm
          obtain ⟨j1, hj1, e1⟩ := List.mem_map.mp hM
          obtain ⟨j2, hj2, e2⟩ := List.mem_map.mp hm
          rw [← e1, ← e2, h j1 (List.mem_range.mp hj1), h j2 (List.mem_range.mp hj2)]
      show SX f _ (execs _ f.env) _
      rw [List.all_cons, ← heq] at hall
      refine SX.cons' (Ψ := fun o => (o = .rt (.bool false) ∧ (M == m) = false) ∨ ((M == m) = true ∧ ∃ ρ, o = .nx ρ ∧ SubR ((Str.ofString "k", .cel (.int (k : Nat))) :: B0) ρ))
        (SX.ite (EB.cmp (EV.blt (g_max _) b_max (EL.cons (EV.var rfl rfl) EL.nil) (OPL.max (asIs_nat cs) hM' hMx')) (EV.blt (g_min _) b_min (EL.cons (EV.var rfl rfl) EL.nil) (OPL.min (asIs_nat cs) hm' hmx')) (OP2.neI rfl rfl)) (fun q => ?_) (fun q => ?_)) ?_
      · refine SX.cons (SX.ret EV.cbool (.inl ⟨rfl, ?_⟩))
        simp only [bne_iff_ne] at q
        simp; exact o337 q
      · refine SX.nil (.inr ⟨?_, _, rfl, rfl, rfl, rfl, rfl, trivial⟩)
        simp at q
        simp; exact o334 q
      · rintro o (⟨rfl, hF⟩ | ⟨hT, ρ, rfl, hs⟩)
        · show PV.bool _ = PV.bool _
          rw [← hall, hF]; rfl
        · rw [hT, Bool.true_and] at hall
          exact SX.nil ⟨(Str.ofString "k", .cel (.int (k : Nat))) :: B0, hs, ks, rfl, hall, ⟨_, rfl, rfl⟩, rfl, rfl, rfl, trivial⟩
  · rintro ρ ⟨ks, hks, hall, _, hsb⟩
    cases ks with
    | cons k ks => cases hks
    | nil =>
      refine SX.nil ?_
      show SX f _ (execs _ f.env) _
      refine SX.cons (SX.ret EV.cbool ?_)
      show PV.bool _ = PV.bool _
      rw [← hall]; rfl
end Mine

end
section
open PySem PySem.W PyProof.Rows PySem.Calls PySem.Spec PySem.Challenge
namespace Mine
theorem fillS7 : rw_ti0009_01 = rw_ti0009_01 ∧ hd.heap_39 = hd.heap_39 := by k_fill; exact ⟨rfl, rfl⟩
section
variable {sc : Scope} {dk : Nat} {tb : List Addr} {f : Fm sc dk tb} {ρ : Rho}
theorem EB.list {e : Expr} {l : List PV} (h : EQL f ρ (eval e f.env) l) (hsz : l.length < 2 ^ 40) (he : isTrue e f.env (eval e f.env) = (do let v ← eval e f.env; standAt e.pos; holding [v] (truthy v)) := by rfl) : EB f ρ (isTrue e f.env (eval e f.env)) (!l.isEmpty) :=
  ⟨fun s G F Q E k => by
    with_reducible refine isTrue_plain ?_ he
    refine h.run s G F _ E fun a s₁ G₁ L₁ F₁ ev => ?_
    obtain ⟨vs, n, e₁, r₁⟩ := ev s₁ G₁ (.refl _) F₁
    have hl : s₁.heap.IsList a vs.toArray := ⟨_, e₁, rfl, n, rfl⟩
    refine wpAny_truthy_list hl (by rw [List.size_toArray, r₁.length]; exact o21 hsz) ?_
    have : vs.toArray.isEmpty = l.isEmpty := by
      have := r₁.length
      cases vs <;> cases l <;> simp at this ⊢
    rw [this]
    exact k _ G₁ L₁ (F₁.toks (Nat.le_add_right _ 2))⟩
end
/-- the number that digits make, the lowest first -/
def dval (n : Nat) : List Int → Int
  | [] => 0
  | d :: r => d + 2 ^ n * dval n r
theorem dval_append (n : Nat) (a b : List Int) : dval n (a ++ b) = dval n a + 2 ^ (n * a.length) * dval n b := by
  induction a with
  | nil => simp [dval]
  | cons d r ih =>
    rw [List.cons_append, dval, ih, dval, List.length_cons, Nat.mul_add, Nat.mul_one, Int.mul_add, ← Int.mul_assoc, ← Int.pow_add, Nat.add_comm n (n * r.length)]
    exact o482
theorem dval_bound {n B : Nat} {l : List Int} (h : ∀ d ∈ l, 0 ≤ d ∧ d < 2 ^ B) : 0 ≤ dval n l ∧ dval n l < 2 ^ (B + (n + 1) * l.length) := by
  induction l with
  | nil => exact ⟨Int.le_refl _, two_pow_pos _⟩
  | cons d r ih =>
    obtain ⟨h1, h2⟩ := ih fun x hx => h x (.tail _ hx)
    obtain ⟨h3, h4⟩ := h d (.head _)
    have p := two_pow_pos n
    refine ⟨by rw [dval]; have := Int.mul_nonneg (Int.le_of_lt p) h1; exact o100 this h3, ?_⟩
    rw [dval, List.length_cons]
    have e : B + (n + 1) * (r.length + 1) = (n + (B + (n + 1) * r.length)) + 1 := by rw [Nat.mul_add]; exact o509
    rw [e, Int.pow_succ, Int.pow_add]
    have g1 : 2 ^ n * dval n r ≤ 2 ^ n * (2 ^ (B + (n + 1) * r.length) - 1) := Int.mul_le_mul_of_nonneg_left (by exact o321 h2) (Int.le_of_lt p)
    have g2 : (2 : Int) ^ B ≤ 2 ^ n * 2 ^ (B + (n + 1) * r.length) := by
      rw [← Int.pow_add]
      have : (2:Int) ^ (n + (B + (n + 1) * r.length)) = 2 ^ B * 2 ^ (n + (n + 1) * r.length) := by rw [← Int.pow_add]; congr 1; exact o512
      rw [this]
      have := Int.mul_le_mul_of_nonneg_left (two_pow_pos (n + (n + 1) * r.length)) (Int.le_of_lt (two_pow_pos B))
      have h0 := two_pow_pos (n + (n + 1) * r.length)
      calc (2:Int) ^ B = 2 ^ B * 1 := by exact o69
        _ ≤ 2 ^ B * 2 ^ (n + (n + 1) * r.length) := Int.mul_le_mul_of_nonneg_left h0 (Int.le_of_lt (two_pow_pos B))
    have h5 := Int.mul_sub (2 ^ n : Int) (2 ^ (B + (n + 1) * r.length)) 1
    exact o625 p h4 g1 g2 h5
def seg (ds : List Int) (L R : Nat) : List Int := (ds.drop L).take (R - L)
theorem seg_split {ds : List Int} {L m R : Nat} (h1 : L ≤ m) (h2 : m ≤ R) (h3 : R ≤ ds.length) : seg ds L R = seg ds L m ++ seg ds m R ∧ (seg ds L m).length = m - L := by
  unfold seg
  constructor
  · have e : R - L = (m - L) + (R - m) := by exact o562 h2 h1
    rw [e, List.take_add, List.drop_drop]
    congr 3; exact o12 h1
  · simp; exact o611 h3 h2
theorem seg_one {ds : List Int} {L : Nat} (h : L < ds.length) (n : Nat) : dval n (seg ds L (L + 1)) = ds[L] := by
  unfold seg
  rw [List.drop_eq_getElem_cons h, show L + 1 - L = 1 by exact o41, List.take_succ_cons, List.take_zero, dval, dval]
  exact o315
theorem seg_mem {ds : List Int} {L R : Nat} {d : Int} (h : d ∈ seg ds L R) : d ∈ ds := List.mem_of_mem_drop (List.mem_of_mem_take h)
theorem seg_len {ds : List Int} {L R : Nat} : (seg ds L R).length ≤ R - L := by unfold seg; simp; exact o566
abbrev qI : Str := Str.ofString "_int2digits.<locals>.inner"
abbrev qD : Str := Str.ofString "_digits2int.<locals>.inner"
theorem smallM {i j : Int} (h1 : 0 ≤ i) (h2 : i ≤ 16) (h3 : 0 ≤ j) (h4 : j ≤ 2 ^ 20) : IntMulOk i j := by
  refine IntMulOk.of_le (m := 10) (n := 30) ?_ ?_ (by decide)
  · exact Nat.le_trans (intBits_lt (n := 5) h1 (by exact o183 h2)) (by decide)
  · exact Nat.le_trans (intBits_lt (n := 21) h3 (by exact o184 h4)) (by decide)
theorem SX.withFn {sc : Scope} {dk : Nat} {tb : List Addr} {f : Fm sc dk tb} {ρ : Rho} {name : Str} {o : Obj} {ex : List (Addr × Obj)} {t : Sem Flow} {Φ : Out → Prop} (Spec : Obj → Prop) (hS : Spec o) (h : Spec o → SX f ((name, .cel (.fn o ex)) :: ρ) t Φ) : SX f ((name, .cel (.fn o ex)) :: ρ) t Φ := h hS
theorem nd3 (m : Nat) : [m + 1, m + 1 + 1, m].Nodup := by simp; exact o300
theorem CodeIn.of {sc : Scope} {dk : Nat} {f : Fm sc dk []} {cv : Value} {qual : Str} {ex : List (Addr × Obj)} (h : f.h0.CodeRec cv qual) (hb : ∀ c o vs, f.h0.get? c = some o → o.data = .fields vs → c ∉ f.br ∧ c ∉ f.out) : CodeIn f ex qual cv := by
  obtain ⟨c, o, vs, t, e, e1, e2, e3⟩ := h
  exact ⟨c, o, vs, t, e, e2, e3, .inl ⟨e1, List.not_mem_nil, hb c o vs e1 e2⟩⟩
def cfD (ds : List Int) (n : Nat) (o : Obj) (ex : List (Addr × Obj)) : List (Str × PV) := [(Str.ofString "digits", .list (ds.map .int)), (Str.ofString "inner", .fn o ex), (Str.ofString "n", .int n)]
theorem ct_d2i {w : World} {ds : List Int} {n B : Nat} (hl : ds.length ≤ 16) (hn : n ≤ 2 ^ 20) (hB : B ≤ 2 ^ 20) (hd : ∀ d ∈ ds, 0 ≤ d ∧ d < 2 ^ B) : CT w [54] 7 59 [.list (ds.map .int), .int n] (.int (dval n ds)) := by
  refine CT.cellsU (names := [Str.ofString "digits", Str.ofString "n"]) (by k_is) (by k_is) ?_ rfl (by decide) (by rfl) (by decide) rfl rfl rfl ?_ (by decide)
  · intro s vs h; obtain ⟨a, b, rfl⟩ := len2 h; exact BindsTo.of_eq rfl
  intro f hw hcode hqual hbr hout ht0 hcells
  obtain ⟨m, hcells⟩ := hcells
  subst hw
  have hcells' : f.cells = [(Str.ofString "inner", m + 1 + 1), (Str.ofString "n", m + 1), (Str.ofString "digits", m)] := hcells
  refine SXU.nest (clos := [(Str.ofString "n", m + 1), (Str.ofString "inner", m + 1 + 1), (Str.ofString "digits", m)]) (.inr rfl) (fun N => N.2.1) hcode hbr hout ht0.2 mk54 rfl ?_ ?_ ?_
  · simp [closureFor, cellOf, Fm.env, hcells']
    rfl
  · show f.qual ++ _ = _
    rw [hqual]; rfl
  intro doc pm c' ctv ex hcd
  have hnd : (([(Str.ofString "n", m + 1), (Str.ofString "inner", m + 1 + 1), (Str.ofString "digits", m)] : List (Str × Addr)).map (·.2)).Nodup := nd3 m
  refine SX.withFn (fun o => ∀ k L, L + 1 ≤ ds.length → CTF f.w (k + 1) [(Str.ofString "n", m + 1), (Str.ofString "inner", m + 1 + 1), (Str.ofString "digits", m)] (cfD ds n o ex) o qD (.ref c') [.int (L : Nat), .int (L + 1 : Nat)] (.int (dval n (seg ds L (L + 1))))) ?_ fun leaf => ?_
  · intro k L h1
    refine CTF.plain (names := [Str.ofString "L", Str.ofString "R"]) (by rfl) ?_ rfl (by decide) (by rfl) (by rfl) rfl rfl rfl (closInj hnd) ?_
    · intro s vs h; obtain ⟨a, b, rfl⟩ := len2 h; exact BindsTo.of_eq rfl
    intro f hw hcl hcd ho hb hrec
    refine SX.cons (SX.ite (b := true) (EB.cast (EB.cmp (EV.bin (EV.var rfl rfl) EV.cint (OP2.add rfl rfl)) (EV.var rfl rfl) (OP2.eqI rfl rfl)) (by simp)) (fun _ => SX.cons (SX.ret (EV.item (pv := .int (dval n (seg ds L (L + 1)))) (EQL.of (EV.var rfl rfl)) (EV.var rfl rfl) rfl (Int.natCast_nonneg L) (by exact o445 hl h1) ?_) rfl)) (fun q => by cases q))
    rw [seg_one h1]
    simp [List.getElem?_eq_getElem h1]
  refine SX.withFn (fun o => ∀ k L R, L < R → R ≤ ds.length → R - L ≤ 2 ^ k → CTF f.w (k + 1) [(Str.ofString "n", m + 1), (Str.ofString "inner", m + 1 + 1), (Str.ofString "digits", m)] (cfD ds n o ex) o qD (.ref c') [.int (L : Nat), .int (R : Nat)] (.int (dval n (seg ds L R)))) ?_ ?_
  · intro k
    induction k with
    | zero =>
      intro L R h1 h2 h3
      have hR : R = L + 1 := by exact o108 h3 h1
      subst hR
      exact leaf 0 L h2
    | succ k ih =>
      intro L R h1 h2 h3
      by_cases hR : R = L + 1
      · subst hR; exact leaf _ L h2
      have hp : 2 ^ (k + 1) = 2 ^ k + 2 ^ k := by rw [Nat.pow_succ]; exact o81
      have e1 : ((L : Int) + R) / 2 ^ (1 : Int).toNat = ((L + R) / 2 : Nat) := o703
      generalize hm : (L + R) / 2 = mid at e1
      have m1 : L < mid := by exact o136 h1 hR hm
      have m2 : mid < R := by exact o143 m1 hm
      have e2 : ((mid : Int) - L) * n = ((mid - L) * n : Nat) := by rw [Int.natCast_mul, Int.ofNat_sub (Nat.le_of_lt m1)]
      have C1 := ih mid R m2 h2 (o702 h1 h3 hp hm)
      have C2 := ih L mid m1 (by exact o60 m2 h2) (o701 h1 h3 hp hm)
      obtain ⟨s1, s2⟩ := seg_split (ds := ds) (Nat.le_of_lt m1) (Nat.le_of_lt m2) h2
      have hres : dval n (seg ds mid R) * 2 ^ ((mid - L) * n : Nat) + dval n (seg ds L mid) = dval n (seg ds L R) := by
        rw [s1, dval_append, s2, Nat.mul_comm n, Int.mul_comm]; exact o48
      have hbd := dval_bound (n := n) (B := B) (l := seg ds mid R) fun d h => hd d (seg_mem h)
      have hbits := intBits_lt hbd.1 hbd.2
      have hsl := seg_len (ds := ds) (L := mid) (R := R)
      have hx1 : (n + 1) * (seg ds mid R).length ≤ (2 ^ 20 + 1) * 16 := Nat.mul_le_mul (by exact o279 hn) (by exact o599 hl h2 hsl)
      have hx2 : (mid - L) * n ≤ 16 * 2 ^ 20 := Nat.mul_le_mul (by exact o607 hl m2 h2) hn
      refine CTF.plain (names := [Str.ofString "L", Str.ofString "R"]) (by rfl) ?_ rfl (by decide) (by rfl) (by rfl) rfl rfl rfl (closInj hnd) ?_
      · intro s vs h; obtain ⟨a, b, rfl⟩ := len2 h; exact BindsTo.of_eq rfl
      intro f hw hcl hcd ho hb hrec
      rw [← hw] at C1 C2
      refine SX.cons (SX.ite (b := false) (EB.cast (EB.cmp (EV.bin (EV.var rfl rfl) EV.cint (OP2.add rfl rfl)) (EV.var rfl rfl) (OP2.eqI rfl rfl)) (by simp; exact o134 m1 hm)) (fun q => by cases q) (fun _ => SX.nil ?_))
      refine SX.cons (SX.assign (EV.bin (EV.bin (EV.var rfl rfl) (EV.var rfl rfl) (OP2.add rfl rfl)) EV.cint (OP2.shr rfl rfl (by decide))) ?_)
      rw [e1]
      refine SX.cons (SX.assign (EV.bin (EV.bin (EV.var rfl rfl) (EV.var rfl rfl) (OP2.sub rfl rfl)) (EV.var rfl rfl) (OP2.mul rfl rfl (smallM (by exact o116 m1) (by exact o146 hl h2 hm) (by exact o0) (by exact o88 hn)))) ?_)
      rw [e2]
      refine SX.cons (SX.ret (EV.bin (EV.bin (EV.callF rfl rfl rfl (EL.cons (EV.var rfl rfl) (EL.cons (EV.var rfl rfl) EL.nil)) C1 ?_ (.inl hcl.symm) ?_ (Nat.le_refl _)) (EV.var rfl rfl) (OP2.shl rfl rfl (Int.natCast_nonneg _) ?_)) (EV.callF rfl rfl rfl (EL.cons (EV.var rfl rfl) (EL.cons (EV.var rfl rfl) EL.nil)) C2 ?_ (.inl hcl.symm) ?_ (Nat.le_refl _)) (OP2.add rfl rfl)) ?_)
      · exact CodeIn.of hrec fun c o vs _ _ => by rw [hb, ho]; exact ⟨List.not_mem_nil, List.not_mem_nil⟩
      · intro p hp
        simp only [cfD, List.mem_cons, List.not_mem_nil, or_false] at hp
        rcases hp with rfl | rfl | rfl <;> exact ⟨_, rfl, rfl, nofun⟩
      · exact o604 hx1 hx2 hB hbits
      · exact CodeIn.of hrec fun c o vs _ _ => by rw [hb, ho]; exact ⟨List.not_mem_nil, List.not_mem_nil⟩
      · intro p hp
        simp only [cfD, List.mem_cons, List.not_mem_nil, or_false] at hp
        rcases hp with rfl | rfl | rfl <;> exact ⟨_, rfl, rfl, nofun⟩
      · show (PV.int _ : PV) = .int _
        rw [Int.toNat_natCast, hres]
  · intro C
    have hcl : f.cells = (f.up [54]).cells := rfl
    refine SX.cons (SX.ret (EV.ifexp (b := !(ds.map PV.int).isEmpty) (EB.list (EQL.of (EV.var rfl rfl)) (by rw [List.length_map]; exact o87 hl)) (fun q => ?_) (fun q => ?_)) rfl)
    · have hne : 0 < ds.length := by
        cases ds with
        | nil => cases q
        | cons d r => simp
      have C1 := C 4 0 ds.length hne (Nat.le_refl _) (by exact o86 hl)
      have es : seg ds 0 ds.length = ds := by unfold seg; simp
      rw [es] at C1
      refine EV.callF (k := 5) rfl rfl rfl (EL.cons EV.cint (EL.cons (EV.cast (EV.blt (g_len _) b_len (EL.cons (EV.var rfl rfl) EL.nil) (OPL.len (by rw [List.length_map]; exact o87 hl))) (by rw [List.length_map])) EL.nil)) C1 hcd (.inr fun p hp => ?_) (fun p hp => ?_)
      · rw [← hcl, hcells']
        simp only [cfD, List.mem_cons, List.not_mem_nil, or_false] at hp
        rcases hp with rfl | rfl | rfl <;> rfl
      · simp only [cfD, List.mem_cons, List.not_mem_nil, or_false] at hp
        rcases hp with rfl | rfl | rfl <;> exact ⟨_, rfl, rfl, nofun⟩
    · have : ds = [] := by
        cases ds with
        | nil => rfl
        | cons d r => simp at q
      subst this
      exact EV.cint
end Mine

end
section
open PySem PySem.W PyProof.Rows PySem.Calls PySem.Spec PySem.Challenge
namespace Mine
theorem fillS8 : rw_ti0009_01 = rw_ti0009_01 ∧ hd.heap_39 = hd.heap_39 := by k_fill; exact ⟨rfl, rfl⟩
/-- the digits of a number, the lowest first -/
def digs (n : Nat) : Nat → Int → List Int
  | 0, _ => []
  | m + 1, x => x % 2 ^ n :: digs n m (x / 2 ^ n)
theorem digs_len (n : Nat) : ∀ (m : Nat) (x : Int), (digs n m x).length = m
  | 0, _ => rfl
  | m + 1, x => by rw [digs, List.length_cons, digs_len n m]
theorem emod_mul_div {a : Int} (ha : 0 < a) (b x : Int) : x % (a * b) / a = x / a % b := by
  rw [Int.emod_def, Int.emod_def, Int.mul_assoc, Int.sub_eq_add_neg, ← Int.mul_neg, Int.add_mul_ediv_left _ _ (Int.ne_of_gt ha), Int.ediv_ediv_of_nonneg (Int.le_of_lt ha)]
  exact o314
theorem digs_split (n : Nat) : ∀ (a b : Nat) (x : Int), digs n (a + b) x = digs n a (x % 2 ^ (n * a)) ++ digs n b (x / 2 ^ (n * a))
  | 0, b, x => by simp [digs]
  | a + 1, b, x => by
    have p := two_pow_pos n
    rw [show a + 1 + b = (a + b) + 1 by exact o107, digs, digs, digs_split n a b, List.cons_append]
    have e0 : n * (a + 1) = n + n * a := by rw [Nat.mul_add]; exact o370
    have e1 : x % 2 ^ (n * (a + 1)) % 2 ^ n = x % 2 ^ n := by
      rw [e0, Int.pow_add]; exact Int.emod_emod_of_dvd _ (Int.dvd_mul_right ..)
    have e2 : x % 2 ^ (n * (a + 1)) / 2 ^ n = x / 2 ^ n % 2 ^ (n * a) := by
      rw [e0, Int.pow_add]; exact emod_mul_div p _ _
    have e3 : x / 2 ^ n / 2 ^ (n * a) = x / 2 ^ (n * (a + 1)) := by
      rw [e0, Int.pow_add, Int.ediv_ediv_of_nonneg (Int.le_of_lt p)]
    rw [e1, e2, e3]
theorem bitXor_low {x : Int} (h : 0 ≤ x) (s : Nat) : Builtin.bitXor x (x / 2 ^ s * 2 ^ s) = x % 2 ^ s := by
  have e : Builtin.bitAnd x (x / 2 ^ s * 2 ^ s) = x / 2 ^ s * 2 ^ s := by
    obtain ⟨y, rfl⟩ := Int.eq_ofNat_of_zero_le h
    have e1 : ((y : Int) / 2 ^ s * 2 ^ s) = ((y / 2 ^ s * 2 ^ s : Nat) : Int) := by push_cast; rfl
    rw [e1, bitAnd_nat]
    congr 1
    apply Nat.eq_of_testBit_eq
    intro i
    rw [Nat.testBit_and, ← Nat.shiftRight_eq_div_pow, ← Nat.shiftLeft_eq, Nat.testBit_shiftLeft, Nat.testBit_shiftRight]
    by_cases q : i ≥ s
    · simp [q, Nat.add_sub_cancel' q]
    · simp [q]
  rw [bitXor_and, e]
  have := Int.mul_ediv_add_emod x (2 ^ s)
  rw [Int.mul_comm] at this
  exact o487 this
theorem isNx.mk {ρ : Rho} : isNx ρ (.nx ρ) := rfl
theorem nd3' (m : Nat) : [m, m + 1 + 1, m + 1].Nodup := by simp; exact o303
def cfI (n : Nat) (o : Obj) (ex : List (Addr × Obj)) : List (Str × PV) := [(Str.ofString "inner", .fn o ex), (Str.ofString "n", .int n)]
/-- digits put in from L on -/
def putD (n : Nat) (l : List Int) (L m : Nat) (x : Int) : List Int := l.take L ++ digs n m x ++ l.drop (L + m)
theorem putD_len {n L m : Nat} {l : List Int} {x : Int} (h : L + m ≤ l.length) : (putD n l L m x).length = l.length := by
  unfold putD; simp [digs_len]; exact o520 h
theorem putD_one {n L : Nat} {l : List Int} {x : Int} (h : L < l.length) (h0 : 0 ≤ x) (h1 : x < 2 ^ n) : l.set L x = putD n l L 1 x := by
  unfold putD
  rw [List.set_eq_take_append_cons_drop, if_pos h, digs, digs, Int.emod_eq_of_lt h0 h1]
  simp
theorem putD_two {n L a b : Nat} {l : List Int} {x : Int} (h : L + (a + b) ≤ l.length) : putD n (putD n l L a (x % 2 ^ (n * a))) (L + a) b (x / 2 ^ (n * a)) = putD n l L (a + b) x := by
  unfold putD
  have h1 : (l.take L ++ digs n a (x % 2 ^ (n * a))).length = L + a := by simp [digs_len]; exact o594 h
  rw [digs_split, List.take_append_of_le_length (by exact o555 h1), List.take_of_length_le (by exact o526 h1), List.drop_append, h1, List.drop_of_length_le (by exact o596 h1), List.nil_append, List.drop_drop]
  simp only [List.append_assoc]
  rw [show L + a + (L + a + b - (L + a)) = L + (a + b) by exact o519]
theorem ct_i2d {w : World} {a : Int} {n m : Nat} (ha : 0 ≤ a) (hn0 : 0 < n) (hn : n ≤ 2 ^ 20) (hm : m = (Builtin.Int.intBits a + n - 1) / n) (hm16 : m ≤ 16) : CT w [47] 7 52 [.int a, .int n] (.list ((digs n m a).map .int)) := by
  refine CT.cellsU (names := [Str.ofString "a", Str.ofString "n"]) (by k_is) (by k_is) ?_ rfl (by decide) (by rfl) (by decide) rfl rfl rfl ?_ (by decide)
  · intro s vs h; obtain ⟨a, b, rfl⟩ := len2 h; exact BindsTo.of_eq rfl
  intro f hw hcode hqual hbr hout ht0 hcells
  obtain ⟨M, hcells⟩ := hcells
  subst hw
  have hcells' : f.cells = [(Str.ofString "inner", M + 1 + 1), (Str.ofString "a_digits", M + 1), (Str.ofString "n", M)] := hcells
  have hbm : Builtin.Int.intBits a ≤ n * m := by
    have h1 := Nat.lt_mul_div_succ (Builtin.Int.intBits a + n - 1) hn0
    rw [← hm, Nat.mul_add] at h1
    exact o132 h1
  have haM : a < 2 ^ (n * m) := lt_of_intBits ha hbm
  have hnm : n * m ≤ 2 ^ 20 * 16 := Nat.mul_le_mul hn hm16
  have e1 : ((Builtin.Int.intBits a : Int) + n - 1) / n = (m : Nat) := by
    rw [hm, Int.natCast_ediv]; congr 1; exact o654 hn0
  have hsl : (16 : Nat) ≤ sizeLine := by decide
  refine SXU.cons (SX.ownC (EO.mulL (EV.list (EL.cons EV.cint EL.nil)) (EV.cast (EV.bin (EV.bin (EV.bin (EV.bitLength (EV.var rfl rfl) rfl) (EV.var rfl rfl) (OP2.add rfl rfl)) EV.cint (OP2.sub rfl rfl)) (EV.var rfl rfl) (OP2.fdiv rfl rfl (by exact o3 hn0) (noPylong (by exact o102 hn0) (by exact o3 hn0) ?_))) (congrArg PV.int e1)) rfl (by simp) (Int.natCast_nonneg m) ?_) rfl rfl isNx.mk) ?_
  · refine Nat.le_trans (intBits_lt (n := 26) (by exact o102 hn0) ?_) (by exact o232)
    have : (2 : Int) ^ 26 = 67108864 := by decide
    exact o546 hn hnm hbm
  · rw [Int.toNat_natCast]; simp only [List.length_cons, List.length_nil]; exact o700 (Nat.le_trans hm16 (by decide))
  have h0 : (List.replicate (Int.toNat (m : Nat)) [PV.int 0]).flatten = (List.replicate m (0 : Int)).map PV.int := by
    rw [Int.toNat_natCast, List.map_replicate]
    generalize m = q
    induction q with
    | zero => rfl
    | succ n ih => rw [List.replicate_succ, List.flatten_cons, ih]; rfl
  rw [h0]
  refine SXU.nest (clos := [(Str.ofString "n", M), (Str.ofString "inner", M + 1 + 1), (Str.ofString "a_digits", M + 1)]) (.inl rfl) (fun N => N.1) hcode hbr hout ht0.1 mk47 rfl ?_ ?_ ?_
  · simp [closureFor, cellOf, Fm.env, hcells']
    rfl
  · show f.qual ++ _ = _
    rw [hqual]; rfl
  intro doc pm c' ctv ex hcd
  have hnd : (([(Str.ofString "n", M), (Str.ofString "inner", M + 1 + 1), (Str.ofString "a_digits", M + 1)] : List (Str × Addr)).map (·.2)).Nodup := nd3' M
  refine SX.withFn (fun o => ∀ (k L : Nat) (l : List Int) (x : Int), l.length = m → L + 1 ≤ m → 0 ≤ x → x < 2 ^ n → CTD f.w (k + 1) [(Str.ofString "n", M), (Str.ofString "inner", M + 1 + 1), (Str.ofString "a_digits", M + 1)] (cfI n o ex) o qI (.ref c') (Str.ofString "a_digits") (l.map .int) [.int x, .int (L : Nat), .int (L + 1 : Nat)] ((putD n l L 1 x).map .int)) ?_ fun leaf => ?_
  · intro k L l x hl h1 hx0 hx1
    refine CTD.plain (names := [Str.ofString "x", Str.ofString "L", Str.ofString "R"]) (by rfl) rfl ?_ rfl (by decide) (by rfl) (by rfl) rfl rfl rfl (closInj hnd) ?_
    · intro s vs h; obtain ⟨a, b, c, rfl⟩ := len3 h; exact BindsTo.of_eq rfl
    intro f hw hcl hcd hob hrec
    have hset : (l.map PV.int).set (L : Int).toNat (.int x) = (putD n l L 1 x).map .int := by
      rw [Int.toNat_natCast, set_map, putD_one (by exact o518 h1 hl) hx0 hx1]
    refine SD.consRet (SD.iteT (EB.cast (EB.cmp (EV.bin (EV.var rfl rfl) EV.cint (OP2.add rfl rfl)) (EV.var rfl rfl) (OP2.eqI rfl rfl)) (by simp)) (SD.cons (SX.setItem rfl rfl (EV.var rfl rfl) (EV.var rfl rfl) rfl (Int.natCast_nonneg L) (by rw [List.length_map]; exact o517 h1 hl) (by rw [List.length_map]; exact o506 hsl hm16 hl) isNx.mk) ?_)) (.inr rfl)
    rw [hset]
    exact SD.consRet (SD.ret rfl) rfl
  refine SX.withFn (fun o => ∀ (k L R : Nat) (l : List Int) (x : Int), l.length = m → L < R → R ≤ m → R - L ≤ 2 ^ k → 0 ≤ x → x < 2 ^ (n * (R - L)) → CTD f.w (k + 1) [(Str.ofString "n", M), (Str.ofString "inner", M + 1 + 1), (Str.ofString "a_digits", M + 1)] (cfI n o ex) o qI (.ref c') (Str.ofString "a_digits") (l.map .int) [.int x, .int (L : Nat), .int (R : Nat)] ((putD n l L (R - L) x).map .int)) ?_ ?_
  · intro k
    have one : ∀ (k L R : Nat) (l : List Int) (x : Int), R = L + 1 → l.length = m → L < R → R ≤ m → 0 ≤ x → x < 2 ^ (n * (R - L)) → _ := fun k L R l x hR hl h1 h2 h4 h5 => leaf k L l x hl (by exact o554 hR h2) h4 (by rw [hR, show n * (L + 1 - L) = n by rw [Nat.add_sub_cancel_left, Nat.mul_one]] at h5; exact h5)
    induction k with
    | zero =>
      intro L R l x hl h1 h2 h3 h4 h5
      have hR : R = L + 1 := by exact o108 h3 h1
      have := one 0 L R l x hR hl h1 h2 h4 h5
      subst hR
      rw [show L + 1 - L = 1 by exact o41]
      exact this
    | succ k ih =>
      intro L R l x hl h1 h2 h3 h4 h5
      by_cases hR : R = L + 1
      · have := one (k + 1) L R l x hR hl h1 h2 h4 h5
        subst hR
        rw [show L + 1 - L = 1 by exact o41]
        exact this
      have hp : 2 ^ (k + 1) = 2 ^ k + 2 ^ k := by rw [Nat.pow_succ]; exact o81
      have e1 : ((L : Int) + R) / 2 ^ (1 : Int).toNat = ((L + R) / 2 : Nat) := o703
      generalize hmid : (L + R) / 2 = mid at e1
      have m1 : L < mid := by exact o136 h1 hR hmid
      have m2 : mid < R := by exact o143 m1 hmid
      have e2 : ((mid : Int) - L) * n = ((mid - L) * n : Nat) := by rw [Int.natCast_mul, Int.ofNat_sub (Nat.le_of_lt m1)]
      have hx2 : (mid - L) * n ≤ 16 * 2 ^ 20 := Nat.mul_le_mul (by exact o608 hm16 h2 hmid) hn
      have e3 : (((mid - L) * n : Nat) : Int).toNat = n * (mid - L) := by rw [Int.toNat_natCast, Nat.mul_comm]
      have px := two_pow_pos (n * (mid - L))
      have hu0 : 0 ≤ x / 2 ^ (n * (mid - L)) := Int.ediv_nonneg h4 (Int.le_of_lt px)
      have hu1 : x / 2 ^ (n * (mid - L)) < 2 ^ (n * (R - mid)) := by
        rw [Int.ediv_lt_iff_lt_mul px, ← Int.pow_add, ← Nat.mul_add, show R - mid + (mid - L) = R - L by exact o534 m2 m1]; exact h5
      have hlo := bitXor_low h4 (n * (mid - L))
      have C1 := ih L mid l (x % 2 ^ (n * (mid - L))) hl m1 (by exact o60 m2 h2) (o701 h1 h3 hp hmid) (Int.emod_nonneg _ (Int.ne_of_gt px)) (Int.emod_lt_of_pos _ px)
      have C2 := ih mid R (putD n l L (mid - L) (x % 2 ^ (n * (mid - L)))) (x / 2 ^ (n * (mid - L))) (by rw [putD_len (by exact o618 m1 hl h2 hmid), hl]) m2 h2 (o702 h1 h3 hp hmid) hu0 hu1
      have hfin : putD n (putD n l L (mid - L) (x % 2 ^ (n * (mid - L)))) mid (R - mid) (x / 2 ^ (n * (mid - L))) = putD n l L (R - L) x := by
        have := putD_two (n := n) (L := L) (a := mid - L) (b := R - mid) (l := l) (x := x) (by exact o617 m1 m2 hl h2)
        rw [show L + (mid - L) = mid by exact o377 m1, show mid - L + (R - mid) = R - L by exact o524 m2 m1] at this
        exact this
      rw [hfin] at C2
      have hub := intBits_lt hu0 hu1
      have hnR : n * (R - mid) ≤ 2 ^ 20 * 16 := Nat.mul_le_mul hn (by exact o559 hm16 h2)
      refine CTD.plain (names := [Str.ofString "x", Str.ofString "L", Str.ofString "R"]) (by rfl) rfl ?_ rfl (by decide) (by rfl) (by rfl) rfl rfl rfl (closInj hnd) ?_
      · intro s vs h; obtain ⟨a, b, c, rfl⟩ := len3 h; exact BindsTo.of_eq rfl
      intro f hw hcl hcd hob hrec
      obtain ⟨D, ho, hb, vD, nD, hD⟩ := hob
      have hci : CodeIn f ex qI (.ref c') := CodeIn.of hrec fun c o vs e1 e2 => by
        rw [hb, ho]
        refine ⟨fun q => ?_, List.not_mem_nil⟩
        rw [show c = D by simpa using q, hD] at e1; cases e1; cases e2
      rw [← hw] at C1 C2
      refine SD.cons (SX.ite (b := false) (EB.cast (EB.cmp (EV.bin (EV.var rfl rfl) EV.cint (OP2.add rfl rfl)) (EV.var rfl rfl) (OP2.eqI rfl rfl)) (by simp; exact o134 m1 hmid)) (fun q => by cases q) (fun _ => SX.nil isNx.mk)) ?_
      refine SD.cons (SX.assign (EV.bin (EV.bin (EV.var rfl rfl) (EV.var rfl rfl) (OP2.add rfl rfl)) EV.cint (OP2.shr rfl rfl (by decide))) isNx.mk) ?_
      rw [e1]
      refine SD.cons (SX.assign (EV.bin (EV.bin (EV.var rfl rfl) (EV.var rfl rfl) (OP2.sub rfl rfl)) (EV.var rfl rfl) (OP2.mul rfl rfl (smallM (by exact o116 m1) (by exact o146 hm16 h2 hmid) (by exact o0) (by exact o88 hn)))) isNx.mk) ?_
      rw [e2]
      refine SD.cons (SX.assign (EV.bin (EV.var rfl rfl) (EV.var rfl rfl) (OP2.shr rfl rfl (Int.natCast_nonneg _))) isNx.mk) ?_
      rw [e3]
      refine SD.cons (SX.assign (EV.bin (EV.var rfl rfl) (EV.bin (EV.var rfl rfl) (EV.var rfl rfl) (OP2.shl rfl rfl (Int.natCast_nonneg _) (by exact o545 hx2 hnR hub))) (OP2.bxor rfl rfl)) isNx.mk) ?_
      rw [e3, hlo]
      refine SD.cons (SX.exprD (yd := Str.ofString "a_digits") rfl rfl rfl (EL.cons (EV.var rfl rfl) (EL.cons (EV.var rfl rfl) (EL.cons (EV.var rfl rfl) EL.nil))) C1 hci (.inl hcl.symm) ?_ rfl rfl nofun isNx.mk (Nat.le_refl _)) ?_
      · intro p hp
        simp only [cfI, List.mem_cons, List.not_mem_nil, or_false] at hp
        rcases hp with rfl | rfl <;> exact ⟨_, rfl, rfl, nofun⟩
      refine SD.cons (SX.exprD (yd := Str.ofString "a_digits") rfl rfl rfl (EL.cons (EV.var rfl rfl) (EL.cons (EV.var rfl rfl) (EL.cons (EV.var rfl rfl) EL.nil))) C2 hci (.inl hcl.symm) ?_ rfl rfl nofun isNx.mk (Nat.le_refl _)) (SD.nil rfl)
      · intro p hp
        simp only [cfI, List.mem_cons, List.not_mem_nil, or_false] at hp
        rcases hp with rfl | rfl <;> exact ⟨_, rfl, rfl, nofun⟩
  · intro C
    have hcl : f.cells = (f.up [47]).cells := rfl
    by_cases ha0 : a = 0
    · subst ha0
      have hm0 : m = 0 := by
        rw [hm]
        refine Nat.div_eq_of_lt ?_
        have : Builtin.Int.intBits 0 = 0 := by decide
        exact o342 hn0 this
      subst hm0
      refine SX.cons (SX.ite (EB.int (EV.var rfl rfl) rfl) (fun q => by simp at q) (fun _ => SX.nil ?_))
      exact SX.cons (SX.retCown hbr rfl rfl)
    · have hm0 : 0 < m := by
        rw [hm]
        have : 0 < Builtin.Int.intBits a := by
          rcases Nat.eq_zero_or_pos (Builtin.Int.intBits a) with h | h
          · have := lt_of_intBits (n := 0) ha (by exact o252 h)
            exact o187 ha this ha0
          · exact h
        exact Nat.div_pos (by exact o345 this) hn0
      have C1 := C 4 0 m (List.replicate m 0) a (by simp) hm0 (Nat.le_refl _) (by exact o86 hm16) ha (by rw [Nat.sub_zero]; exact haM)
      have hput : putD n (List.replicate m 0) 0 (m - 0) a = digs n m a := by unfold putD; simp
      rw [hput] at C1
      refine SX.cons (SX.ite (EB.int (EV.var rfl rfl) rfl) (fun _ => SX.cons (SX.exprD (k := 5) (yd := Str.ofString "a_digits") rfl rfl rfl (EL.cons (EV.var rfl rfl) (EL.cons EV.cint (EL.cons (EV.cast (EV.lenOwn (g_len _) b_len (EQL.own rfl rfl) (by simp; exact o275 hm16)) (by simp)) EL.nil))) C1 hcd (.inr fun y hy => ?_) ?_ rfl rfl nofun (SX.nil ?_))) (fun q => by simp at q; exact absurd q ha0))
      · rw [← hcl, hcells']
        rcases hy with rfl | ⟨p, hp, rfl⟩
        · rfl
        · simp only [cfI, List.mem_cons, List.not_mem_nil, or_false] at hp
          rcases hp with rfl | rfl <;> rfl
      · intro p hp
        simp only [cfI, List.mem_cons, List.not_mem_nil, or_false] at hp
        rcases hp with rfl | rfl <;> exact ⟨_, rfl, rfl, nofun⟩
      · exact SX.cons (SX.retCown hbr rfl rfl)
end Mine

end
section
open PySem PySem.W PyProof.Rows PySem.Calls PySem.Spec PySem.Challenge
namespace Mine
variable {sc : Scope} {dk : Nat} {tb : List Addr}
section
variable {f : Fm sc dk tb} {G : Gh} {ρ : Rho} {s : Shared} {τ : Tau} {κ : Kap}
theorem FS.push2 (F : FS f G ρ s) (o1 o2 : Obj) (hf : o2.isFreed = false) : ∃ G', G.Le G' ∧ FS f G' ρ { s with heap := (s.heap.push o1).push o2 } ∧ G'.κ (s.heap.objs.size + 1) = some o2 := by
  have F1 := F.all (h' := (s.heap.push o1).push o2) (tk := s.toks) (fun b ob e => Heap.get?_push_of_some _ (Heap.get?_push_of_some _ e)) (Nat.le_refl _)
  have hz : (s.heap.push o1).objs.size = s.heap.objs.size + 1 := Heap.size_push ..
  have e := Heap.get?_push_size (s.heap.push o1) hf
  rw [hz] at e
  obtain ⟨F2, L⟩ := F1.addK (F.far (Nat.le_succ _)) e
  exact ⟨_, L, F2, addK_self _ _ _⟩
theorem EV.sliceFrom {value lo : Expr} {p pos : Pos} {l : List PV} {iv : PV} {j : Nat} (hv : EV f ρ (eval value f.env) (.list l)) (hi : EV f ρ (eval lo f.env) iv) (hj : iv.asI = some (j : Int)) (hsz : l.length ≤ sizeLine)
    (ht : ∀ o r, letTemporaryGo value o r = pure () := by intro _ _; rfl) : EV f ρ (eval (.Subscript value (.Slice (some lo) none none p) pos) f.env) (.list (l.drop j)) := ⟨fun s G F Q E k => by
  refine wpAny_Subscript_list_slice ?_ ht
  refine hv.run s G F _ _ fun v s₁ G₁ L₁ F₁ r₁ => ?_
  rw [evalPart_some]
  refine hi.run s₁ G₁ F₁ _ _ fun u s₂ G₂ L₂ F₂ r₂ => ?_
  rw [evalPart_none]
  obtain ⟨t, rfl⟩ := r₂.isInt hj
  obtain ⟨a, vs, n, rfl, e1, r⟩ := (r₁.mono L₂.τ L₂.κ).isList
  refine wpAny_pure ⟨a, vs.toArray, some (j : Int), none, rfl, F₂.listAt e1, by rw [List.size_toArray, r.length]; exact hsz, .int _ _, .none, ?_⟩
  rw [slicePick_from']
  obtain ⟨G₃, L₃, F₃, e3⟩ := F₂.push2 { cls := .type "slice", data := .fields #[.int j t, .none, .none] } (listOf (vs.drop j).toArray 0) rfl
  exact k _ _ G₃ ((L₁.trans L₂).trans L₃) F₃ (.list e3 ((r.drop j).mono L₃.τ L₃.κ))⟩
theorem EV.sliceTo {value hi : Expr} {p pos : Pos} {l : List PV} {iv : PV} {j : Nat} (hv : EV f ρ (eval value f.env) (.list l)) (hi' : EV f ρ (eval hi f.env) iv) (hj : iv.asI = some (j : Int)) (hsz : l.length ≤ sizeLine)
    (ht : ∀ o r, letTemporaryGo value o r = pure () := by intro _ _; rfl) : EV f ρ (eval (.Subscript value (.Slice none (some hi) none p) pos) f.env) (.list (l.take j)) := ⟨fun s G F Q E k => by
  refine wpAny_Subscript_list_slice ?_ ht
  refine hv.run s G F _ _ fun v s₁ G₁ L₁ F₁ r₁ => ?_
  rw [evalPart_none]
  refine wpAny_pure ?_
  rw [evalPart_some]
  refine hi'.run s₁ G₁ F₁ _ _ fun u s₂ G₂ L₂ F₂ r₂ => ?_
  obtain ⟨t, rfl⟩ := r₂.isInt hj
  obtain ⟨a, vs, n, rfl, e1, r⟩ := (r₁.mono L₂.τ L₂.κ).isList
  refine ⟨a, vs.toArray, none, some (j : Int), rfl, F₂.listAt e1, by rw [List.size_toArray, r.length]; exact hsz, .none, .int _ _, ?_⟩
  rw [slicePick_upto']
  obtain ⟨G₃, L₃, F₃, e3⟩ := F₂.push2 { cls := .type "slice", data := .fields #[.none, .int j t, .none] } (listOf (vs.take j).toArray 0) rfl
  exact k _ _ G₃ ((L₁.trans L₂).trans L₃) F₃ (.list e3 ((r.take j).mono L₃.τ L₃.κ))⟩
/-- the numbers that a slice picks -/
def pickI (ns : List Int) (lo hi st : Option Int) : List Int := (sliceRange (sliceBounds lo hi st ns.length).1 (sliceBounds lo hi st ns.length).2.1 (sliceBounds lo hi st ns.length).2.2).filterMap (ns[·]?)
theorem pick_ints {vs : List Value} {ns : List Int} (h : IntsAre vs ns) : ∀ is : List Nat, IntsAre (is.filterMap (vs.toArray[·]?)) (is.filterMap (ns[·]?))
  | [] => .nil
  | i :: is => by
    have ih := pick_ints h is
    have get : ∀ {vs : List Value} {ns : List Int}, IntsAre vs ns → ∀ i : Nat, (vs[i]? = none ∧ ns[i]? = none) ∨ ∃ k t, vs[i]? = some (.int k t) ∧ ns[i]? = some k := by
      intro vs ns h
      induction h with
      | nil => intro i; left; simp
      | cons n t h ih =>
        intro i
        cases i with
        | zero => right; exact ⟨n, t, rfl, rfl⟩
        | succ i => simpa using ih i
    rcases get h i with ⟨h1, h2⟩ | ⟨k, t, h1, h2⟩
    · rw [List.filterMap_cons, List.filterMap_cons]
      simp only [List.getElem?_toArray, h1, h2]
      simpa using ih
    · rw [List.filterMap_cons, List.filterMap_cons]
      simp only [List.getElem?_toArray, h1, h2]
      exact .cons _ _ (by simpa using ih)
theorem EV.sliceStep {value lo st : Expr} {p pos : Pos} {q iv sv : PV} {ns : List Int} {j c : Int} (hv : EV f ρ (eval value f.env) q) (hq : q.asInts = some ns) (hi : EV f ρ (eval lo f.env) iv) (hj : iv.asI = some j) (hst : EV f ρ (eval st f.env) sv) (hc : sv.asI = some c) (h0 : c ≠ 0) (hsz : ns.length ≤ sizeLine)
    (ht : ∀ o r, letTemporaryGo value o r = pure () := by intro _ _; rfl) : EV f ρ (eval (.Subscript value (.Slice (some lo) none (some st) p) pos) f.env) (.ints (pickI ns (some j) none (some c))) := ⟨fun s G F Q E k => by
  refine wpAny_Subscript_Slice_step (T := "list") list_getitem_lookup ?_ ht
  refine hv.run s G F _ _ fun v s₁ G₁ L₁ F₁ r₁ => ?_
  refine wpAny_Slice ?_
  rw [evalPart_some]
  refine hi.run s₁ G₁ F₁ _ _ fun u s₂ G₂ L₂ F₂ r₂ => ?_
  rw [evalPart_none]
  refine wpAny_pure ?_
  rw [evalPart_some]
  refine hst.run s₂ G₂ F₂ _ _ fun z s₃ G₃ L₃ F₃ r₃ => ?_
  obtain ⟨t, rfl⟩ := r₂.isInt hj
  obtain ⟨t', rfl⟩ := r₃.isInt hc
  have L := (L₁.trans L₂).trans L₃
  obtain ⟨a, o, vs, n, rfl, e, hc', hd, hI⟩ := (r₁.mono (L₂.trans L₃).τ (L₂.trans L₃).κ).isInts hq
  have hl := F₃.isL e hc' hd
  have hz : vs.toArray.size ≤ sizeLine := by rw [List.size_toArray, hI.length]; exact hsz
  refine ⟨(hl.push _).typeIs, wpAny_getItem_list_slice (hl.push _) (Heap.IsSliceOf.new ..) (.int _ _) .none (.int _ _) (by simpa using h0) ?_ hz⟩
  rw [Heap.size_push]
  obtain ⟨G₄, L₄, F₄, e4⟩ := F₃.push2 { cls := .type "slice", data := .fields #[.int j t, .none, .int c t'] } (listOf (slicePick vs.toArray (some j) none (some c)) 0) rfl
  refine k _ _ G₄ (L.trans L₄) F₄ (.ints (vs := (slicePick vs.toArray (some j) none (some c)).toList) (n := 0) e4 rfl (by show Data.seq _ 0 = Data.seq _ 0; congr 1) ?_)
  unfold slicePick pickI
  rw [List.size_toArray, hI.length]
  simpa using pick_ints hI _⟩
end
end Mine

end
section
open PySem PySem.W PyProof.Rows PySem.Calls PySem.Spec PySem.Challenge
namespace Mine
theorem fillS5 : rw_ti0009_01 = rw_ti0009_01 ∧ hd.heap_39 = hd.heap_39 := by k_fill; exact ⟨rfl, rfl⟩
def bump (size : Nat) (ps : List Nat) : Nat → Nat → Option Nat
  | 0, _ => none
  | n + 1, p => if ps.contains p then bump size ps n ((p + 1) % size) else some p
def startZ (ns : List Int) (size k : Nat) : Nat := (((([3, 7, 4, 0] : List Nat).getD k 0 : Nat) + (pickI ns (some (k : Int)) none (some 4)).sum) % (size : Int)).toNat
def placesO (ns : List Int) (size : Nat) : List Nat → List Nat → Option (List Nat)
  | [], ps => some ps
  | k :: ks, ps => match bump size ps 10 (startZ ns size k) with
    | none => none
    | some p => placesO ns size ks (ps ++ [p])
theorem ct_places {w : World} {q : PV} {ns : List Int} {few size : Nat} {r : List Nat} (hq : q.asInts = some ns) (hns : ns.length ≤ 63) (hf : few ≤ 1) (hsz : 0 < size) (h : placesO ns size (List.range (4 - few)) [] = some r) : CT w [] 1 174 [q, .int few, .int size] (natL r) := by
  refine CT.plain (names := [Str.ofString "script", Str.ofString "few", Str.ofString "size"]) (by k_is) (by k_is) ?_ rfl (by decide) (by rfl) (by rfl) rfl rfl rfl ?_ (by decide)
  · intro s vs h; obtain ⟨a, b, c, rfl⟩ := len3 h; exact BindsTo.of_eq rfl
  intro f hw
  subst hw
  let B0 : Rho := [(Str.ofString "script", .loc q), (Str.ofString "few", .loc (.int few)), (Str.ofString "size", .loc (.int size))]
  have hz : (0 : Int) < size := by exact o3 hsz
  have big : (1000 : Nat) ≤ sizeLine := by decide
  refine SX.cons (SX.own (EO.list EL.nil) ?_)
  refine SX.cons (SX.for (fun l' ρ => ∃ (ks ps : List Nat), l' = ks.map (fun (k : Nat) => PV.int k) ∧ (∀ k ∈ ks, k < 4) ∧ ps.length + ks.length ≤ 10 ∧ placesO ns size ks ps = some r ∧ SubR ((Str.ofString "places", .owned (ps.map fun (k : Nat) => PV.int k)) :: B0) ρ)
    (IT.range (EV.ty (g_range _) b_range (EL.cons (EV.cast (q := .int ((4 - few : Nat) : Int)) (EV.bin EV.cint (EV.var rfl rfl) (OP2.sub rfl rfl)) (by show PV.int _ = PV.int _; congr 1; exact o651 hf)) EL.nil) (OPL.range1 rfl)) (by decide) (by decide) (by exact o652) (by exact o653)) ⟨List.range (4 - few), [], rngL_nat _, fun k hk => by have := List.mem_range.mp hk; exact o374 this, by rw [List.length_range, List.length_nil]; exact o205, h, rfl, rfl, rfl, rfl, trivial⟩ ?_ ?_)
  · rintro x l' ρ ⟨ks, ps, hks, hlt, hlen, hP, hs⟩
    cases ks with
    | nil => cases hks
    | cons k ks =>
      injection hks with h1 h2
      subst h1 h2
      have hk := hlt k (.head _)
      refine ⟨_, AS.loc, ?_⟩
      refine SX.weaken (ρ' := (Str.ofString "k", .loc (.int (k : Nat))) :: (Str.ofString "places", .owned (ps.map fun (k : Nat) => PV.int k)) :: B0) ?_ ⟨rfl, hs.lookup rfl, hs.lookup rfl, hs.lookup rfl, hs.lookup rfl, trivial⟩
      unfold placesO at hP
      have hk4 : ([.int 3, .int 7, .int 4, .int 0] : List PV)[((k : Nat) : Int).toNat]? = some (.int ((([3, 7, 4, 0] : List Nat).getD k 0 : Nat) : Int)) := by
        rw [Int.toNat_natCast]
        show (List.map (fun (n : Nat) => PV.int n) [3, 7, 4, 0])[k]? = _
        rw [List.getElem?_map, List.getD_eq_getElem?_getD, List.getElem?_eq_getElem (show k < [3, 7, 4, 0].length from hk)]; rfl
      have hki : (k : Int) < 2 ^ 40 := by exact o248 hk
      refine SX.cons (SX.assign (EV.cast (q := .int ((startZ ns size k : Nat) : Int)) (EV.bin (EV.bin (EV.item (EQL.of (EV.list (EL.cons EV.cint (EL.cons EV.cint (EL.cons EV.cint (EL.cons EV.cint EL.nil)))))) (EV.var rfl rfl) rfl (Int.natCast_nonneg k) hki hk4)
        (EV.blt (g_sum _) b_sum (EL.cons (EV.sliceStep (EV.var rfl rfl) hq (EV.var rfl rfl) rfl EV.cint rfl (by decide) (by exact o350 big hns)) EL.nil) (OPL.sum rfl)) (OP2.add rfl rfl)) (EV.var rfl rfl) (OP2.mod rfl rfl hz)) ?_) ?_)
      · show PV.int _ = PV.int _
        unfold startZ
        rw [Int.toNat_of_nonneg (Int.emod_nonneg _ (by exact o211 hsz))]
      generalize startZ ns size k = p0 at hP
      cases hb : bump size ps 10 p0 with
      | none => rw [hb] at hP; cases hP
      | some p1 =>
        rw [hb] at hP
        refine SX.cons (SX.whileR (fun m ρ => ∃ p, bump size ps m p = some p1 ∧ SubR ((Str.ofString "place", .loc (.int (p : Nat))) :: (Str.ofString "places", .owned (ps.map fun (k : Nat) => PV.int k)) :: B0) ρ) 10 ⟨p0, hb, rfl, rfl, rfl, rfl, rfl, trivial⟩ ?_)
        rintro m ρ ⟨p, hbm, hs⟩
        cases m with
        | zero => cases hbm
        | succ m =>
          unfold bump at hbm
          refine ⟨(toZ ps).any (· == (p : Int)), EB.inOwn (EV.var (hs.lookup rfl) rfl) rfl (EQL.own (hs.lookup rfl) rfl) (asIs_nat ps), fun t => ?_, fun t => ?_⟩
          · rw [any_toZ] at t
            rw [t] at hbm
            cases hbm
            show SX f _ (execs _ f.env) _
            refine SX.weaken ?_ hs
            refine SX.cons (SX.append rfl rfl (EV.var rfl rfl) (by rw [List.length_map]; exact o494 big hlen) (SX.nil ?_))
            refine ⟨(Str.ofString "places", .owned ((ps ++ [p1]).map fun (k : Nat) => PV.int k)) :: B0, ⟨?_, rfl, rfl, rfl, trivial⟩, ks, ps ++ [p1], rfl, fun k hk => hlt k (.tail _ hk), ?_, hP, rfl, rfl, rfl, rfl, trivial⟩
            · rw [List.map_append]; rfl
            · simp only [List.length_append, List.length_cons, List.length_nil] at hlen ⊢; exact o364 hlen
          · rw [any_toZ] at t
            rw [t] at hbm
            simp only [if_true] at hbm
            refine SX.weaken ?_ hs
            refine SX.cons (SX.assign (EV.cast (q := .int (((p + 1) % size : Nat) : Int)) (EV.bin (EV.bin (EV.var rfl rfl) EV.cint (OP2.add rfl rfl)) (EV.var rfl rfl) (OP2.mod rfl rfl hz)) (by show PV.int _ = PV.int _; congr 1)) (SX.nil ?_))
            exact ⟨m, (Str.ofString "place", .loc (.int (((p + 1) % size : Nat) : Int))) :: (Str.ofString "places", .owned (ps.map fun (k : Nat) => PV.int k)) :: B0, Nat.lt_succ_self _, ⟨rfl, rfl, rfl, rfl, rfl, trivial⟩, (p + 1) % size, hbm, rfl, rfl, rfl, rfl, rfl, trivial⟩
  · rintro ρ ⟨ks, ps, hks, _, hlen, hP, hs⟩
    cases ks with
    | cons k ks => cases hks
    | nil =>
      cases hP
      refine SX.nil ?_
      show SX f _ (execs _ f.env) _
      exact SX.cons (SX.retOwn (hs.lookup rfl) rfl)
end Mine

end
section
open PySem PySem.W PyProof.Rows PySem.Calls PySem.Spec PySem.Challenge
namespace Mine
section
variable {sc : Scope} {dk : Nat} {tb : List Addr} {f : Fm sc dk tb} {ρ : Rho}
theorem EV.toStr {t : Sem Value} {p : PV} {x : Str} (h : EV f ρ t p) (hp : p.asS = some x) : EV f ρ t (.str x) := ⟨fun s G F Q E k => h.run s G F _ E fun v s' G' L F' r => by
  obtain ⟨t, rfl⟩ := r.isStr hp
  exact k _ s' G' L F' (.str x t)⟩
theorem OPL.ord {p : PV} {c : Nat} (hp : p.asS = some ⟨#[c]⟩) : OPL f (fun vs => PySem.call (.builtin "ord") vs) [p] (.int (c : Nat)) := ⟨fun ρ s G vs F hvs Q E k => by
  obtain ⟨v, rfl, hv⟩ := hvs.len1
  obtain ⟨u, rfl⟩ := hv.isStr hp
  obtain ⟨G', L, F', e⟩ := F.newTok (.int (c : Nat))
  exact P.ord_of_char (k _ _ G' L F' (.int e))⟩
theorem OPL.chr {p : PV} {i : Int} (hp : p.asI = some i) (h0 : 0 ≤ i) (h1 : i ≤ 0x10FFFF) : OPL f (fun vs => PySem.call (.builtin "chr") vs) [p] (.tstr ⟨#[i.toNat]⟩) := ⟨fun ρ s G vs F hvs Q E k => by
  obtain ⟨v, rfl, hv⟩ := hvs.len1
  obtain ⟨u, rfl⟩ := hv.isInt hp
  obtain ⟨G', L, F', e⟩ := F.newTok (.str ⟨#[i.toNat]⟩)
  exact P.chr_of_int (by simp; exact o173 h0 h1) (k _ _ G' L F' (.tstr e))⟩
theorem OPL.lenS {p : PV} {x : Str} (hp : p.asS = some x) (hz : x.length ≤ sizeLine) : OPL f (fun vs => PySem.call (.builtin "len") vs) [p] (.int (x.length : Nat)) := ⟨fun ρ s G vs F hvs Q E k => by
  obtain ⟨v, rfl, hv⟩ := hvs.len1
  obtain ⟨u, rfl⟩ := hv.isStr hp
  obtain ⟨G', L, F', e⟩ := F.tokAt (.int (x.length : Nat)) (t := s.toks + 1) (tk := s.toks + 1 + 1) (Nat.le_succ _) (Nat.lt_succ_self _)
  have h24 : sizeLine = 16777216 := by decide
  exact len_str (by exact o426 h24 hz) (k _ _ G' L F' (.int e))⟩
end
/-- a slice of what has no name -/
theorem subT {prog : Program} {w : World} {A : Around} {E : Value → Shared → Prop} {s : Shared} {env : Env} {value : Expr} {lower upper : Option Expr} {p pos : Pos} {T id : String} {Q : Value → Shared → Prop}
    (hl : typeLookup (.type T) "__getitem__" = pure (some (.builtin id)))
    (h : wpAny (model prog w) A (eval value env) (fun o s₁ => wpAny (model prog w) A (eval (.Slice lower upper none p) env) (fun i s₂ => s₂.TypeIs o T ∧ wpAny (model prog w) A (getItem o i) Q E s₂) E s₁) E s) :
    wpAny (model prog w) A (eval (.Subscript value (.Slice lower upper none p) pos) env) Q E s := by
  rw [eval_Subscript]
  refine wpAny_bind (wpAny_mono h (fun o s₁ h₁ => wpAny_bind (wpAny_holding (wpAny_mono h₁ (fun i s₂ h₂ => wpAny_bind (wpAny_standAt ?_)) fun _ _ x => x))) fun _ _ x => x)
  have fin : wpAny (model prog w) A (operate [i, o] (getItem o i)) (fun r s₃ => wpAny (model prog w) A (letTemporaryGo value o r >>= fun _ => pure r) Q E s₃) E s₂ :=
    wpAny_operating (wpAny_mono h₂.2 (fun r s₃ h₃ => wpAny_bind (wpAny_letTemporaryGo (wpAny_pure h₃))) fun _ _ x => x)
  first
    | (refine wpAny_bind ?_
       rw [getitemInPython_of_ne h₂.1.not_modules]
       refine wpAny_bind (wpAny_specialOf h₂.1 hl ?_)
       first
         | exact wpAny_pure (wpAny_bind fin)
         | exact wpAny_bind (wpAny_pure (wpAny_bind fin))
         | exact wpAny_bind fin)
    | (refine wpAny_bind (wpAny_specialOf h₂.1 hl ?_)
       first
         | exact wpAny_bind (wpAny_pure (wpAny_bind fin))
         | exact wpAny_bind fin)
section
variable {sc : Scope} {dk : Nat} {tb : List Addr} {f : Fm sc dk tb} {ρ : Rho}
theorem EV.sliceToT {value hi : Expr} {p pos : Pos} {l : List PV} {iv : PV} {j : Nat} (hv : EV f ρ (eval value f.env) (.list l)) (hi' : EV f ρ (eval hi f.env) iv) (hj : iv.asI = some (j : Int)) (hsz : l.length ≤ sizeLine) :
    EV f ρ (eval (.Subscript value (.Slice none (some hi) none p) pos) f.env) (.list (l.take j)) := ⟨fun s G F Q E k => by
  refine subT (T := "list") list_getitem_lookup ?_
  refine hv.run s G F _ _ fun v s₁ G₁ L₁ F₁ r₁ => ?_
  refine wpAny_Slice ?_
  rw [evalPart_none]
  refine wpAny_pure ?_
  rw [evalPart_some]
  refine hi'.run s₁ G₁ F₁ _ _ fun u s₂ G₂ L₂ F₂ r₂ => ?_
  refine wpAny_pure ?_
  obtain ⟨t, rfl⟩ := r₂.isInt hj
  obtain ⟨a, vs, n, rfl, e1, r⟩ := (r₁.mono L₂.τ L₂.κ).isList
  have hl := F₂.listAt e1
  have hz : vs.toArray.size ≤ sizeLine := by rw [List.size_toArray, r.length]; exact hsz
  refine ⟨(hl.push _).typeIs, wpAny_getItem_list_slice (hl.push _) (Heap.IsSliceOf.new ..) .none (.int _ _) .none (by simp) ?_ hz⟩
  rw [Heap.size_push, slicePick_upto']
  obtain ⟨G₃, L₃, F₃, e3⟩ := F₂.push2 { cls := .type "slice", data := .fields #[.none, .int j t, .none] } (listOf (vs.take j).toArray 0) rfl
  exact k _ _ G₃ ((L₁.trans L₂).trans L₃) F₃ (.list e3 ((r.take j).mono L₃.τ L₃.κ))⟩
/-- a text from a place on -/
def strFrom (x : Str) (j : Nat) : Str := ⟨(x.cps.toList.drop j).toArray⟩
theorem sliceIdx_from (x : Str) (j : Nat) : Builtin.Str.strSliceIndices (some (j : Int)) none 1 x.length = (List.range (x.length - min j x.length)).map (fun k => min j x.length + k) := by
  have hm : min j x.length ≤ x.length := Nat.min_le_right _ _
  rw [← StrLaws.strSliceIndices_plain (a := min j x.length) (b := x.length) hm (Nat.le_refl _)]
  unfold Builtin.Str.strSliceIndices
  have g1 : ¬ ((j : Int) < 0) := by exact o97
  have g2 : ¬ (((min j x.length : Nat) : Int) < 0) := by exact o646
  have g3 : ¬ ((x.length : Int) < 0) := by exact o97
  simp only [g1, g2, g3, if_false, show ((1 : Int) > 0) = True from by simp, if_true]
  congr 1 <;> (first | exact o647 | exact o199)
theorem slicePicked_from {x : Str} {j : Nat} {t : Tok} : (slicePicked x (some ((j : Int), t)) none none).filterMap (x.cps[·]?) = x.cps.toList.drop j := by
  have hl : x.length = x.cps.toList.length := by rw [Array.length_toList]; rfl
  show (Builtin.Str.strSliceIndices (some (j : Int)) none 1 x.length).filterMap (x.cps[·]?) = _
  rw [sliceIdx_from]
  have e2 : (fun i : Nat => x.cps[i]?) = fun i : Nat => x.cps.toList[i]? := by funext i; rw [Array.getElem?_toList]
  rw [e2, StrLaws.picks x.cps.toList (x.length - min j x.length) (min j x.length) (by exact o539 hl)]
  rcases Nat.le_total j x.length with h | h
  · rw [Nat.min_eq_left h, List.take_of_length_le (by rw [List.length_drop]; exact o144 hl)]
  · rw [Nat.min_eq_right h, Nat.sub_self, List.take_zero, List.drop_of_length_le (by exact o556 hl h)]
theorem EV.sliceFromS {value lo : Expr} {p pos : Pos} {pv iv : PV} {x : Str} {j : Nat} (hv : EV f ρ (eval value f.env) pv) (hp : pv.asS = some x) (hi : EV f ρ (eval lo f.env) iv) (hj : iv.asI = some (j : Int)) (hsz : x.length ≤ sizeLine)
    (ht : ∀ o r, letTemporaryGo value o r = pure () := by intro _ _; rfl) : EV f ρ (eval (.Subscript value (.Slice (some lo) none none p) pos) f.env) (.str (strFrom x j)) := ⟨fun s G F Q E k => by
  refine wpAny_Subscript_str_slice ?_ ht
  refine hv.run s G F _ _ fun v s₁ G₁ L₁ F₁ r₁ => ?_
  rw [evalPart_some]
  refine hi.run s₁ G₁ F₁ _ _ fun u s₂ G₂ L₂ F₂ r₂ => ?_
  rw [evalPart_none]
  refine wpAny_pure ?_
  obtain ⟨t, rfl⟩ := r₂.isInt hj
  obtain ⟨tx, rfl⟩ := r₁.isStr hp
  refine ⟨x, tx, some ((j : Int), t), none, rfl, rfl, rfl, ?_⟩
  have F3 := F₂.all (h' := s₂.heap.push { cls := .type "slice", data := .fields #[.int (j : Int) t, .none, .none] }) (tk := s₂.toks) (fun b o e => Heap.get?_push_of_some _ e) (Nat.le_refl _)
  unfold sliceMade
  split
  · rename_i hc
    have e : strFrom x j = x := by
      have hl : x.length = x.cps.toList.length := by rw [Array.length_toList]; rfl
      simp only [Bool.and_eq_true, beq_iff_eq] at hc
      have h2 : (slicePicked x (some ((j : Int), t)) none none).length = x.length - min j x.length := by
        show (Builtin.Str.strSliceIndices (some (j : Int)) none 1 x.length).length = _
        rw [sliceIdx_from, List.length_map, List.length_range]
      have h3 : x.cps.toList.drop j = x.cps.toList := by
        rcases Nat.eq_zero_or_pos j with h | h
        · rw [h, List.drop_zero]
        · have : x.cps.toList.length = 0 := by exact o586 h hl hc.2 h2
          rw [List.length_eq_zero_iff.mp this, List.drop_nil]
      unfold strFrom
      rw [h3]
    rw [e] at k
    exact k _ _ G₂ (L₁.trans L₂) F3 (.str _ _)
  · rw [slicePicked_from]
    refine ⟨?_, k _ _ G₂ (L₁.trans L₂) (F3.toks (Nat.le_succ _)) (.str (strFrom x j) _)⟩
    show (x.cps.toList.drop j).toArray.size ≤ sizeLine
    have : x.cps.toList.length ≤ sizeLine := by rw [Array.length_toList]; exact hsz
    simp
    simp at this
    exact o532 this⟩
theorem wp_split {prog : Program} {w : World} {A : Around} {E : Value → Shared → Prop} {s : Shared} {x y : Str} {t u : Tok} {Q : Value → Shared → Prop} (hy : (y.length == 0) = false) (hx : x.length ≤ 1000000)
    (q : ∀ (l : List (Str × Tok)) (k : Tok), l.map (·.1) = Txt.split x y → Q (.ref s.heap.objs.size) { s with heap := s.heap.push (listOf (strValues l).toArray 0), toks := k }) :
    wpAny (model prog w) A (call (.builtin "str.split") [.str x t, .str y u]) Q E s := by
  have hsz : x.length ≤ sizeLine := Nat.le_trans hx (by decide)
  have hsz2 : (Builtin.Str.partsBetween x (Builtin.Str.occurrences x y 0 x.length (x.length + 1)) y.length).length ≤ sizeLine := by
    have h1 := StrLaws.occ_length_le x y 0 x.length (x.length + 1)
    unfold Builtin.Str.partsBetween
    simp
    have : (1000002 : Nat) ≤ sizeLine := by decide
    exact o504 this hx h1
  cases h1 : (decide (x.length < y.length) || decide (Builtin.Str.strKind x < Builtin.Str.strKind y))
  · cases hf : (Builtin.Str.occurrences x y 0 x.length (x.length + 1)).isEmpty
    · refine call_meets F.slot_str_split (typeIs_str _ _ _) F.entry_str_split (F.args_str_split_2 _ _) (meets_str_split_sep x y t u h1 hy hf hsz hsz2) ?_
      show wants Q E _ { s with toks := _, heap := s.heap.push { cls := .type "list", data := .seq (strsFrom s.toks (Builtin.Str.partsBetween x (Builtin.Str.occurrences x y 0 x.length (x.length + 1)) y.length)).toArray } }
      rw [strsFrom_eq]
      exact q (numbered s.toks _) _ ((numbered_texts _ _).trans ((if_neg (ne_true_of_eq_false h1)).trans (if_neg (ne_true_of_eq_false hf))).symm)
    · exact call_meets F.slot_str_split (typeIs_str _ _ _) F.entry_str_split (F.args_str_split_2 _ _) (meets_str_split_not_found x y t u h1 hy hf)
        (q [(x, t)] _ ((if_neg (ne_true_of_eq_false h1)).trans (if_pos hf)).symm)
  · exact call_meets F.slot_str_split (typeIs_str _ _ _) F.entry_str_split (F.args_str_split_2 _ _) (meets_str_split_cannot_occur x y t u h1)
      (q [(x, t)] _ (if_pos h1).symm)
theorem rp_strs {τ : Tau} {κ : Kap} : ∀ l : List (Str × Tok), RpAll τ κ (strValues l) ((l.map (·.1)).map PV.str)
  | [] => .nil
  | (x, t) :: l => .cons (.str x t) (rp_strs l)
theorem EV.split {o e : Expr} {apos cpos : Pos} {po pe : PV} {x y : Str} (ho : EV f ρ (eval o f.env) po) (hpo : po.asS = some x) (he : EV f ρ (eval e f.env) pe) (hpe : pe.asS = some y) (hy : (y.length == 0) = false) (hx : x.length ≤ 1000000)
    (hst : starEach [e] f.env = (false, eval e f.env) :: starEach [] f.env := by rfl) (hpl : (backTo cpos (starEach [] f.env)).any (·.1) = false := by rfl)
    {pl : Sem Bool} (he' : eval (.Call (.Attribute o (Str.ofString "split") apos) [e] [] cpos) f.env = (do
      let ov ← eval o f.env
      standAt apos.atName
      let (f', first) ← holding [ov] (getMethod ov (Str.ofString "split") pl)
      callWith cpos f' first (backTo cpos (starEach [e] f.env)) []) := by rfl) :
    EV f ρ (eval (.Call (.Attribute o (Str.ofString "split") apos) [e] [] cpos) f.env) (.list ((Txt.split x y).map .str)) := ⟨fun s G F Q E k => by
  with_reducible refine MethodCall_ ?_ he'
  refine ho.run s G F _ _ fun ov s0 G0 L0 F0 r0 => ?_
  obtain ⟨to, rfl⟩ := r0.isStr hpo
  refine GM.split ?_
  with_reducible refine callWith_method1 ?_ hst hpl
  refine (EL.cons he EL.nil hst).run s0 G0 F0 _ _ fun vs' s1 G1 L1 F1 r1 => ?_
  obtain ⟨v, rfl, rv⟩ := r1.len1
  obtain ⟨te, rfl⟩ := rv.isStr hpe
  refine grow (wp_split hy hx fun l k' hl gr => ?_)
  obtain ⟨G2, L2, F2, e2⟩ := (F1.toks (tk := k') gr.toks).alloc (listOf (strValues l).toArray 0) rfl
  refine k _ _ G2 ((L0.trans L1).trans L2) F2 (.list e2 ?_)
  rw [← hl]; exact rp_strs l⟩
end
end Mine

end
section
open PySem PySem.W PyProof.Rows PySem.Calls PySem.Spec
namespace Mine
def joinL : List (List Nat) → List Nat
  | [] => []
  | [l] => l
  | l :: m :: r => l ++ 13 :: 10 :: joinL (m :: r)
def endOf (i : Nat) : List Nat := if i = 0 then [10] else if i = 1 then [13] else [13, 10]
def textL (z : Nat) : Nat → List (List Nat) → List Nat
  | _, [] => []
  | _, [l] => l
  | k, l :: m :: r => l ++ endOf ((k + z) % 3) ++ textL z (k + 1) (m :: r)
def clean13 (ls : List (List Nat)) : Prop := ∀ l ∈ ls, ∀ c ∈ l, c ≠ 10 ∧ c ≠ 13
theorem fix_app : ∀ (l : List Nat) (r : List Nat), (∀ c ∈ l, c ≠ 10 ∧ c ≠ 13) → fix (l ++ r) = l ++ fix r
  | [], r, _ => rfl
  | c :: l, r, h => by
    rw [List.cons_append, fix_plain (h c (.head _)).1 (h c (.head _)).2, fix_app l r fun d hd => h d (.tail _ hd)]; rfl
theorem fix10 (r : List Nat) : fix (10 :: r) = 13 :: 10 :: fix r := by
  rw [fix.eq_2 _ _ (fun _ q _ => by cases q), if_pos (.inl rfl)]; rfl
theorem fix13 (r : List Nat) (h : ∀ r', r ≠ 10 :: r') : fix (13 :: r) = 13 :: 10 :: fix r := by
  rw [fix.eq_2 _ _ (fun r' _ q => h r' q), if_pos (.inr rfl)]; rfl
theorem fix1310 (r : List Nat) : fix (13 :: 10 :: r) = 13 :: 10 :: fix r := by rw [fix]
theorem text_head {z k : Nat} : ∀ {ls : List (List Nat)}, clean13 ls → (k + z) % 3 = 2 → ∀ r', textL z k ls ≠ 10 :: r'
  | [], _, _, r' => by simp [textL]
  | [l], h, _, r' => by
    intro q
    have q : l = 10 :: r' := q
    exact (h l (.head _) 10 (q ▸ .head _)).1 rfl
  | l :: m :: r, h, hk, r' => by
    intro q
    rw [textL, hk] at q
    cases l with
    | nil => cases q
    | cons c l' =>
      injection q with q1 _
      exact (h _ (.head _) c (.head _)).1 q1
theorem fix_text {z : Nat} : ∀ {ls : List (List Nat)} {k : Nat}, clean13 ls → fix (textL z k ls) = joinL ls
  | [], _, _ => rfl
  | [l], _, h => by
    have := fix_app l [] (h l (.head _))
    rw [List.append_nil] at this
    rw [textL, joinL, this, fix, List.append_nil]
  | l :: m :: r, k, h => by
    have ht : clean13 (m :: r) := fun x hx => h x (.tail _ hx)
    have ih := fix_text (z := z) (ls := m :: r) (k := k + 1) ht
    rw [textL, joinL, List.append_assoc, fix_app _ _ (h l (.head _))]
    congr 1
    have h3 : (k + z) % 3 = 0 ∨ (k + z) % 3 = 1 ∨ (k + z) % 3 = 2 := by exact o330
    rcases h3 with e | e | e
    · rw [e]; show fix (10 :: textL z (k + 1) (m :: r)) = _
      rw [fix10, ih]
    · rw [e]; show fix (13 :: textL z (k + 1) (m :: r)) = _
      rw [fix13 _ (text_head ht (by exact o331 e)), ih]
    · rw [e]; show fix (13 :: 10 :: textL z (k + 1) (m :: r)) = _
      rw [fix1310, ih]
def dot1 : List Nat → List Nat
  | [] => []
  | c :: r => if c = 46 then 46 :: 46 :: r else c :: r
theorem stuff_app : ∀ (l r : List Nat), (∀ c ∈ l, c ≠ 10 ∧ c ≠ 13) → stuff false (l ++ 13 :: 10 :: r) = l ++ 13 :: 10 :: stuff true r
  | [], r, _ => rfl
  | c :: l, r, h => by
    have e : (c == 10) = false := beq_eq_false_iff_ne.mpr (h c (.head _)).1
    rw [List.cons_append, stuff, e, stuff_app l r fun d hd => h d (.tail _ hd), if_neg (by simp)]; rfl
theorem stuff_fl : ∀ (l : List Nat), (∀ c ∈ l, c ≠ 10 ∧ c ≠ 13) → stuff false l = l
  | [], _ => rfl
  | c :: l, h => by
    have e : (c == 10) = false := beq_eq_false_iff_ne.mpr (h c (.head _)).1
    rw [stuff, e, stuff_fl l fun d hd => h d (.tail _ hd), if_neg (by simp)]; rfl
theorem stuff_line (l r : List Nat) (h : ∀ c ∈ l, c ≠ 10 ∧ c ≠ 13) : stuff true (l ++ 13 :: 10 :: r) = dot1 l ++ 13 :: 10 :: stuff true r := by
  cases l with
  | nil => rfl
  | cons c l =>
    have e : (c == 10) = false := beq_eq_false_iff_ne.mpr (h c (.head _)).1
    rw [List.cons_append, stuff, e, stuff_app l r fun d hd => h d (.tail _ hd), dot1]
    by_cases q : c = 46
    · rw [if_pos ⟨rfl, q⟩, if_pos q]; rfl
    · rw [if_neg (fun z => q z.2), if_neg q]; rfl
theorem stuff_last (l : List Nat) (h : ∀ c ∈ l, c ≠ 10 ∧ c ≠ 13) : stuff true l = dot1 l := by
  cases l with
  | nil => rfl
  | cons c l =>
    have e : (c == 10) = false := beq_eq_false_iff_ne.mpr (h c (.head _)).1
    rw [stuff, e, stuff_fl l fun d hd => h d (.tail _ hd), dot1]
    by_cases q : c = 46
    · rw [if_pos ⟨rfl, q⟩, if_pos q]; rfl
    · rw [if_neg (fun z => q z.2), if_neg q]; rfl
theorem stuff_join : ∀ {ls : List (List Nat)}, clean13 ls → stuff true (joinL ls) = joinL (ls.map dot1)
  | [], _ => rfl
  | [l], h => stuff_last l (h l (.head _))
  | l :: m :: r, h => by
    rw [joinL, stuff_line _ _ (h l (.head _)), stuff_join fun x hx => h x (.tail _ hx)]
    rfl
theorem dot1_clean {ls : List (List Nat)} (h : clean13 ls) : clean13 (ls.map dot1) := fun l hl c hc => by
  obtain ⟨x, hx, rfl⟩ := List.mem_map.mp hl
  cases x with
  | nil => cases hc
  | cons d r =>
    rw [dot1] at hc
    by_cases q : d = 46
    · rw [if_pos q] at hc
      rcases List.mem_cons.mp hc with rfl | hc
      · decide
      · exact h _ hx c (q ▸ hc)
    · rw [if_neg q] at hc; exact h _ hx c hc
open StrLaws in
theorem at_iff {x : Str} {k : Nat} : At x (Str.ofString "\r\n") x.length k ↔ ∃ r, x.cps.toList.drop k = 13 :: 10 :: r := by
  have hl : x.length = x.cps.toList.length := by rw [Array.length_toList]; rfl
  have hy : (Str.ofString "\r\n").cps.toList = [13, 10] := by decide +kernel
  have hy2 : (Str.ofString "\r\n").length = 2 := by decide +kernel
  unfold At
  rw [subAt_eq, hy, hy2, beq_iff_eq]
  constructor
  · rintro ⟨h1, h2⟩
    match h : x.cps.toList.drop k with
    | [] => rw [h] at h2; cases h2
    | [c] => rw [h] at h2; cases h2
    | c :: d :: r => rw [h] at h2; cases h2; exact ⟨r, rfl⟩
  · rintro ⟨r, h⟩
    have := congrArg List.length h
    rw [List.length_drop] at this
    simp only [List.length_cons] at this
    exact ⟨by exact o598 hl this, by rw [h]; rfl⟩
open StrLaws in
theorem parts_join {x : Str} : ∀ {ls : List (List Nat)} {a f : Nat} {cuts : List Nat}, ls ≠ [] → clean13 ls → a ≤ x.length → x.cps.toList.drop a = joinL ls → ChainG x (Str.ofString "\r\n") x.length a cuts f → (∀ k, f ≤ k → ¬ At x (Str.ofString "\r\n") x.length k) →
    partsFrom x 2 a cuts = ls.map fun l => ⟨l.toArray⟩
  | [], _, _, _, h, _, _, _, _, _ => absurd rfl h
  | [l], a, f, cuts, _, hc, ha, hd, hg, hn => by
    have hl : x.length = x.cps.toList.length := by rw [Array.length_toList]; rfl
    have hd : x.cps.toList.drop a = l := hd
    have no : ∀ k, a ≤ k → ¬ At x (Str.ofString "\r\n") x.length k := fun k hk q => by
      obtain ⟨r, e⟩ := at_iff.mp q
      have : x.cps.toList.drop k = l.drop (k - a) := by rw [← hd, List.drop_drop]; congr 1; exact o126 hk
      rw [this] at e
      have : 13 ∈ l := List.mem_of_mem_drop (e ▸ List.mem_cons_self)
      exact (hc l (.head _) 13 this).2 rfl
    cases cuts with
    | cons c r => exact absurd hg.2.1 (no c hg.1)
    | nil =>
      show [Builtin.Str.strSub x a x.length] = [_]
      congr 1
      refine sg_inj ?_
      show (Builtin.Str.strSub x a x.length).cps.toList = _
      rw [strSub_toList, hd, List.take_of_length_le]
      · rfl
      · rw [← hd, List.length_drop]; exact o144 hl
  | l :: m :: r, a, f, cuts, _, hc, ha, hd, hg, hn => by
    have hd : x.cps.toList.drop a = l ++ 13 :: 10 :: joinL (m :: r) := hd
    have hat : At x (Str.ofString "\r\n") x.length (a + l.length) := at_iff.mpr ⟨joinL (m :: r), by rw [← List.drop_drop, hd, List.drop_left]⟩
    have no : ∀ k, a ≤ k → k < a + l.length → ¬ At x (Str.ofString "\r\n") x.length k := fun k hk hk2 q => by
      obtain ⟨r', e⟩ := at_iff.mp q
      have : x.cps.toList.drop k = l.drop (k - a) ++ 13 :: 10 :: joinL (m :: r) := by
        rw [show k = a + (k - a) by exact o126 hk, ← List.drop_drop, hd, List.drop_append_of_le_length (by exact o521 hk2)]; congr 2; exact o372
      rw [this, List.drop_eq_getElem_cons (by exact o141 hk hk2), List.cons_append] at e
      injection e with e1 _
      exact (hc l (.head _) _ (List.getElem_mem (by exact o141 hk hk2))).2 e1
    cases cuts with
    | nil =>
      have hf : f = a := hg
      exact absurd hat (hn _ (by exact o528 hf))
    | cons c r' =>
      obtain ⟨g1, g2, g3, g4⟩ := hg
      have hca : c = a + l.length := by
        rcases Nat.lt_trichotomy c (a + l.length) with h | h | h
        · exact absurd g2 (no c g1 h)
        · exact h
        · exact absurd hat (g3 _ (by exact o409) h)
      subst hca
      have hy2 : (Str.ofString "\r\n").length = 2 := by decide +kernel
      rw [hy2] at g4
      have hd2 : x.cps.toList.drop (a + l.length + 2) = joinL (m :: r) := by
        rw [← List.drop_drop, ← List.drop_drop, hd, List.drop_left]; rfl
      have ih := parts_join (x := x) (ls := m :: r) (a := a + l.length + 2) (f := f) (cuts := r') (by simp) (fun y hy => hc y (.tail _ hy)) (by have := g2.1; rw [hy2] at this; exact this) hd2 g4 hn
      show Builtin.Str.strSub x a (a + l.length) :: partsFrom x 2 (a + l.length + 2) r' = _
      rw [ih, List.map_cons]
      congr 1
      refine sg_inj ?_
      show (Builtin.Str.strSub x a (a + l.length)).cps.toList = _
      rw [strSub_toList, hd, Nat.add_sub_cancel_left, List.take_left]
      rfl
open StrLaws in
theorem split_join {ls : List (List Nat)} (h : ls ≠ []) (hc : clean13 ls) : Txt.split ⟨(joinL ls).toArray⟩ (Str.ofString "\r\n") = ls.map fun l => ⟨l.toArray⟩ := by
  have hy2 : (Str.ofString "\r\n").length = 2 := by decide +kernel
  obtain ⟨f, hg, hn⟩ := occ_tight (⟨(joinL ls).toArray⟩ : Str) (Str.ofString "\r\n") (by rw [hy2]; decide)
  have key := parts_join (x := ⟨(joinL ls).toArray⟩) h hc (Nat.zero_le _) (by simp) hg hn
  rw [← partsBetween_eq] at key
  have one : ∀ cuts, ChainG (⟨(joinL ls).toArray⟩ : Str) (Str.ofString "\r\n") (⟨(joinL ls).toArray⟩ : Str).length 0 cuts f → cuts = [] → [(⟨(joinL ls).toArray⟩ : Str)] = ls.map fun l => ⟨l.toArray⟩ := fun cuts hg hcs => by
    subst hcs
    have := parts_join (x := ⟨(joinL ls).toArray⟩) h hc (Nat.zero_le _) (by simp) hg hn
    rw [← this]
    show [_] = [Builtin.Str.strSub _ 0 _]
    rw [sub_whole]
  unfold Txt.split
  split
  · rename_i q
    refine one _ hg ?_
    simp only [Bool.or_eq_true, decide_eq_true_eq] at q
    rcases q with q | q
    · match e : Builtin.Str.occurrences (⟨(joinL ls).toArray⟩ : Str) (Str.ofString "\r\n") 0 (⟨(joinL ls).toArray⟩ : Str).length ((⟨(joinL ls).toArray⟩ : Str).length + 1) with
      | [] => rfl
      | c :: r =>
        rw [e] at hg
        have := hg.2.1.1
        exact (o648 q this).elim
    · exfalso
      have : Builtin.Str.strKind (Str.ofString "\r\n") = 1 := by decide +kernel
      rw [this] at q
      unfold Builtin.Str.strKind at q
      split at q
      · exact o155 q
      · split at q <;> (first | exact o156 q | exact o158 q)
  · split
    · rename_i q
      exact one _ hg (List.isEmpty_iff.mp q)
    · rw [hy2]; exact key
end Mine

end
section
open PySem PySem.W PyProof.Rows PySem.Calls PySem.Spec
namespace Mine
def S (l : List Nat) : Str := ⟨l.toArray⟩
theorem sg_S (l : List Nat) : sg (S l) = l := by simp [sg, S]
theorem S_append (a b : List Nat) : S a ++ S b = S (a ++ b) := sg_inj (by rw [sg_append, sg_S, sg_S, sg_S])
theorem S_len (l : List Nat) : (S l).length = l.length := by show l.toArray.size = _; simp
def strsL (ls : List (List Nat)) : PV := .list (ls.map fun l => .str (S l))
theorem mul_dots (n : Nat) : Txt.mul (Str.ofString ".") ((n : Int) + 1) = S (List.replicate (n + 1) 46) := by
  refine sg_inj ?_
  rw [sg_S]
  have h1 : (Str.ofString ".").cps = #[46] := by decide +kernel
  have h2 : ((Str.ofString ".").length == 0) = false := by decide +kernel
  unfold Txt.mul
  rw [if_neg (by exact o298), h2, Bool.or_false]
  by_cases h : n = 0
  · subst h; rw [if_pos (by decide)]; unfold sg; rw [h1]; rfl
  · rw [if_neg (by simp; exact o301 h), h1, show ((n : Int) + 1).toNat = n + 1 by exact o71]
    unfold sg
    have : ∀ (k : Nat) (a : Array Nat), ((List.replicate k #[46]).foldl (· ++ ·) a).toList = a.toList ++ List.replicate k 46 := by
      intro k
      induction k with
      | zero => intro a; simp
      | succ k ih => intro a; rw [List.replicate_succ, List.foldl_cons, ih, Array.toList_append]; simp [List.replicate_succ]
    rw [this]; rfl
theorem mul_ok {n : Nat} (h : n ≤ 1000) : MulOk (Str.ofString ".") ((n : Int) + 1) := by
  have h2 : (Str.ofString ".").length = 1 := by decide +kernel
  unfold MulOk
  rw [h2]
  refine ⟨by simp; exact o264 h, fun _ _ => ?_, fun _ _ => ?_⟩
  · have : (1 : Int) ≤ (2 ^ 63 - 1) / ((n : Int) + 1) := by
      rw [Int.le_ediv_iff_mul_le (by exact o38)]; exact o265 h
    exact o176 this
  · unfold Builtin.Str.tooLong
    refine decide_eq_false ?_
    have : sizeLine = 16777216 := by decide
    exact o387 this h
/-! the rows -/
def dots (n c : Nat) : List Nat := List.replicate n 46 ++ [c]
def rowsP (places : List Nat) (size t c : Nat) : List (List Nat) := places.map fun p => dots ((p + t) % size + 1) c
def linesP (places : List Nat) (size t c : Nat) : List (List Nat) := rowsP places size t c ++ [[], [46], [c, 46]]
def seenP (places : List Nat) (size n : Nat) : List (List Nat) := (List.range n).map fun t => places.map fun p => (p + t) % size
def rot {α : Type} (cut : Nat) (l : List α) : List α := l.drop cut ++ l.take cut
theorem rot_len {α : Type} {cut : Nat} {l : List α} (h : cut ≤ l.length) : (rot cut l).length = l.length := by unfold rot; simp; exact o371
theorem rot_back {α : Type} {cut : Nat} {l : List α} (h : cut ≤ l.length) : rot (l.length - cut) (rot cut l) = l := by
  unfold rot
  have h1 : (l.drop cut).length = l.length - cut := List.length_drop
  rw [List.drop_left' h1, List.take_left' h1, List.take_append_drop]
theorem rot_map {α β : Type} (g : α → β) (cut : Nat) (l : List α) : rot cut (l.map g) = (rot cut l).map g := by unfold rot; rw [List.map_append, List.map_drop, List.map_take]
theorem rot_mem {α : Type} {cut : Nat} {l : List α} {x : α} (h : x ∈ rot cut l) : x ∈ l := by
  rcases List.mem_append.mp h with h | h
  · exact List.mem_of_mem_drop h
  · exact List.mem_of_mem_take h
theorem lines_clean {places : List Nat} {size t c : Nat} (h1 : c ≠ 10) (h2 : c ≠ 13) : clean13 (linesP places size t c) := fun l hl d hd => by
  rcases List.mem_append.mp hl with hl | hl
  · obtain ⟨p, _, rfl⟩ := List.mem_map.mp hl
    rcases List.mem_append.mp hd with hd | hd
    · rw [List.eq_of_mem_replicate hd]; decide
    · rw [List.mem_singleton.mp hd]; exact ⟨h1, h2⟩
  · simp only [List.mem_cons, List.not_mem_nil, or_false] at hl
    rcases hl with rfl | rfl | rfl
    · cases hd
    · rw [List.mem_singleton.mp hd]; decide
    · simp only [List.mem_cons, List.not_mem_nil, or_false] at hd
      rcases hd with rfl | rfl
      · exact ⟨h1, h2⟩
      · decide
theorem dot1_dots (n c : Nat) : dot1 (dots (n + 1) c) = 46 :: dots (n + 1) c := by
  unfold dots; rw [List.replicate_succ, List.cons_append, dot1, if_pos rfl]
theorem dot1_lines {places : List Nat} {size t c : Nat} (h : c ≠ 46) : (linesP places size t c).map dot1 = (rowsP places size t c).map (46 :: ·) ++ [[], [46, 46], [c, 46]] := by
  unfold linesP rowsP
  rw [List.map_append, List.map_map, List.map_map]
  refine congr (congrArg _ (List.map_congr_left fun p _ => dot1_dots _ _)) ?_
  simp [dot1, h]
/-- the text but for its last row -/
def preL (z : Nat) : Nat → List (List Nat) → List Nat
  | _, [] => []
  | k, l :: r => l ++ endOf ((k + z) % 3) ++ preL z (k + 1) r
theorem preL_snoc (z : Nat) : ∀ (ls : List (List Nat)) (k : Nat) (l : List Nat), preL z k (ls ++ [l]) = preL z k ls ++ (l ++ endOf ((k + ls.length + z) % 3))
  | [], k, l => by simp [preL]
  | m :: r, k, l => by
    rw [List.cons_append, preL, preL_snoc z r (k + 1) l, preL, List.length_cons, show k + 1 + r.length + z = k + (r.length + 1) + z by exact o514]
    simp only [List.append_assoc]
theorem textL_pre (z : Nat) : ∀ (ls : List (List Nat)) (k : Nat) (l : List Nat), textL z k (ls ++ [l]) = preL z k ls ++ l
  | [], k, l => by simp [preL, textL]
  | [m], k, l => by simp [preL, textL]
  | m :: n :: r, k, l => by
    have ih := textL_pre z (n :: r) (k + 1) l
    show m ++ endOf ((k + z) % 3) ++ textL z (k + 1) ((n :: r) ++ [l]) = (m ++ endOf ((k + z) % 3) ++ preL z (k + 1) (n :: r)) ++ l
    rw [ih]
    simp only [List.append_assoc]
theorem endOf_len (i : Nat) : (endOf i).length ≤ 2 := by
  unfold endOf
  by_cases h : i = 0
  · rw [if_pos h]; decide
  · rw [if_neg h]
    by_cases h : i = 1
    · rw [if_pos h]; decide
    · rw [if_neg h]; decide
theorem preL_len {B : Nat} (z : Nat) : ∀ (ls : List (List Nat)) (k : Nat), (∀ l ∈ ls, l.length ≤ B) → (preL z k ls).length ≤ ls.length * (B + 2)
  | [], k, _ => by simp [preL]
  | l :: r, k, h => by
    have h1 := preL_len z r (k + 1) fun x hx => h x (.tail _ hx)
    have h2 := h l (.head _)
    have h3 := endOf_len ((k + z) % 3)
    rw [preL, List.length_append, List.length_append, List.length_cons, Nat.succ_mul]
    exact o621 h3 h1 h2
/-- what comes back of the mail -/
theorem told_eq {ls : List (List Nat)} {z : Nat} (h : ls ≠ []) (hc : clean13 ls) : Txt.split (quoted (S (textL z 0 ls))) (Str.ofString "\r\n") = (ls.map dot1).map S := by
  have e : quoted (S (textL z 0 ls)) = ⟨(joinL (ls.map dot1)).toArray⟩ := by
    unfold quoted; rw [sg_S, fix_text hc, stuff_join hc]
  rw [e, split_join (by simpa using h) (dot1_clean hc)]
  rfl
theorem lines_len {places : List Nat} {size t c : Nat} (hs : 0 < size) (hs2 : size ≤ 20) : ∀ l ∈ linesP places size t c, l.length ≤ 21 := fun l hl => by
  rcases List.mem_append.mp hl with hl | hl
  · obtain ⟨p, _, rfl⟩ := List.mem_map.mp hl
    have := Nat.mod_lt (p + t) hs
    unfold dots; simp; exact o451 hs2 this
  · simp only [List.mem_cons, List.not_mem_nil, or_false] at hl
    rcases hl with rfl | rfl | rfl <;> simp
/-! lists of texts compared -/
def strD (ls : List (List Nat)) : PyData := .list (ls.map fun l => .str (S l))
theorem strsL_D (ls : List (List Nat)) : (strsL ls).toD = some (strD ls) := by
  unfold strsL strD
  rw [PV.toD]
  have : ∀ ls : List (List Nat), toDs (ls.map fun l => PV.str (S l)) = some (ls.map fun l => PyData.str (S l)) := by
    intro ls
    induction ls with
    | nil => rfl
    | cons l r ih => rw [List.map_cons, toDs, ih]; rfl
  rw [this]; rfl
end Mine

end
section
open PySem PySem.W PyProof.Rows PySem.Calls PySem.Spec PySem.Challenge
namespace Mine
theorem fillRE : rw_ti0009_01 = rw_ti0009_01 ∧ hd.heap_39 = hd.heap_39 := by k_fill; exact ⟨rfl, rfl⟩
theorem strD_ok {ls : List (List Nat)} (h : ∀ l ∈ ls, ∀ c ∈ l, c < 1114112) : PySem.SeqAt.shaped (strD ls) = true := by
  have h1 : ∀ ls : List (List Nat), (∀ l ∈ ls, ∀ c ∈ l, c < 1114112) → PyData.canLayAll0 (ls.map fun l => PyData.str (S l)) = true := by
    intro ls
    induction ls with
    | nil => intro _; rfl
    | cons l r ih =>
      intro h
      rw [List.map_cons, PyData.canLayAll0, ih fun x hx => h x (.tail _ hx), Bool.and_true, PyData.canLay0]
      unfold PyData.strOk S
      rw [← Array.all_toList]
      exact List.all_eq_true.mpr fun c hc => decide_eq_true (h l (.head _) c (by simpa using hc))
  have h2 : ∀ ls : List (List Nat), PyData.depthAll (ls.map fun l => PyData.str (S l)) = 0 := by
    intro ls
    induction ls with
    | nil => rfl
    | cons l r ih => rw [List.map_cons, PyData.depthAll, ih]; rfl
  unfold PySem.SeqAt.shaped strD
  rw [PyData.canLay0, PyData.depth, h1 ls h, h2]; rfl
theorem strD_noMix : ∀ a b : List (List Nat), PySem.SeqAt.noMix (strD a) (strD b) = true := by
  intro a b
  unfold strD
  rw [PySem.SeqAt.noMix]
  induction a generalizing b with
  | nil => cases b <;> rfl
  | cons x a ih =>
    cases b with
    | nil => rfl
    | cons y b => rw [List.map_cons, List.map_cons, PySem.SeqAt.noMixAll, ih]; rfl
theorem stuff_len : ∀ (b : Bool) (l : List Nat), (stuff b l).length ≤ 2 * l.length
  | b, [] => by simp [stuff]
  | b, c :: r => by
    have ih := stuff_len (c == 10) r
    rw [stuff, List.length_append, List.length_cons]
    by_cases h : b = true ∧ c = 46
    · rw [if_pos h]; simp only [List.length_cons, List.length_nil]; exact o400 ih
    · rw [if_neg h]; simp only [List.length_cons, List.length_nil]; exact o401 ih
theorem quoted_len (l : List Nat) : (quoted (S l)).length ≤ 4 * l.length := by
  show (stuff true (fix (sg (S l)))).toArray.size ≤ _
  rw [List.size_toArray, sg_S]
  have h1 := stuff_len true (fix l)
  have h2 := fix_len l
  exact o560 h2 h1
theorem EV.neg {sc : Scope} {dk : Nat} {tb : List Addr} {f : Fm sc dk tb} {ρ : Rho} {e : Expr} {pos : Pos} {a : PV} {i : Int} (h : EV f ρ (eval e f.env) a) (ha : a.asI = some i) : EV f ρ (eval (.UnaryOp .USub e pos) f.env) (.int (-i)) := ⟨fun s G F Q E k => by
  refine wpAny_UnaryOp ?_
  refine h.run s G F _ _ fun v s₁ G₁ L₁ F₁ r₁ => ?_
  obtain ⟨t, rfl⟩ := r₁.isInt ha
  obtain ⟨G', L, F', e⟩ := F₁.newTok (.int (-i))
  exact P.neg_int (k _ _ G' (L₁.trans L) F' (.int e))⟩
def rowY (c : Nat) : PV → PV
  | .int p => .str (S (dots (p.toNat + 1) c))
  | v => v
def dueY : PV → PV
  | .str x => .str (S (46 :: sg x))
  | v => v
theorem int_mod_nat (a b : Nat) : ((a : Int) % (b : Int)) = ((a % b : Nat) : Int) := (Int.natCast_emod a b).symm
theorem endAt (i : Nat) (h : i < 3) : ([[10], [13], [13, 10]].map fun l => PV.str (S l))[i]? = some (.str (S (endOf i))) := by
  match i, h with
  | 0, _ => rfl
  | 1, _ => rfl
  | 2, _ => rfl
theorem strsL_get {ls : List (List Nat)} {j : Nat} (h : j < ls.length) : (ls.map fun l => PV.str (S l))[((j : Nat) : Int).toNat]? = some (.str (S ls[j])) := by
  rw [Int.toNat_natCast, List.getElem?_map, List.getElem?_eq_getElem h]; rfl
def tR (places : List Nat) (size t c : Nat) (pm : PV) : Rho := [(Str.ofString "rows", .loc (strsL (rowsP places size t c))), (Str.ofString "seen", .owned ((seenP places size (t + 1)).map natL)), (Str.ofString "ends", .loc (strsL [[10], [13], [13, 10]])), (Str.ofString "size", .cel (.int size)), (Str.ofString "mark", .cel pm)]
/-- how many dots, less one, round -/
def cntD (l : List Nat) : Nat := (l.filter (· == 46)).length
def seenY (size : Nat) : PV → PV
  | .str x => .int ((((cntD (sg x) : Nat) : Int) - 1) % size)
  | v => v
def rowZ (size : Nat) : PV → PV
  | .str x => .str (S (if (sg x).length > size + 1 then (sg x).drop size else sg x))
  | v => v
def isDot : PV → Bool
  | .tstr y => y == Str.ofString "."
  | _ => false
theorem cnt_dots (l : List Nat) : cntOf isDot (l.map fun d => PV.tstr ⟨#[d]⟩) = (cntD l : Nat) := by
  unfold cntOf cntD
  congr 1
  have e : Str.ofString "." = ⟨#[46]⟩ := by decide +kernel
  induction l with
  | nil => rfl
  | cons d l ih =>
    rw [List.map_cons, List.filter_cons, List.filter_cons]
    by_cases h : d = 46
    · subst h
      rw [if_pos (show isDot (.tstr ⟨#[46]⟩) = true by unfold isDot; rw [e]; simp), if_pos (by decide), List.length_cons, List.length_cons, ih]
    · rw [if_neg (show ¬ isDot (.tstr ⟨#[d]⟩) = true by unfold isDot; rw [e]; simp [h]), if_neg (by simp [h]), ih]
theorem cntD_row {n c : Nat} (h : c ≠ 46) : cntD (46 :: dots (n + 1) c) = n + 2 := by
  unfold cntD dots
  rw [← List.cons_append, ← List.replicate_succ, List.filter_append, List.filter_replicate_of_pos (by decide)]
  simp [h]
theorem next_mod {p t size : Nat} (hs : 0 < size) : (p + (t + 1)) % size = ((p + t) % size + 1) % size := by
  rw [← Nat.add_assoc, Nat.add_mod (p + t) 1, Nat.add_mod ((p + t) % size) 1, Nat.mod_mod]
theorem row_next {p t size c : Nat} (hs : 0 < size) : (if (46 :: dots ((p + t) % size + 1) c).length > size + 1 then (46 :: dots ((p + t) % size + 1) c).drop size else 46 :: dots ((p + t) % size + 1) c) = dots ((p + (t + 1)) % size + 1) c := by
  have hm := Nat.mod_lt (p + t) hs
  rw [next_mod hs]
  generalize (p + t) % size = m at hm
  have hl : (46 :: dots (m + 1) c) = List.replicate (m + 2) 46 ++ [c] := by unfold dots; rw [← List.cons_append, ← List.replicate_succ]
  rw [hl]
  have hlen : (List.replicate (m + 2) 46 ++ [c]).length = m + 3 := by simp
  rw [hlen]
  by_cases q : m + 1 = size
  · rw [if_pos (by exact o415 q), q, Nat.mod_self, List.drop_append_of_le_length (by simp; exact o416 q), List.drop_replicate]
    unfold dots; congr 2; exact o368 q
  · rw [if_neg (by exact o423 hm q), Nat.mod_eq_of_lt (by exact o381 hm q)]; rfl
theorem lines_sign {places : List Nat} {size t c : Nat} : ∀ l ∈ linesP places size t c, ∀ d ∈ l, d = 46 ∨ d = c := fun l hl d hd => by
  rcases List.mem_append.mp hl with hl | hl
  · obtain ⟨p, _, rfl⟩ := List.mem_map.mp hl
    rcases List.mem_append.mp hd with hd | hd
    · exact .inl (List.eq_of_mem_replicate hd)
    · exact .inr (List.mem_singleton.mp hd)
  · simp only [List.mem_cons, List.not_mem_nil, or_false] at hl
    rcases hl with rfl | rfl | rfl
    · cases hd
    · exact .inl (List.mem_singleton.mp hd)
    · simp only [List.mem_cons, List.not_mem_nil, or_false] at hd
      exact hd.symm
theorem dot1_sign {l : List Nat} {d : Nat} (h : d ∈ dot1 l) : d = 46 ∨ d ∈ l := by
  cases l with
  | nil => cases h
  | cons e r =>
    rw [dot1] at h
    by_cases q : e = 46
    · rw [if_pos q] at h
      rcases List.mem_cons.mp h with h | h
      · exact .inl h
      · exact .inr (q ▸ h)
    · rw [if_neg q] at h; exact .inr h
theorem ct_rounds {w : World} {places : List Nat} {size c rounds : Nat} {pm qm : PV} (hpm : pm.asS = some (S [c])) (hqm : qm.asI = some (rounds : Int)) (hs : 0 < size) (hs2 : size ≤ 20) (hp : ∀ p ∈ places, p < size) (hn : places.length ≤ 10) (hr : rounds ≤ 20)
    (h46 : c ≠ 46) (h10 : c ≠ 10) (h13 : c ≠ 13) (hc : c < 60000) : CT w [] 3 179 [natL places, .int size, pm, qm] (.list ((seenP places size (rounds + 1)).map natL)) := by
  refine CT.cells (names := [Str.ofString "places", Str.ofString "size", Str.ofString "mark", Str.ofString "rounds"]) (by k_is) (by k_is) ?_ rfl (by decide) (by rfl) (by decide) rfl rfl rfl ?_ (by decide)
  · intro s vs h; obtain ⟨a, b, c, d, rfl⟩ := len4 h; exact BindsTo.of_eq rfl
  intro f hw
  subst hw
  have hz : (100000 : Nat) ≤ sizeLine := by decide
  refine SX.cons (SX.assign (EV.cast (EV.list (EL.cons (EV.toStr EV.cstr rfl) (EL.cons (EV.toStr EV.cstr rfl) (EL.cons (EV.toStr EV.cstr rfl) EL.nil)))) (show _ = strsL [[10], [13], [13, 10]] from rfl)) ?_)
  refine SX.cons (SX.comp (l := places.map fun (k : Nat) => PV.int k) (ρ₂ := fun v => [(Str.ofString "place", .loc v), (Str.ofString "mark", .fre pm)]) (p := fun _ => true) (y := rowY c) (IT.list (EV.var rfl rfl))
    ⟨fun f' hw v hv => ASO.loc (by rfl), fun f' hw v hv => TS.nil, fun f' hw v hv _ => ?_, fun v hv => ⟨⟨rfl, trivial⟩, ⟨rfl, trivial⟩⟩⟩ (by rw [List.length_map]; exact o50 hz hn) ?_)
  · obtain ⟨p, hp1, rfl⟩ := List.mem_map.mp hv
    have hps := hp p hp1
    refine EV.cast (EV.bin (EV.bin EV.cstr (EV.bin (EV.var rfl rfl) EV.cint (OP2.add rfl rfl)) (OP2.mulS rfl rfl (mul_ok (by exact o450 hs2 hps)))) (EV.var rfl rfl) (OP2.addS rfl hpm ?_)) ?_
    · rw [mul_dots, S_len, S_len]; simp; exact o498 hz hs2 hps
    · rw [mul_dots, S_append]; rfl
  have hrows0 : ((places.map fun (k : Nat) => PV.int k).filter fun _ => true).map (rowY c) = (rowsP places size 0 c).map fun l => PV.str (S l) := by
    rw [List.filter_eq_self.mpr fun _ _ => rfl]
    unfold rowsP
    rw [List.map_map, List.map_map]
    refine List.map_congr_left fun p hp1 => ?_
    show PV.str (S (dots (((p : Nat) : Int).toNat + 1) c)) = .str (S (dots ((p + 0) % size + 1) c))
    rw [Int.toNat_natCast, show (p + 0) % size = p from Nat.mod_eq_of_lt (hp p hp1)]
  rw [hrows0]
  have hseen0 : (seenP places size (0 + 1)).map natL = [natL places] := by
    unfold seenP
    have : places.map (fun p => (p + 0) % size) = places := by
      conv => rhs; rw [← List.map_id places]
      refine List.map_congr_left fun p hp1 => ?_
      exact Nat.mod_eq_of_lt (hp p hp1)
    rw [List.range_one, List.map_singleton, this]; rfl
  refine SX.cons (SX.own (EO.list (EL.cons (EV.var rfl rfl) EL.nil)) ?_)
  refine SX.cons (SX.for (fun l' ρ => ∃ t : Nat, t ≤ rounds ∧ l' = ((List.range rounds).drop t).map (fun (k : Nat) => PV.int k) ∧ SubR (tR places size t c pm) ρ)
    (IT.range (EV.ty (g_range _) b_range (EL.cons (EV.var rfl rfl) EL.nil) (OPL.range1 hqm)) (by decide) (by decide) (by exact o1) (by exact o280 hr)) ⟨0, Nat.zero_le _, by rw [rngL_nat]; rfl, rfl, by rw [hseen0]; rfl, rfl, rfl, rfl, trivial⟩ ?_ ?_)
  · rintro x l' ρ ⟨t, ht, hl', hsub⟩
    have htl : t < rounds := by
      have := congrArg List.length hl'
      simp at this; exact o32 this
    rw [List.drop_eq_getElem_cons (by simpa using htl), List.map_cons] at hl'
    injection hl' with h1 h2
    have hx : x = .int (t : Nat) := by rw [h1]; simp
    subst hx
    refine ⟨_, AS.loc, ?_⟩
    refine SX.weaken (ρ' := (Str.ofString "turn", .loc (.int (t : Nat))) :: tR places size t c pm) ?_ ⟨rfl, hsub.lookup rfl, hsub.lookup rfl, hsub.lookup rfl, hsub.lookup rfl, hsub.lookup rfl, trivial⟩
    have hln : (linesP places size t c).length = places.length + 3 := by unfold linesP rowsP; simp
    have hrn : (rowsP places size t c).length = places.length := by unfold rowsP; simp
    have hll := lines_len (places := places) (size := size) (t := t) (c := c) hs hs2
    have hlc := lines_clean (places := places) (size := size) (t := t) (c := c) h10 h13
    refine SX.cons (SX.assign (EV.cast (EV.bin (EV.var rfl rfl) (EV.list (EL.cons (EV.toStr EV.cstr rfl) (EL.cons (EV.toStr EV.cstr rfl) (EL.cons (EV.bin (EV.var rfl rfl) EV.cstr (OP2.addS hpm rfl ?_)) EL.nil)))) (OP2.addL ?_)) (show _ = strsL (linesP places size t c) from ?_)) ?_)
    · have e1 : (Str.ofString ".").length = 1 := by decide +kernel
      rw [S_len, e1, List.length_singleton]; exact o79 hz
    · rw [List.length_map, hrn]; simp only [List.length_cons, List.length_nil]; exact o103 hz hn
    · unfold strsL linesP; rw [List.map_append]; rfl
    refine SX.cons (SX.assign (EV.cast (EV.bin (EV.comp (l := (rowsP places size t c).map fun l => PV.str (S l)) (ρ₂ := fun v => [(Str.ofString "row", .loc v)]) (p := fun _ => true) (y := dueY) (IT.list (EV.var rfl rfl))
        ⟨fun f' hw v hv => ASO.loc (by rfl), fun f' hw v hv => TS.nil, fun f' hw v hv _ => ?_, fun v hv => ⟨trivial, trivial⟩⟩ (by rw [List.length_map]; exact o497 hz hn hrn))
      (EV.list (EL.cons (EV.toStr EV.cstr rfl) (EL.cons (EV.toStr EV.cstr rfl) (EL.cons (EV.bin (EV.var rfl rfl) EV.cstr (OP2.addS hpm rfl ?_)) EL.nil)))) (OP2.addL ?_)) (show _ = strsL ((linesP places size t c).map dot1) from ?_)) ?_)
    · obtain ⟨l, hl, rfl⟩ := List.mem_map.mp hv
      have e1 : (Str.ofString ".").length = 1 := by decide +kernel
      have e2 : (Str.ofString ".") = S [46] := by decide +kernel
      have hlen := hll l (List.mem_append_left _ hl)
      refine EV.cast (EV.bin EV.cstr (EV.var rfl rfl) (OP2.addS rfl rfl (by rw [S_len, e1]; exact o351 hz hlen))) ?_
      rw [e2, S_append]; show PV.str (S (46 :: l)) = .str (S (46 :: sg (S l))); rw [sg_S]
    · have e1 : (Str.ofString ".").length = 1 := by decide +kernel
      rw [S_len, e1, List.length_singleton]; exact o79 hz
    · rw [List.length_map, List.filter_eq_self.mpr fun _ _ => rfl, List.length_map, hrn]; simp only [List.length_cons, List.length_nil]; exact o103 hz hn
    · unfold strsL; rw [dot1_lines h46, List.map_append, List.map_map, List.filter_eq_self.mpr fun _ _ => rfl, List.map_map]
      refine congrArg PV.list (congr (congrArg _ (List.map_congr_left fun l _ => ?_)) rfl)
      show PV.str (S (46 :: sg (S l))) = .str (S (46 :: l)); rw [sg_S]
    have hnz : 0 < places.length + 3 := by exact o210
    refine SX.cons (SX.assign (EV.cast (EV.bin (EV.var rfl rfl) (EV.blt (g_len _) b_len (EL.cons (EV.var rfl rfl) EL.nil) (OPL.len (by rw [List.length_map, hln]; exact o43 hn))) (OP2.mod rfl rfl (by rw [List.length_map, hln]; exact o208))) (by rw [List.length_map, hln, int_mod_nat])) ?_)
    generalize hcut : t % (places.length + 3) = cut
    have hcl : cut < places.length + 3 := hcut ▸ Nat.mod_lt _ hnz
    refine SX.cons (SX.assign (EV.cast (EV.bin (EV.sliceFrom (j := cut) (EV.var rfl rfl) (EV.var rfl rfl) rfl (by rw [List.length_map, hln]; exact o11 hz hn)) (EV.sliceTo (j := cut) (EV.var rfl rfl) (EV.var rfl rfl) rfl (by rw [List.length_map, hln]; exact o11 hz hn)) (OP2.addL ?_)) (show _ = strsL (rot cut (linesP places size t c)) from ?_)) ?_)
    · rw [List.length_drop, List.length_take, List.length_map, hln]; exact o129 hz hn
    · unfold strsL rot; rw [← List.map_drop, ← List.map_take, ← List.map_append]
    generalize hls : rot cut (linesP places size t c) = ls
    have hlsn : ls.length = places.length + 3 := by rw [← hls, rot_len (by exact o133 hcl hln), hln]
    have hlsl : ∀ l ∈ ls, l.length ≤ 21 := fun l hl => hll l (rot_mem (hls ▸ hl))
    have hlsc : clean13 ls := fun l hl => hlc l (rot_mem (hls ▸ hl))
    refine SX.cons (SX.assign (EV.toStr EV.cstr (x := S []) rfl) ?_)
    let tail : Rho := (Str.ofString "lines", .loc (strsL ls)) :: (Str.ofString "due", .loc (strsL ((linesP places size t c).map dot1))) :: (Str.ofString "cut", .loc (.int (cut : Nat))) :: (Str.ofString "turn", .loc (.int (t : Nat))) :: tR places size t c pm
    refine SX.cons (SX.for (fun l'' ρ => ∃ j : Nat, j ≤ places.length + 2 ∧ l'' = ((List.range (places.length + 2)).drop j).map (fun (k : Nat) => PV.int k) ∧ SubR ((Str.ofString "text", .loc (.str (S (preL (c + 2 * t) 0 (ls.take j))))) :: tail) ρ)
      (IT.range (EV.ty (g_range _) b_range (EL.cons (EV.cast (EV.bin (EV.blt (g_len _) b_len (EL.cons (EV.var rfl rfl) EL.nil) (OPL.len (by rw [List.length_map, hlsn]; exact o43 hn))) EV.cint (OP2.sub rfl rfl)) (show PV.int _ = .int ((places.length + 2 : Nat) : Int) from by rw [List.length_map, hlsn]; congr 1; exact o195)) EL.nil) (OPL.range1 rfl)) (by decide) (by decide) (by exact o203) (by exact o256 hn)) ⟨0, Nat.zero_le _, by rw [rngL_nat]; rfl, rfl, rfl, rfl, rfl, rfl, rfl, rfl, rfl, rfl, rfl, trivial⟩ ?_ ?_)
    · rintro x l'' ρ ⟨j, hj, hl'', hsub⟩
      have hjl : j < places.length + 2 := by
        have := congrArg List.length hl''
        simp at this; exact o550 this
      rw [List.drop_eq_getElem_cons (by simpa using hjl), List.map_cons] at hl''
      injection hl'' with h1' h2'
      have hx : x = .int (j : Nat) := by rw [h1']; simp
      subst hx
      refine ⟨_, AS.loc, ?_⟩
      refine SX.weaken (ρ' := (Str.ofString "k", .loc (.int (j : Nat))) :: (Str.ofString "text", .loc (.str (S (preL (c + 2 * t) 0 (ls.take j))))) :: tail) ?_ ⟨rfl, hsub.lookup rfl, hsub.lookup rfl, hsub.lookup rfl, hsub.lookup rfl, hsub.lookup rfl, hsub.lookup rfl, hsub.lookup rfl, hsub.lookup rfl, hsub.lookup rfl, hsub.lookup rfl, trivial⟩
      have hjn : j < ls.length := by exact o523 hjl hlsn
      have hlj := hlsl _ (List.getElem_mem hjn)
      have hpl := preL_len (B := 21) (c + 2 * t) (ls.take j) 0 fun l hl => hlsl l (List.mem_of_mem_take hl)
      have hpl2 : (preL (c + 2 * t) 0 (ls.take j)).length ≤ 13 * 23 := Nat.le_trans hpl (Nat.mul_le_mul (by rw [List.length_take]; exact o557 hn hjl) (by decide))
      have he := endOf_len ((j + (c + 2 * t)) % 3)
      have hidx : ((j : Int) - (t : Int) + (c : Int)) % 3 = (((j + (c + 2 * t)) % 3 : Nat) : Int) := by exact o490
      have hi3 : (j + (c + 2 * t)) % 3 < 3 := Nat.mod_lt _ (by decide)
      have hjj : (j : Int) < 2 ^ 40 := by exact o434 hn hjl
      refine SX.cons (SX.assign (EV.call (g_concat _) (k_concat _) (EL.cons (EV.var rfl rfl) (EL.cons (EV.call (g_concat _) (k_concat _) (EL.cons (EV.item (EQL.of (EV.var rfl rfl)) (EV.var rfl rfl) rfl (Int.natCast_nonneg j) hjj (strsL_get hjn)) (EL.cons (EV.item (pv := .str (S (endOf ((j + (c + 2 * t)) % 3)))) (EQL.of (EV.var rfl rfl)) (EV.cast (EV.bin (EV.bin (EV.bin (EV.var rfl rfl) (EV.var rfl rfl) (OP2.sub rfl rfl)) (EV.blt (g_ord _) b_ord (EL.cons (EV.var rfl rfl) EL.nil) (OPL.ord hpm)) (OP2.add rfl rfl)) EV.cint (OP2.mod rfl rfl (by decide))) (congrArg PV.int hidx)) rfl (Int.natCast_nonneg _) (by exact o491) ?_) EL.nil)) (ct_concatS rfl rfl ?_)) EL.nil)) (ct_concatS rfl rfl ?_)) (SX.nil ?_))
      · rw [Int.toNat_natCast]; exact endAt _ hi3
      · rw [S_len, S_len]; exact o503 hz he hlj
      · rw [S_append, S_len, S_len, List.length_append]; exact o588 hz hpl2 he hlj
      · have hnew : S (preL (c + 2 * t) 0 (ls.take j)) ++ (S ls[j] ++ S (endOf ((j + (c + 2 * t)) % 3))) = S (preL (c + 2 * t) 0 (ls.take (j + 1))) := by
          rw [S_append, S_append, List.take_succ_eq_append_getElem hjn, preL_snoc, List.length_take, Nat.min_eq_left (by exact o24 hjn), Nat.zero_add]
        rw [hnew]
        exact ⟨(Str.ofString "text", .loc (.str (S (preL (c + 2 * t) 0 (ls.take (j + 1)))))) :: tail, ⟨rfl, rfl, rfl, rfl, rfl, rfl, rfl, rfl, rfl, rfl, trivial⟩, j + 1, by exact o376 hjl, h2', rfl, rfl, rfl, rfl, rfl, rfl, rfl, rfl, rfl, rfl, trivial⟩
    rintro ρ ⟨j, hj, hl'', hsub⟩
    have hjl : j = places.length + 2 := by
      have := congrArg List.length hl''
      simp at this; exact o346 this hj
    subst hjl
    refine SX.weaken (SX.nil ?_) hsub
    -- the last row
    have hne : ls ≠ [] := fun q => by rw [q] at hlsn; simp at hlsn
    have hlast : ls.take (places.length + 2) ++ [ls[places.length + 2]'(by exact o15 hlsn)] = ls := by
      rw [← List.take_succ_eq_append_getElem (by exact o15 hlsn), List.take_of_length_le (by exact o395 hlsn)]
    generalize hlv : ls[places.length + 2]'(by exact o15 hlsn) = lv at hlast
    have hlvl : lv.length ≤ 21 := hlsl _ (hlv ▸ List.getElem_mem (by exact o15 hlsn))
    have hpl := preL_len (B := 21) (c + 2 * t) (ls.take (places.length + 2)) 0 fun l hl => hlsl l (List.mem_of_mem_take hl)
    have hpl2 : (preL (c + 2 * t) 0 (ls.take (places.length + 2))).length ≤ 13 * 23 := Nat.le_trans hpl (Nat.mul_le_mul (by rw [List.length_take]; exact o398 hn) (by decide))
    have htext : S (preL (c + 2 * t) 0 (ls.take (places.length + 2))) ++ S lv = S (textL (c + 2 * t) 0 ls) := by
      rw [S_append]; conv => rhs; rw [← hlast, textL_pre]
    have htl2 : (textL (c + 2 * t) 0 ls).length ≤ 400 := by
      have := congrArg Str.length htext
      rw [S_append, S_len, S_len, List.length_append] at this
      exact o543 hpl2 hlvl this
    have hq := told_eq (z := c + 2 * t) hne hlsc
    have hqlen : (quoted (S (textL (c + 2 * t) 0 ls))).length ≤ 1000000 := by
      have := quoted_len (textL (c + 2 * t) 0 ls)
      exact o453 htl2 this
    have hcr : ((Str.ofString "\r\n").length == 0) = false := by decide +kernel
    refine SX.cons (SX.assign (EV.cast (EV.split (EV.call (g_quotedata _) (k_quotedata _) (EL.cons (EV.cast (EV.call (g_concat _) (k_concat _) (EL.cons (EV.var rfl rfl) (EL.cons (EV.itemNeg (j := -1) (pv := .str (S lv)) (EQL.of (EV.var rfl rfl)) (EV.neg EV.cint rfl) rfl (by decide) (by rw [List.length_map]; exact o394 hlsn) (by exact o149) ?_) EL.nil)) (ct_concatS rfl rfl ?_)) (congrArg PV.str htext)) EL.nil) (ct_quote rfl ?_)) rfl EV.cstr rfl hcr hqlen) (show _ = strsL (ls.map dot1) from ?_)) ?_)
    · rw [List.length_map, hlsn]
      have : (-1 + ((places.length + 3 : Nat) : Int)) = ((places.length + 2 : Nat) : Int) := by exact o201
      rw [this, strsL_get (by exact o15 hlsn), hlv]
    · rw [S_len, S_len]; exact o501 hz hpl2 hlvl
    · show (textL (c + 2 * t) 0 ls).toArray.size ≤ 40000
      rw [List.size_toArray]; exact o284 htl2
    · unfold strsL; rw [hq, List.map_map]; rfl
    have hdn : ((linesP places size t c).map dot1).length = places.length + 3 := by rw [List.length_map, hln]
    have hdls : rot cut ((linesP places size t c).map dot1) = ls.map dot1 := by rw [rot_map, hls]
    have hsg : ∀ l ∈ ls.map dot1, ∀ d ∈ l, d < 1114112 := fun l hl d hd => by
      obtain ⟨l0, hl0, rfl⟩ := List.mem_map.mp hl
      rcases dot1_sign hd with rfl | hd
      · decide
      · rcases lines_sign l0 (rot_mem (hls ▸ hl0)) d hd with rfl | rfl <;> (first | exact o649 | exact o250 hc)
    generalize hdo : ls.map dot1 = dls at *
    have hdlsn : dls.length = places.length + 3 := by rw [← hdo, List.length_map, hlsn]
    have hbnd := hsg
    refine SX.cons (SX.ite (b := false) (EB.cast (EB.cmp (EV.var rfl rfl) (EV.cast (EV.bin (EV.sliceFrom (j := cut) (EV.var rfl rfl) (EV.var rfl rfl) rfl (by rw [List.length_map, hdn]; exact o11 hz hn)) (EV.sliceTo (j := cut) (EV.var rfl rfl) (EV.var rfl rfl) rfl (by rw [List.length_map, hdn]; exact o11 hz hn)) (OP2.addL ?_)) (show _ = strsL dls from ?_)) (OP2.neD (strsL_D _) (strsL_D _) (strD_ok hbnd) (strD_ok hbnd) (strD_noMix _ _))) (by rw [PySem.Spec.same_self]; rfl)) (fun q => by cases q) (fun _ => SX.nil ?_))
    · rw [List.length_drop, List.length_take, List.length_map, hdn]; exact o129 hz hn
    · unfold strsL; rw [← List.map_drop, ← List.map_take, ← List.map_append, ← hdls]; rfl
    refine SX.cons (SX.assign (EV.cast (EV.bin (EV.blt (g_len _) b_len (EL.cons (EV.var rfl rfl) EL.nil) (OPL.len (by rw [List.length_map, hlsn]; exact o43 hn))) (EV.var rfl rfl) (OP2.sub rfl rfl)) (show PV.int _ = .int ((places.length + 3 - cut : Nat) : Int) from by rw [List.length_map, hlsn]; congr 1; exact o650 hcl)) ?_)
    have hback : rot (places.length + 3 - cut) dls = (linesP places size t c).map dot1 := by
      rw [← hdls, ← hdn]; exact rot_back (by exact o133 hcl hdn)
    have htake : ((linesP places size t c).map dot1).take places.length = (rowsP places size t c).map (46 :: ·) := by
      rw [dot1_lines h46, List.take_left' (by rw [List.length_map, hrn])]
    refine SX.cons (SX.assign (EV.cast (EV.sliceToT (j := places.length) (EV.bin (EV.sliceFrom (j := places.length + 3 - cut) (EV.var rfl rfl) (EV.var rfl rfl) rfl (by rw [List.length_map, hdlsn]; exact o11 hz hn)) (EV.sliceTo (j := places.length + 3 - cut) (EV.var rfl rfl) (EV.var rfl rfl) rfl (by rw [List.length_map, hdlsn]; exact o11 hz hn)) (OP2.addL ?_)) (EV.cast (EV.blt (g_len _) b_len (EL.cons (EV.var rfl rfl) EL.nil) (OPL.len (by rw [List.length_map, hrn]; exact o258 hn))) (by rw [List.length_map, hrn])) rfl ?_) (show _ = strsL ((rowsP places size t c).map (46 :: ·)) from ?_)) ?_)
    · rw [List.length_drop, List.length_take, List.length_map, hdlsn]; exact o128 hz hn
    · rw [List.length_append, List.length_drop, List.length_take, List.length_map, hdlsn]; exact o128 hz hn
    · unfold strsL; rw [← List.map_drop, ← List.map_take, ← List.map_append, ← List.map_take, ← htake, ← hback]; rfl
    refine SX.cons (SX.append (l := (seenP places size (t + 1)).map natL) rfl rfl (EV.comp (l := ((rowsP places size t c).map (46 :: ·)).map fun l => PV.str (S l)) (ρ₂ := fun v => [(Str.ofString "row", .loc v), (Str.ofString "size", .fre (.int size))]) (p := fun _ => true) (y := seenY size) (IT.list (EV.var rfl rfl))
        ⟨fun f' hw v hv => ASO.loc (by rfl), fun f' hw v hv => TS.nil, fun f' hw v hv _ => ?_, fun v hv => ⟨⟨rfl, trivial⟩, ⟨rfl, trivial⟩⟩⟩ (by rw [List.length_map, List.length_map, hrn]; exact o50 hz hn)) ?_ ?_)
    · obtain ⟨l, hl, rfl⟩ := List.mem_map.mp hv
      refine EV.cast (EV.call (g_mod _) (k_mod _) (EL.cons (EV.call (g_sub _) (k_sub _) (EL.cons (EV.call (g_countOf _) (k_countOf _) (EL.cons (EV.var rfl rfl) (EL.cons EV.cstr EL.nil)) (ct_countOf (g := isDot) (IterOf.str rfl) ?_)) (EL.cons EV.cint EL.nil)) (ct_sub rfl rfl)) (EL.cons (EV.var rfl rfl) EL.nil)) (ct_mod rfl rfl (by exact o3 hs))) ?_
      · intro x hx
        obtain ⟨d, hd, rfl⟩ := List.mem_map.mp hx
        rfl
      · show PV.int ((cntOf isDot ((sg (S l)).map fun d => PV.tstr ⟨#[d]⟩) - 1) % size) = .int ((((cntD (sg (S l)) : Nat) : Int) - 1) % size)
        rw [cnt_dots]
    · unfold seenP; rw [List.length_map, List.length_map, List.length_range]; exact o499 hz hr htl
    have hnews : (((((rowsP places size t c).map (46 :: ·)).map fun l => PV.str (S l)).filter fun _ => true).map (seenY size)) = (places.map fun p => (p + (t + 1)) % size).map fun (k : Nat) => PV.int k := by
      rw [List.filter_eq_self.mpr fun _ _ => rfl]
      unfold rowsP
      rw [List.map_map, List.map_map, List.map_map, List.map_map]
      refine List.map_congr_left fun p _ => ?_
      show PV.int ((((cntD (sg (S (46 :: dots ((p + t) % size + 1) c))) : Nat) : Int) - 1) % size) = .int (((p + (t + 1)) % size : Nat) : Int)
      rw [sg_S, cntD_row h46, next_mod hs, ← int_mod_nat]
      congr 2; exact o194
    rw [hnews]
    refine SX.cons (SX.comp (l := ((rowsP places size t c).map (46 :: ·)).map fun l => PV.str (S l)) (ρ₂ := fun v => [(Str.ofString "row", .loc v), (Str.ofString "size", .fre (.int size))]) (p := fun _ => true) (y := rowZ size) (IT.list (EV.var rfl rfl))
      ⟨fun f' hw v hv => ASO.loc (by rfl), fun f' hw v hv => TS.nil, fun f' hw v hv _ => ?_, fun v hv => ⟨⟨rfl, trivial⟩, ⟨rfl, trivial⟩⟩⟩ (by rw [List.length_map, List.length_map, hrn]; exact o50 hz hn) (SX.nil ?_))
    · obtain ⟨l, hl, rfl⟩ := List.mem_map.mp hv
      obtain ⟨l0, hl0, rfl⟩ := List.mem_map.mp hl
      have hlen := hll l0 (List.mem_append_left _ hl0)
      have hlS : (S (46 :: l0)).length = l0.length + 1 := by rw [S_len, List.length_cons]
      have hlen2 : (sg (S (46 :: l0))).length = l0.length + 1 := by rw [sg_S, List.length_cons]
      refine EV.ifexp (EB.cmp (EV.blt (g_len _) b_len (EL.cons (EV.var rfl rfl) EL.nil) (OPL.lenS rfl (by rw [hlS]; exact o104 hz hlen))) (EV.bin (EV.var rfl rfl) EV.cint (OP2.add rfl rfl)) (OP2.gtI rfl rfl)) (fun q => ?_) (fun q => ?_)
      · simp only [decide_eq_true_eq] at q
        rw [hlS] at q
        refine EV.cast (EV.sliceFromS (j := size) (EV.var rfl rfl) rfl (EV.var rfl rfl) rfl (by rw [hlS]; exact o104 hz hlen)) ?_
        show PV.str (strFrom (S (46 :: l0)) size) = .str (S (if (sg (S (46 :: l0))).length > size + 1 then (sg (S (46 :: l0))).drop size else sg (S (46 :: l0))))
        rw [if_pos (by rw [hlen2]; exact o332 q)]
        rfl
      · simp only [decide_eq_false_iff_not] at q
        rw [hlS] at q
        refine EV.cast (EV.var rfl rfl) ?_
        show PV.str (S (46 :: l0)) = .str (S (if (sg (S (46 :: l0))).length > size + 1 then (sg (S (46 :: l0))).drop size else sg (S (46 :: l0))))
        rw [if_neg (by rw [hlen2]; exact o468 q), sg_S]
    · have hrows : (((((rowsP places size t c).map (46 :: ·)).map fun l => PV.str (S l)).filter fun _ => true).map (rowZ size)) = (rowsP places size (t + 1) c).map fun l => PV.str (S l) := by
        rw [List.filter_eq_self.mpr fun _ _ => rfl]
        unfold rowsP
        rw [List.map_map, List.map_map, List.map_map, List.map_map]
        refine List.map_congr_left fun p _ => ?_
        show PV.str (S (if (sg (S (46 :: dots ((p + t) % size + 1) c))).length > size + 1 then (sg (S (46 :: dots ((p + t) % size + 1) c))).drop size else sg (S (46 :: dots ((p + t) % size + 1) c)))) = .str (S (dots ((p + (t + 1)) % size + 1) c))
        rw [sg_S, row_next hs]
      have hseen : (seenP places size (t + 1)).map natL ++ [.list ((places.map fun p => (p + (t + 1)) % size).map fun (k : Nat) => PV.int k)] = (seenP places size (t + 1 + 1)).map natL := by
        conv => rhs; unfold seenP; rw [List.range_succ, List.map_append, List.map_append]
        rfl
      rw [hrows]
      refine ⟨tR places size (t + 1) c pm, ?_, t + 1, htl, h2, rfl, rfl, rfl, rfl, rfl, trivial⟩
      unfold tR
      rw [← hseen]
      exact ⟨rfl, rfl, rfl, rfl, rfl, trivial⟩
  · rintro ρ ⟨t, ht, hl', hsub⟩
    have htr : t = rounds := by
      have := congrArg List.length hl'
      simp at this; exact o49 this ht
    subst htr
    refine SX.weaken (SX.nil ?_) hsub
    exact SX.cons (SX.retOwn rfl rfl)
end Mine

end
section
open PySem PySem.W PyProof.Rows PySem.Calls PySem.Spec PySem.Challenge
namespace Mine
theorem fillS9 : rw_ti0009_01 = rw_ti0009_01 ∧ hd.heap_39 = hd.heap_39 := by k_fill; exact ⟨rfl, rfl⟩
theorem ct_div2 {w : World} {a b : Int} {n : Nat} (h : DivPre a b n) (hn : n ≤ 16000) : CT w [] 5 38 [.int a, .int b, .int n] (divT a b) :=
  ct_div2_s (M := 8000) (dk := 3) (by decide) (fun a b n h hn => ct_div2_s (M := 4000) (dk := 1) (by decide) (fun a b n h hn => ct_div2_0 h hn) h hn) h hn
theorem digs_get (n : Nat) : ∀ (m : Nat) (x : Int) (j : Nat) (hj : j < (digs n m x).length), (digs n m x)[j] = x / 2 ^ (n * j) % 2 ^ n
  | 0, x, j, hj => by simp [digs] at hj
  | m + 1, x, 0, hj => by simp [digs]
  | m + 1, x, j + 1, hj => by
    have e : (digs n (m + 1) x)[j + 1] = (digs n m (x / 2 ^ n))[j]'(by rw [digs_len] at hj ⊢; exact o366 hj) := by simp [digs]
    rw [e, digs_get n m, Int.ediv_ediv_of_nonneg (Int.le_of_lt (two_pow_pos n)), ← Int.pow_add, Nat.mul_add, Nat.mul_one, Nat.add_comm]
/-- one turn of the long division -/
theorem divStep {a b X : Int} (hb : 0 < b) (hX : 0 < X) (ha : 0 ≤ a) : a / b = a / X / b * X + (a / X % b * X + a % X) / b ∧ a % b = (a / X % b * X + a % X) % b := by
  have e1 := Int.mul_ediv_add_emod a X
  have e2 := Int.mul_ediv_add_emod (a / X) b
  have e3 := Int.mul_ediv_add_emod (a / X % b * X + a % X) b
  refine div_of hb ?_ (Int.emod_nonneg _ (Int.ne_of_gt hb)) (Int.emod_lt_of_pos _ hb)
  rw [Int.add_mul, Int.add_assoc, Int.mul_comm _ b, Int.mul_comm _ b, e3, ← Int.add_assoc, ← Int.mul_assoc, ← Int.add_mul, e2, Int.mul_comm]
  exact e1.symm
theorem divAt {a : Int} {n j : Nat} : a / 2 ^ (n * (j + 1)) = a / 2 ^ (n * j) / 2 ^ n := by
  rw [Nat.mul_add, Nat.mul_one, Int.pow_add, Int.ediv_ediv_of_nonneg (Int.le_of_lt (two_pow_pos _))]
theorem ct_divmod {w : World} {a b : Int} {m : Nat} (ha : 0 ≤ a) (hb : 0 < b) (hn : Builtin.Int.intBits b ≤ 16000) (hm : m = (Builtin.Int.intBits a + Builtin.Int.intBits b - 1) / Builtin.Int.intBits b) (hm16 : m ≤ 16) :
    CT w [47, 54] 8 66 [.int a, .int b] (.tup [.int (a / b), .int (a % b)]) := by
  refine CT.plain (names := [Str.ofString "a", Str.ofString "b"]) (by k_is) (by k_is) ?_ rfl (by decide) (by rfl) (by rfl) rfl rfl rfl ?_ (by decide)
  · intro s vs h; obtain ⟨a, b, rfl⟩ := len2 h; exact BindsTo.of_eq rfl
  intro f hw
  subst hw
  generalize hnb : Builtin.Int.intBits b = n at hn hm
  have hn0 : 0 < n := by
    rcases Nat.eq_zero_or_pos n with h | h
    · have := lt_of_intBits (n := 0) (Int.le_of_lt hb) (by exact o424 h hnb)
      exact o186 hb this
    · exact h
  have hbh : b < 2 ^ n := lt_of_intBits (Int.le_of_lt hb) (by exact o25 hnb)
  have hbl : 2 ^ (n - 1) ≤ b := of_intBits (n := n - 1) hb (by exact o344 hn0 hnb)
  have p := two_pow_pos n
  have hbm : Builtin.Int.intBits a ≤ n * m := by
    have h1 := Nat.lt_mul_div_succ (Builtin.Int.intBits a + n - 1) hn0
    rw [← hm, Nat.mul_add] at h1
    exact o132 h1
  have haM : a < 2 ^ (n * m) := lt_of_intBits ha hbm
  refine SX.cons (SX.assign (EV.cast (EV.bitLength (EV.var rfl rfl) rfl) (by rw [hnb])) ?_)
  refine SX.cons (SX.assign (EV.call (g_int2digits _) (by k_is) (EL.cons (EV.var rfl rfl) (EL.cons (EV.var rfl rfl) EL.nil)) (ct_i2d ha hn0 (by exact o44 hn) hm hm16)) ?_)
  refine SX.cons (SX.assign EV.cint ?_)
  refine SX.cons (SX.own (EO.list EL.nil) ?_)
  refine SX.cons (SX.for (fun l' ρ => ∃ (i : Nat) (qs : List Int), i ≤ m ∧ l' = ((digs n m a).take i).reverse.map PV.int ∧ qs.length = m - i ∧ (∀ q ∈ qs, 0 ≤ q ∧ q < 2 ^ n) ∧ dval n qs.reverse = a / 2 ^ (n * i) / b ∧
      SubR [(Str.ofString "q_digits", .owned (qs.map PV.int)), (Str.ofString "r", .loc (.int (a / 2 ^ (n * i) % b))), (Str.ofString "n", .loc (.int n)), (Str.ofString "b", .loc (.int b))] ρ)
    (IT.reversed (g_reversed _) b_reversed (EV.var rfl rfl)) ⟨m, [], Nat.le_refl _, ?_, by simp, nofun, ?_, ?_⟩ ?_ ?_)
  · rw [List.take_of_length_le (by rw [digs_len]; exact o296), List.map_reverse]
  · rw [Int.ediv_eq_zero_of_lt ha haM]; simp [dval]
  · rw [Int.ediv_eq_zero_of_lt ha haM]; exact ⟨rfl, rfl, rfl, rfl, trivial⟩
  · rintro x l' ρ ⟨i, qs, hi, hl', hql, hq, hdv, hs⟩
    cases i with
    | zero => simp at hl'
    | succ j =>
    have hj : j < (digs n m a).length := by rw [digs_len]; exact o369 hi
    rw [List.take_succ_eq_append_getElem hj, List.reverse_append, List.reverse_singleton, List.singleton_append, List.map_cons, digs_get] at hl'
    injection hl' with h1 h2
    subst h1
    have hr0 := Int.emod_nonneg (a / 2 ^ (n * (j + 1))) (Int.ne_of_gt hb)
    have hr1 := Int.emod_lt_of_pos (a / 2 ^ (n * (j + 1))) hb
    obtain ⟨s1, s2⟩ := divStep (a := a / 2 ^ (n * j)) hb p (Int.ediv_nonneg ha (Int.le_of_lt (two_pow_pos _)))
    rw [← divAt] at s1 s2
    generalize hr : a / 2 ^ (n * (j + 1)) % b = r at *
    generalize hd : a / 2 ^ (n * j) % 2 ^ n = d at *
    have hd0 : 0 ≤ d := hd ▸ Int.emod_nonneg _ (Int.ne_of_gt p)
    have hd1 : d < 2 ^ n := hd ▸ Int.emod_lt_of_pos _ p
    have hrb := intBits_lt (n := n) hr0 (by exact o486 hr1 hbh)
    have hA0 : 0 ≤ r * 2 ^ n + d := Int.add_nonneg (Int.mul_nonneg hr0 (Int.le_of_lt p)) hd0
    have hA1 : r * 2 ^ n + d < 2 ^ n * b := by
      have : (r + 1) * 2 ^ n ≤ b * 2 ^ n := Int.mul_le_mul_of_nonneg_right hr1 (Int.le_of_lt p)
      rw [Int.add_mul, Int.one_mul, Int.mul_comm b] at this
      exact Int.lt_of_lt_of_le (Int.add_lt_add_left hd1 _) this
    refine ⟨_, AS.loc, ?_⟩
    refine SX.weaken (ρ' := [(Str.ofString "a_digit", .loc (.int d)), (Str.ofString "q_digits", .owned (qs.map PV.int)), (Str.ofString "r", .loc (.int r)), (Str.ofString "n", .loc (.int n)), (Str.ofString "b", .loc (.int b))]) ?_ ⟨rfl, hs.lookup rfl, hs.lookup rfl, hs.lookup rfl, hs.lookup rfl, trivial⟩
    refine SX.cons (SX.unpack2 (EV.call (g_div2 _) (by k_is) (EL.cons (EV.bin (EV.bin (EV.var rfl rfl) (EV.var rfl rfl) (OP2.shl rfl rfl (Int.natCast_nonneg n) ?_)) (EV.var rfl rfl) (OP2.add rfl rfl)) (EL.cons (EV.var rfl rfl) (EL.cons (EV.var rfl rfl) EL.nil))) (ct_div2 (n := n) ⟨?_, hbl, hbh, hn0, ?_⟩ hn)) ?_)
    · exact o447 hn hrb
    · rw [Int.toNat_natCast]; exact hA0
    · rw [Int.toNat_natCast]; exact hA1
    rw [Int.toNat_natCast]
    have hsl : qs.length ≤ sizeLine := by have : (16 : Nat) ≤ sizeLine := by decide
                                          exact o591 this hm16 hql
    refine SX.cons (SX.append rfl rfl (EV.var rfl rfl) (by rw [List.length_map]; exact hsl) (SX.nil ?_))
    refine ⟨[(Str.ofString "q_digits", .owned ((qs ++ [(r * 2 ^ n + d) / b]).map PV.int)), (Str.ofString "r", .loc (.int ((r * 2 ^ n + d) % b))), (Str.ofString "n", .loc (.int n)), (Str.ofString "b", .loc (.int b))], ?_, j, qs ++ [(r * 2 ^ n + d) / b], by exact o2 hi, h2, by simp; exact o551 hi hql, fun q h => ?_, ?_, ?_⟩
    · rw [List.map_append]; exact ⟨rfl, rfl, rfl, rfl, trivial⟩
    · rcases List.mem_append.mp h with h | h
      · exact hq q h
      · rw [List.mem_singleton.mp h]
        refine ⟨Int.ediv_nonneg hA0 (Int.le_of_lt hb), ?_⟩
        rw [Int.ediv_lt_iff_lt_mul hb]; exact hA1
    · rw [List.reverse_append, List.reverse_singleton, List.singleton_append, dval, hdv, s1, Int.mul_comm (2 ^ n)]; exact o48
    · rw [s2]; exact ⟨rfl, rfl, rfl, rfl, trivial⟩
  · rintro ρ ⟨i, qs, hi, hl', hql, hq, hdv, hs⟩
    have hi0 : i = 0 := by
      have := congrArg List.length hl'
      simp [digs_len] at this
      exact o347 this hi
    subst hi0
    rw [Nat.mul_zero, Int.pow_zero, Int.ediv_one] at hdv hs
    refine SX.weaken (SX.nil ?_) hs
    have hsl : qs.length ≤ sizeLine := by have : (16 : Nat) ≤ sizeLine := by decide
                                          exact o505 this hm16 hql
    refine SX.cons (SX.reverse rfl rfl (by rw [List.length_map]; exact hsl) ?_)
    rw [← List.map_reverse]
    refine SX.freeze (x := Str.ofString "q_digits") rfl ?_
    refine SX.cons (SX.assign (EV.call (g_digits2int _) (by k_is) (EL.cons (EV.var rfl rfl) (EL.cons (EV.var rfl rfl) EL.nil)) (ct_d2i (B := n) (by simp; exact o446 hm16 hql) (by exact o44 hn) (by exact o44 hn) (fun d h => hq d (by simpa using h)))) ?_)
    rw [hdv]
    exact SX.cons (SX.ret (EV.tuple (EL.cons (EV.var rfl rfl) (EL.cons (EV.var rfl rfl) EL.nil))) rfl)
end Mine

end
section
open PySem PySem.W PyProof.Rows PySem.Calls PySem.Spec PySem.Challenge
namespace Mine
theorem fillSA : rw_ti0009_01 = rw_ti0009_01 ∧ hd.heap_39 = hd.heap_39 := by k_fill; exact ⟨rfl, rfl⟩
section
variable {sc : Scope} {dk : Nat} {tb : List Addr} {f : Fm sc dk tb}
/-- pairs of numbers compared -/
theorem OP2.eqT2 {a b c d : Int} : OP2 f (compareOp .Eq) (.tup [.int a, .int b]) (.tup [.int c, .int d]) (.bool (decide (a = c ∧ b = d))) := by
  have h := OP2.eqD (f := f) (a := .tup [.int a, .int b]) (b := .tup [.int c, .int d]) (d := .tuple [.int a, .int b]) (d' := .tuple [.int c, .int d]) rfl rfl rfl rfl rfl
  have e : PySem.Spec.same (.tuple [.int a, .int b]) (.tuple [.int c, .int d]) = decide (a = c ∧ b = d) := by
    simp only [PySem.Spec.same, PySem.Spec.sameAll, Bool.and_true, Bool.decide_and]
    rfl
  rw [e] at h; exact h
theorem OP2.neT2 {a b c d : Int} : OP2 f (compareOp .NotEq) (.tup [.int a, .int b]) (.tup [.int c, .int d]) (.bool (!decide (a = c ∧ b = d))) := by
  have h := OP2.neD (f := f) (a := .tup [.int a, .int b]) (b := .tup [.int c, .int d]) (d := .tuple [.int a, .int b]) (d' := .tuple [.int c, .int d]) rfl rfl rfl rfl rfl
  have e : PySem.Spec.same (.tuple [.int a, .int b]) (.tuple [.int c, .int d]) = decide (a = c ∧ b = d) := by
    simp only [PySem.Spec.same, PySem.Spec.sameAll, Bool.and_true, Bool.decide_and]
    rfl
  rw [e] at h; exact h
end
theorem pow_pos_le {a b : Nat} (h : a ≤ b) : (2 : Int) ^ a ≤ 2 ^ b := by
  obtain ⟨c, rfl⟩ := Nat.exists_eq_add_of_le h
  rw [Int.pow_add]
  have h1 := two_pow_pos a
  have h2 := two_pow_pos c
  calc (2:Int) ^ a = 2 ^ a * 1 := by exact o69
    _ ≤ 2 ^ a * 2 ^ c := Int.mul_le_mul_of_nonneg_left h2 (Int.le_of_lt h1)
theorem ct_hard {w : World} {h : Nat} (h0 : 1 ≤ h) (hh : h ≤ 5700) : CT w [47, 54] 9 186 [.int h] (.bool true) := by
  refine CT.plain (names := [Str.ofString "half"]) (by k_is) (by k_is) ?_ rfl (by decide) (by rfl) (by rfl) rfl rfl rfl ?_ (by decide)
  · intro s vs h; obtain ⟨a, rfl⟩ := len1 h; exact BindsTo.of_eq rfl
  intro f hw
  subst hw
  have i1 : Builtin.Int.intBits 1 = 1 := by decide
  have e1 : (2 * (h : Int) - 1).toNat = 2 * h - 1 := by exact o190
  have e2 : (h : Int).toNat = h := by exact o200
  have e3 : (4 * (h : Int)).toNat = 4 * h := by exact o192
  have e4 : (2 * (h : Int)).toNat = 2 * h := by exact o191
  refine SX.cons (SX.assign (EV.bin (EV.bin (EV.bin EV.cint (EV.bin (EV.bin EV.cint (EV.var rfl rfl) (OP2.mul rfl rfl ?_)) EV.cint (OP2.sub rfl rfl)) (OP2.shl rfl rfl (by exact o226 h0) (by exact o384 i1 hh))) (EV.bin EV.cint (EV.var rfl rfl) (OP2.shl rfl rfl (by exact o0) (by exact o110 i1 hh))) (OP2.add rfl rfl)) EV.cint (OP2.sub rfl rfl)) ?_)
  · exact smallM (by exact o655) (by exact o656) (by exact o0) (by exact o46 hh)
  refine SX.cons (SX.assign (EV.bin (EV.bin (EV.bin (EV.bin EV.cint (EV.bin EV.cint (EV.var rfl rfl) (OP2.mul rfl rfl ?_)) (OP2.shl rfl rfl (by exact o219) (by exact o386 i1 hh))) (EV.bin EV.cint (EV.bin EV.cint (EV.var rfl rfl) (OP2.mul rfl rfl ?_)) (OP2.shl rfl rfl (by exact o218) (by exact o385 i1 hh))) (OP2.sub rfl rfl)) (EV.bin EV.cint (EV.var rfl rfl) (OP2.shl rfl rfl (by exact o0) (by exact o110 i1 hh))) (OP2.add rfl rfl)) EV.cint (OP2.sub rfl rfl)) ?_)
  · exact smallM (by exact o657) (by exact o658) (by exact o0) (by exact o46 hh)
  · exact smallM (by exact o655) (by exact o656) (by exact o0) (by exact o46 hh)
  rw [e1, e2, e3, e4, Int.one_mul, Int.one_mul, Int.one_mul, Int.one_mul]
  have pA := two_pow_pos h
  have p2 : (2 : Int) ^ (2 * h) = 2 ^ h * 2 ^ h := pp2 h
  have p1 : 2 * (2 : Int) ^ (2 * h - 1) = 2 ^ (2 * h) := by
    rw [Int.mul_comm, ← Int.pow_succ]; congr 1; exact o224 h0
  have p4 : (2 : Int) ^ (4 * h) = 2 ^ (2 * h) * 2 ^ (2 * h) := by rw [← Int.pow_add]; congr 1; exact o233
  have p6 : (2 : Int) ^ (6 * h) = 2 ^ (4 * h) * 2 ^ (2 * h) := by rw [← Int.pow_add]; congr 1; exact o235
  have pB := two_pow_pos (2 * h)
  have hAB : (2 : Int) ^ h ≤ 2 ^ (2 * h - 1) := pow_pos_le (by exact o278)
  have hA2 : (2 : Int) ≤ 2 ^ h := by have := pow_pos_le h0; simpa using this
  have hB4 : (2 : Int) ^ (2 * h) * 2 ≤ 2 ^ (4 * h) := by rw [p4]; exact Int.mul_le_mul_of_nonneg_left (by have := pow_pos_le (show 1 ≤ 2 * h by exact o227 h0); simpa using this) (Int.le_of_lt pB)
  generalize hA : (2 : Int) ^ h = A at *
  generalize hC : (2 : Int) ^ (2 * h - 1) = C at *
  generalize hB : (2 : Int) ^ (2 * h) = B at *
  generalize hD : (2 : Int) ^ (4 * h) = D at *
  have hx0 : 0 < C + A - 1 := by exact o312 hA2 hAB
  have ht0 : 0 < D - B + A - 2 := by exact o572 hx0 p1 hB4 hAB
  have hbits : Builtin.Int.intBits (C + A - 1) = 2 * h := by
    have := intBits_eq (x := C + A - 1) (n := 2 * h - 1) (by rw [hC]; exact o311 hA2) (by rw [show 2 * h - 1 + 1 = 2 * h by exact o78 h0, hB]; exact o478 p1 hAB)
    rw [this]; exact o78 h0
  have htx : 0 < (D - B + A - 2) * (C + A - 1) := Int.mul_pos ht0 hx0
  have hle : (D - B + A - 2) * (C + A - 1) ≤ D * B := by
    have h1 : (D - B + A - 2) * (C + A - 1) ≤ D * (C + A - 1) := Int.mul_le_mul_of_nonneg_right (by rw [p2] at hB4 ⊢; have := Int.mul_le_mul_of_nonneg_left hA2 (Int.le_of_lt pA); exact o612 pB p1 p2 hAB) (Int.le_of_lt hx0)
    have h2 : D * (C + A - 1) ≤ D * B := Int.mul_le_mul_of_nonneg_left (by exact o479 p1 hAB) (by exact o571 pB p1 hAB ht0)
    exact o489 h2 h1
  have hab : Builtin.Int.intBits ((D - B + A - 2) * (C + A - 1) - 1) ≤ 6 * h := intBits_lt (by exact o33 htx) (by rw [p6]; exact o325 hle)
  have hm : (Builtin.Int.intBits ((D - B + A - 2) * (C + A - 1) - 1) + Builtin.Int.intBits (C + A - 1) - 1) / Builtin.Int.intBits (C + A - 1) ≤ 16 := by
    rw [hbits]
    refine Nat.le_trans (Nat.div_le_div_right (c := 2 * h) (show _ ≤ 16 * (2 * h) by exact o407 hab)) ?_
    rw [Nat.mul_div_cancel _ (by exact o225 h0)]; exact Nat.le_refl _
  obtain ⟨d1, d2⟩ := div_of (N := (D - B + A - 2) * (C + A - 1) - 1) (b := C + A - 1) (q := D - B + A - 2 - 1) (r := C + A - 1 - 1) hx0 (by rw [Int.sub_mul (D - B + A - 2) 1, Int.one_mul]; exact o484) (by exact o307 hx0) (by exact o316)
  refine SX.cons (SX.ret (EV.cast (EV.cmp (EV.call (g_divmodpos _) (by k_is) (EL.cons (EV.bin (EV.bin (EV.var rfl rfl) (EV.var rfl rfl) (OP2.mul rfl rfl ?_)) EV.cint (OP2.sub rfl rfl)) (EL.cons (EV.var rfl rfl) EL.nil)) (ct_divmod (by exact o33 htx) hx0 (by exact o455 hh hbits) rfl hm)) (EV.tuple (EL.cons (EV.bin (EV.var rfl rfl) EV.cint (OP2.sub rfl rfl)) (EL.cons (EV.bin (EV.var rfl rfl) EV.cint (OP2.sub rfl rfl)) EL.nil))) OP2.eqT2) ?_) rfl)
  · refine IntMulOk.of_le (m := 4 * h) (n := 2 * h) (intBits_lt (by exact o474 ht0) (by rw [hD]; exact o575 hA2 p1 hAB)) (by exact o388 hbits) (by exact o287 hh)
  · rw [d1, d2]; simp
end Mine

end
section
open PySem PySem.W PyProof.Rows PySem.Calls PySem.Spec PySem.Challenge
namespace Mine
theorem fillS4 : rw_ti0009_01 = rw_ti0009_01 ∧ hd.heap_39 = hd.heap_39 := by k_fill; exact ⟨rfl, rfl⟩
section
variable {sc : Scope} {dk : Nat} {tb : List Addr} {f : Fm sc dk tb} {G : Gh} {ρ : Rho} {s : Shared}
theorem EV.isBool {x y : Str} {xp yp pos : Pos} {e : Expr} {b : Bool} (hx : nsIn (hd.heap_39 f.w.params) mainGlobals x = some .none) (hb : bootBuiltins x = some (.builtin "isinstance")) (hy : nsIn (hd.heap_39 f.w.params) mainGlobals y = some .none) (hyb : bootBuiltins y = some (.type "bool"))
    (h : EV f ρ (eval e f.env) (.bool b)) (hkd : f.env.kindOf x = some .globalImplicit := by rfl) (hky : f.env.kindOf y = some .globalImplicit := by rfl)
    (hn : x ≠ "__name__" := by decide) (hd : (x == ("__debug__" : Str)) = false := by decide) (hn' : y ≠ "__name__" := by decide) (hd' : (y == ("__debug__" : Str)) = false := by decide)
    (he : starEach [e, .Name y yp] f.env = (false, eval e f.env) :: starEach [.Name y yp] f.env := by rfl) (he2 : starEach [.Name y yp] f.env = (false, eval (.Name y yp) f.env) :: starEach [] f.env := by rfl) (hplain : (backTo pos (starEach [.Name y yp] f.env)).any (·.1) = false := by rfl)
    (he' : eval (.Call (.Name x xp) [e, .Name y yp] [] pos) f.env = (do callWith pos (← eval (.Name x xp) f.env) [] (backTo pos (starEach [e, .Name y yp] f.env)) (backToKw pos (keywordEach [] f.env))) := by rfl) :
    EV f ρ (eval (.Call (.Name x xp) [e, .Name y yp] [] pos) f.env) (.bool true) := ⟨fun s G F Q E k => by
  with_reducible refine Call_ ?_ he'
  refine eval_bltn F hx hb hn hkd hd ?_
  with_reducible refine PyProof.Rows.callWith_builtin1 ?_ he hplain
  with_reducible refine args_cons ?_ he
  refine h.run s G F _ _ fun v s₁ G₁ L₁ F₁ r₁ => ?_
  with_reducible refine args_cons ?_ he2
  refine eval_bltn F₁ hy hyb hn' hky hd' ?_
  with_reducible refine args_nil ?_
  obtain rfl := r₁.isBool
  exact call_isinstance (isinstance_true (Tx := "bool") PySem.F.isi_meta_bool PySem.F.sub_bool_bool) ⟨rfl, k _ _ G₁ L₁ F₁ (.bool true)⟩⟩
end
def depthOf (base reach x y : Nat) : Option Nat := (List.range reach).findIdx? fun e => x % base ^ (e + 1) != y % base ^ (e + 1)
def rowD (places : List Nat) (base reach k : Nat) : List Nat := (List.range k).map fun j => (depthOf base reach (places.getD k 0) (places.getD j 0)).getD 0
def addD (ds : List Nat) (d : Nat) : List Nat := if ds.contains d then ds else ds ++ [d]
def depthsP (places : List Nat) (base reach : Nat) : List Nat := ((List.range places.length).flatMap (rowD places base reach)).foldl addD []
def apY (base x y : Nat) : PV → PV
  | .int e => .bool (x % base ^ (e.toNat + 1) != y % base ^ (e.toNat + 1))
  | v => v
def isT : PV → Bool
  | .bool b => b
  | _ => false
theorem natL_getD {l : List Nat} {t : Nat} (h : t < l.length) : (l.map fun (k : Nat) => PV.int k)[((t : Nat) : Int).toNat]? = some (.int (l.getD t 0 : Nat)) := natL_get h
theorem ct_depths {w : World} {places : List Nat} {base reach : Nat} (hb : 1 < base) (hb3 : base ≤ 3) (hr : reach ≤ 10) (hn : places.length ≤ 100) (hdist : ∀ k j, j < k → k < places.length → (depthOf base reach (places.getD k 0) (places.getD j 0)).isSome = true) :
    CT w [] 2 203 [natL places, .int base, .int reach] (.int ((depthsP places base reach).length : Nat)) := by
  refine CT.cells (names := [Str.ofString "places", Str.ofString "base", Str.ofString "reach"]) (by k_is) (by k_is) ?_ rfl (by decide) (by rfl) (by decide) rfl rfl rfl ?_ (by decide)
  · intro s vs h; obtain ⟨a, b, c, rfl⟩ := len3 h; exact BindsTo.of_eq rfl
  intro f hw
  subst hw
  let B0 : Rho := [(Str.ofString "places", .cel (natL places)), (Str.ofString "base", .cel (.int base)), (Str.ofString "reach", .loc (.int reach))]
  refine SX.weaken (ρ' := (Str.ofString "k", .ucel) :: (Str.ofString "j", .ucel) :: B0) ?_ ⟨rfl, rfl, rfl, rfl, rfl, trivial⟩
  have hpl : (places.map fun (k : Nat) => PV.int k).length = places.length := List.length_map ..
  have hlen40 : (places.map fun (k : Nat) => PV.int k).length < 2 ^ 40 := by rw [hpl]; exact o261 hn
  generalize hfin : depthsP places base reach = fin
  have dl : ∀ (l ds : List Nat), (l.foldl addD ds).length ≤ ds.length + l.length := by
    intro l
    induction l with
    | nil => intro ds; exact Nat.le_refl _
    | cons d l ih =>
      intro ds
      have := ih (addD ds d)
      have h2 : (addD ds d).length ≤ ds.length + 1 := by unfold addD; split <;> simp
      rw [List.foldl_cons, List.length_cons]; exact o609 h2 this
  have big : (20000 : Nat) ≤ sizeLine := by decide
  refine SX.cons (SX.own (EO.list EL.nil) ?_)
  refine SX.cons (SX.for (fun l' ρ => ∃ (ks ds : List Nat), l' = ks.map (fun (k : Nat) => PV.int k) ∧ (∀ k ∈ ks, k < places.length) ∧ ds.length + places.length * ks.length ≤ 10000 ∧ (ks.flatMap (rowD places base reach)).foldl addD ds = fin ∧ (∃ e1 e2, ρ.lookup (Str.ofString "k") = some e1 ∧ e1.isCel = true ∧ ρ.lookup (Str.ofString "j") = some e2 ∧ e2.isCel = true) ∧ SubR ((Str.ofString "depths", .owned (ds.map fun (k : Nat) => PV.int k)) :: B0) ρ)
    (IT.range (EV.ty (g_range _) b_range (EL.cons (EV.blt (g_len _) b_len (EL.cons (EV.var rfl rfl) EL.nil) (OPL.len hlen40)) EL.nil) (OPL.range1 rfl)) (by decide) (by decide) (by exact o1) (by exact o438 hn hpl)) ⟨List.range places.length, [], by rw [hpl, rngL_nat], fun k hk => List.mem_range.mp hk, ?_, hfin, ⟨_, _, rfl, rfl, rfl, rfl⟩, rfl, rfl, rfl, rfl, trivial⟩ ?_ ?_)
  · rw [List.length_range, List.length_nil]
    have := Nat.mul_le_mul hn hn; exact o259 this
  · rintro x l' ρ ⟨ks, ds, hks, hlt, hlen, hfold, ⟨e1, e2, hk1, hk2, hj1, hj2⟩, hs⟩
    cases ks with
    | nil => cases hks
    | cons k ks =>
      injection hks with h1 h2
      subst h1 h2
      have hk := hlt k (.head _)
      refine ⟨_, AS.cel hk1 hk2, ?_⟩
      let Lk : Rho := (Str.ofString "k", .cel (.int (k : Nat))) :: B0
      refine SX.weaken (ρ' := (Str.ofString "j", e2) :: (Str.ofString "depths", .owned (ds.map fun (k : Nat) => PV.int k)) :: Lk) ?_ ⟨hj1, hs.lookup rfl, rfl, hs.lookup rfl, hs.lookup rfl, hs.lookup rfl, trivial⟩
      have hkk : (k : Int) ≤ 2 ^ 40 := by exact o437 hn hk
      have hki : (k : Int) < 2 ^ 40 := by exact o436 hn hk
      let d : Nat → Nat := fun j => (depthOf base reach (places.getD k 0) (places.getD j 0)).getD 0
      refine SX.cons (SX.for (fun l'' ρ => ∃ (js ds' : List Nat), l'' = js.map (fun (k : Nat) => PV.int k) ∧ (∀ j ∈ js, j < k) ∧ ds'.length + js.length ≤ ds.length + k ∧ (js.map d).foldl addD ds' = (rowD places base reach k).foldl addD ds ∧ (∃ e2, ρ.lookup (Str.ofString "j") = some e2 ∧ e2.isCel = true) ∧ SubR ((Str.ofString "depths", .owned (ds'.map fun (k : Nat) => PV.int k)) :: Lk) ρ)
        (IT.range (EV.ty (g_range _) b_range (EL.cons (EV.var rfl rfl) EL.nil) (OPL.range1 rfl)) (by decide) (by decide) (by exact o1) hkk) ⟨List.range k, ds, rngL_nat k, fun j hj => List.mem_range.mp hj, by rw [List.length_range]; exact Nat.le_refl _, rfl, ⟨e2, rfl, hj2⟩, rfl, rfl, rfl, rfl, rfl, trivial⟩ ?_ ?_)
      · rintro y l'' ρ ⟨js, ds', hjs, hjlt, hdl, hfold', ⟨e2, hj1, hj2⟩, hs⟩
        cases js with
        | nil => cases hjs
        | cons j js =>
          injection hjs with h3 h4
          subst h3 h4
          have hj := hjlt j (.head _)
          have hji : (j : Int) < 2 ^ 40 := by exact o339 hki hj
          refine ⟨_, AS.cel hj1 hj2, ?_⟩
          refine SX.weaken (ρ' := (Str.ofString "j", .cel (.int (j : Nat))) :: (Str.ofString "depths", .owned (ds'.map fun (k : Nat) => PV.int k)) :: Lk) ?_ ⟨rfl, hs.lookup rfl, hs.lookup rfl, hs.lookup rfl, hs.lookup rfl, hs.lookup rfl, trivial⟩
          have hgk := natL_getD hk
          have hgj := natL_getD (l := places) (show j < places.length by exact o525 hj hk)
          obtain ⟨n, hd⟩ := Option.isSome_iff_exists.mp (hdist k j hj hk)
          have hdj : d j = n := by show (depthOf base reach (places.getD k 0) (places.getD j 0)).getD 0 = n; rw [hd]; rfl
          generalize places.getD k 0 = px at hgk hd
          generalize places.getD j 0 = py at hgj hd
          have hmem : ∀ v ∈ (List.range reach).map fun (k : Nat) => PV.int k, ∃ e : Nat, e < reach ∧ v = .int e := fun v hv => by
            obtain ⟨e, he, rfl⟩ := List.mem_map.mp hv; exact ⟨e, List.mem_range.mp he, rfl⟩
          have hnr : n < reach := by
            have := (List.findIdx?_eq_some_iff_getElem.mp hd).1
            simpa using this
          have hidx : (((List.range reach).map fun (k : Nat) => PV.int k).map (apY base px py)).findIdx? isT = some n := by
            rw [List.findIdx?_map, List.findIdx?_map]
            exact hd
          have hg : ∀ x ∈ ((List.range reach).map fun (k : Nat) => PV.int k).map (apY base px py), PV.eqv x (.bool true) = some (isT x) := fun x hx => by
            obtain ⟨v, hv, rfl⟩ := List.mem_map.mp hx
            obtain ⟨e, _, rfl⟩ := hmem v hv
            show some (_ == true) = some _
            congr 1
            exact beq_true _
          have hapn : (((List.range reach).map fun (k : Nat) => PV.int k).map (apY base px py))[((n : Nat) : Int).toNat]? = some (apY base px py (.int (n : Nat))) := by
            simp [List.getElem?_range hnr]
          refine SX.cons (SX.comp (l := (List.range reach).map fun (k : Nat) => PV.int k) (ρ₂ := fun v => [(Str.ofString "e", .loc v), (Str.ofString "base", .fre (.int base)), (Str.ofString "j", .fre (.int (j : Nat))), (Str.ofString "k", .fre (.int (k : Nat))), (Str.ofString "places", .fre (natL places))]) (p := fun _ => true) (y := apY base px py)
            (by rw [← rngL_nat]; exact IT.range (EV.ty (g_range _) b_range (EL.cons (EV.var rfl rfl) EL.nil) (OPL.range1 rfl)) (by decide) (by decide) (by exact o1) (by exact o257 hr))
            ⟨fun f' hw v hv => ASO.loc (by rfl), fun f' hw v hv => TS.nil, fun f' hw v hv _ => ?_, fun v hv => ⟨⟨rfl, rfl, rfl, rfl, trivial⟩, ⟨rfl, rfl, rfl, rfl, trivial⟩⟩⟩ (by rw [List.length_map, List.length_range]; exact Nat.le_trans hr (by decide)) ?_)
          · obtain ⟨e, he, rfl⟩ := hmem v hv
            have hb0 : (1 : Int) < base := by exact o222 hb
            have hib : Builtin.Int.intBits (base : Int) ≤ 2 := intBits_lt (by exact o0) (by exact o281 hb3)
            have hps : (Builtin.Int.intBits (base : Int) : Int) * ((e : Int) + 1) ≤ 2 ^ 27 := by
              have h1 : (Builtin.Int.intBits (base : Int) : Int) ≤ 2 := by exact o45 hib
              have h2 : (Builtin.Int.intBits (base : Int) : Int) * ((e : Int) + 1) ≤ 2 * ((e : Int) + 1) := Int.mul_le_mul_of_nonneg_right h1 (by exact o217)
              exact o165 h2 hr he
            have hpp : (0 : Int) < (base : Int) ^ ((e : Int) + 1).toNat := Int.pow_pos (by exact o221 hb)
            refine EV.cast (EV.call (g_ne _) (k_ne _) (EL.cons (EV.call (g_mod _) (k_mod _) (EL.cons (EV.item (EQL.of (EV.var rfl rfl)) (EV.var rfl rfl) rfl (Int.natCast_nonneg k) hki hgk) (EL.cons (EV.bin (EV.var rfl rfl) (EV.bin (EV.var rfl rfl) EV.cint (OP2.add rfl rfl)) (OP2.pow rfl rfl (by exact o38) hb0 hps)) EL.nil)) (ct_mod rfl rfl hpp))
              (EL.cons (EV.call (g_mod _) (k_mod _) (EL.cons (EV.item (EQL.of (EV.var rfl rfl)) (EV.var rfl rfl) rfl (Int.natCast_nonneg j) hji hgj) (EL.cons (EV.bin (EV.var rfl rfl) (EV.bin (EV.var rfl rfl) EV.cint (OP2.add rfl rfl)) (OP2.pow rfl rfl (by exact o38) hb0 hps)) EL.nil)) (ct_mod rfl rfl hpp)) EL.nil)) (ct_ne rfl rfl)) ?_
            show PV.bool _ = PV.bool _
            rw [show ((e : Int) + 1).toNat = e + 1 by exact o71, Int.toNat_natCast]
            have c1 : ((px : Int) % (base : Int) ^ (e + 1)) = ((px % base ^ (e + 1) : Nat) : Int) := by simp
            have c2 : ((py : Int) % (base : Int) ^ (e + 1)) = ((py % base ^ (e + 1) : Nat) : Int) := by simp
            rw [c1, c2]
            generalize px % base ^ (e + 1) = a
            generalize py % base ^ (e + 1) = b
            congr 1
            rw [Bool.eq_iff_iff]; simp only [bne_iff_ne]; exact o338
          rw [List.filter_eq_self.mpr (fun _ _ => rfl)]
          generalize hap : ((List.range reach).map fun (k : Nat) => PV.int k).map (apY base px py) = ap at hidx hg hapn ⊢
          show SX f _ (execs _ f.env) _
          refine SX.cons (SX.assign (EV.call (g_indexOf _) (k_indexOf _) (EL.cons (EV.var rfl rfl) (EL.cons EV.cbool EL.nil)) (ct_indexOf hg hidx)) ?_)
          have hn40 : (n : Int) < 2 ^ 40 := by exact o435 hr hnr
          refine SX.cons (SX.ite (EB.not (EB.bool (EV.isBool (g_isinstance _) b_isinstance (g_bool _) b_bool (EV.item (EQL.of (EV.var rfl rfl)) (EV.var rfl rfl) rfl (Int.natCast_nonneg n) hn40 hapn)))) (fun q => by cases q) (fun _ => SX.nil ?_))
          show SX f _ (execs _ f.env) _
          rw [List.map_cons, List.foldl_cons, hdj] at hfold'
          refine SX.cons' (Ψ := fun o => ∃ ρ, o = .nx ρ ∧ SubR ((Str.ofString "j", .cel (.int (j : Nat))) :: (Str.ofString "depths", .owned ((addD ds' n).map fun (k : Nat) => PV.int k)) :: Lk) ρ)
            (SX.ite (EB.notinOwn (EV.var rfl rfl) rfl (EQL.own rfl rfl) (asIs_nat ds')) (fun q => ?_) (fun q => ?_)) ?_
          · have q' : ds'.contains n = false := by
              have := any_toZ ds' n
              rw [show (List.map (fun (k : Nat) => (k : Int)) ds') = toZ ds' from rfl, this] at q
              simpa using q
            have ea : addD ds' n = ds' ++ [n] := by unfold addD; rw [q']; rfl
            refine SX.cons (SX.append rfl rfl (EV.var rfl rfl) (by rw [List.length_map]; rw [List.length_cons, Nat.mul_succ] at hlen; simp only [List.length_cons] at hdl; exact o630 big hk hlen hdl) (SX.nil ⟨_, rfl, rfl, ?_, rfl, rfl, rfl, rfl, trivial⟩))
            rw [ea, List.map_append]
            rfl
          · have q' : ds'.contains n = true := by
              have := any_toZ ds' n
              rw [show (List.map (fun (k : Nat) => (k : Int)) ds') = toZ ds' from rfl, this] at q
              simpa using q
            have ea : addD ds' n = ds' := by unfold addD; rw [q']; rfl
            rw [ea]
            exact SX.nil ⟨_, rfl, rfl, rfl, rfl, rfl, rfl, rfl, trivial⟩
          · rintro _ ⟨ρ, rfl, hs⟩
            refine SX.nil ⟨(Str.ofString "j", .cel (.int (j : Nat))) :: (Str.ofString "depths", .owned ((addD ds' n).map fun (k : Nat) => PV.int k)) :: Lk, hs, js, addD ds' n, rfl, fun j' hj' => hjlt j' (.tail _ hj'), ?_, hfold', ⟨_, rfl, rfl⟩, rfl, rfl, rfl, rfl, rfl, trivial⟩
            have : (addD ds' n).length ≤ ds'.length + 1 := by unfold addD; split <;> simp
            simp only [List.length_cons] at hdl; exact o620 this hdl
      · rintro ρ ⟨js, ds', hjs, _, hdl, hfold', ⟨e2, hj1, hj2⟩, hs⟩
        cases js with
        | cons j js => cases hjs
        | nil =>
          have hds' : ds' = (rowD places base reach k).foldl addD ds := hfold'
          refine SX.nil (SX.nil ⟨(Str.ofString "k", .cel (.int (k : Nat))) :: (Str.ofString "j", e2) :: (Str.ofString "depths", .owned (ds'.map fun (k : Nat) => PV.int k)) :: B0, ⟨hs.lookup rfl, hj1, hs.lookup rfl, hs.lookup rfl, hs.lookup rfl, hs.lookup rfl, trivial⟩, ks, ds', rfl, fun k' hk' => hlt k' (.tail _ hk'), ?_, ?_, ⟨_, e2, rfl, rfl, rfl, hj2⟩, rfl, rfl, rfl, rfl, trivial⟩)
          · rw [List.length_cons, Nat.mul_succ] at hlen
            simp only [List.length_nil, Nat.add_zero] at hdl
            exact o623 hk hlen hdl
          · rw [hds', ← List.foldl_append]; exact hfold
  · rintro ρ ⟨ks, ds, hks, _, hlen, hfold, _, hs⟩
    cases ks with
    | cons k ks => cases hks
    | nil =>
      refine SX.nil ?_
      show SX f _ (execs _ f.env) _
      have hds : ds = fin := hfold
      subst hds
      refine SX.cons (SX.ret (EV.lenOwn (g_len _) b_len (EQL.own (hs.lookup rfl) rfl) (by simp at hlen ⊢; exact o267 hlen)) ?_)
      show PV.int _ = PV.int _
      rw [List.length_map]
end Mine

end
section
open PySem PySem.W PyProof.Rows PySem.Calls PySem.Spec PySem.Challenge
namespace Mine
variable {sc : Scope} {dk : Nat} {tb : List Addr}
/-- the contract of the law itself: no frame stands behind it -/
structure CTL (w : World) (tb : List Addr) (k : Nat) (a : Addr) (pvs : List PV) (pv : PV) : Prop where
  run : ∀ (A : Around) (g0 : Heap) (s : Shared) (κ : Kap) (vs : List Value), A.handled = none → A.frames = some [] → A.depth + k < recursionLimit → A.units + 4 * k + 80 < cLine → Gl w g0 →
    (∀ b o, g0.get? b = some o → s.heap.get? b = some o) → Tabs s.heap → (∀ b o, κ b = some o → s.heap.get? b = some o ∧ b ≠ 47 ∧ b ≠ 54) → RpAll (fun _ => none) κ vs pvs →
    ∀ R : Result → Shared → Prop, (∀ v s' τ' κ', KLe κ κ' → (∀ b o, b ∉ tb → s.heap.get? b = some o → s'.heap.get? b = some o) → Tabs s'.heap → TokOk τ' s'.toks →
      s'.gens = s.gens → s'.drawn = s.drawn → s'.os = s.os → (∀ b o, κ' b = some o → s'.heap.get? b = some o ∧ b ≠ 47 ∧ b ≠ 54 ∧ (κ b = some o ∨ s.heap.objs.size ≤ b)) → Rp τ' κ' v pv → R (.ok (.ret v)) s') →
    codeAny (model PG w) A (.call (.ref a) ⟨vs, []⟩) R s
theorem stOne {M : Model} {A : Around} {E : Value → Shared → Prop} {s₀ s : Shared} {m cm : Str → Option Value} {env : Env} {n : Str} {v : Value} {Q : Unit → Shared → Prop} (x : InCallC s₀ env.locals m env.cells cm s) (hk : env.scope.kind = .function) (hl : env.kindOf n = some .local)
    (h : ∀ s', InCallC s₀ env.locals (fun y => if y = n then some v else m y) env.cells cm s' → s.toks < s'.toks → Q () s') : wpAny M A (storeName env n v) Q E s := by
  refine wpAny_storeName_local hl x.toInCall.ns (fun h' hn' hs' => h _ ⟨⟨?_, hn', fun b o e => ?_, x.toInCall.fresh⟩, fun k c hc => ?_, x.apart, x.above⟩ (Nat.lt_succ_self _)) (by rw [hk]; rfl)
  · obtain ⟨h₁, tk, rfl⟩ := x.toInCall.same
    exact ⟨h', _, rfl⟩
  · exact hs'.extBut b o (Nat.ne_of_lt (Nat.lt_of_lt_of_le (Heap.lt_size e) x.toInCall.fresh)) (x.toInCall.keep b o e)
  · exact (x.cell k c hc).sameBut hs' (Nat.ne_of_gt (x.above k c (mem_of_lookup hc)))
theorem newEnvOne {M : Model} {A : Around} {E : Value → Shared → Prop} {s : Shared} {scope : Scope} {globals : Addr} {n : Str} {v : Value} {qual : Str} {func : Option Addr} {code : Value} {builtins : Addr} {Q : Env → Shared → Prop}
    (hk : scope.kind = .function) (hl : scope.names.lookup n = some .local)
    (hQ : ∀ env, env = newEnv scope s.heap.objs.size globals (cellsFrom (s.heap.objs.size + 1) scope.names []) qual func code none builtins →
      ∀ s', InCallC s env.locals (bindL env.kindOf [(n, v)] fun _ => none) env.cells (bindC env.kindOf [(n, v)] fun _ => none) s' → s.toks < s'.toks → Q env s') :
    wpAny M A (newFunctionEnv scope globals [] [(n, v)] qual func code none builtins) Q E s := by
  simp only [newFunctionEnv, Option.isSome_none, Bool.false_eq_true, if_false]
  refine wpAny_bind (wpAny_alloc ?_)
  refine wpAny_bind (wpAny_layCells _ (fun name kind cells => by cases hkc : kind == NameKind.cell <;> simp [hkc]) _ _ _ _ ?_)
  have ok := cellsFrom_ok scope.names (s.heap.push { cls := .type "frame", data := .dict #[] }) (s.heap.objs.size + 1) [] ⟨fun _ _ hm => (nomatch hm), List.Pairwise.nil⟩ (by rw [Heap.size_push]; exact Nat.le_refl _)
  rw [Heap.size_push] at ok
  rw [show ({ s with heap := s.heap.push { cls := .type "frame", data := .dict #[] } } : Shared).heap.objs.size = s.heap.objs.size + 1 from Heap.size_push ..]
  have hl' : (newEnv scope s.heap.objs.size globals (cellsFrom (s.heap.objs.size + 1) scope.names []) qual func code none builtins).kindOf n = some .local := hl
  refine wpAny_bind ?_
  rw [List.forIn_cons]
  refine wpAny_bind (wpAny_bind (stOne (s₀ := s) (m := fun _ => none) (cm := fun _ => none) (env := newEnv scope s.heap.objs.size globals (cellsFrom (s.heap.objs.size + 1) scope.names []) qual func code none builtins)
    ⟨⟨⟨_, _, rfl⟩, (Heap.Ns.new s.heap (.type "frame")).keeps (pushCells_keeps _ _), fun b o e => pushCells_keeps _ _ b o (Heap.get?_push_of_some _ e), Nat.le_refl _⟩, ?_, ?_, ?_⟩ hk hl' fun s' x lt => wpAny_pure ?_))
  · exact fun n c hc => (ok.empty n c (mem_of_lookup hc)).1
  · exact ok.apart
  · exact fun n c hm => (ok.empty n c hm).2
  · show wpAny M A (forIn [] PUnit.unit _) _ _ _
    rw [List.forIn_nil]
    refine wpAny_pure (wpAny_pure (hQ _ rfl s' ?_ lt))
    unfold bindL bindC
    rw [if_pos hl', if_pos hl']
    exact x
theorem CTL.cells {w : World} {a : Addr} {pvs : List PV} {pv : PV} {name qual : Str} {params : Arguments} {body : List Stmt} {dV kV doc pm cdv ct oc : Value} {an od : Option Addr} {osl : Array (Option Value)} {names : List Str}
    (ho : (hd.heap_39 w.params).lookup a = some ⟨oc, od, .func (fnOf name qual params body sc dV kV doc pm an cdv ct), osl⟩) (hcd : codeIn (hd.heap_39 w.params) cdv qual = true)
    (hbind : ∀ (s : Shared) (vs : List Value), vs.length = pvs.length → BindsTo s (fnOf name qual params body sc dV kV doc pm an cdv ct) ⟨vs, []⟩ (names.zip vs))
    (hone : names.length = 1) (hl1 : ∀ x ∈ names, sc.names.lookup x = some .local) (hlen : names.length = pvs.length) (hnd : names.Nodup) (hloc : names.all (fun x => sc.names.lookup x == some .local || sc.names.lookup x == some .cell) = true) (hnames : ∀ x ∈ sc.names, sc.names.lookup x.1 = some x.2)
    (hco : sc.isCoroutine = false) (hgen : sc.isGenerator = false) (hk : sc.kind = .function)
    (h : ∀ f : Fm sc dk tb, f.w = w → f.rs = true → SX f (rho0 sc names pvs) (execs body f.env) (retOk pv)) (htb : ∀ b ∈ tb, b = 47 ∨ b = 54) : CTL w tb (dk + 1) a pvs pv := ⟨by
  intro A g0 s κ vs hh hfr hroom hunits hgl hkeep htabs hκ hvs R hR
  obtain ⟨X, g47, g54, p, loose, mg, mb, T⟩ := id hgl
  have X' := X.keeps hkeep
  have hbig : 54 < s.heap.objs.size := by obtain ⟨_, e, _⟩ := htabs.2; exact Heap.lt_size e
  have mem_cell : ∀ {x : Str}, sc.names.lookup x = some .cell → (x, NameKind.cell) ∈ sc.names := fun h => mem_of_lookup h
  refine codeAny_call_function (fd := fnOf name qual params body sc dV kV doc pm an cdv ct) (body := body) (by exact o7 hroom) (X' _ _ ho) rfl hco hgen rfl (codeRec_of X' hcd) (hbind s vs hvs.length _ _ _ _ ?_)
  obtain ⟨n0, rfl⟩ := List.length_eq_one_iff.mp hone
  obtain ⟨v0, rfl⟩ := List.length_eq_one_iff.mp (hvs.length.trans hlen.symm)
  refine newEnvOne hk (hl1 n0 (.head _)) fun env he s₁ x gr => ⟨(T.nolimit.keeps hkeep).keeps x.toInCall.keep, codeAny_func ?_⟩
  have he' : env = callEnvC (fnOf name qual params body sc dV kV doc pm an cdv ct) s.heap.objs.size a := he
  clear he
  subst he'
  let f : Fm sc dk tb := { w := w, A := A.deeper (callEnvC (fnOf name qual params body sc dV kV doc pm an cdv ct) s.heap.objs.size a), L := s.heap.objs.size, cells := cellsFrom (s.heap.objs.size + 1) sc.names [], qual := qual ++ ".<locals>.", func := some a, code := cdv, frame := (some s.heap.objs.size), g0 := g0, h0 := s.heap, κ0 := κ, br := [], out := [], rs := true, gens := s.gens, drawn := s.drawn, os := s.os }
  let kf := (callEnvC (fnOf name qual params body sc dV kV doc pm an cdv ct) s.heap.objs.size a).kindOf
  let cs := cellsFrom (s.heap.objs.size + 1) sc.names []
  obtain ⟨h₁, tk₁, hs₁⟩ := x.toInCall.same
  have hcell : ∀ y c, cs.lookup y = some c → ∃ o, s₁.heap.get? c = some o ∧ o.data = .cell (bindC kf ([n0].zip [v0]) (fun _ => none) y) := fun y c h => x.cell y c h
  have habove : ∀ y c, cs.lookup y = some c → s.heap.objs.size < c := fun y c h => x.above y c (mem_of_lookup h)
  let own : List (Addr × Obj) := (cs.filter fun p => cs.lookup p.1 == some p.2).map fun p => (p.2, (s₁.heap.get? p.2).getD default)
  have hown : ∀ q ∈ own, ∃ y, cs.lookup y = some q.1 ∧ q.2 = (s₁.heap.get? q.1).getD default := fun q hq => by
    obtain ⟨p, hp, rfl⟩ := List.mem_map.mp hq
    exact ⟨p.1, beq_iff_eq.mp (List.mem_filter.mp hp).2, rfl⟩
  have ownMem : ∀ y c, cs.lookup y = some c → (c, (s₁.heap.get? c).getD default) ∈ own := fun y c h => List.mem_map.mpr ⟨(y, c), List.mem_filter.mpr ⟨mem_of_lookup h, beq_iff_eq.mpr h⟩, rfl⟩
  let τ : Tau := fun _ => none
  let G : Gh := ⟨τ, κ, bindL kf ([n0].zip [v0]) fun _ => none, own, []⟩
  have F : FS f G (rho0 sc [n0] pvs) s₁ :=
    { ok := ⟨hh, hgl, hk, (by show A.depth + 1 + dk < recursionLimit; exact o6 hroom), (by show A.units + 3 + 4 * dk + 80 < cLine; exact o8 hunits), hkeep, hbig, Nat.le_refl _, htb,
        (fun x1 y c e1 e2 => name_of_addr x.apart (mem_of_lookup e1) (mem_of_lookup e2)), (fun b q => nomatch q), (fun b q => nomatch q), (fun _ => ⟨[], Around.frames_deeper hfr, rfl, fun e he => nomatch he⟩)⟩
      keep := fun b o _ _ e => x.toInCall.keep b o e
      slots := fun b o hb => nomatch hb
      ns := x.toInCall.ns
      own := fun q hq => by
        obtain ⟨y, h1, h2⟩ := hown q hq
        obtain ⟨o, e1, e2⟩ := hcell y _ h1
        have hlt := habove y _ h1
        refine ⟨by rw [h2, e1]; rfl, Nat.ne_of_gt hlt, gtNe (Nat.lt_of_lt_of_le (by decide) (Nat.le_of_lt (Nat.lt_trans hbig hlt))), gtNe (Nat.lt_trans hbig hlt), .inl (Nat.le_of_lt hlt)⟩
      nd := by
        show (own.map (·.1)).Nodup
        have e : own.map (·.1) = (cs.filter fun p => cs.lookup p.1 == some p.2).map (·.2) := by rw [List.map_map]; rfl
        rw [e]
        exact List.pairwise_map.mpr (x.apart.filter _)
      fr := fun p hp => nomatch hp
      nfr := List.nodup_nil
      vis := fun b o e => ⟨x.toInCall.keep b o (hκ b o e).1, ltNe (Heap.lt_size (hκ b o e).1), (fun q => by
          obtain ⟨y, hy, e'⟩ := List.mem_map.mp q
          obtain ⟨z, h1, _⟩ := hown y hy
          have hlt := habove z _ h1
          have := Heap.lt_size (hκ b o e).1
          rw [← show y.1 = b from e'] at this
          exact absurd this (Nat.not_lt.mpr (Nat.le_of_lt hlt))), List.not_mem_nil, (hκ b o e).2.1, (hκ b o e).2.2, .inl e, List.not_mem_nil⟩
      tabs := htabs.keeps x.toInCall.keep
      tok := ⟨Nat.lt_of_le_of_lt (Nat.zero_le _) gr, fun t x e => by cases e⟩
      gens := by rw [hs₁]
      drawn := by rw [hs₁]
      os := by rw [hs₁]
      ents := fun y e hx => by
        have cellAt : sc.names.lookup y = some .cell → ∃ c o, cs.lookup y = some c ∧ s₁.heap.get? c = some o ∧ o.data = .cell (bindC kf ([n0].zip [v0]) (fun _ => none) y) ∧ (c, o) ∈ own ∧ s.heap.objs.size ≤ c := fun h => by
          obtain ⟨c, hc⟩ := Option.isSome_iff_exists.mp (cellsFrom_some (n := s.heap.objs.size + 1) (acc := []) (.inl (mem_cell h)))
          obtain ⟨o, e1, e2⟩ := hcell y c hc
          have := ownMem y c hc
          rw [e1] at this
          exact ⟨c, o, hc, e1, e2, this, Nat.le_of_lt (habove y c hc)⟩
        unfold rho0 at hx
        rw [List.lookup_append] at hx
        have e1 : (([n0].zip pvs).map (entP sc)).lookup y = (([n0].zip pvs).lookup y).map fun pv => if sc.names.lookup y = some .cell then .cel pv else .loc pv :=
          map_look (fun z pv => if sc.names.lookup z = some .cell then Ent.cel pv else Ent.loc pv)
        rw [e1] at hx
        cases q : ([n0].zip pvs).lookup y with
        | some pv =>
          rw [q] at hx
          obtain ⟨h1, v, h2, h3, h4⟩ := bind_look (kf := kf) [n0] (fun _ => none) (fun _ => none) hlen hnd hvs q
          have hx : some (if sc.names.lookup y = some .cell then Ent.cel pv else Ent.loc pv) = some e := hx
          injection hx with hx
          by_cases hc : sc.names.lookup y = some .cell
          · rw [if_pos hc] at hx
            subst hx
            obtain ⟨c, o, c1, c2, c3, c4, c5⟩ := cellAt hc
            have : bindC kf ([n0].zip [v0]) (fun _ => none) y = some v := h4 (by show ¬ sc.names.lookup y = some .local; rw [hc]; decide)
            exact ⟨v, ⟨hc, c, o, c1, c4, c5, by rw [c3, this]⟩, h2⟩
          · rw [if_neg hc] at hx
            subst hx
            have hl := List.all_eq_true.mp hloc y h1
            simp only [Bool.or_eq_true, beq_iff_eq] at hl
            have hl' := hl.resolve_right hc
            exact ⟨hl', v, h3 hl', h2⟩
        | none =>
          rw [q] at hx
          have hx : ((sc.names.filter fun x => x.2 == .cell).map fun x => (x.1, Ent.ucel)).lookup y = some e := hx
          have hm := mem_of_lookup hx
          obtain ⟨p, hp, he⟩ := List.mem_map.mp hm
          obtain ⟨hp1, hp2⟩ := List.mem_filter.mp hp
          injection he with he1 he2
          subst he1 he2
          have hc : sc.names.lookup p.1 = some .cell := by rw [hnames p hp1, beq_iff_eq.mp hp2]
          obtain ⟨c, o, c1, c2, c3, c4, c5⟩ := cellAt hc
          exact ⟨_, hc, c, o, c1, c4, c5, c3⟩ }
  refine (h f rfl rfl).run _ G F _ _ fun o fl s' G' ho ht hok => ?_
  have fin : ∀ v, FS f G' [] s' → Rp G'.τ G'.κ v pv → R (.ok (.ret v)) s' := fun v F' r =>
    hR v s' G'.τ G'.κ ht.κ (fun b o hb e => F'.keep b o hb ⟨(fun q => nomatch q), fun q => nomatch q⟩ e) F'.tabs F'.tok F'.gens F'.drawn F'.os (fun b o e => by obtain ⟨v1, _, _, _, v5, v6, v7, _⟩ := F'.vis b o e; exact ⟨v1, v5, v6, v7⟩) r
  cases o with
  | rt p => obtain ⟨v, rfl, F', r⟩ := hok; cases ho; exact fin v F' r
  | nx ρ' => obtain ⟨rfl, F'⟩ := hok; cases ho; exact fin .none (F'.weaken trivial) .none
  | bk ρ' => exact ho.elim
  | ct ρ' => exact ho.elim⟩
end Mine

end
section
open PySem PySem.W PyProof.Rows PySem.Calls PySem.Spec PySem.Challenge
namespace Mine
theorem fillL2 : rw_ti0009_01 = rw_ti0009_01 ∧ hd.heap_39 = hd.heap_39 := by k_fill; exact ⟨rfl, rfl⟩
theorem g_law (w : World) : nsIn (hd.heap_39 w.params) mainGlobals (Str.ofString "law") = some (some (.ref 218)) := by k_is
theorem post_ok (args ds : List WData) : rw_ti0009_01.row.claim.post args (.bool true) ds = true := by
  first
  | kernel_rfl
  | with_unfolding_all rfl
  | (show (WShape.has [] (WData.bool true) .bool && WTm.holds [] (.eq .res (.lit (.bool true))) _) = true
     simp [WShape.has, WTm.holds, WTm.value])
theorem start {w : World} {s₀ s₁ : Shared} {p : Program} {loose : List Str} {mg mb : Str → Option Value} {ns : List Int} {vs : List Value} {a fa : Addr} {k : Nat} (KX : (hd.heap_39 w.params).In s₁.heap) (hT8 : ∀ P ∈ [54, 47], s₁.heap.get? P = some (tabObj #[]))
    (T : Top p loose (ExcName.means s₀.heap) mg mb s₁.heap) (hT9 : TabsAt [(58, 54), (51, 47)] s₁.heap) (hL : s₁.heap.IsList a vs.toArray) (hI : IntsAre vs ns) (hmg : mg (Str.ofString "law") = some (.ref fa)) (hg : s₁.gens = #[])
    (C : CTL w [47, 54] k 218 [.ints ns] (.bool true)) (hk : k ≤ 50) :
    codeAny (model PG w) callerA (.call (.ref fa) ⟨[.ref a], []⟩) (fun r s' => GoodW rw_ti0009_01.row.claim (classAt s₀.heap) (ExcName.means s₀.heap) [ofPy (.list (ns.map .int))] { heap := ghostOf s₁.heap [(58, 54), (51, 47)], gens := s₁.gens, drawn := s₁.drawn, toks := s₁.toks, os := s₁.os } r s' ∧ GrownAll [(58, 54), (51, 47)] s'.heap) s₁ := by
  have hfa : fa = 218 := by
    have := mg_of KX T.g (g_law w)
    rw [hmg] at this; cases this; rfl
  subst hfa
  have hst : ∀ b o, (ghostOf s₁.heap [(58, 54), (51, 47)]).get? b = some o → s₁.heap.get? b = some o := fun b o e => of_hideAll _ e
  have C' := ghost_code hT9
  have T' := ghost_top hT9 T
  have h47 := hT8 47 (.tail _ (.head _))
  have h54 := hT8 54 (.head _)
  have hgl : Gl w (ghostOf s₁.heap [(58, 54), (51, 47)]) := by
    refine ⟨ghost_K hT9 KX (by kernel_rfl), hideAll_none _ (by decide), ⟨hideAll_none _ (by decide), C'.2.1, C'.1, ?_⟩, _, _, mg, mb, topRead_of T'⟩
    obtain ⟨bm, ob, b1, b2, b3, b4, b5, b6⟩ := T'.bmain
    refine ⟨mg, bm, ob, T'.g, b1, b2, ?_, b3, b4, b5, b6⟩
    rintro rfl
    obtain ⟨o, es, ep, e1, e2, _⟩ := T'.g
    rw [b3] at e1; cases e1
    rw [b6] at e2; cases e2
  have htabs : Tabs s₁.heap := ⟨⟨#[], h47, trivial, .inl rfl⟩, ⟨#[], h54, trivial, .inl rfl⟩⟩
  obtain ⟨o, ho, hc, n, hd⟩ := id hL
  let κ : Kap := fun b => if b = a then some o else none
  have hκa : κ a = some o := if_pos rfl
  have ne47 : a ≠ 47 := by rintro rfl; rw [h47] at ho; cases ho; cases hc
  have ne54 : a ≠ 54 := by rintro rfl; rw [h54] at ho; cases ho; cases hc
  refine C.run callerA _ s₁ κ [.ref a] rfl rfl (by have : callerA.depth = 301 := rfl; rw [this]; show 301 + k < 1000; exact o285 hk) (by have : callerA.units = 4 := rfl; rw [this]; show 4 + 4 * k + 80 < 9900; exact o286 hk) hgl hst htabs (fun b o' e => ?_) (.cons (.ints hκa hc hd hI) .nil) _ ?_
  · by_cases q : b = a
    · subst q; rw [hκa] at e; cases e; exact ⟨ho, ne47, ne54⟩
    · have : κ b = none := if_neg q
      rw [this] at e; cases e
  intro v s' τ' κ' _ hkp htb _ hgens _ hos _ hr
  cases hr
  obtain ⟨⟨ps1, t1, _⟩, ⟨ps2, t2, _⟩⟩ := htb
  refine ⟨⟨.inl ⟨.bool true, .bool true, [], rfl, fun _ => rfl, ?_, post_ok _ _, ?_⟩, fun b ob e => ?_, hos, hgens.trans hg⟩, ⟨ps2, t2⟩, ⟨ps1, t1⟩, trivial⟩
  · exact .bool true
  · intro q; exact ⟨List.nodup_nil, fun a h => nomatch h⟩
  · refine hkp b ob (fun q => ?_) (hst b ob e)
    have : b ∈ ([(58, 54), (51, 47)] : List (Addr × Addr)).map (·.2) := by
      rcases List.mem_cons.mp q with rfl | q
      · exact .tail _ (.head _)
      · rw [List.mem_singleton.mp q]; exact .head _
    rw [show (ghostOf s₁.heap [(58, 54), (51, 47)]).get? b = none from hideAll_none _ this] at e; cases e
end Mine

end
section
open PySem PySem.W PyProof.Rows PySem.Calls PySem.Spec PySem.Challenge
namespace Mine
variable {sc : Scope} {dk : Nat} {tb : List Addr}
section
variable {prog : Program} {w : World} {A : Around} {R : Result → Shared → Prop} {s : Shared}
/-! comprehensions with two fors -/
theorem turn1 (elt t1 i1 t2 i2 : Expr) (scope : Scope) (pos : Pos) (it acc : Value) (env : Env) :
    compTurn (.ListComp elt [⟨t1, i1, [], 0⟩, ⟨t2, i2, [], 0⟩] scope pos) 1 it acc env = (do
      standAt i2.pos
      match ← pyNext it with
      | none => pure (.done .next)
      | some v =>
        letOwnedTupleGo t2 it v
        assign t2 env v
        (do let _ ← call (.builtin "list.append") [acc, ← eval elt env])
        again (.compLoop (.ListComp elt [⟨t1, i1, [], 0⟩, ⟨t2, i2, [], 0⟩] scope pos) 1 it acc env)) := by rfl
theorem turn0 (elt t1 i1 t2 i2 : Expr) (scope : Scope) (pos : Pos) (it acc : Value) (env : Env) :
    compTurn (.ListComp elt [⟨t1, i1, [], 0⟩, ⟨t2, i2, [], 0⟩] scope pos) 0 it acc env = (do
      standAt i1.pos
      match ← pyNext it with
      | none => pure (.done .next)
      | some v =>
        letOwnedTupleGo t1 it v
        assign t1 env v
        let x ← eval i2 env
        standAt i2.pos
        let x ← foldedSetIterable i2 env x
        let _ ← runOwn (.compStart (.ListComp elt [⟨t1, i1, [], 0⟩, ⟨t2, i2, [], 0⟩] scope pos) 1 (← holding [x] (pyIter x)) acc env) env
        again (.compLoop (.ListComp elt [⟨t1, i1, [], 0⟩, ⟨t2, i2, [], 0⟩] scope pos) 0 it acc env)) := by rfl
theorem loop1 {elt t1 i1 t2 i2 : Expr} {scope : Scope} {pos : Pos} {it acc : Value} {env : Env} (I : Nat → Shared → Prop)
    (turn : ∀ n s, I n s → wpAny (model prog w) A (pyNext it) (fun r s₁ => match r with
      | none => R (.ok .next) s₁
      | some v => wpAny (model prog w) A (PySem.assign t2 env v) (fun _ s₂ => wpAny (model prog w) A (eval elt env) (fun x s₄ =>
              wpAny (model prog w) A (PySem.call (.builtin "list.append") [acc, x]) (fun _ s₅ => ∃ m, m < n ∧ I m s₅) (notedBy (model prog w) A env fun e s' => R (.error e) s') s₄) (notedBy (model prog w) A env fun e s' => R (.error e) s') s₂)
            (notedBy (model prog w) A env fun e s' => R (.error e) s') s₁) (notedBy (model prog w) A env fun e s' => R (.error e) s') s)
    (n : Nat) (h : I n s) (ht : ∀ v, letOwnedTupleGo t2 it v = pure () := by intro _; rfl) :
    codeAny (model prog w) A (.compLoop (.ListComp elt [⟨t1, i1, [], 0⟩, ⟨t2, i2, [], 0⟩] scope pos) 1 it acc env) R s := by
  refine codeAny_loop rfl I (fun n s hI => ?_) n h
  show wpAny _ A ((compTurn (.ListComp elt [⟨t1, i1, [], 0⟩, ⟨t2, i2, [], 0⟩] scope pos) 1 it acc env).onRaise (fun x => do noteFrame x env; theTreesLotGoes x)) _ _ s
  refine wpAny_noted ?_
  rw [turn1]
  refine wpAny_bind (wpAny_standAt (wpAny_bind (wpAny_mono (turn n s hI) (fun r s₁ h₁ => ?_) fun _ _ h' => h')))
  cases r with
  | none => exact wpAny_pure h₁
  | some v =>
    refine wpAny_bind (wpAny_of_eq (ht v) ?_)
    refine wpAny_bind (wpAny_mono h₁ (fun _ s₂ h₂ => ?_) fun _ _ h' => h')
    exact wpAny_bind (wpAny_bind (wpAny_mono h₂ (fun x s₄ h₄ => wpAny_bind (wpAny_mono h₄ (fun _ s₅ h₅ => wpAny_pure (wpAny_pure ⟨rfl, h₅⟩)) fun _ _ h' => h')) fun _ _ h' => h'))
theorem loop0 {elt t1 i1 t2 i2 : Expr} {scope : Scope} {pos : Pos} {it acc : Value} {env : Env} (I : Nat → Shared → Prop)
    (turn : ∀ n s, I n s → wpAny (model prog w) A (pyNext it) (fun r s₁ => match r with
      | none => R (.ok .next) s₁
      | some v => wpAny (model prog w) A (PySem.assign t1 env v) (fun _ s₂ => wpAny (model prog w) A (eval i2 env) (fun x s₃ => wpAny (model prog w) A (pyIter x) (fun it2 s₄ =>
            wpAny (model prog w) A (runOwn (.compStart (.ListComp elt [⟨t1, i1, [], 0⟩, ⟨t2, i2, [], 0⟩] scope pos) 1 it2 acc env) env) (fun _ s₅ => ∃ m, m < n ∧ I m s₅) (notedBy (model prog w) A env fun e s' => R (.error e) s') s₄) (notedBy (model prog w) A env fun e s' => R (.error e) s') s₃)
            (notedBy (model prog w) A env fun e s' => R (.error e) s') s₂) (notedBy (model prog w) A env fun e s' => R (.error e) s') s₁) (notedBy (model prog w) A env fun e s' => R (.error e) s') s)
    (n : Nat) (h : I n s) (ht : ∀ v, letOwnedTupleGo t1 it v = pure () := by intro _; rfl) (hs : ∀ x, foldedSetIterable i2 env x = pure x := by intro _; rfl) :
    codeAny (model prog w) A (.compLoop (.ListComp elt [⟨t1, i1, [], 0⟩, ⟨t2, i2, [], 0⟩] scope pos) 0 it acc env) R s := by
  refine codeAny_loop rfl I (fun n s hI => ?_) n h
  show wpAny _ A ((compTurn (.ListComp elt [⟨t1, i1, [], 0⟩, ⟨t2, i2, [], 0⟩] scope pos) 0 it acc env).onRaise (fun x => do noteFrame x env; theTreesLotGoes x)) _ _ s
  refine wpAny_noted ?_
  rw [turn0]
  refine wpAny_bind (wpAny_standAt (wpAny_bind (wpAny_mono (turn n s hI) (fun r s₁ h₁ => ?_) fun _ _ h' => h')))
  cases r with
  | none => exact wpAny_pure h₁
  | some v =>
    refine wpAny_bind (wpAny_of_eq (ht v) ?_)
    refine wpAny_bind (wpAny_mono h₁ (fun _ s₂ h₂ => ?_) fun _ _ h' => h')
    refine wpAny_bind (wpAny_mono h₂ (fun x s₃ h₃ => ?_) fun _ _ h' => h')
    refine wpAny_bind (wpAny_standAt (wpAny_bind (wpAny_of_eq (hs x) ?_)))
    refine wpAny_bind (wpAny_holding (wpAny_mono h₃ (fun it2 s₄ h₄ => ?_) fun _ _ h' => h'))
    exact wpAny_bind (wpAny_mono h₄ (fun _ s₅ h₅ => wpAny_pure ⟨rfl, h₅⟩) fun _ _ h' => h')
theorem start1 {elt t1 i1 t2 i2 : Expr} {scope : Scope} {pos : Pos} {it acc : Value} {env : Env}
    (h0 : codeAny (model prog w) A (.compLoop (.ListComp elt [⟨t1, i1, [], 0⟩, ⟨t2, i2, [], 0⟩] scope pos) 1 it acc env) R s)
    (h : wpAny (model prog w) A (pyIter it) (fun it' s' => codeAny (model prog w) A (.compLoop (.ListComp elt [⟨t1, i1, [], 0⟩, ⟨t2, i2, [], 0⟩] scope pos) 1 it' acc env) R s')
      (notedBy (model prog w) A env fun x s' => R (.error x) s') s) :
    codeAny (model prog w) A (.compStart (.ListComp elt [⟨t1, i1, [], 0⟩, ⟨t2, i2, [], 0⟩] scope pos) 1 it acc env) R s := by
  refine codeAny_of_tree ?_
  show wpAny _ _ ((compStart (.ListComp elt [⟨t1, i1, [], 0⟩, ⟨t2, i2, [], 0⟩] scope pos) 1 it acc env).onRaise (fun x => do noteFrame x env; standAt theWindowsPlace)) _ _ s
  refine wpAny_notedAt ?_
  unfold compStart
  show wpAny _ _ (ask >>= _) _ _ s
  refine wpAny_bind (wpAny_askSetting (wpAny_ite ?_))
  split
  · first
      | exact wpAny_bind (wpAny_pure (wpAny_pure (And.intro rfl h0)))
      | exact wpAny_pure (And.intro rfl h0)
  · first
      | exact wpAny_bind (wpAny_rule (wpAny_bind (wpAny_standAt (wpAny_bind (wpAny_mono h (fun it' s' h' => wpAny_pure (And.intro rfl h')) fun _ _ x => x)))))
      | exact wpAny_rule (wpAny_bind (wpAny_standAt (wpAny_bind (wpAny_mono h (fun it' s' h' => wpAny_pure (And.intro rfl h')) fun _ _ x => x))))
end
section
variable {f : Fm sc dk tb} {G : Gh} {ρ : Rho} {s : Shared}
abbrev two (elt t1 i1 t2 i2 : Expr) (scope : Scope) (pos : Pos) : Expr := .ListComp elt [⟨t1, i1, [], 0⟩, ⟨t2, i2, [], 0⟩] scope pos
theorem inner_loop {elt t1 i1 t2 i2 : Expr} {scope : Scope} {pos : Pos} {it D : Addr} {l : List PV} {ρf : Rho} {ρ₂ : PV → Rho} {y : PV → PV} {R : Result → Shared → Prop}
    (ha : ∀ v ∈ l, ASO f ρf (PySem.assign t2 f.env) v (ρ₂ v)) (he : ∀ v ∈ l, EV f (ρ₂ v) (eval elt f.env) (y v))
    (hw : ∀ v ∈ l, ∀ G s, FS f G (clean (ρ₂ v)) s → FS f G ρf s)
    {o : Obj} {r : List (Addr × Obj)} {done : List PV} (F : FS f { G with fr := (it, o) :: r } ρf s) (hi : IsIt G.τ G.κ o l) (hD : OwnList G D done) (hsz : l.length + done.length ≤ sizeLine)
    (hR : ∀ s' G', G.Lt { G' with fr := G.fr } → FS f { G' with fr := r } ρf s' → OwnList G' D (done ++ l.map y) → R (.ok .next) s')
    (htt : ∀ v, letOwnedTupleGo t2 (.ref it) v = pure () := by intro _; rfl) :
    codeAny (model PG f.w) f.A (.compLoop (two elt t1 i1 t2 i2 scope pos) 1 (.ref it) (.ref D) f.env) R s := by
  refine loop1 (fun n s₁ => ∃ G₁ o₁ l₁ done₁, G.Lt { G₁ with fr := G.fr } ∧ FS f { G₁ with fr := (it, o₁) :: r } ρf s₁ ∧ IsIt G₁.τ G₁.κ o₁ l₁ ∧ OwnList G₁ D done₁ ∧ (∀ v ∈ l₁, v ∈ l) ∧ done₁ ++ l₁.map y = done ++ l.map y ∧
    l₁.length + done₁.length ≤ sizeLine ∧ n = l₁.length) ?_ l.length ⟨G, o, l, done, .refl _, F, hi, hD, fun v h => h, rfl, hsz, rfl⟩ htt
  rintro n s₁ ⟨G₁, o₁, l₁, done₁, L₁, F₁, hi₁, hD₁, hsub, heq, hsz₁, rfl⟩
  cases l₁ with
  | nil =>
    refine next_end F₁ hi₁ fun s₂ F₂ => ?_
    refine hR s₂ G₁ L₁ F₂ ?_
    rw [← heq]; simpa using hD₁
  | cons x l₁ =>
    refine next_item F₁ hi₁ fun v s₂ G₂ o₂ L₂ F₂ hi₂ rv => ?_
    have hx := hsub x (.head _)
    obtain ⟨vs, nn, hm, hr⟩ := hD₁
    have hm2 : (D, listOf vs.toArray nn) ∈ G₂.own := by rw [show G₂.own = G₁.own from L₂.own]; exact hm
    refine (ha x hx).run s₂ _ v F₂ rv _ _ fun s₃ G₃ t3 hown F₃ => ?_
    have hm3 := hown _ _ _ hm2
    have tt : Gh.Lt { G₂ with fr := (it, o₂) :: r } G₃ := t3
    have lt2 : Gh.Lt { G₁ with fr := G.fr } { G₂ with fr := G.fr } := ⟨L₂.τ, L₂.κ, rfl⟩
    have hrD : RpAll G₃.τ G₃.κ vs done₁ := hr.mono (L₂.τ.trans tt.τ) (L₂.κ.trans tt.κ)
    refine (he x hx).run s₃ G₃ F₃ _ _ fun u s₅ G₅ L₅ F₅ ru => ?_
    have hm5 : (D, listOf vs.toArray nn) ∈ G₅.own := by rw [L₅.own]; exact hm3
    refine raw_append F₅ hm5 (by rw [hr.length]; simp only [List.length_cons] at hsz₁; exact o549 hsz₁) fun s₆ n' F₆ => ?_
    have F₇ := hw x hx _ _ F₆
    have tt5 := tt.trans L₅.lt
    have e5 : G₅.fr = (it, o₂) :: r := tt5.fr
    refine ⟨l₁.length, Nat.lt_succ_self _, { G₅ with own := repl D (listOf (vs ++ [u]).toArray n') G₅.own }, o₂, l₁, done₁ ++ [y x], L₁.trans (lt2.trans ⟨tt5.τ, tt5.κ, rfl⟩), ?_, hi₂.mono tt5.τ tt5.κ, ?_, fun v h => hsub v (.tail _ h), ?_, ?_, rfl⟩
    · have F₈ := F₇
      rw [show ({ G₅ with own := repl D (listOf (vs ++ [u]).toArray n') G₅.own } : Gh) = { { G₅ with own := repl D (listOf (vs ++ [u]).toArray n') G₅.own } with fr := (it, o₂) :: r } by rw [← e5]] at F₈
      exact F₈
    · exact ⟨vs ++ [u], n', repl_self hm5, (hrD.mono L₅.τ L₅.κ).append (.one ru)⟩
    · rw [← heq, List.map_cons, List.append_assoc]; rfl
    · simp only [List.length_append, List.length_cons, List.length_nil] at hsz₁ ⊢; exact o131 hsz₁
theorem outer_loop {elt t1 i1 t2 i2 : Expr} {scope : Scope} {pos : Pos} {it D : Addr} {l : List PV} {l2 : PV → List PV} {ρf : Rho} {ρ₂ : PV → Rho} {ρ₃ : PV → PV → Rho} {y : PV → PV → PV} {R : Result → Shared → Prop} {B : Nat}
    (ha : ∀ v ∈ l, ASO f ρf (PySem.assign t1 f.env) v (ρ₂ v)) (hi2 : ∀ v ∈ l, IT f (ρ₂ v) (eval i2 f.env) (l2 v)) (hB : ∀ v ∈ l, (l2 v).length ≤ B)
    (ha2 : ∀ v ∈ l, ∀ u ∈ l2 v, ASO f (ρ₂ v) (PySem.assign t2 f.env) u (ρ₃ v u)) (he : ∀ v ∈ l, ∀ u ∈ l2 v, EV f (ρ₃ v u) (eval elt f.env) (y v u))
    (hw : ∀ v ∈ l, ∀ G s, FS f G (ρ₂ v) s → FS f G ρf s) (hw2 : ∀ v ∈ l, ∀ u ∈ l2 v, ∀ G s, FS f G (clean (ρ₃ v u)) s → FS f G (ρ₂ v) s)
    {o : Obj} {r : List (Addr × Obj)} {done : List PV} (F : FS f { G with fr := (it, o) :: r } ρf s) (hi : IsIt G.τ G.κ o l) (hD : OwnList G D done) (hsz : l.length * B + done.length ≤ sizeLine)
    (hR : ∀ s' G', G.Lt { G' with fr := G.fr } → FS f { G' with fr := r } ρf s' → OwnList G' D (done ++ l.flatMap fun v => (l2 v).map (y v)) → R (.ok .next) s')
    (htt : ∀ v, letOwnedTupleGo t1 (.ref it) v = pure () := by intro _; rfl) (htt2 : ∀ it v, letOwnedTupleGo t2 it v = pure () := by intro _ _; rfl) (hs : ∀ x, foldedSetIterable i2 f.env x = pure x := by intro _; rfl) :
    codeAny (model PG f.w) f.A (.compLoop (two elt t1 i1 t2 i2 scope pos) 0 (.ref it) (.ref D) f.env) R s := by
  refine loop0 (fun n s₁ => ∃ G₁ o₁ l₁ done₁, G.Lt { G₁ with fr := G.fr } ∧ FS f { G₁ with fr := (it, o₁) :: r } ρf s₁ ∧ IsIt G₁.τ G₁.κ o₁ l₁ ∧ OwnList G₁ D done₁ ∧ (∀ v ∈ l₁, v ∈ l) ∧ (done₁ ++ l₁.flatMap fun v => (l2 v).map (y v)) = (done ++ l.flatMap fun v => (l2 v).map (y v)) ∧
    l₁.length * B + done₁.length ≤ sizeLine ∧ n = l₁.length) ?_ l.length ⟨G, o, l, done, .refl _, F, hi, hD, fun v h => h, rfl, hsz, rfl⟩ htt hs
  rintro n s₁ ⟨G₁, o₁, l₁, done₁, L₁, F₁, hi₁, hD₁, hsub, heq, hsz₁, rfl⟩
  cases l₁ with
  | nil =>
    refine next_end F₁ hi₁ fun s₂ F₂ => ?_
    refine hR s₂ G₁ L₁ F₂ ?_
    rw [← heq]; simpa using hD₁
  | cons x l₁ =>
    refine next_item F₁ hi₁ fun v s₂ G₂ o₂ L₂ F₂ hi₂ rv => ?_
    have hx := hsub x (.head _)
    obtain ⟨vs, nn, hm, hr⟩ := hD₁
    have hm2 : (D, listOf vs.toArray nn) ∈ G₂.own := by rw [show G₂.own = G₁.own from L₂.own]; exact hm
    refine (ha x hx).run s₂ _ v F₂ rv _ _ fun s₃ G₃ t3 hown F₃ => ?_
    have hm3 := hown _ _ _ hm2
    have lt2 : Gh.Lt { G₁ with fr := G.fr } { G₂ with fr := G.fr } := ⟨L₂.τ, L₂.κ, rfl⟩
    refine (hi2 x hx).run s₃ G₃ F₃ _ _ fun it2 oi s₄ G₄ hge L₄ F₄ hi₄ => ?_
    have hm4 : (D, listOf vs.toArray nn) ∈ G₄.own := by rw [L₄.own]; exact hm3
    have t34 : Gh.Lt { G₂ with fr := (it, o₂) :: r } G₄ := t3.trans L₄.lt
    have hrD : RpAll G₄.τ G₄.κ vs done₁ := hr.mono (L₂.τ.trans t34.τ) (L₂.κ.trans t34.κ)
    have e4 : G₄.fr = (it, o₂) :: r := t34.fr
    refine wpAny_runOwn ?_ (by intro q; cases q)
    rw [Around.mark_none]
    have hlen := hB x hx
    simp only [List.length_cons, Nat.succ_mul] at hsz₁
    suffices h : codeAny (model PG f.w) f.A (.compLoop (two elt t1 i1 t2 i2 scope pos) 1 (.ref it2) (.ref D) f.env) _ s₄ from start1 h (iter_self (r := G₄.fr) F₄ hi₄ h)
    refine inner_loop (ρf := ρ₂ x) (ρ₂ := ρ₃ x) (y := y x) (ha2 x hx) (he x hx) (hw2 x hx) F₄ hi₄ ⟨vs, nn, hm4, hrD⟩ (by exact o619 hlen hsz₁) (fun s' G' L' F' hD' => ?_) (htt2 _)
    have F5 := hw x hx _ _ F'
    rw [e4] at F5
    have tt : TLe G₂.τ G'.τ := TLe.trans t34.τ L'.τ
    have tk : KLe G₂.κ G'.κ := KLe.trans t34.κ L'.κ
    refine ⟨l₁.length, Nat.lt_succ_self _, G', o₂, l₁, done₁ ++ (l2 x).map (y x), L₁.trans (lt2.trans ⟨tt, tk, rfl⟩), F5, hi₂.mono tt tk, hD', fun v h => hsub v (.tail _ h), ?_, ?_, rfl⟩
    · rw [← heq, List.flatMap_cons, List.append_assoc]
    · rw [List.length_append, List.length_map]; exact o624 hlen hsz₁
end
end Mine

end
section
open PySem PySem.W PyProof.Rows PySem.Calls PySem.Spec PySem.Challenge
namespace Mine
variable {sc : Scope} {dk : Nat} {tb : List Addr}
section
variable {f : Fm sc dk tb} {G : Gh} {ρ : Rho} {s : Shared}
structure CompP2 (f : Fm sc dk tb) (ρ : Rho) (scope : Scope) (t1 t2 i2 elt : Expr) (l : List PV) (l2 : PV → List PV) (ρ₂ : PV → Rho) (ρ₃ : PV → PV → Rho) (y : PV → PV → PV) (B : Nat) : Prop where
  asg : ∀ f' : Fm (relabel scope f.env) dk tb, f'.w = f.w → ∀ v ∈ l, ASO f' (freOf scope.names ρ) (PySem.assign t1 f'.env) v (ρ₂ v)
  it2 : ∀ f' : Fm (relabel scope f.env) dk tb, f'.w = f.w → ∀ v ∈ l, IT f' (ρ₂ v) (eval i2 f'.env) (l2 v)
  bnd : ∀ v ∈ l, (l2 v).length ≤ B
  asg2 : ∀ f' : Fm (relabel scope f.env) dk tb, f'.w = f.w → ∀ v ∈ l, ∀ u ∈ l2 v, ASO f' (ρ₂ v) (PySem.assign t2 f'.env) u (ρ₃ v u)
  elt : ∀ f' : Fm (relabel scope f.env) dk tb, f'.w = f.w → ∀ v ∈ l, ∀ u ∈ l2 v, EV f' (ρ₃ v u) (eval elt f'.env) (y v u)
  back : ∀ v ∈ l, SubR (freOf scope.names ρ) (ρ₂ v)
  back2 : ∀ v ∈ l, ∀ u ∈ l2 v, SubR (ρ₂ v) (clean (ρ₃ v u))
theorem comp_core2 {elt target iter t2 i2 : Expr} {scope : Scope} {pos : Pos} {l : List PV} {l2 : PV → List PV} {ρ₂ : PV → Rho} {ρ₃ : PV → PV → Rho} {y : PV → PV → PV} {B : Nat} (hit : IT f ρ (eval iter f.env) l) (P : CompP2 f ρ scope target t2 i2 elt l l2 ρ₂ ρ₃ y B) (hok : freOk scope.names ρ = true)
    (hcell : ∀ x ∈ scope.names, x.2 ≠ .cell) (hkind : scope.kind = .function) (hnames : ∀ x ∈ scope.names, scope.names.lookup x.1 = some x.2) (hsz : l.length * B ≤ sizeLine) {cl : List (Str × Addr)}
    (hcl1 : ∀ x c, cl.lookup x = some c → f.env.cells.lookup x = some c) (hcl2 : ∀ x c, (x, NameKind.free) ∈ scope.names → f.env.cells.lookup x = some c → cl.lookup x = some c) (F : FS f G ρ s) {E : Value → Shared → Prop} {RR : Value → Addr → Result → Shared → Prop}
    (hRR : ∀ D C o s' G', G.Le G' → FS f { G' with fr := (C, o) :: G'.fr } ρ s' → (∀ vs (q : Str) (t : Tok), o.data = .fields vs → vs[1]? ≠ some (.str q t)) → Rp G'.τ G'.κ (.ref D) (.list (l.flatMap fun v => (l2 v).map (y v))) → (∃ m, s'.heap.Ns C m) → RR (.ref D) C (.ok .next) s')
    (htt : ∀ it v, letOwnedTupleGo target it v = pure () := by intro _ _; rfl) (htt2 : ∀ it v, letOwnedTupleGo t2 it v = pure () := by intro _ _; rfl) (hs2 : ∀ x (e : Env), foldedSetIterable i2 e x = pure x := by intro _ _; rfl) :
    wpAny (model PG f.w) f.A (eval iter f.env) (fun x s₁ => wpAny (model PG f.w) f.A (pyIter x) (fun it s₂ => wpAny (model PG f.w) f.A (newList []) (fun acc s₃ =>
      wpAny (model PG f.w) f.A (newFunctionEnv scope f.env.globals cl [] f.env.qual none .none (some f.env)) (fun cenv s₄ =>
        codeAny (model PG f.w) f.A (.compStart (.ListComp elt [⟨target, iter, [], 0⟩, ⟨t2, i2, [], 0⟩] scope pos) 0 it acc { cenv with scope := relabel scope f.env }) (RR acc cenv.locals) s₄) E s₃) E s₂) E s₁) E s := by
  refine hit.run s G F _ E fun it o s₂ G₂ hge L₂ F₂ hi => ?_
  refine wpAny_newObj_type (wpAny_newFunctionEnv hcell (by intro y hy; simp at hy) (fun h₁ hns₁ hsb₁ => ?_) hkind)
  dsimp only at hns₁ hsb₁ ⊢
  generalize hH2 : s₂.heap.push { cls := .type "list", dict := none, data := .seq ([] : List Value).toArray } = H2 at hns₁ hsb₁ ⊢
  have hC : H2.objs.size = s₂.heap.objs.size + 1 := by rw [← hH2, Heap.size_push]
  have below : ∀ b, b < s₂.heap.objs.size → b ≠ H2.objs.size := fun b hb => by rw [hC]; exact Nat.ne_of_lt (Nat.lt_succ_of_lt hb)
  have hDC : s₂.heap.objs.size ≠ H2.objs.size := by rw [hC]; exact Nat.ne_of_lt (Nat.lt_succ_self _)
  have old : ∀ b ob, s₂.heap.get? b = some ob → h₁.get? b = some ob := fun b ob e => (hsb₁.2 b (below b (Heap.lt_size e))).trans (Heap.get?_push_of_some _ (hH2 ▸ Heap.get?_push_of_some _ e))
  have hDo : h₁.get? s₂.heap.objs.size = some (listOf ([] : List Value).toArray 0) := (hsb₁.2 _ hDC).trans (Heap.get?_push_of_some _ (hH2 ▸ Heap.get?_push_size _ rfl))
  have hC2 : s₂.heap.objs.size ≤ H2.objs.size := by rw [hC]; exact Nat.le_succ _
  -- the outer state, on the new heap
  have F₃ := F₂.all (h' := h₁) (tk := s₂.toks) old (Nat.le_refl _)
  have hFar : Far f { G₂ with fr := (it, o) :: G₂.fr } s₂.heap.objs.size := F₂.far (Nat.le_refl _)
  have hFarC : Far f { G₂ with fr := (it, o) :: G₂.fr } H2.objs.size := F₂.far hC2
  -- the inner frame
  let f' := compFm f scope cl H2.objs.size s₂.heap G₂.κ [it]
  let G' : Gh := ⟨G₂.τ, G₂.κ, fun _ => none, [(s₂.heap.objs.size, listOf ([] : List Value).toArray 0)], [(it, o)]⟩
  have hsL := F₂.ns.lt
  have itf := F₂.fr _ (.head _)
  have notIt : ∀ c ob, f.h0.get? c = some ob → c ∉ f.br → c ≠ it := fun c ob e h q => itf.2.2.2.2.2.elim (fun q' => absurd (Heap.lt_size e) (Nat.not_lt.mpr (q ▸ q'))) fun q' => h (q ▸ q')
  have g0it : f.g0.get? it = none := by
    rcases itf.2.2.2.2.2 with q | q
    · cases e : f.g0.get? it with
      | none => rfl
      | some ob => exact absurd (Heap.lt_size (F.ok.g0h _ _ e)) (Nat.not_lt.mpr q)
    · exact (F.ok.brs _ q).2.2
  have F' : FS f' G' (freOf scope.names ρ) { s₂ with heap := h₁, toks := s₂.toks + ([] : List (Str × Value)).length } :=
    { ok := ⟨F.ok.hh, F.ok.gl, hkind, F.ok.room, F.ok.units, F₂.keep0, Nat.lt_of_lt_of_le F.ok.big (Nat.le_trans F.ok.low (Nat.le_of_lt hsL)), hC2, F.ok.tbs,
        fun x z c h1 h2 => F.ok.cinj x z c (hcl1 _ _ h1) (hcl1 _ _ h2), fun b q => by rw [List.mem_singleton.mp q]; exact ⟨itf.2.2.2.1, itf.2.2.2.2.1, g0it⟩, fun b q => (nomatch q), fun q => (nomatch q)⟩
      keep := fun b ob hb hb' e => old b ob e
      slots := fun b ob hb => nomatch hb
      ns := hns₁
      own := fun q hq => by
        rcases List.mem_cons.mp hq with rfl | hq
        · exact ⟨hDo, hDC, hFar.n47, hFar.n54, .inl (Nat.le_refl _)⟩
        · cases hq
      nd := List.nodup_cons.mpr ⟨List.not_mem_nil, List.nodup_nil⟩
      fr := fun q hq => by
        rcases List.mem_cons.mp hq with rfl | hq
        · refine ⟨old _ _ itf.1, below _ (Heap.lt_size itf.1), fun q => ?_, itf.2.2.2.1, itf.2.2.2.2.1, .inr (.head _)⟩
          rcases List.mem_cons.mp q with q | q
          · exact absurd (Heap.lt_size itf.1) (by rw [show it = s₂.heap.objs.size from q]; exact Nat.lt_irrefl _)
          · cases q
        · cases hq
      nfr := List.nodup_cons.mpr ⟨List.not_mem_nil, List.nodup_nil⟩
      vis := fun b ob eb => by
        have v := F₂.vis b ob eb
        refine ⟨old _ _ v.1, below _ (Heap.lt_size v.1), fun q => ?_, fun q => ?_, v.2.2.2.2.1, v.2.2.2.2.2.1, .inl eb, List.not_mem_nil⟩
        · rcases List.mem_cons.mp q with q | q
          · exact absurd (Heap.lt_size v.1) (by rw [show b = s₂.heap.objs.size from q]; exact Nat.lt_irrefl _)
          · cases q
        · rcases List.mem_cons.mp q with q | q
          · exact v.2.2.2.1 (q ▸ .head _)
          · cases q
      tabs := F₃.tabs
      tok := F₂.tok
      gens := F₂.gens
      drawn := F₂.drawn
      os := F₂.os
      ents := fun x e hx => by
        obtain ⟨pv, rfl, hmem, hlook⟩ := freOf_look hx
        have hk : (Fm.env f').kindOf x = some .free ∨ (Fm.env f').kindOf x = some .cell := relabel_free (env := f.env) (hnames _ hmem)
        have fromF : ∀ c v ob, f.env.cells.lookup x = some c → s₂.heap.get? c = some ob → c ∉ tb → c ≠ it → ob.data = .cell (some v) → Rp G₂.τ G₂.κ v pv → EntOk f' G' x (.fre pv) := fun c v ob h1 h2 h3 h3' h4 h5 =>
          ⟨v, ⟨hk, c, ob, hcl2 x c hmem h1, h2, h3, ⟨(fun q => h3' (List.mem_singleton.mp q)), List.not_mem_nil⟩, h4⟩, h5⟩
        rcases hlook with hl | hl
        · obtain ⟨v, ⟨_, c, ob, h1, h2, h3, h4⟩, h5⟩ := F₂.ents x _ hl
          have ho := F₂.own _ h2
          exact fromF c v ob h1 ho.1 (fun q => (F.ok.tbs _ q).elim ho.2.2.1 ho.2.2.2.1) (fun q => itf.2.2.1 (q ▸ List.mem_map.mpr ⟨_, h2, rfl⟩)) h4 h5
        · obtain ⟨v, ⟨_, c, ob, h1, h2, h3, h3', h4⟩, h5⟩ := F₂.ents x _ hl
          exact fromF c v ob h1 (F₂.keep _ _ h3 h3' h2) h3 (notIt _ _ h2 h3'.1) h4 h5 }
  have loop : ∀ s₃ : Shared, s₃ = { s₂ with heap := h₁, toks := s₂.toks + ([] : List (Str × Value)).length } →
      codeAny (model PG f.w) f.A (.compLoop (.ListComp elt [⟨target, iter, [], 0⟩, ⟨t2, i2, [], 0⟩] scope pos) 0 (.ref it) (.ref s₂.heap.objs.size) (compEnvC scope cl H2.objs.size f.env)) (RR (.ref s₂.heap.objs.size) H2.objs.size) s₃ := by
    rintro s₃ rfl
    refine outer_loop (f := f') (ρf := freOf scope.names ρ) (ρ₂ := ρ₂) (ρ₃ := ρ₃) (l2 := l2) (y := y) (B := B) (P.asg f' rfl) (P.it2 f' rfl) P.bnd (P.asg2 f' rfl) (P.elt f' rfl) (fun v hv G s F => F.weaken (P.back v hv)) (fun v hv u hu G s F => F.weaken (P.back2 v hv u hu))
      (G := G') (o := o) (r := []) (done := []) F' hi ⟨[], 0, .head _, .nil⟩ (by simpa using hsz) (fun s' G₄ L₄ F₄ hD₄ => ?_) (htt _) htt2 (fun x => hs2 x _)
    obtain ⟨vs, n, hm, hr⟩ := hD₄
    have hDs := (F₄.own _ hm).1
    obtain ⟨oC, esC, epC, hCo, hCd, hCr⟩ := id F₄.ns
    have hC3 : s'.heap.get? H2.objs.size = some oC := hCo
    have kk : ∀ b ob, b ≠ 47 → b ≠ 54 → b ≠ it → s₂.heap.get? b = some ob → s'.heap.get? b = some ob := fun b ob h1 h2 h3 e => F₄.keep b ob (fun q => (F.ok.tbs _ q).elim h1 h2) ⟨(fun q => h3 (List.mem_singleton.mp q)), List.not_mem_nil⟩ e
    have hκ : ∀ b ob, G₄.κ b = some ob → s'.heap.get? b = some ob ∧ b ≠ H2.objs.size ∧ b ≠ s₂.heap.objs.size ∧ b ≠ it ∧ b ≠ 47 ∧ b ≠ 54 ∧ (G₂.κ b = some ob ∨ s₂.heap.objs.size ≤ b) := fun b ob eb => by
      have v := F₄.vis b ob eb
      have nD : b ≠ s₂.heap.objs.size := fun q => v.2.2.1 (q ▸ List.mem_map.mpr ⟨_, hm, rfl⟩)
      rcases v.2.2.2.2.2.2.1 with q | q
      · have q' : G₂.κ b = some ob := q
        exact ⟨v.1, v.2.1, nD, fun e => (F₂.vis b ob q').2.2.2.1 (e ▸ .head _), v.2.2.2.2.1, v.2.2.2.2.2.1, .inl q'⟩
      · have q' : s₂.heap.objs.size ≤ b := q
        exact ⟨v.1, v.2.1, nD, fun e => absurd (Heap.lt_size itf.1) (Nat.not_lt.mpr (e ▸ q')), v.2.2.2.2.1, v.2.2.2.2.2.1, .inr q'⟩
    have hκD : G₄.κ s₂.heap.objs.size = none := by
      cases e : G₄.κ s₂.heap.objs.size with
      | none => rfl
      | some ob => exact absurd rfl (hκ _ _ e).2.2.1
    have Lτ : TLe G₂.τ G₄.τ := L₄.τ
    have Lκ : KLe G₂.κ (addK G₄.κ s₂.heap.objs.size (listOf vs.toArray n)) := KLe.trans (b := G₄.κ) L₄.κ (addK_le hκD)
    have visOut : ∀ b ob, addK G₄.κ s₂.heap.objs.size (listOf vs.toArray n) b = some ob → s'.heap.get? b = some ob ∧ b ≠ H2.objs.size ∧ b ≠ 47 ∧ b ≠ 54 ∧ (G₂.κ b = some ob ∨ s₂.heap.objs.size ≤ b) := fun b ob eb => by
      unfold addK at eb
      by_cases q : b = s₂.heap.objs.size
      · rw [if_pos q] at eb; cases eb; subst q; exact ⟨hDs, hDC, hFar.n47, hFar.n54, .inr (Nat.le_refl _)⟩
      · rw [if_neg q] at eb; have v := hκ b ob eb; exact ⟨v.1, v.2.1, v.2.2.2.2.1, v.2.2.2.2.2.1, v.2.2.2.2.2.2⟩
    have FO : FS f { τ := G₄.τ, κ := addK G₄.κ s₂.heap.objs.size (listOf vs.toArray n), m := G₂.m, own := G₂.own, fr := (H2.objs.size, oC) :: G₂.fr } ρ s' :=
      { ok := F.ok
        keep := fun b ob hb hb' e => F₄.keep b ob hb ⟨(fun q => notIt _ _ e hb'.1 (List.mem_singleton.mp q)), List.not_mem_nil⟩ (F₂.keep b ob hb hb' e)
        slots := fun b ob hb e => by
          obtain ⟨sl, e'⟩ := F₂.slots b ob hb e
          have ob' := F.ok.outs b hb
          exact ⟨sl, kk _ _ ob'.1 ob'.2.1 (notIt _ _ e ob'.2.2.2.1) e'⟩
        ns := F₂.ns.at' fun ob e => F₄.keep _ ob F₂.tbL ⟨(fun q => itf.2.1 (List.mem_singleton.mp q).symm), List.not_mem_nil⟩ e
        own := fun q hq => by
          have h := F₂.own q hq
          exact ⟨kk _ _ h.2.2.1 h.2.2.2.1 (fun e => itf.2.2.1 (e ▸ List.mem_map.mpr ⟨_, hq, rfl⟩)) h.1, h.2⟩
        nd := F₂.nd
        fr := fun q hq => by
          rcases List.mem_cons.mp hq with rfl | hq
          · exact ⟨hC3, hFarC.L, hFarC.own, hFarC.n47, hFarC.n54, .inl hFarC.h0⟩
          · have h := F₂.fr q (.tail _ hq)
            exact ⟨kk _ _ h.2.2.2.1 h.2.2.2.2.1 (fun e => (List.nodup_cons.mp F₂.nfr).1 (e ▸ List.mem_map.mpr ⟨_, hq, rfl⟩)) h.1, h.2⟩
        nfr := List.nodup_cons.mpr ⟨fun q => hFarC.fr (.tail _ q), (List.nodup_cons.mp F₂.nfr).2⟩
        vis := fun b ob eb => by
          have v := visOut b ob eb
          rcases v.2.2.2.2 with q | q
          · have u := F₂.vis b ob q
            refine ⟨v.1, u.2.1, u.2.2.1, fun e => ?_, v.2.2.1, v.2.2.2.1, u.2.2.2.2.2.2⟩
            rcases List.mem_cons.mp e with e | e
            · exact v.2.1 e
            · exact u.2.2.2.1 (.tail _ e)
          · have X := F₂.far q
            refine ⟨v.1, X.L, X.own, fun e => ?_, v.2.2.1, v.2.2.2.1, .inr X.h0, X.out⟩
            rcases List.mem_cons.mp e with e | e
            · exact v.2.1 e
            · exact X.fr (.tail _ e)
        tabs := F₄.tabs
        tok := F₄.tok
        gens := F₄.gens
        drawn := F₄.drawn
        os := F₄.os
        ents := fun x e hx => by
          have := F₂.ents x e hx
          have := EntOk.mono (G := { G₂ with fr := (it, o) :: G₂.fr }) (G' := { τ := G₄.τ, κ := addK G₄.κ s₂.heap.objs.size (listOf vs.toArray n), m := G₂.m, own := G₂.own, fr := (it, o) :: G₂.fr }) ⟨Lτ, Lκ, rfl, rfl, rfl⟩ this
          exact this.fr (r := (H2.objs.size, oC) :: G₂.fr) }
    refine hRR s₂.heap.objs.size H2.objs.size oC s' { τ := G₄.τ, κ := addK G₄.κ s₂.heap.objs.size (listOf vs.toArray n), m := G₂.m, own := G₂.own, fr := G₂.fr } (L₂.trans ⟨Lτ, Lκ, rfl, rfl, rfl⟩) FO ?_ ?_ ⟨_, F₄.ns⟩
    · intro vs _ _ e; rw [hCd] at e; cases e
    · refine .list (vs := vs) (n := n) (addK_self _ _ _) ?_
      have := hr.mono (TLe.refl _) (addK_le (o := listOf vs.toArray n) hκD)
      simpa using this
  exact codeAny_compStart_list (loop _ rfl) (iter_self (f := f') (G := G') (r := []) F' hi (loop _ rfl))
theorem EV.comp2 {elt target iter t2 i2 : Expr} {scope : Scope} {pos : Pos} {l : List PV} {l2 : PV → List PV} {ρ₂ : PV → Rho} {ρ₃ : PV → PV → Rho} {y : PV → PV → PV} {B : Nat} (hit : IT f ρ (eval iter f.env) l) (P : CompP2 f ρ scope target t2 i2 elt l l2 ρ₂ ρ₃ y B) (hsz : l.length * B ≤ sizeLine) (hok : freOk scope.names ρ = true := by rfl)
    (hcell : ∀ x ∈ scope.names, x.2 ≠ .cell := by decide) (hkind : scope.kind = .function := by rfl) (hnames : ∀ x ∈ scope.names, scope.names.lookup x.1 = some x.2 := by decide) 
    (hs : ∀ x, foldedSetIterable iter f.env x = pure x := by intro _; rfl) (htt : ∀ it v, letOwnedTupleGo target it v = pure () := by intro _ _; rfl) (htt2 : ∀ it v, letOwnedTupleGo t2 it v = pure () := by intro _ _; rfl) (hs2 : ∀ x (e : Env), foldedSetIterable i2 e x = pure x := by intro _ _; rfl) :
    EV f ρ (eval (.ListComp elt [⟨target, iter, [], 0⟩, ⟨t2, i2, [], 0⟩] scope pos) f.env) (.list (l.flatMap fun v => (l2 v).map (y v))) := ⟨fun s G F Q E k => by
  obtain ⟨cl, hcl, hcl1', hcl2⟩ := closureFor_of (env := f.env) (scope := scope) (free_cells F hok)
  have hcl1 := fun x c h => (hcl1' x c h).1
  rw [eval_ListComp]
  refine wpAny_comprehension_free (use := none) rfl hs hcl hkind (fun x hx hl => (hnames x hx).trans (congrArg some hl)) (comp_core2 hit P hok hcell hkind hnames hsz hcl1 hcl2 F (RR := fun acc C => compPost (model PG f.w) f.A E none Q acc C) ?_ htt htt2 hs2)
  intro D C o s' G' L F' hc r hns
  obtain ⟨m, hn⟩ := hns
  exact ⟨m, hn, fun h'' hs'' => k _ _ G' L (F'.dropFr hs''.extBut hc) r⟩⟩
end
end Mine

end
section
open PySem PySem.W PyProof.Rows PySem.Calls PySem.Spec PySem.Challenge
namespace Mine
section
variable {sc : Scope} {dk : Nat} {tb : List Addr} {f : Fm sc dk tb} {ρ : Rho} {a b c : PV}
theorem EB.chain2 {l r1 r2 : Expr} {op1 op2 : CmpOp} {pos : Pos} {whole : Sem Value} {p q : Bool} (hl : EV f ρ (eval l f.env) a) (h1 : EV f ρ (eval r1 f.env) b) (g1 : OP2 f (compareOp op1) a b (.bool p)) (h2 : EV f ρ (eval r2 f.env) c) (g2 : OP2 f (compareOp op2) b c (.bool q))
    (hm : lastMarks [op1, op2] [r1, r2] = false := by with_unfolding_all rfl) : EB f ρ (isTrue (.Compare l [op1, op2] [r1, r2] pos) f.env whole) (p && q) := ⟨fun s G F Q E k => by
  refine isTrue_chain ?_ hm
  refine hl.run s G F _ _ fun v s1 G1 L1 F1 rv => ?_
  refine test_link ?_
  refine h1.run s1 G1 F1 _ _ fun u s2 G2 L2 F2 ru => ?_
  refine g1.run ρ s2 G2 v u F2 (rv.mono L2.τ L2.κ) ru _ _ fun x s3 G3 L3 F3 rx => ?_
  cases rx
  refine wpAny_truthy_bool ?_
  cases p with
  | false => exact k s3 G3 ((L1.trans L2).trans L3) F3
  | true =>
    rw [if_pos rfl]
    refine test_last ?_
    refine h2.run s3 G3 F3 _ _ fun z s4 G4 L4 F4 rz => ?_
    refine g2.run ρ s4 G4 u z F4 (ru.mono (L3.τ.trans L4.τ) (L3.κ.trans L4.κ)) rz _ _ fun x s5 G5 L5 F5 rx => ?_
    cases rx
    exact wpAny_truthy_bool (k s5 G5 ((((L1.trans L2).trans L3).trans L4).trans L5) F5)⟩
theorem EV.and2 {e1 e2 : Expr} {pos : Pos} {p q : Bool} (h1 : EV f ρ (eval e1 f.env) (.bool p)) (h2 : p = true → EV f ρ (eval e2 f.env) (.bool q)) : EV f ρ (eval (.BoolOp .And [e1, e2] pos) f.env) (.bool (p && q)) := ⟨fun s G F Q E k => by
  refine BoolOp_and ?_
  refine h1.run s G F _ _ fun v s1 G1 L1 F1 rv => ?_
  cases rv
  refine wpAny_truthy_bool ?_
  cases p with
  | false => exact k _ s1 G1 L1 F1 (.bool false)
  | true =>
    rw [if_pos rfl]
    refine BoolOp_one ?_
    exact (h2 rfl).run s1 G1 F1 _ _ fun v s2 G2 L2 F2 r2 => k v s2 G2 (L1.trans L2) F2 r2⟩
theorem EV.mulL {l r : Expr} {pos : Pos} {x : List PV} {b : PV} {j : Int} (hl : EV f ρ (eval l f.env) (.list x)) (hr : EV f ρ (eval r f.env) b) (hb : b.asI = some j) (h0 : x ≠ []) (h1 : 0 ≤ j) (hsz : x.length * j.toNat ≤ 2 ^ 24) : EV f ρ (eval (.BinOp l .Mult r pos) f.env) (.list (List.replicate j.toNat x).flatten) := ⟨fun s₀ G₀ F₀ Q E k => by
  with_reducible refine wpAny_BinOp ?_
  refine hl.run s₀ G₀ F₀ _ E fun v s₁ G₁ L₁ F₁ r₁ => hr.run s₁ G₁ F₁ _ E fun w s G L F r₂ => ?_
  obtain ⟨a, vs, n, rfl, e1, r1⟩ := (r₁.mono L.τ L.κ).isList
  obtain ⟨u, rfl⟩ := r₂.isInt hb
  have hl : vs.length = x.length := r1.length
  have hx : 0 < x.length := List.length_pos_iff.mpr h0
  have hj : j.toNat ≤ 2 ^ 24 := by
    refine Nat.le_trans ?_ hsz
    exact Nat.le_mul_of_pos_left _ hx
  refine mul_list (k := n) F.fr0 F.news0 (F.vis a _ e1).1 (by exact o34 h1) (by exact o36 hj) (by rw [List.size_toArray, hl]; exact hsz) (fun h' F' N' => ?_)
  have hne : vs.toArray.isEmpty = false := by
    simp [Array.isEmpty]; intro q; rw [q] at hl; simp at hl; exact o40 hx hl
  rw [hne] at N'
  simp only [Bool.false_eq_true, if_false, foldl_replicate] at N'
  have F2 := F.ofLib (tk := s.toks) (news := [(s.heap.objs.size, listOf (List.replicate j.toNat vs).flatten.toArray 0)]) F' N' (Nat.le_refl _)
  obtain ⟨F3, L3⟩ := F2.addK (F.far (Nat.le_refl _)) (N' _ (.head _)).1
  exact k _ _ _ ((L₁.trans L).trans L3) F3 (.list (addK_self _ _ _) ((r1.flat _).mono L3.τ L3.κ))⟩
theorem EV.count {o e : Expr} {apos cpos : Pos} {l : List PV} {ns : List Int} {p : PV} {i : Int} (ho : EV f ρ (eval o f.env) (.list l)) (hq : asIs l = some ns) (he : EV f ρ (eval e f.env) p) (hp : p.asI = some i)
    (hst : starEach [e] f.env = (false, eval e f.env) :: starEach [] f.env := by rfl) (hpl : (backTo cpos (starEach [] f.env)).any (·.1) = false := by rfl)
    {pl : Sem Bool} (he' : eval (.Call (.Attribute o (Str.ofString "count") apos) [e] [] cpos) f.env = (do
      let ov ← eval o f.env
      standAt apos.atName
      let (f', first) ← holding [ov] (getMethod ov (Str.ofString "count") pl)
      callWith cpos f' first (backTo cpos (starEach [e] f.env)) []) := by rfl) :
    EV f ρ (eval (.Call (.Attribute o (Str.ofString "count") apos) [e] [] cpos) f.env) (.int ((ns.count i : Nat) : Int)) := ⟨fun s G F Q E k => by
  with_reducible refine MethodCall_ ?_ he'
  refine ho.run s G F _ _ fun ov s0 G0 L0 F0 r0 => ?_
  obtain ⟨a, vs, n, rfl, e1, r⟩ := r0.isList
  have hl0 := F0.listAt e1
  refine getMethod_list_of PySem.F.slot_list_count PySem.F.type_list_count hl0 ⟨_, (F0.vis _ _ e1).1, rfl⟩ ?_
  with_reducible refine callWith_method1 ?_ hst hpl
  refine (EL.cons he EL.nil hst).run s0 G0 F0 _ _ fun vs' s1 G1 L1 F1 r1 => ?_
  obtain ⟨v, rfl, rv⟩ := r1.len1
  obtain ⟨t, rfl⟩ := rv.isInt hp
  have e2 := L1.κ _ _ e1
  have hi : IntsAre vs ns := r.ints hq
  obtain ⟨G2, L2, F2, e3⟩ := F1.newTok (.int ((ns.count i : Nat) : Int))
  exact count_list_ints (F1.listAt e2) hi (k _ _ G2 ((L0.trans L1).trans L2) F2 (.int e3))⟩
theorem OP2.inS {x y : Str} (ha : a.asS = some y) (hb : b.asS = some x) : OP2 f (compareOp .In) a b (.bool (!(Builtin.Str.occurrences x y 0 x.length 1).isEmpty)) := ⟨fun ρ s G v w F hv hw Q E k => by
  obtain ⟨t, rfl⟩ := hv.isStr ha
  obtain ⟨u, rfl⟩ := hw.isStr hb
  exact P.in_str (k _ _ G (.refl _) F (.bool _))⟩
open StrLaws in
/-- is the sign one of the three -/
theorem mark_in (c : Nat) : (!(Builtin.Str.occurrences (Str.ofString ".\r\n") ⟨#[c]⟩ 0 (Str.ofString ".\r\n").length 1).isEmpty) = (c == 46 || c == 13 || c == 10) := by
  have hx : (Str.ofString ".\r\n").cps.toList = [46, 13, 10] := by decide +kernel
  have at_iff : ∀ i, At (Str.ofString ".\r\n") ⟨#[c]⟩ (Str.ofString ".\r\n").length i ↔ ([46, 13, 10] : List Nat)[i]? = some c := fun i => by
    unfold At; rw [subAt_one, hx]
  rcases occ_head (Str.ofString ".\r\n") ⟨#[c]⟩ 1 (Nat.le_refl 1) with ⟨h1, h2⟩ | ⟨i, r, h1, h2, _⟩
  · rw [h1]
    have n0 : c ≠ 46 := fun q => h2 0 ((at_iff 0).mpr (by rw [q]; rfl))
    have n1 : c ≠ 13 := fun q => h2 1 ((at_iff 1).mpr (by rw [q]; rfl))
    have n2 : c ≠ 10 := fun q => h2 2 ((at_iff 2).mpr (by rw [q]; rfl))
    simp [n0, n1, n2]
  · rw [h1]
    have := (at_iff i).mp h2
    match i, this with
    | 0, h => simp at h; simp [← h]
    | 1, h => simp at h; simp [← h]
    | 2, h => simp at h; simp [← h]
    | n + 3, h => simp at h
end
end Mine

end
section
open PySem PySem.W PyProof.Rows PySem.Calls PySem.Spec PySem.Challenge
namespace Mine
section
variable {sc : Scope} {dk : Nat} {tb : List Addr} {f : Fm sc dk tb}
theorem ints_len {vs : List Value} {ns : List Int} (h : IntsAre vs ns) : vs.length = ns.length := by
  induction h with
  | nil => rfl
  | cons _ _ _ ih => exact congrArg Nat.succ ih
theorem OPL.lenI {ns : List Int} (hsz : ns.length < 2 ^ 40) : OPL f (fun vs => PySem.call (.builtin "len") vs) [.ints ns] (.int (ns.length : Nat)) := ⟨fun ρ s G vs F hvs Q E k => by
  obtain ⟨v, rfl, hv⟩ := hvs.len1
  obtain ⟨a, o, ws, n, rfl, e1, e2, e3, r1⟩ := hv.isInts rfl
  have hs : ws.toArray.size = ns.length := by rw [List.size_toArray, ints_len r1]
  obtain ⟨G', L, F', e⟩ := F.tokAt (.int (ns.length : Nat)) (t := s.toks + 1) (tk := s.toks + 1 + 1) (Nat.le_succ _) (Nat.lt_succ_self _)
  refine call_len_list (F.isL e1 e2 e3) (by rw [hs]; exact o21 hsz) ?_
  rw [hs]
  exact k _ _ G' L F' (.int e)⟩
theorem OP2.neB {p q : Bool} : OP2 f (compareOp .NotEq) (.bool p) (.bool q) (.bool (p != q)) := by
  have h := OP2.neD (f := f) (a := .bool p) (b := .bool q) rfl rfl rfl rfl rfl
  have e : (!PySem.Spec.same (.bool p) (.bool q)) = (p != q) := by cases p <;> cases q <;> rfl
  rw [e] at h; exact h
theorem natLL_D (seen : List (List Nat)) : (PV.list (seen.map natL)).toD = some (.list (seen.map fun l => .list (l.map fun (k : Nat) => .int k))) := by
  have h1 : ∀ l : List Nat, toDs (l.map fun (k : Nat) => PV.int k) = some (l.map fun (k : Nat) => PyData.int k) := by
    intro l; induction l with
    | nil => rfl
    | cons a l ih => rw [List.map_cons, toDs, ih]; rfl
  have h2 : toDs (seen.map natL) = some (seen.map fun l => .list (l.map fun (k : Nat) => .int k)) := by
    induction seen with
    | nil => rfl
    | cons a l ih =>
      rw [List.map_cons, toDs, ih]
      have : (natL a).toD = some (.list (a.map fun (k : Nat) => .int k)) := by
        show (toDs (a.map fun (k : Nat) => PV.int k)).map PyData.list = _
        rw [h1]; rfl
      rw [this]; rfl
  show (toDs (seen.map natL)).map PyData.list = _
  rw [h2]; rfl
theorem natLL_shaped (seen : List (List Nat)) : PySem.SeqAt.shaped (.list (seen.map fun l => .list (l.map fun (k : Nat) => .int k))) = true := by
  have a1 : ∀ l : List Nat, PyData.canLayAll0 (l.map fun (k : Nat) => PyData.int k) = true := by
    intro l; induction l with
    | nil => rfl
    | cons a l ih => rw [List.map_cons, PyData.canLayAll0, ih]; rfl
  have a2 : ∀ l : List Nat, PyData.depthAll (l.map fun (k : Nat) => PyData.int k) = 0 := by
    intro l; induction l with
    | nil => rfl
    | cons a l ih => rw [List.map_cons, PyData.depthAll, ih]; rfl
  have b2 : PyData.depthAll (seen.map fun l => PyData.list (l.map fun (k : Nat) => .int k)) ≤ 1 := by
    induction seen with
    | nil => exact Nat.zero_le _
    | cons a l ih => rw [List.map_cons, PyData.depthAll, PyData.depth, a2]; exact o255 ih
  have b1 : PyData.canLayAll0 (seen.map fun l => PyData.list (l.map fun (k : Nat) => .int k)) = true := by
    clear b2
    induction seen with
    | nil => rfl
    | cons a l ih => rw [List.map_cons, PyData.canLayAll0, ih, PyData.canLay0, a1]; rfl
  unfold PySem.SeqAt.shaped
  rw [PyData.canLay0, PyData.depth, b1, Bool.true_and]
  exact decide_eq_true (by exact o85 b2)
theorem OP2.seenNil {seen : List (List Nat)} (h : seen ≠ []) : OP2 f (compareOp .Eq) (.list (seen.map natL)) (.list []) (.bool false) := by
  have h1 := OP2.eqD (f := f) (a := .list (seen.map natL)) (b := .list []) (natLL_D seen) rfl (natLL_shaped seen) rfl (by cases seen <;> rfl)
  have e : PySem.Spec.same (.list (seen.map fun l => .list (l.map fun (k : Nat) => .int k))) (.list []) = false := by
    cases seen with
    | nil => exact absurd rfl h
    | cons a l => rfl
  rw [e] at h1; exact h1
end
end Mine

end
section
open PySem PySem.W PyProof.Rows PySem.Calls PySem.Spec PySem.Challenge
namespace Mine
/-! the plain law: numbers as polynomials -/
def addP : List Int → List Int → List Int
  | [], b => b
  | a, [] => a
  | x :: a, y :: b => (x + y) :: addP a b
def scP (c : Int) (l : List Int) : List Int := l.map (c * ·)
def mulP : List Int → List Int → List Int
  | [], _ => []
  | x :: a, b => addP (scP x b) (0 :: mulP a b)
def zeroP (l : List Int) : Bool := l.all (· == 0)
def subTop : List Int → List Int → Int → List Int
  | r, [], _ => r
  | [], _, _ => []
  | x :: r, t :: tl, c => (x - c * t) :: subTop r tl c
def quo : Nat → List Int → List Int → List Int
  | 0, _, _ => []
  | _ + 1, [], _ => []
  | n + 1, c :: r, tl => if r.length < tl.length then [] else c :: quo n (subTop r tl c) tl
def ringL (base step : Nat) : List Int := (List.range (base * step - step + 1)).map fun k => if k % step = 0 then 1 else 0
def cntN (l : List Nat) (k : Nat) : Nat := (l.filter (· == k)).length
def cntL (size : Nat) (l : List Nat) : List Int := (List.range size).map fun k => ((cntN l k : Nat) : Int)
def quoL (cs rg : List Int) : List Int := (quo (cs.length + 1) cs.reverse (rg.reverse.drop 1)).reverse
def remL (cs rg : List Int) : List Int := (addP cs (scP (-1) (mulP rg (quoL cs rg)))).take (rg.length - 1)
def small (l : List Int) : Bool := l.all fun c => decide (0 ≤ c) && decide (c < 16)
def chkRing (base step : Nat) (cs : List Int) (ev : Bool) : Bool :=
  zeroP (addP cs (scP (-1) (addP (mulP (ringL base step) (quoL cs (ringL base step))) (remL cs (ringL base step))))) && (remL cs (ringL base step)).length + 1 == (ringL base step).length &&
  (remL cs (ringL base step)).all (fun c => decide (-16 < c) && decide (c < 16)) && (zeroP (remL cs (ringL base step)) == ev)
def sumsP (places found : List Nat) : List Nat := places.flatMap fun p => found.map fun t => p + t
def maxN (l : List Nat) : Nat := l.foldl max 0
def dueP (places found : List Nat) (size : Nat) : List Nat := (List.range (maxN (sumsP places found) + 1 - size)).map fun j => (sumsP places found).count (size + j)
def toI (l : List Nat) : List Int := l.map fun (k : Nat) => (k : Int)
def chkTile (base size : Nat) (places found : List Nat) (seen : List (List Nat)) : Bool :=
  !found.isEmpty && found.all (fun t => decide (t < size)) && decide (found.length ≤ 8) &&
  (match covLoop seen size found [] with | some c => c.isPerm (List.range size) | none => false) &&
  ((List.range size).all fun u => u % base != base - 1 || (found.flatMap fun t => (seenP (places.map fun p => (u * p) % size) size (maxN found + 1)).getD t []).isPerm (List.range size)) &&
  zeroP (addP (addP ((mulP (cntL size places) (cntL size found)).take size) ((mulP (cntL size places) (cntL size found)).drop size)) (scP (-1) (List.replicate size 1))) &&
  small ((mulP (cntL size places) (cntL size found)).take size) && decide (((mulP (cntL size places) (cntL size found)).take size).length = size) &&
  zeroP (addP ((mulP (cntL size places) (cntL size found)).drop size) (scP (-1) (toI (dueP places found size)))) && small (toI (dueP places found size)) && decide ((dueP places found size).length ≤ size) &&
  (match (dueP places found size).getLast? with | some d => decide (0 < d) | none => true)
def goesP (places : List Nat) (base reach : Nat) : Nat := ((List.range reach).filter fun d => evenP places base (base ^ d)).length
def chk (few : Nat) (places : List Nat) : Bool :=
  let base := 2 + few
  let reach := 3 - few
  let size := base ^ reach
  let seen := seenP places size size
  let masks := seen.map (maskOf 0)
  let cs := cntL size places
  ((List.range places.length).all fun k => (List.range k).all fun j => (depthOf base reach (places.getD k 0) (places.getD j 0)).isSome) &&
  masks.foldl (fun m x => m ||| x) 0 == 2 ^ size - 1 && small cs &&
  ((List.range reach).all fun d => chkRing base (base ^ d) cs (evenP places base (base ^ d))) &&
  (match srch 12 masks 0 size with
  | none => false
  | some r => ((goesP places base reach == 2 - few) == r.isSome) && (((depthsP places base reach).length == 2 - few) == r.isSome) &&
    (match r with
    | none => true
    | some found => chkTile base size places found seen))
def nodupN : List Nat → Bool
  | [] => true
  | a :: l => !l.contains a && nodupN l
def bad0 : List (List Nat) := ((List.range 8).flatMap fun a => (List.range 8).flatMap fun b => (List.range 8).flatMap fun c => (List.range 8).map fun d => [a, b, c, d]).filter fun l => nodupN l && !chk 0 l
def bad1 : List (List Nat) := ((List.range 9).flatMap fun a => (List.range 9).flatMap fun b => (List.range 9).map fun c => [a, b, c]).filter fun l => nodupN l && !chk 1 l
end Mine

end
section
open PySem PySem.W PyProof.Rows PySem.Calls PySem.Spec PySem.Challenge
namespace Mine
/-! what is alike for places in another order -/
theorem cntN_perm {a b : List Nat} (h : a.Perm b) (k : Nat) : cntN a k = cntN b k := (h.filter _).length_eq
theorem cntL_perm {a b : List Nat} (h : a.Perm b) (size : Nat) : cntL size a = cntL size b := by unfold cntL; exact List.map_congr_left fun k _ => by rw [cntN_perm h]
theorem evenP_perm {a b : List Nat} (h : a.Perm b) (base step : Nat) : evenP a base step = evenP b base step := by
  unfold evenP cntE
  have : ∀ g : Nat → Bool, (a.filter g).length = (b.filter g).length := fun g => (h.filter _).length_eq
  simp only [this]
theorem goesP_perm {a b : List Nat} (h : a.Perm b) (base reach : Nat) : goesP a base reach = goesP b base reach := by unfold goesP; simp only [evenP_perm h]
theorem maskOf_perm {a b : List Nat} (h : a.Perm b) (m : Nat) : maskOf m a = maskOf m b := by
  unfold maskOf
  exact List.Perm.foldl_eq' h (fun x _ y _ m => by show m ||| 2 ^ x ||| 2 ^ y = m ||| 2 ^ y ||| 2 ^ x; rw [Nat.or_assoc, Nat.or_comm (2 ^ x), ← Nat.or_assoc]) m
theorem masks_perm {a b : List Nat} (h : a.Perm b) (size n : Nat) : (seenP a size n).map (maskOf 0) = (seenP b size n).map (maskOf 0) := by
  unfold seenP
  rw [List.map_map, List.map_map]
  exact List.map_congr_left fun t _ => maskOf_perm (h.map _) 0
theorem maxN_perm {a b : List Nat} (h : a.Perm b) : maxN a = maxN b := by
  unfold maxN
  exact List.Perm.foldl_eq' h (fun x _ y _ m => by exact o563) 0
theorem sums_perm {a b : List Nat} (h : a.Perm b) (found : List Nat) : (sumsP a found).Perm (sumsP b found) := List.Perm.flatMap_right _ h
theorem due_perm {a b : List Nat} (h : a.Perm b) (found : List Nat) (size : Nat) : dueP a found size = dueP b found size := by
  unfold dueP
  rw [maxN_perm (sums_perm h found)]
  exact List.map_congr_left fun j _ => (sums_perm h found).count_eq _
theorem seen_getD {a : List Nat} {size n t : Nat} (h : t < n) : (seenP a size n).getD t [] = a.map fun p => (p + t) % size := by
  unfold seenP
  rw [List.getD_eq_getElem?_getD, List.getElem?_map, List.getElem?_range h]; rfl
theorem again_perm {a b : List Nat} (h : a.Perm b) (found : List Nat) (size n : Nat) (hf : ∀ t ∈ found, t < n) : (found.flatMap fun t => (seenP a size n).getD t []).Perm (found.flatMap fun t => (seenP b size n).getD t []) := by
  induction found with
  | nil => exact .nil
  | cons t r ih =>
    rw [List.flatMap_cons, List.flatMap_cons, seen_getD (hf t (.head _)), seen_getD (hf t (.head _))]
    exact (h.map _).append (ih fun x hx => hf x (.tail _ hx))
theorem cov_perm {a b : List Nat} (h : a.Perm b) (size : Nat) : ∀ (found : List Nat) (c c' : List Nat), c.Perm c' → (∀ t ∈ found, t < size) → ∀ r, covLoop (seenP a size size) size found c = some r → ∃ r', covLoop (seenP b size size) size found c' = some r' ∧ r.Perm r'
  | [], c, c', hc, _, r, e => by cases e; exact ⟨c', rfl, hc⟩
  | t :: ts, c, c', hc, hf, r, e => by
    have ht := hf t (.head _)
    have con : ∀ k, c.contains k = c'.contains k := fun k => by rw [Bool.eq_iff_iff]; simp [hc.mem_iff]
    have con2 : ∀ k, ((seenP a size size).getD t []).contains k = ((seenP b size size).getD t []).contains k := fun k => by
      rw [seen_getD ht, seen_getD ht, Bool.eq_iff_iff, List.contains_iff_mem, List.contains_iff_mem]
      exact (h.map _).mem_iff
    unfold covLoop at e ⊢
    simp only [← con, ← con2]
    cases q : (List.range size).filter (fun k => !c.contains k) with
    | nil => rw [q] at e; cases e
    | cons k ks =>
      rw [q] at e
      simp only at e ⊢
      by_cases z : ((seenP a size size).getD t []).contains k = true
      · rw [if_pos z] at e ⊢
        refine cov_perm h size ts _ _ ?_ (fun x hx => hf x (.tail _ hx)) r e
        refine hc.append ?_
        rw [seen_getD ht, seen_getD ht]; exact h.map _
      · rw [if_neg z] at e; cases e
end Mine

end
section
open PySem PySem.W PyProof.Rows PySem.Calls PySem.Spec PySem.Challenge
namespace Mine
theorem chk0 : ((List.range 8).all fun a => (List.range 8).all fun b => (List.range 8).all fun c => (List.range 8).all fun d => !(decide (a < b) && (decide (b < c) && decide (c < d))) || chk 0 [a, b, c, d]) = true := by decide +kernel
theorem chk1 : ((List.range 9).all fun a => (List.range 9).all fun b => (List.range 9).all fun c => !(decide (a < b) && decide (b < c)) || chk 1 [a, b, c]) = true := by decide +kernel
end Mine

end
section
open PySem PySem.W PyProof.Rows PySem.Calls PySem.Spec PySem.Challenge
namespace Mine
def chkD (few : Nat) (l : List Nat) : Bool :=
  ((List.range l.length).all fun k => (List.range k).all fun j => (depthOf (2 + few) (3 - few) (l.getD k 0) (l.getD j 0)).isSome) &&
  (((depthsP l (2 + few) (3 - few)).length == 2 - few) == (goesP l (2 + few) (3 - few) == 2 - few))
/-- depths as bits, over all pairs -/
def dp (x y : Nat) : Nat := (depthOf 2 3 x y).getD 0
def mrow (x : Nat) : List Nat → Nat
  | [] => 0
  | y :: l => 2 ^ dp x y ||| mrow x l
def mpair : List Nat → Nat
  | [] => 0
  | x :: l => mrow x l ||| mpair l
def pc (m : Nat) : Nat := m % 2 + (m / 2 % 2 + m / 4 % 2)
theorem dp_comm (x y : Nat) : dp x y = dp y x := by
  unfold dp depthOf
  congr 2; funext e; exact bne_comm
theorem mrow_perm {x : Nat} {l l' : List Nat} (h : l.Perm l') : mrow x l = mrow x l' := by
  induction h with
  | nil => rfl
  | cons a _ ih => exact congrArg (2 ^ dp x a ||| ·) ih
  | swap a b l => show _ ||| (_ ||| _) = _ ||| (_ ||| _); rw [← Nat.or_assoc, Nat.or_comm (2 ^ dp x b), Nat.or_assoc]
  | trans _ _ h1 h2 => exact h1.trans h2
theorem mpair_perm {l l' : List Nat} (h : l.Perm l') : mpair l = mpair l' := by
  induction h with
  | nil => rfl
  | cons a p ih => show mrow a _ ||| _ = mrow a _ ||| _; rw [mrow_perm p, ih]
  | swap a b l =>
    show (2 ^ dp b a ||| mrow b l) ||| (mrow a l ||| mpair l) = (2 ^ dp a b ||| mrow a l) ||| (mrow b l ||| mpair l)
    rw [dp_comm b a, Nat.or_assoc, Nat.or_assoc, ← Nat.or_assoc (mrow b l), Nat.or_comm (mrow b l), Nat.or_assoc]
  | trans _ _ h1 h2 => exact h1.trans h2
theorem tabD : ((List.range 3).all fun p => (List.range 3).all fun q => (List.range 3).all fun r => (List.range 3).all fun s => (List.range 3).all fun t => (List.range 3).all fun u =>
    Nat.beq ([p, q, r, s, t, u].foldl addD []).length (pc ((2 ^ p ||| (2 ^ q ||| (2 ^ s ||| 0))) ||| ((2 ^ r ||| (2 ^ t ||| 0)) ||| ((2 ^ u ||| 0) ||| (0 ||| 0)))))) = true := by decide +kernel
theorem chkP : ((List.range 8).all fun x => (List.range 8).all fun y => Nat.blt (dp x y) 3 && (Nat.beq x y || (depthOf 2 3 x y).isSome)) = true := by decide +kernel
theorem chkS : ((List.range 8).all fun a => (List.range 8).all fun b => Nat.ble b a || (List.range 8).all fun c => Nat.ble c b || (List.range 8).all fun d => Nat.ble d c ||
    ((pc (mpair [a, b, c, d]) == 2) == (goesP [a, b, c, d] 2 3 == 2))) = true := by decide +kernel
theorem chkD1 : ((List.range 9).all fun a => (List.range 9).all fun b => Nat.beq a b || (List.range 9).all fun c => (Nat.beq a c || Nat.beq b c) || chkD 1 [a, b, c]) = true := by decide +kernel
end Mine

end
section
open PySem PySem.W PyProof.Rows PySem.Calls PySem.Spec PySem.Challenge
namespace Mine
theorem sortedN {l s : List Nat} (hs : s = l.mergeSort (· ≤ ·)) (hn : l.Nodup) : s.Perm l ∧ s.Pairwise (· < ·) := by
  subst hs
  have p : (l.mergeSort (· ≤ ·)).Perm l := List.mergeSort_perm l _
  refine ⟨p, ?_⟩
  have h1 : (l.mergeSort (· ≤ ·)).Pairwise (fun a b => decide (a ≤ b) = true) := List.pairwise_mergeSort (fun a b c h1 h2 => by simp at *; exact o61 h2 h1) (fun a b => by simp; exact o53) l
  have h2 : (l.mergeSort (· ≤ ·)).Nodup := p.nodup_iff.mpr hn
  have h3 := List.Pairwise.and h1 h2
  exact h3.imp fun ⟨a, b⟩ => by have := of_decide_eq_true a; exact o396 b this
theorem sort_range {l : List Nat} {n : Nat} (h : l.Perm (List.range n)) : l.mergeSort (· ≤ ·) = List.range n := by
  refine List.Perm.eq_of_pairwise (le := fun a b => decide (a ≤ b) = true) (fun a b _ _ h1 h2 => by simp at *; exact o463 h2 h1) ?_ ?_ ((List.mergeSort_perm l _).trans h)
  · exact List.pairwise_mergeSort (fun a b c h1 h2 => by simp at *; exact o61 h2 h1) (fun a b => by simp; exact o53) l
  · exact List.pairwise_lt_range.imp fun h => by simp; exact o24 h
theorem all_of_chk (few : Nat) (hf : few ≤ 1) {l : List Nat} (hl : l.length = 4 - few) (hn : l.Pairwise (· < ·)) (hlt : ∀ p ∈ l, p < (2 + few) ^ (3 - few)) : chk few l = true := by
  rcases (by exact o10 hf : few = 0 ∨ few = 1) with rfl | rfl
  · match l, hl with
    | [a, b, c, d], _ =>
      have h := chk0
      simp only [List.all_eq_true, List.mem_range] at h
      have e := h a (hlt a (by simp)) b (hlt b (by simp)) c (hlt c (by simp)) d (hlt d (by simp))
      simp at hn
      simp only [Bool.or_eq_true, Bool.not_eq_true', Bool.and_eq_false_iff, decide_eq_false_iff_not] at e
      rcases e with e | e
      · exact (o635 hn.2.1.1 hn.1.1 hn.2.2 e).elim
      · exact e
  · match l, hl with
    | [a, b, c], _ =>
      have h := chk1
      simp only [List.all_eq_true, List.mem_range] at h
      have e := h a (hlt a (by simp)) b (hlt b (by simp)) c (hlt c (by simp))
      simp at hn
      simp only [Bool.or_eq_true, Bool.not_eq_true', Bool.and_eq_false_iff, decide_eq_false_iff_not] at e
      rcases e with e | e
      · exact (o636 hn.2 hn.1.1 e).elim
      · exact e
theorem beqF {a b : Nat} (h : a ≠ b) : Nat.beq a b = false := Bool.eq_false_iff.mpr fun e => h (Nat.eq_of_beq_eq_true e)
theorem bleF {a b : Nat} (h : b < a) : Nat.ble a b = false := Bool.eq_false_iff.mpr fun e => Nat.not_le.mpr h (Nat.le_of_ble_eq_true e)
theorem allR {n a : Nat} {p : Nat → Bool} (h : (List.range n).all p = true) (ha : a < n) : p a = true := List.all_eq_true.mp h a (List.mem_range.mpr ha)
theorem orF {p q : Bool} (h : (p || q) = true) (hp : p = false) : q = true := by rw [hp] at h; exact h
theorem dp_lt {x y : Nat} (hx : x < 8) (hy : y < 8) : dp x y < 3 := Nat.le_of_ble_eq_true (Bool.and_eq_true_iff.mp (allR (allR chkP hx) hy)).1
theorem depths_pc {a b c d : Nat} (ha : a < 8) (hb : b < 8) (hc : c < 8) (hd : d < 8) : (depthsP [a, b, c, d] 2 3).length = pc (mpair [a, b, c, d]) := by
  have e : (List.range 4).flatMap (rowD [a, b, c, d] 2 3) = [dp a b, dp a c, dp b c, dp a d, dp b d, dp c d] := by
    rw [dp_comm a b, dp_comm a c, dp_comm b c, dp_comm a d, dp_comm b d, dp_comm c d]; rfl
  have h := allR (allR (allR (allR (allR (allR tabD (dp_lt ha hb)) (dp_lt ha hc)) (dp_lt hb hc)) (dp_lt ha hd)) (dp_lt hb hd)) (dp_lt hc hd)
  exact (congrArg (fun l => (List.foldl addD [] l).length) e).trans (Nat.eq_of_beq_eq_true h)
theorem chkS_of {s : List Nat} (hl : s.length = 4) (hs : s.Pairwise (· < ·)) (hlt : ∀ p ∈ s, p < 8) : (pc (mpair s) == 2) = (goesP s 2 3 == 2) := by
  match s, hl with
  | [a, b, c, d], _ =>
    simp only [List.pairwise_cons, List.mem_cons, List.not_mem_nil, or_false] at hs
    exact beq_iff_eq.mp (orF (allR (orF (allR (orF (allR (allR chkS (hlt a (by simp))) (hlt b (by simp))) (bleF (hs.1 b (.inl rfl)))) (hlt c (by simp))) (bleF (hs.2.1 c (.inl rfl)))) (hlt d (by simp))) (bleF (hs.2.2.1 d rfl)))
theorem all_of_chkD (few : Nat) (hf : few ≤ 1) {l : List Nat} (hl : l.length = 4 - few) (hn : l.Nodup) (hlt : ∀ p ∈ l, p < (2 + few) ^ (3 - few)) : chkD few l = true := by
  rcases (by exact o10 hf : few = 0 ∨ few = 1) with rfl | rfl
  · have key : ((depthsP l 2 3).length == 2) = (goesP l 2 3 == 2) := by
      obtain ⟨p, hs⟩ := sortedN (l := l) rfl hn
      have e : (depthsP l 2 3).length = pc (mpair l) := by
        match l, hl with
        | [a, b, c, d], _ => exact depths_pc (hlt a (by simp)) (hlt b (by simp)) (hlt c (by simp)) (hlt d (by simp))
      rw [e, ← mpair_perm p, ← goesP_perm p 2 3]
      exact chkS_of (p.length_eq.trans hl) hs fun x hx => hlt x (p.mem_iff.mp hx)
    refine Bool.and_eq_true_iff.mpr ⟨?_, beq_iff_eq.mpr key⟩
    simp only [List.all_eq_true, List.mem_range]
    intro k hk j hj
    have hjl : j < l.length := Nat.lt_trans hj hk
    rw [getD_lt hk, getD_lt hjl]
    refine orF (Bool.and_eq_true_iff.mp (allR (allR chkP (hlt _ (List.getElem_mem hk))) (hlt _ (List.getElem_mem hjl)))).2 (beqF fun e => ?_)
    exact List.pairwise_iff_getElem.mp hn j k hjl hk hj e.symm
  · match l, hl with
    | [a, b, c], _ =>
      simp only [List.nodup_cons, List.mem_cons, List.not_mem_nil, or_false, not_or] at hn
      exact orF (allR (orF (allR (allR chkD1 (hlt a (by simp))) (hlt b (by simp))) (beqF hn.1.1)) (hlt c (by simp))) (Bool.or_eq_false_iff.mpr ⟨beqF hn.1.2, beqF hn.2.1⟩)
structure Tile (base size : Nat) (places found : List Nat) : Prop where
  ne : found ≠ []
  lt : ∀ t ∈ found, t < size
  len : found.length ≤ 8
  cov : coversP found (seenP places size size) size = true
  ag : ∀ u, u % base = base - 1 → ((found.flatMap fun t => (seenP (places.map fun p => (u * p) % size) size (maxN found + 1)).getD t []).mergeSort (· ≤ ·)) = List.range size
  ones : zeroP (addP (addP ((mulP (cntL size places) (cntL size found)).take size) ((mulP (cntL size places) (cntL size found)).drop size)) (scP (-1) (List.replicate size 1))) = true
  lowS : small ((mulP (cntL size places) (cntL size found)).take size) = true
  lowL : ((mulP (cntL size places) (cntL size found)).take size).length = size
  hi : zeroP (addP ((mulP (cntL size places) (cntL size found)).drop size) (scP (-1) (toI (dueP places found size)))) = true
  dueS : small (toI (dueP places found size)) = true
  dueL : (dueP places found size).length ≤ size
  dueT : ∀ d, (dueP places found size).getLast? = some d → 0 < d
structure Facts (few : Nat) (places : List Nat) : Prop where
  dep : ∀ k j, j < k → k < places.length → (depthOf (2 + few) (3 - few) (places.getD k 0) (places.getD j 0)).isSome = true
  who : ((seenP places ((2 + few) ^ (3 - few)) ((2 + few) ^ (3 - few))).map (maskOf 0)).foldl (fun m x => m ||| x) 0 = 2 ^ ((2 + few) ^ (3 - few)) - 1
  sml : small (cntL ((2 + few) ^ (3 - few)) places) = true
  rng : ∀ d, d < 3 - few → chkRing (2 + few) ((2 + few) ^ d) (cntL ((2 + few) ^ (3 - few)) places) (evenP places (2 + few) ((2 + few) ^ d)) = true
  srh : ∃ r, srch 12 ((seenP places ((2 + few) ^ (3 - few)) ((2 + few) ^ (3 - few))).map (maskOf 0)) 0 ((2 + few) ^ (3 - few)) = some r ∧
    (goesP places (2 + few) (3 - few) == 2 - few) = r.isSome ∧ ((depthsP places (2 + few) (3 - few)).length == 2 - few) = r.isSome ∧ ∀ found, r = some found → Tile (2 + few) ((2 + few) ^ (3 - few)) places found
theorem cntP_len (size : Nat) (l : List Nat) : (cntL size l).length = size := by unfold cntL; simp
theorem facts (few : Nat) (hf : few ≤ 1) {l : List Nat} (hl : l.length = 4 - few) (hn : l.Nodup) (hlt : ∀ p ∈ l, p < (2 + few) ^ (3 - few)) : Facts few l := by
  have hD := all_of_chkD few hf hl hn hlt
  have hsz : 0 < (2 + few) ^ (3 - few) := Nat.pow_pos (by exact o39)
  have hdvd : (2 + few) ∣ (2 + few) ^ (3 - few) := by
    obtain ⟨m, hm⟩ : ∃ m, 3 - few = m + 1 := ⟨2 - few, by exact o253 hf⟩
    rw [hm, Nat.pow_succ]; exact Nat.dvd_mul_left _ _
  obtain ⟨hp, hs⟩ := sortedN (l := l) rfl hn
  generalize l.mergeSort (· ≤ ·) = s at hp hs
  have hC := all_of_chk few hf (hp.length_eq.trans hl) hs (fun p h => hlt p (hp.mem_iff.mp h))
  unfold chkD at hD
  unfold chk at hC
  simp only [Bool.and_eq_true] at hD hC
  obtain ⟨hdep, hDG⟩ := hD
  obtain ⟨⟨⟨⟨-, hwho⟩, hsml⟩, hrng⟩, hsr⟩ := hC
  simp only [cntL_perm hp, evenP_perm hp, masks_perm hp, goesP_perm hp] at hwho hsml hrng hsr
  generalize hsize : (2 + few) ^ (3 - few) = size at *
  refine ⟨?_, by simpa [hsize] using hwho, by rw [hsize]; exact hsml, ?_, ?_⟩
  · intro k j hj hk
    simp only [List.all_eq_true, List.mem_range] at hdep
    exact hdep k hk j hj
  · intro d hd
    rw [hsize]
    exact List.all_eq_true.mp hrng d (List.mem_range.mpr hd)
  · rw [hsize]
    split at hsr
    · exact absurd hsr (by decide)
    · rename_i r hr
      simp only [Bool.and_eq_true] at hsr
      refine ⟨r, hr, eq_of_beq hsr.1.1, ?_, ?_⟩
      · rw [eq_of_beq hDG]; exact eq_of_beq hsr.1.1
      · intro found hfnd
        subst hfnd
        have ht := hsr.2
        simp only [chkTile, Bool.and_eq_true, decide_eq_true_eq] at ht
        simp only [cntL_perm hp, due_perm hp] at ht
        obtain ⟨⟨⟨⟨⟨⟨⟨⟨⟨⟨⟨h1, h2⟩, h3⟩, h4⟩, h5⟩, h6⟩, h7⟩, h8⟩, h9⟩, h10⟩, h11⟩, h12⟩ := ht
        have hlt' : ∀ t ∈ found, t < size := fun t h => of_decide_eq_true (List.all_eq_true.mp h2 t h)
        refine ⟨fun e => by rw [e] at h1; simp at h1, hlt', h3, ?_, ?_, h6, h7, h8, h9, h10, h11, ?_⟩
        · split at h4
          · rename_i c hc
            obtain ⟨c', hc', hpc⟩ := cov_perm hp size found [] [] .nil hlt' c hc
            unfold coversP
            rw [hc']
            exact decide_eq_true (sort_range (hpc.symm.trans (List.isPerm_iff.mp h4)))
          · exact absurd h4 (by decide)
        · intro u hu
          have hus : u % size < size := Nat.mod_lt _ hsz
          have e := List.all_eq_true.mp h5 (u % size) (List.mem_range.mpr hus)
          have e2 : u % size % (2 + few) = (2 + few) - 1 := by rw [Nat.mod_mod_of_dvd _ hdvd, hu]
          simp only [e2, bne_self_eq_false, Bool.false_or] at e
          have em : ∀ q : List Nat, (q.map fun p => (u % size * p) % size) = q.map fun p => (u * p) % size := fun q => List.map_congr_left fun p _ => by rw [Nat.mod_mul_mod]
          rw [em] at e
          refine sort_range (.trans ?_ (List.isPerm_iff.mp e))
          refine again_perm (hp.symm.map _) found size _ fun t ht => ?_
          have : t ≤ maxN found := by
            unfold maxN
            have g : ∀ (q : List Nat) (m : Nat), m ≤ q.foldl max m ∧ ∀ x ∈ q, x ≤ q.foldl max m := by
              intro q; induction q with
              | nil => intro m; exact ⟨Nat.le_refl _, fun x h => by cases h⟩
              | cons a q ih =>
                intro m
                have := ih (max m a)
                refine ⟨Nat.le_trans (Nat.le_max_left m a) this.1, fun x h => ?_⟩
                show x ≤ q.foldl max (max m a)
                rcases List.mem_cons.mp h with rfl | h
                · exact Nat.le_trans (Nat.le_max_right _ _) this.1
                · exact this.2 x h
            exact (g found 0).2 t ht
          exact o411 this
        · intro d hd
          rw [hd] at h12
          exact of_decide_eq_true h12
end Mine

end
section
open PySem PySem.W PyProof.Rows PySem.Calls PySem.Spec PySem.Challenge
namespace Mine
theorem bump_ok (size : Nat) (hsz : 0 < size) (ps : List Nat) : ∀ (n p r : Nat), p < size → bump size ps n p = some r → r < size ∧ r ∉ ps
  | 0, _, _, _, e => by cases e
  | n + 1, p, r, hp, e => by
    unfold bump at e
    split at e
    · exact bump_ok size hsz ps n _ r (Nat.mod_lt _ hsz) e
    · rename_i h; cases e; exact ⟨hp, fun m => h (List.contains_iff_mem.mpr m)⟩
theorem bump8 : ((List.range 8).all fun p => (List.range 8).all fun a => (bump 8 [a] 10 p).isSome && (List.range 8).all fun b => (bump 8 [a, b] 10 p).isSome && (List.range 8).all fun c => (bump 8 [a, b, c] 10 p).isSome) = true := by decide +kernel
theorem bump9 : ((List.range 9).all fun p => (List.range 9).all fun a => (bump 9 [a] 10 p).isSome && (List.range 9).all fun b => (bump 9 [a, b] 10 p).isSome) = true := by decide +kernel
theorem bump_some (few : Nat) (hf : few ≤ 1) {ps : List Nat} (hl : ps.length < 4 - few) (hlt : ∀ p ∈ ps, p < (2 + few) ^ (3 - few)) (p : Nat) (hp : p < (2 + few) ^ (3 - few)) : (bump ((2 + few) ^ (3 - few)) ps 10 p).isSome = true := by
  rcases (by exact o10 hf : few = 0 ∨ few = 1) with rfl | rfl
  · have h := bump8
    simp only [List.all_eq_true, List.mem_range, Bool.and_eq_true] at h
    match ps, hl with
    | [], _ => rfl
    | [a], _ => exact (h p hp a (hlt a (by simp))).1
    | [a, b], _ => exact ((h p hp a (hlt a (by simp))).2 b (hlt b (by simp))).1
    | [a, b, c], _ => exact ((h p hp a (hlt a (by simp))).2 b (hlt b (by simp))).2 c (hlt c (by simp))
    | _ :: _ :: _ :: _ :: _, q => simp at q; exact (o637 q).elim
  · have h := bump9
    simp only [List.all_eq_true, List.mem_range, Bool.and_eq_true] at h
    match ps, hl with
    | [], _ => rfl
    | [a], _ => exact (h p hp a (hlt a (by simp))).1
    | [a, b], _ => exact (h p hp a (hlt a (by simp))).2 b (hlt b (by simp))
    | _ :: _ :: _ :: _, q => simp at q; exact (o638 q).elim
theorem placesO_ok (few : Nat) (hf : few ≤ 1) (ns : List Int) : ∀ (ks ps : List Nat), ps.length + ks.length = 4 - few → ps.Nodup → (∀ p ∈ ps, p < (2 + few) ^ (3 - few)) → ∃ r, placesO ns ((2 + few) ^ (3 - few)) ks ps = some r ∧ r.length = 4 - few ∧ r.Nodup ∧ ∀ p ∈ r, p < (2 + few) ^ (3 - few)
  | [], ps, hl, hn, hlt => ⟨ps, rfl, by simpa using hl, hn, hlt⟩
  | k :: ks, ps, hl, hn, hlt => by
    have hsz : 0 < (2 + few) ^ (3 - few) := Nat.pow_pos (by exact o39)
    have hs : startZ ns ((2 + few) ^ (3 - few)) k < (2 + few) ^ (3 - few) := by
      unfold startZ
      have h0 : (0 : Int) < (((2 + few) ^ (3 - few) : Nat) : Int) := by exact o3 hsz
      have h1 := Int.emod_lt_of_pos (((([3, 7, 4, 0] : List Nat).getD k 0 : Nat) : Int) + (pickI ns (some (k : Int)) none (some 4)).sum) h0
      exact o163 h1 hsz
    have hb := bump_some few hf (ps := ps) (by simp at hl; exact o513 hl) hlt _ hs
    obtain ⟨p, hp⟩ := Option.isSome_iff_exists.mp hb
    have hq := bump_ok _ hsz ps 10 _ p hs hp
    have hnd : (ps ++ [p]).Nodup := List.nodup_append.mpr ⟨hn, by simp, fun a ha b hb e => by simp at hb; subst hb; exact hq.2 (e ▸ ha)⟩
    have := placesO_ok few hf ns ks (ps ++ [p]) (by simp at hl ⊢; exact o510 hl) hnd (fun x hx => by rcases List.mem_append.mp hx with hx | hx; exact hlt x hx; simp at hx; subst hx; exact hq.1)
    unfold placesO
    rw [hp]
    exact this
end Mine

end
section
open PySem PySem.W PyProof.Rows PySem.Calls PySem.Spec PySem.Challenge
namespace Mine
/-! numbers from their digits -/
theorem dval_addP (w : Nat) : ∀ a b : List Int, dval w (addP a b) = dval w a + dval w b
  | [], b => by rw [addP]; simp [dval]
  | x :: a, [] => by rw [addP] <;> simp [dval]
  | x :: a, y :: b => by
    rw [addP, dval, dval, dval, dval_addP w a b, Int.mul_add]; exact o576
theorem dval_scP (w : Nat) (c : Int) : ∀ a : List Int, dval w (scP c a) = c * dval w a
  | [] => by simp [scP, dval]
  | x :: a => by
    show c * x + 2 ^ w * dval w (scP c a) = c * (x + 2 ^ w * dval w a)
    rw [dval_scP w c a, Int.mul_add, Int.mul_left_comm]
theorem dval_mulP (w : Nat) : ∀ a b : List Int, dval w (mulP a b) = dval w a * dval w b
  | [], b => by simp [mulP, dval]
  | x :: a, b => by
    rw [mulP, dval_addP, dval_scP, dval, dval, dval_mulP w a b, Int.add_mul, Int.zero_add, Int.mul_assoc]
theorem dval_zeroP (w : Nat) : ∀ {l : List Int}, zeroP l = true → dval w l = 0
  | [], _ => rfl
  | x :: l, h => by
    simp only [zeroP, List.all_cons, Bool.and_eq_true, beq_iff_eq] at h
    rw [dval, dval_zeroP w (l := l) (by unfold zeroP; exact h.2), h.1]; simp
theorem zeroP_eq (w : Nat) {a b : List Int} (h : zeroP (addP a (scP (-1) b)) = true) : dval w a = dval w b := by
  have := dval_zeroP w h
  rw [dval_addP, dval_scP] at this
  exact o313 this
theorem dval_lt (w : Nat) : ∀ {l : List Int}, (∀ d ∈ l, 0 ≤ d ∧ d < 2 ^ w) → 0 ≤ dval w l ∧ dval w l < 2 ^ (w * l.length)
  | [], _ => ⟨Int.le_refl _, two_pow_pos _⟩
  | d :: l, h => by
    obtain ⟨h1, h2⟩ := dval_lt w (l := l) fun x hx => h x (.tail _ hx)
    obtain ⟨h3, h4⟩ := h d (.head _)
    have p := two_pow_pos w
    rw [dval, List.length_cons, Nat.mul_add, Nat.mul_one, Int.pow_add]
    have e1 : 0 ≤ (2 : Int) ^ w * dval w l := Int.mul_nonneg (Int.le_of_lt p) h1
    have e2 : (2 : Int) ^ w * (dval w l + 1) ≤ 2 ^ w * 2 ^ (w * l.length) := Int.mul_le_mul_of_nonneg_left (by exact o101 h2) (Int.le_of_lt p)
    rw [Int.mul_add, Int.mul_one] at e2
    rw [Int.mul_comm ((2 : Int) ^ (w * l.length))]
    exact o573 e1 h3 h4 e2
theorem digs_dval (w : Nat) : ∀ {l : List Int}, (∀ d ∈ l, 0 ≤ d ∧ d < 2 ^ w) → digs w l.length (dval w l) = l
  | [], _ => rfl
  | d :: l, h => by
    obtain ⟨h3, h4⟩ := h d (.head _)
    have p := two_pow_pos w
    rw [List.length_cons, digs, dval, Int.add_mul_emod_self_left, Int.emod_eq_of_lt h3 h4, Int.add_mul_ediv_left _ _ (Int.ne_of_gt p), Int.ediv_eq_zero_of_lt h3 h4, Int.zero_add, digs_dval w fun x hx => h x (.tail _ hx)]
theorem small_of (w : Nat) (hw : 4 ≤ w) {l : List Int} (h : small l = true) : ∀ d ∈ l, 0 ≤ d ∧ d < 2 ^ w := fun d hd => by
  have := List.all_eq_true.mp h d hd
  simp only [Bool.and_eq_true, decide_eq_true_eq] at this
  have e : (2 : Int) ^ 4 ≤ 2 ^ w := pow_le hw
  exact ⟨this.1, by exact o310 e this.2⟩
abbrev ib := Builtin.Int.intBits
theorem ib_lo {x : Int} {n : Nat} (h : 2 ^ n ≤ x) : n + 1 ≤ ib x := by
  by_cases q : ib x ≤ n
  · have := lt_of_intBits (Int.le_trans (Int.le_of_lt (two_pow_pos n)) h) q
    exact o328 this h
  · exact o472 q
theorem ib_mono {x y : Int} (h0 : 0 ≤ x) (h : x ≤ y) : ib x ≤ ib y := intBits_lt h0 (Int.lt_of_le_of_lt h (lt_of_intBits (Int.le_trans h0 h) (Nat.le_refl _)))
/-- how many digits -/
theorem digs_num (w : Nat) (hw : 0 < w) {l : List Int} (h : ∀ d ∈ l, 0 ≤ d ∧ d < 2 ^ w) (hl : ∀ d, l.getLast? = some d → 0 < d) : l.length = (ib (dval w l) + w - 1) / w := by
  obtain ⟨h0, h1⟩ := dval_lt w h
  have hb : ib (dval w l) ≤ w * l.length := intBits_lt h0 h1
  by_cases q : l = []
  · subst q
    rw [show ib (dval w []) = 0 by have := hb; simp at this; exact this]
    rw [Nat.zero_add, Nat.div_eq_of_lt (by exact o214 hw)]; rfl
  · obtain ⟨m, d, rfl⟩ : ∃ m d, l = m ++ [d] := ⟨l.dropLast, l.getLast q, (List.dropLast_concat_getLast q).symm⟩
    have hd := hl d (by simp)
    obtain ⟨hm0, _⟩ := dval_lt w (l := m) fun x hx => h x (List.mem_append_left _ hx)
    have lo : 2 ^ (w * m.length) ≤ dval w (m ++ [d]) := by
      rw [dval_append]
      have : dval w [d] = d := by simp [dval]
      rw [this]
      have : (2 : Int) ^ (w * m.length) * 1 ≤ 2 ^ (w * m.length) * d := Int.mul_le_mul_of_nonneg_left (by exact o64 hd) (Int.le_of_lt (two_pow_pos _))
      exact o476 hm0 this
    have hb2 := ib_lo lo
    rw [List.length_append, List.length_singleton] at hb ⊢
    rw [Nat.mul_add, Nat.mul_one] at hb
    refine (Nat.div_eq_of_lt_le ?_ ?_).symm
    · rw [Nat.add_mul, Nat.one_mul, Nat.mul_comm]; exact o516 hb2
    · rw [Nat.add_mul, Nat.add_mul, Nat.one_mul, Nat.mul_comm m.length w]; exact o492 hw hb
theorem dval_zero (w : Nat) (hw : 4 ≤ w) : ∀ {l : List Int}, (∀ c ∈ l, -16 < c ∧ c < 16) → dval w l = 0 → zeroP l = true
  | [], _, _ => rfl
  | c :: l, h, e => by
    have hc := h c (.head _)
    have e1 : (2 : Int) ^ 4 ≤ 2 ^ w := pow_le hw
    rw [dval] at e
    generalize (2 : Int) ^ w = X at *
    have hz : dval w l = 0 := by
      by_cases q : dval w l = 0
      · exact q
      · rcases (by exact o185 q : dval w l ≥ 1 ∨ dval w l ≤ -1) with h1 | h1
        · have : X * 1 ≤ X * dval w l := Int.mul_le_mul_of_nonneg_left h1 (by exact o20 e1)
          exact o567 hc.1 e1 this e
        · have : X * dval w l ≤ X * (-1) := Int.mul_le_mul_of_nonneg_left h1 (by exact o20 e1)
          exact o574 e1 hc.2 e this
    rw [hz, Int.mul_zero, Int.add_zero] at e
    subst e
    have := dval_zero w hw (l := l) (fun x hx => h x (.tail _ hx)) hz
    simp only [zeroP, List.all_cons, Bool.and_eq_true, beq_iff_eq, true_and]
    exact this
theorem dval_abs (w : Nat) (hw : 4 ≤ w) : ∀ {l : List Int}, (∀ c ∈ l, -16 < c ∧ c < 16) → -(2 ^ (w * l.length)) < dval w l ∧ dval w l < 2 ^ (w * l.length)
  | [], _ => by simp [dval]
  | c :: l, h => by
    obtain ⟨h1, h2⟩ := dval_abs w hw (l := l) fun x hx => h x (.tail _ hx)
    have hc := h c (.head _)
    have e1 : (2 : Int) ^ 4 ≤ 2 ^ w := pow_le hw
    rw [dval, List.length_cons, Nat.mul_add, Nat.mul_one, Int.pow_add, Int.mul_comm ((2 : Int) ^ (w * l.length))]
    generalize (2 : Int) ^ (w * l.length) = Y at *
    generalize (2 : Int) ^ w = X at *
    have a1 : X * (dval w l + 1) ≤ X * Y := Int.mul_le_mul_of_nonneg_left (by exact o101 h2) (by exact o20 e1)
    have a2 : X * (-Y + 1) ≤ X * dval w l := Int.mul_le_mul_of_nonneg_left (by exact o305 h1) (by exact o20 e1)
    rw [Int.mul_add, Int.mul_one] at a1 a2
    rw [Int.mul_neg] at a2
    exact o568 hc.1 e1 hc.2 a2 a1
/-- the ring -/
theorem ringL_split (base step : Nat) (hs : 0 < step) : ∃ r, ringL base step = r ++ [1] ∧ r.length = base * step - step ∧ ∀ d ∈ r ++ [1], d = 0 ∨ d = 1 := by
  refine ⟨(List.range (base * step - step)).map fun k => if k % step = 0 then 1 else 0, ?_, by simp, ?_⟩
  · unfold ringL
    rw [List.range_succ, List.map_append, List.map_singleton, if_pos]
    rw [show base * step - step = (base - 1) * step by rw [Nat.sub_mul, Nat.one_mul]]; exact Nat.mul_mod_left _ _
  · intro d hd
    rcases List.mem_append.mp hd with hd | hd
    · obtain ⟨k, _, rfl⟩ := List.mem_map.mp hd
      split <;> simp
    · simp at hd; exact .inr hd
theorem ring_val (w base step : Nat) (hw : 4 ≤ w) (hs : 0 < step) : 2 ^ (w * (base * step - step)) ≤ dval w (ringL base step) ∧ dval w (ringL base step) < 2 ^ (w * (base * step - step + 1)) ∧ ∀ d ∈ ringL base step, 0 ≤ d ∧ d < 2 ^ w := by
  obtain ⟨r, e, hl, hd⟩ := ringL_split base step hs
  have hd' : ∀ d ∈ ringL base step, 0 ≤ d ∧ d < 2 ^ w := fun d h => by
    have e1 : (2 : Int) ^ 4 ≤ 2 ^ w := pow_le hw
    rcases hd d (e ▸ h) with rfl | rfl <;> (first | exact o179 e1 | exact o35 e1)
  refine ⟨?_, ?_, hd'⟩
  · obtain ⟨h0, _⟩ := dval_lt w (l := r) fun x hx => hd' x (by rw [e]; exact List.mem_append_left _ hx)
    rw [e, dval_append, hl]
    have : dval w [1] = 1 := by simp [dval]
    rw [this]; exact o309 h0
  · have := (dval_lt w hd').2
    rw [e, List.length_append, hl] at this
    rw [e]; exact this
theorem ring_divides (w base step : Nat) (hw : 4 ≤ w) (hs : 0 < step) {cs : List Int} {ev : Bool} (h : chkRing base step cs ev = true) : (dval w cs % dval w (ringL base step) == 0) = ev := by
  unfold chkRing at h
  simp only [Bool.and_eq_true, beq_iff_eq] at h
  obtain ⟨⟨⟨h1, h2⟩, h3⟩, h4⟩ := h
  have hR : ∀ c ∈ remL cs (ringL base step), -16 < c ∧ c < 16 := fun c hc => by
    have := List.all_eq_true.mp h3 c hc
    simpa only [Bool.and_eq_true, decide_eq_true_eq] using this
  generalize remL cs (ringL base step) = R at *
  generalize quoL cs (ringL base step) = Qq at *
  have e := zeroP_eq w h1
  rw [dval_addP, dval_mulP] at e
  obtain ⟨lo, -, -⟩ := ring_val w base step hw hs
  obtain ⟨r, er, hl, -⟩ := ringL_split base step hs
  have hlen : R.length = base * step - step := by rw [er, List.length_append, hl] at h2; simp at h2; exact o527 h2
  obtain ⟨b1, b2⟩ := dval_abs w hw hR
  rw [hlen] at b1 b2
  generalize dval w (ringL base step) = rg at *
  rw [e, ← h4, Bool.eq_iff_iff, beq_iff_eq, Int.mul_add_emod_self_left]
  constructor
  · intro q
    refine dval_zero w hw hR ?_
    obtain ⟨k, hk⟩ := Int.dvd_of_emod_eq_zero q
    have hp := two_pow_pos (w * (base * step - step))
    rcases (by exact o182 : k = 0 ∨ k ≥ 1 ∨ k ≤ -1) with rfl | h1 | h1
    · rw [hk, Int.mul_zero]
    · have : rg * 1 ≤ rg * k := Int.mul_le_mul_of_nonneg_left h1 (by exact o99 hp lo)
      exact o579 this b2 hk lo
    · have : rg * k ≤ rg * (-1) := Int.mul_le_mul_of_nonneg_left h1 (by exact o99 hp lo)
      exact o569 b1 hk lo this
  · intro q
    rw [dval_zeroP w q]; simp
end Mine

end
section
open PySem PySem.W PyProof.Rows PySem.Calls PySem.Spec PySem.Challenge
namespace Mine
/-! what the law's numbers do -/
structure DivOk (a b : Int) : Prop where
  a0 : 0 ≤ a
  b0 : 0 < b
  hb : ib b ≤ 16000
  m : (ib a + ib b - 1) / ib b ≤ 16
theorem DivOk.of {a b : Int} (a0 : 0 ≤ a) (b0 : 0 < b) (hb : ib b ≤ 16000) (h : ib a ≤ 15 * ib b) : DivOk a b := by
  refine ⟨a0, b0, hb, ?_⟩
  have : 0 < ib b := Nat.lt_of_lt_of_le Nat.zero_lt_one (ib_lo (n := 0) (by rw [Int.pow_zero]; exact o64 b0))
  exact Nat.div_le_of_le_mul (by exact o399 h)
theorem ct_dm {w : World} {a b : Int} (h : DivOk a b) : CT w [47, 54] 8 66 [.int a, .int b] (.tup [.int (a / b), .int (a % b)]) := ct_divmod h.a0 h.b0 h.hb rfl h.m
theorem mulOkB {a b : Int} (ha : ib a ≤ 2 ^ 20) (hb : ib b ≤ 2 ^ 20) : IntMulOk a b := IntMulOk.of_le ha hb (by decide)
structure RingOk (w base step : Nat) (cs : List Int) (ev : Bool) : Prop where
  d1 : DivOk (dval w cs) (dval w (ringL base step))
  d2 : DivOk (dval w cs % dval w (ringL base step)) (dval w (ringL base step))
  mul : IntMulOk (dval w cs / dval w (ringL base step)) (dval w (ringL base step))
  ev : (dval w cs % dval w (ringL base step) == 0) = ev
  dig : ∀ d ∈ ringL base step, 0 ≤ d ∧ d < 2 ^ w
  len : (ringL base step).length ≤ 16
theorem ring_ok {w few d : Nat} (hw : 4 ≤ w) (hw2 : w ≤ 1403) (hf : few ≤ 1) (hd : d < 3 - few) {cs : List Int} {ev : Bool} (hs : small cs = true) (hl : cs.length ≤ 9) (h : chkRing (2 + few) ((2 + few) ^ d) cs ev = true) : RingOk w (2 + few) ((2 + few) ^ d) cs ev := by
  have hstep : 0 < (2 + few) ^ d := Nat.pow_pos (by exact o39)
  obtain ⟨lo, hi, hdig⟩ := ring_val w (2 + few) ((2 + few) ^ d) hw hstep
  obtain ⟨r, er, hrl, -⟩ := ringL_split (2 + few) ((2 + few) ^ d) hstep
  have hn : 1 ≤ (2 + few) * (2 + few) ^ d - (2 + few) ^ d ∧ (2 + few) * (2 + few) ^ d - (2 + few) ^ d ≤ 6 := by
    rcases (by exact o10 hf : few = 0 ∨ few = 1) with rfl | rfl
    · rcases (by exact o82 hd : d = 0 ∨ d = 1 ∨ d = 2) with rfl | rfl | rfl <;> decide
    · rcases (by exact o83 hd : d = 0 ∨ d = 1) with rfl | rfl <;> decide
  have hlen : (ringL (2 + few) ((2 + few) ^ d)).length ≤ 16 := by rw [er, List.length_append, hrl, List.length_singleton]; exact o373 hn.2
  obtain ⟨c0, c1⟩ := dval_lt w (small_of w hw hs)
  have hev := ring_divides w (2 + few) ((2 + few) ^ d) hw hstep h
  generalize hn' : (2 + few) * (2 + few) ^ d - (2 + few) ^ d = n at *
  generalize hrg : dval w (ringL (2 + few) ((2 + few) ^ d)) = rg at *
  generalize hcs : dval w cs = c at *
  have p0 : 0 < rg := Int.lt_of_lt_of_le (two_pow_pos _) lo
  have bc : ib c ≤ w * 9 := Nat.le_trans (intBits_lt c0 c1) (Nat.mul_le_mul_left w hl)
  have b1 : ib rg ≤ w * 7 := Nat.le_trans (intBits_lt (Int.le_of_lt p0) hi) (Nat.mul_le_mul_left w (by exact o288 hn.2))
  have b2 : w * 1 ≤ ib rg := Nat.le_trans (Nat.mul_le_mul_left w hn.1) (by have := ib_lo lo; exact o2 this)
  have hm0 := Int.emod_nonneg c (Int.ne_of_gt p0)
  have hm1 := Int.emod_lt_of_pos c p0
  have bm : ib (c % rg) ≤ ib rg := ib_mono hm0 (Int.le_of_lt hm1)
  have hq0 : 0 ≤ c / rg := Int.ediv_nonneg c0 (Int.le_of_lt p0)
  have bq : ib (c / rg) ≤ ib c := ib_mono hq0 (Int.ediv_le_self _ c0)
  refine ⟨.of (by rw [hcs]; exact c0) (by rw [hrg]; exact p0) (by rw [hrg]; exact o121 hw2 b1) (by rw [hrg, hcs]; exact o548 b2 bc), .of (by rw [hrg, hcs]; exact hm0) (by rw [hrg]; exact p0) (by rw [hrg]; exact o121 hw2 b1) (by rw [hrg, hcs]; exact o412 bm), by rw [hrg, hcs]; exact mulOkB (by exact o544 hw2 bq bc) (by exact o444 hw2 b1), by rw [hrg, hcs]; exact hev, hdig, hlen⟩
structure TileNum (w size : Nat) (cp cf : List Int) (due : List Int) : Prop where
  mul : IntMulOk (dval w cp) (dval w cf)
  div : DivOk (dval w cp * dval w cf) (2 ^ (w * size) - 1)
  fr : dval w cp * dval w cf / (2 ^ (w * size) - 1) = dval w due
  lo : dval w cp * dval w cf % (2 ^ (w * size) - 1) = dval w (List.replicate size 1)
  sh : dval w cp * dval w cf / 2 ^ (w * size) = dval w due
  be : dval w cp * dval w cf % 2 ^ (w * size) = dval w (List.replicate size 1) - dval w due
  dlow : digs w size (dval w (List.replicate size 1)) = List.replicate size 1
  nlow : size = (ib (dval w (List.replicate size 1)) + w - 1) / w
  ddue : digs w due.length (dval w due) = due
  ndue : due.length = (ib (dval w due) + w - 1) / w
  dar : digs w size (2 ^ (w * size) - 1) = List.replicate size (2 ^ w - 1)
  nar : size = (ib (2 ^ (w * size) - 1) + w - 1) / w
theorem dval_all (w : Nat) : ∀ n, dval w (List.replicate n (2 ^ w - 1)) = 2 ^ (w * n) - 1
  | 0 => by simp [dval]
  | n + 1 => by
    rw [List.replicate_succ, dval, dval_all w n, Nat.mul_add, Nat.mul_one, Int.pow_add, Int.mul_sub, Int.mul_one, Int.mul_comm ((2 : Int) ^ w)]
    exact o317
theorem tile_num {w size : Nat} (hw : 4 ≤ w) (hw2 : w ≤ 1403) (hz : 8 ≤ size) (hz2 : size ≤ 9) {cp cf due : List Int} (hcp : small cp = true) (hcf : small cf = true) (lp : cp.length = size) (lf : cf.length = size)
    (ones : zeroP (addP (addP ((mulP cp cf).take size) ((mulP cp cf).drop size)) (scP (-1) (List.replicate size 1))) = true) (lowS : small ((mulP cp cf).take size) = true) (lowL : ((mulP cp cf).take size).length = size)
    (hi : zeroP (addP ((mulP cp cf).drop size) (scP (-1) due)) = true) (dueS : small due = true) (dueL : due.length ≤ size) (dueT : ∀ d, due.getLast? = some d → 0 < d) : TileNum w size cp cf due := by
  obtain ⟨p0, p1⟩ := dval_lt w (small_of w hw hcp)
  obtain ⟨f0, f1⟩ := dval_lt w (small_of w hw hcf)
  obtain ⟨l0, l1⟩ := dval_lt w (small_of w hw lowS)
  obtain ⟨u0, u1⟩ := dval_lt w (small_of w hw dueS)
  have e1 := zeroP_eq w ones
  have e2 := zeroP_eq w hi
  have e3 : dval w cp * dval w cf = dval w ((mulP cp cf).take size) + 2 ^ (w * size) * dval w ((mulP cp cf).drop size) := by
    rw [← dval_mulP]
    conv => lhs; rw [← List.take_append_drop size (mulP cp cf), dval_append, lowL]
  rw [dval_addP] at e1
  rw [lp] at p1; rw [lf] at f1; rw [lowL] at l1
  have hsz : 0 < w * size := Nat.mul_pos (by exact o9 hw) (by exact o4 hz)
  have hX16 : (2 : Int) ^ 4 ≤ 2 ^ w := pow_le hw
  have d1 : ∀ d ∈ List.replicate size (1 : Int), 0 ≤ d ∧ d < 2 ^ w := fun d hd => by rw [List.eq_of_mem_replicate hd]; exact o35 hX16
  have d2 : ∀ d ∈ List.replicate size ((2 : Int) ^ w - 1), 0 ≤ d ∧ d < 2 ^ w := fun d hd => by rw [List.eq_of_mem_replicate hd]; exact o180 hX16
  have g1 : ∀ d, (List.replicate size (1 : Int)).getLast? = some d → 0 < d := fun d hd => by rw [List.eq_of_mem_replicate (List.mem_of_getLast? hd)]; exact o639
  have g2 : ∀ d, (List.replicate size ((2 : Int) ^ w - 1)).getLast? = some d → 0 < d := fun d hd => by rw [List.eq_of_mem_replicate (List.mem_of_getLast? hd)]; exact o178 hX16
  obtain ⟨o0, -⟩ := dval_lt w d1
  -- ones lies below 2 ^ (w * size) - 1
  have o1 : dval w (List.replicate size (1 : Int)) < 2 ^ (w * size) - 1 := by
    rw [← dval_all w size]
    obtain ⟨n, rfl⟩ : ∃ n, size = n + 1 := ⟨size - 1, by exact o240 hz⟩
    rw [List.replicate_succ, List.replicate_succ, dval, dval]
    have : ∀ n, dval w (List.replicate n (1 : Int)) ≤ dval w (List.replicate n ((2 : Int) ^ w - 1)) := by
      intro n; induction n with
      | zero => exact Int.le_refl _
      | succ n ih =>
        rw [List.replicate_succ, List.replicate_succ, dval, dval]
        have := Int.mul_le_mul_of_nonneg_left ih (Int.le_of_lt (two_pow_pos w))
        exact o481 hX16 this
    have := Int.mul_le_mul_of_nonneg_left (this n) (Int.le_of_lt (two_pow_pos w))
    exact o480 hX16 this
  have hwsz : w * size ≤ 1403 * 9 := Nat.mul_le_mul hw2 hz2
  have bP : ib (dval w cp) ≤ w * size := intBits_lt p0 p1
  have bF : ib (dval w cf) ≤ w * size := intBits_lt f0 f1
  have hone : dval w (List.replicate size ((2 : Int) ^ w - 1)) = 2 ^ (w * size) - 1 := dval_all w size
  have prod0 : 0 ≤ dval w cp * dval w cf := Int.mul_nonneg p0 f0
  have prod1 : dval w cp * dval w cf < 2 ^ (w * size + w * size) := by
    rw [Int.pow_add]
    exact Int.lt_of_le_of_lt (Int.mul_le_mul_of_nonneg_left (Int.le_of_lt f1) p0) (Int.mul_lt_mul_of_pos_right p1 (two_pow_pos _))
  have hYb : ib (2 ^ (w * size) - 1) = w * size := by
    obtain ⟨k, hk⟩ : ∃ k, w * size = k + 1 := ⟨w * size - 1, by exact o216 hsz⟩
    rw [hk]
    refine intBits_eq ?_ (by exact o67)
    rw [Int.pow_succ]
    have := two_pow_pos k
    exact o169 this
  have bPF : ib (dval w cp * dval w cf) ≤ w * size + w * size := intBits_lt prod0 prod1
  have hY : (1 : Int) < 2 ^ (w * size) - 1 := by
    have : (2 : Int) ^ 2 ≤ 2 ^ (w * size) := pow_le (Nat.le_trans (by exact o157 : 2 ≤ 4 * 8) (Nat.mul_le_mul hw hz))
    exact o177 this
  have eq1 : dval w cp * dval w cf = dval w due * (2 ^ (w * size) - 1) + dval w (List.replicate size 1) := by
    rw [e3, e2, ← e1, e2, Int.mul_sub, Int.mul_one, Int.mul_comm ((2 : Int) ^ (w * size))]; exact o483
  have eq2 : dval w cp * dval w cf = dval w due * 2 ^ (w * size) + dval w ((mulP cp cf).take size) := by
    rw [e3, e2, Int.mul_comm ((2 : Int) ^ (w * size))]; exact o48
  obtain ⟨r1, r2⟩ := div_of (by exact o66 hY) eq1 o0 o1
  obtain ⟨r3, r4⟩ := div_of (two_pow_pos _) eq2 l0 l1
  refine ⟨mulOkB (by exact o120 hwsz bP) (by exact o120 hwsz bF), .of prod0 (by exact o66 hY) (by rw [hYb]; exact o270 hwsz) (by rw [hYb]; exact o410 bPF), r1, r2, r3, by rw [r4]; exact o585 e2 e1, ?_, ?_, digs_dval w (small_of w hw dueS), digs_num w (by exact o9 hw) (small_of w hw dueS) dueT, ?_, ?_⟩
  · have := digs_dval w d1; rwa [List.length_replicate] at this
  · have := digs_num w (by exact o9 hw) d1 g1; rwa [List.length_replicate] at this
  · have := digs_dval w d2; rwa [List.length_replicate, hone] at this
  · have := digs_num w (by exact o9 hw) d2 g2; rwa [List.length_replicate, hone] at this
end Mine

end
section
open PySem PySem.W PyProof.Rows PySem.Calls PySem.Spec PySem.Challenge
namespace Mine
theorem OP2.pow0 {sc : Scope} {dk : Nat} {tb : List Addr} {f : Fm sc dk tb} {a b : PV} {i j : Int} (ha : a.asI = some i) (hb : b.asI = some j) (h0 : 0 ≤ j) (hs : (Builtin.Int.intBits i : Int) * j ≤ 2 ^ 27) : OP2 f (binaryOp .Pow) a b (.int (i ^ j.toNat)) := .ofInt ha hb fun _ _ _ _ _ _ _ h => by with_reducible exact pow_int h0 hs h
def isI (k : PV) (v : PV) : Bool := match v.asI, k.asI with
  | some i, some j => i == j
  | _, _ => false
def cntY2 (l : List Nat) : PV → PV
  | .int k => .int (cntN l k.toNat : Nat)
  | v => v
theorem cntOf_isI (l : List Nat) (k : Nat) : cntOf (isI (.int (k : Nat))) (l.map fun (k : Nat) => PV.int k) = (cntN l k : Nat) := by
  unfold cntOf cntN
  rw [List.filter_map, List.length_map]
  congr 2
  refine List.filter_congr fun p _ => ?_
  show ((p : Int) == (k : Int)) = (p == k)
  rw [Bool.eq_iff_iff]; simp only [beq_iff_eq]; exact o335
theorem cntY2_all (l : List Nat) (size : Nat) : ((((List.range size).map fun (k : Nat) => PV.int k).filter fun _ => true).map (cntY2 l)) = (cntL size l).map PV.int := by
  rw [List.filter_eq_self.mpr fun _ _ => rfl]
  unfold cntL
  rw [List.map_map, List.map_map]
  exact List.map_congr_left fun k _ => rfl
def ringY (step : Nat) : PV → PV
  | .int k => .int (if k % (step : Int) = 0 then 1 else 0)
  | v => v
theorem ringY_all (base step : Nat) : ((((List.range (base * step - step + 1)).map fun (k : Nat) => PV.int k).filter fun _ => true).map (ringY step)) = (ringL base step).map PV.int := by
  rw [List.filter_eq_self.mpr fun _ _ => rfl]
  unfold ringL
  rw [List.map_map, List.map_map]
  refine List.map_congr_left fun k _ => ?_
  show PV.int (if (k : Int) % (step : Int) = 0 then 1 else 0) = .int (if k % step = 0 then 1 else 0)
  congr 1
  by_cases h : k % step = 0
  · rw [if_pos h, if_pos (by rw [int_mod_nat, h]; rfl)]
  · rw [if_neg h, if_neg (by rw [int_mod_nat]; exact o302 h)]
end Mine

end
section
open PySem PySem.W PyProof.Rows PySem.Calls PySem.Spec PySem.Challenge
namespace Mine
theorem foldl_max (q : List Nat) : ∀ (m : Nat), m ≤ q.foldl max m ∧ (∀ x ∈ q, x ≤ q.foldl max m) ∧ (q.foldl max m = m ∨ q.foldl max m ∈ q) := by
  induction q with
  | nil => intro m; exact ⟨Nat.le_refl _, (fun x h => by cases h), .inl rfl⟩
  | cons a q ih =>
    intro m
    obtain ⟨h1, h2, h3⟩ := ih (max m a)
    refine ⟨by show m ≤ q.foldl max (max m a); exact o564 h1, fun x h => ?_, ?_⟩
    · show x ≤ q.foldl max (max m a)
      rcases List.mem_cons.mp h with rfl | h
      · exact o565 h1
      · exact h2 x h
    · show q.foldl max (max m a) = m ∨ q.foldl max (max m a) ∈ a :: q
      rcases h3 with h3 | h3
      · rcases (by exact o466 : max m a = m ∨ max m a = a) with h4 | h4
        · exact .inl (h3.trans h4)
        · exact .inr (by rw [h3, h4]; exact .head _)
      · exact .inr (.tail _ h3)
theorem maxN_le {l : List Nat} {x : Nat} (h : x ∈ l) : x ≤ maxN l := (foldl_max l 0).2.1 x h
theorem maxN_mem {l : List Nat} (h : l ≠ []) : maxN l ∈ l := by
  rcases (foldl_max l 0).2.2 with h1 | h1
  · match l, h with
    | a :: l, _ =>
      have : a ≤ maxN (a :: l) := maxN_le (.head _)
      have h2 : maxN (a :: l) = 0 := h1
      have : a = maxN (a :: l) := by exact o425 h2 this
      rw [← this]; exact .head _
  · exact h1
theorem toZ_max {l : List Nat} (h : l ≠ []) : ((maxN l : Nat) : Int) ∈ toZ l ∧ ∀ a ∈ toZ l, a ≤ ((maxN l : Nat) : Int) := by
  refine ⟨List.mem_map.mpr ⟨_, maxN_mem h, rfl⟩, fun a ha => ?_⟩
  obtain ⟨b, hb, rfl⟩ := List.mem_map.mp ha
  have := maxN_le hb; exact o26 this
theorem small_cnt {size : Nat} {l : List Nat} (h : l.length ≤ 8) : small (cntL size l) = true := by
  unfold small cntL
  rw [List.all_map]
  refine List.all_eq_true.mpr fun k _ => ?_
  have : cntN l k ≤ l.length := List.length_filter_le _ _
  simp only [Function.comp, Bool.and_eq_true, decide_eq_true_eq]
  exact o457 h this
/-- the number that makes the other places -/
theorem other_num {base size : Nat} (T : Int) (hb : 2 ≤ base) (hs : 0 < size) (hd : base ∣ size) : ∃ u : Nat, u % base = base - 1 ∧ ∀ p : Nat, ((base : Int) * T - 1) * p % size = ((u * p % size : Nat) : Int) := by
  have hs' : (0 : Int) < size := by exact o3 hs
  have h0 := Int.emod_nonneg ((base : Int) * T - 1) (Int.ne_of_gt hs')
  refine ⟨(((base : Int) * T - 1) % size).toNat, ?_, fun p => ?_⟩
  · have e : ((((((base : Int) * T - 1) % size).toNat % base : Nat)) : Int) = ((base - 1 : Nat) : Int) := by
      rw [Int.natCast_emod, Int.toNat_of_nonneg h0, Int.emod_emod_of_dvd _ (Int.ofNat_dvd.mpr hd)]
      have : ((base : Int) * T - 1) = ((base : Int) - 1) + base * (T - 1) := by rw [Int.mul_sub]; exact o162
      rw [this, Int.add_mul_emod_self_left, Int.emod_eq_of_lt (by exact o231 hb) (by exact o197)]; exact o634 hb
    exact_mod_cast e
  · rw [Int.natCast_emod, Int.natCast_mul, Int.toNat_of_nonneg h0, Int.mul_emod (_ % _), Int.emod_emod_of_dvd _ (Int.dvd_refl _), ← Int.mul_emod]
def otherY (b : Int) (size : Nat) : PV → PV
  | .int p => .int (b * p % size)
  | v => v
theorem fm_congr {α β : Type} {l : List α} {g h : α → List β} (e : ∀ a ∈ l, g a = h a) : l.flatMap g = l.flatMap h := by
  induction l with
  | nil => rfl
  | cons a l ih => rw [List.flatMap_cons, List.flatMap_cons, e a (.head _), ih fun x hx => e x (.tail _ hx)]
def spotsOf (ag : List (List Nat)) : PV → List PV
  | .int t => (ag.getD t.toNat []).map fun (k : Nat) => .int k
  | _ => []
theorem spots_all (ag : List (List Nat)) (found : List Nat) : PV.list ((found.map fun (k : Nat) => PV.int k).flatMap fun v => (spotsOf ag v).map fun u => u) = natL (found.flatMap fun t => ag.getD t []) := by
  unfold natL
  congr 1
  rw [List.map_flatMap, List.flatMap_map]
  refine fm_congr fun t _ => ?_
  rw [List.map_id']
  rfl
def sumY : PV → PV → PV
  | .int p, .int t => .int (p + t)
  | v, _ => v
theorem sums_all (places found : List Nat) : ((places.map fun (k : Nat) => PV.int k).flatMap fun v => (found.map fun (k : Nat) => PV.int k).map (sumY v)) = (sumsP places found).map fun (k : Nat) => PV.int k := by
  unfold sumsP
  rw [List.map_flatMap, List.flatMap_map]
  refine fm_congr fun p _ => ?_
  rw [List.map_map, List.map_map]
  refine List.map_congr_left fun t _ => ?_
  show PV.int ((p : Int) + t) = .int ((p + t : Nat) : Int)
  rw [Int.natCast_add]
theorem count_toZ (l : List Nat) (k : Nat) : (toZ l).count (k : Int) = l.count k := by
  unfold toZ
  induction l with
  | nil => rfl
  | cons a l ih =>
    rw [List.map_cons, List.count_cons, List.count_cons, ih]
    congr 1
    by_cases h : a = k
    · subst h; simp
    · rw [if_neg (by simp; exact o469 h), if_neg (by simpa using h)]
def dueC (sums : List Nat) : PV → PV
  | .int k => .int (((toZ sums).count k : Nat) : Int)
  | v => v
theorem due_all (places found : List Nat) (size : Nat) : ((rngL size ((maxN (sumsP places found) : Nat) + 1)).filter fun _ => true).map (dueC (sumsP places found)) = (dueP places found size).map fun (k : Nat) => PV.int k := by
  rw [List.filter_eq_self.mpr fun _ _ => rfl]
  unfold rngL dueP
  rw [List.map_map, List.map_map, show (((maxN (sumsP places found) : Nat) : Int) + 1 - (size : Int)).toNat = maxN (sumsP places found) + 1 - size by exact o329]
  refine List.map_congr_left fun j _ => ?_
  show PV.int (((toZ (sumsP places found)).count ((size : Int) + j) : Nat) : Int) = .int _
  rw [← Int.natCast_add, count_toZ]
end Mine

end
section
open PySem PySem.W PyProof.Rows PySem.Calls PySem.Spec PySem.Challenge
namespace Mine
theorem fillW1 : rw_ti0009_01 = rw_ti0009_01 ∧ hd.heap_39 = hd.heap_39 := by k_fill; exact ⟨rfl, rfl⟩
theorem ct_law (w : World) (ns : List Int) (hns : ns.length ≤ 63) : CTL w [47, 54] 24 218 [.ints ns] (.bool true) := by
  refine CTL.cells (names := [Str.ofString "script"]) (by k_is) (by k_is) ?_ rfl (by decide) rfl (by decide) (by rfl) (by decide) rfl rfl rfl ?_ (by decide)
  · intro s vs h; obtain ⟨a, rfl⟩ := len1 h; exact BindsTo.of_eq rfl
  intro f hw hrs
  subst hw
  have hz : (100000 : Nat) ≤ sizeLine := by decide
  obtain ⟨few, hfew⟩ : ∃ few, few = ns.length % 2 := ⟨_, rfl⟩
  have hf1 : few ≤ 1 := by exact o392 hfew
  obtain ⟨base, hbase⟩ : ∃ base, 2 + few = base := ⟨_, rfl⟩
  obtain ⟨reach, hreach⟩ : ∃ reach, 3 - few = reach := ⟨_, rfl⟩
  obtain ⟨size, hsize⟩ : ∃ size, base ^ reach = size := ⟨_, rfl⟩
  have hsz : 8 ≤ size ∧ size ≤ 9 := by
    rcases (by exact o10 hf1 : few = 0 ∨ few = 1) with h | h <;> subst h <;> subst hbase <;> subst hreach <;> subst hsize <;> decide
  obtain ⟨T, hT⟩ : ∃ T, ns.sum = T := ⟨_, rfl⟩
  obtain ⟨wd, hwd⟩ : ∃ wd : Nat, wd = (4 + T % 1400).toNat := ⟨_, rfl⟩
  have hw4 : 4 ≤ wd ∧ wd ≤ 1403 := by exact o189 hwd
  obtain ⟨c, hc⟩ : ∃ c : Nat, c = ((97 + T) % 55296).toNat := ⟨_, rfl⟩
  have hc1 : c < 55296 := by exact o188 hc
  refine SX.cons (SX.assign (EV.cast (EV.bin (EV.blt (g_len _) b_len (EL.cons (EV.var rfl rfl) EL.nil) (OPL.lenI (by exact o289 hns))) EV.cint (OP2.mod rfl rfl (by decide))) (show _ = PV.int (few : Nat) from by congr 1; exact o427 hfew)) ?_)
  refine SX.cons (SX.assignC (EV.cast (EV.bin EV.cint (EV.var rfl rfl) (OP2.add rfl rfl)) (show _ = PV.int (base : Nat) from by congr 1; exact o353 hbase)) rfl rfl ?_)
  refine SX.cons (SX.assign (EV.cast (EV.bin EV.cint (EV.var rfl rfl) (OP2.sub rfl rfl)) (show _ = PV.int (reach : Nat) from by congr 1; exact o397 hf1 hreach)) ?_)
  refine SX.cons (SX.assignC (EV.cast (EV.bin (EV.var rfl rfl) (EV.var rfl rfl) (OP2.pow rfl rfl (by exact o431 hf1 hreach) (by exact o354 hbase) ?_)) (show _ = PV.int (size : Nat) from by rw [Int.toNat_natCast, ← hsize, Int.natCast_pow])) rfl rfl ?_)
  · have e2 : (2 : Int) ^ 2 = 4 := by decide
    have h1 : Builtin.Int.intBits (base : Int) ≤ 2 := intBits_lt (by exact o0) (by exact o55 hf1 hbase)
    have : (Builtin.Int.intBits (base : Int) : Int) * reach ≤ 2 * 3 := Int.mul_le_mul (by exact o45 h1) (by exact o358 hreach) (by exact o0) (by exact o655)
    have e : (2 : Int) ^ 27 = 134217728 := by decide
    exact o70 this
  refine SX.cons (SX.assignC (EV.cast (EV.blt (g_sum _) b_sum (EL.cons (EV.var rfl rfl) EL.nil) (OPL.sum rfl)) (show _ = PV.rint T from by rw [hT])) rfl rfl ?_)
  refine SX.cons (SX.assign (EV.cast (EV.bin EV.cint (EV.bin (EV.var rfl rfl) EV.cint (OP2.mod rfl rfl (by decide))) (OP2.add rfl rfl)) (show _ = PV.int (wd : Nat) from by congr 1; exact o164 hwd)) ?_)
  refine SX.cons (SX.assign (EV.cast (EV.blt (g_chr _) b_chr (EL.cons (EV.bin (EV.bin EV.cint (EV.var rfl rfl) (OP2.add rfl rfl)) EV.cint (OP2.mod rfl rfl (by decide))) EL.nil) (OPL.chr rfl (by exact o170) (by exact o166))) (show _ = PV.tstr ⟨#[c]⟩ from by rw [hc])) ?_)
  let B1 : Rho := [(Str.ofString "script", .loc (.ints ns)), (Str.ofString "few", .loc (.int (few : Nat))), (Str.ofString "base", .cel (.int (base : Nat))), (Str.ofString "reach", .loc (.int (reach : Nat))), (Str.ofString "size", .cel (.int (size : Nat))), (Str.ofString "total", .cel (.rint T)), (Str.ofString "width", .loc (.int (wd : Nat))),
    (Str.ofString "places", .ucel), (Str.ofString "step", .ucel), (Str.ofString "found", .ucel), (Str.ofString "again", .ucel), (Str.ofString "sums", .ucel)]
  refine SX.cons' (Ψ := fun o => ∃ pm c', pm.asS = some (S [c']) ∧ (c' ≠ 46 ∧ c' ≠ 10 ∧ c' ≠ 13 ∧ c' < 60000) ∧ ∃ ρ, o = .nx ρ ∧ SubR ((Str.ofString "mark", .loc pm) :: B1) ρ)
    (SX.ite (EB.cmp (EV.var rfl rfl) EV.cstr (OP2.inS rfl rfl)) (fun q => ?_) (fun q => ?_)) ?_
  · exact SX.cons (SX.assign EV.cstr (SX.nil ⟨_, 98, (show _ = some (S [98]) from by decide +kernel), by decide, _, rfl, rfl, rfl, rfl, rfl, rfl, rfl, rfl, rfl, rfl, rfl, rfl, rfl, rfl, trivial⟩))
  · rw [mark_in] at q
    simp only [Bool.or_eq_false_iff, beq_eq_false_iff_ne] at q
    exact SX.nil ⟨_, c, rfl, ⟨q.1.1, q.2, q.1.2, by exact o249 hc1⟩, _, rfl, rfl, rfl, rfl, rfl, rfl, rfl, rfl, rfl, rfl, rfl, rfl, rfl, rfl, trivial⟩
  rintro o ⟨pm, c', hpm, ⟨h46, h10, h13, hc60⟩, ρ, rfl, hsub⟩
  refine SX.weaken (ρ' := (Str.ofString "mark", .loc pm) :: B1) ?_ hsub
  obtain ⟨places, hpl, hplen, hpnd, hplt⟩ := placesO_ok few hf1 ns (List.range (4 - few)) [] (by simp) List.nodup_nil (by intro p hp; cases hp)
  have F := facts few hf1 hplen hpnd hplt
  have Fdep := F.dep
  have Fwho := F.who
  have Fsml := F.sml
  have Frng := F.rng
  have Fsrh := F.srh
  clear F
  rw [hbase, hreach, hsize] at hplt hpl Fwho Fsml Fsrh Frng
  rw [hbase, hreach] at Fdep
  refine SX.cons (SX.assignC (EV.call (g_Lplaces _) (k_Lplaces _) (EL.cons (EV.var rfl rfl) (EL.cons (EV.var rfl rfl) (EL.cons (EV.var rfl rfl) EL.nil))) (ct_places (q := .ints ns) rfl hns hf1 (by exact o4 hsz.1) hpl)) rfl rfl ?_)
  have hsn : seenP places size (size - 1 + 1) = seenP places size size := by rw [show size - 1 + 1 = size by exact o238 hsz.1]
  refine SX.cons (SX.assign (EV.cast (EV.call (g_Lrounds _) (k_Lrounds _) (EL.cons (EV.var rfl rfl) (EL.cons (EV.var rfl rfl) (EL.cons (EV.var rfl rfl) (EL.cons (EV.cast (EV.bin (EV.var rfl rfl) EV.cint (OP2.sub rfl rfl)) (show _ = PV.int ((size - 1 : Nat) : Int) from by congr 1; exact o659 hsz.1)) EL.nil))))
    (ct_rounds (rounds := size - 1) hpm rfl (by exact o4 hsz.1) (by exact o95 hsz.2) hplt (by exact o391 hplen) (by exact o294 hsz.2) h46 h10 h13 hc60)) (show _ = natLL (seenP places size size) from by rw [hsn]; rfl)) ?_)
  refine SX.cons (SX.ite (b := false) (EB.cast (EB.or2 (EB.cmp (EV.var rfl rfl) (EV.list EL.nil) (OP2.seenNil (seen := seenP places size size) ?_)) (fun _ => EB.not (EB.bool (EV.call (g_Lhard _) (k_Lhard _) (EL.cons (EV.cast (EV.bin EV.cint (EV.var rfl rfl) (OP2.mul rfl rfl (IntMulOk.of_left (by decide)))) (show _ = PV.int ((4 * wd : Nat) : Int) from by congr 1)) EL.nil) (ct_hard (h := 4 * wd) (by exact o234 hw4.1) (by exact o273 hw4.2)))))) rfl) (fun q => by cases q) (fun _ => SX.nil ?_))
  · intro q; have := congrArg List.length q; unfold seenP at this; simp at this; exact o239 hsz.1 this
  have hnum : ∀ d ∈ cntL size places, 0 ≤ d ∧ d < 2 ^ wd := small_of wd hw4.1 Fsml
  have hcl : (cntL size places).length = size := cntP_len _ _
  obtain ⟨nm, hnm⟩ : ∃ nm, dval wd (cntL size places) = nm := ⟨_, rfl⟩
  refine SX.cons (SX.assign (EV.cast (EV.call (g_digits2int _) (k_digits2int _) (EL.cons (EV.cast (EV.comp (l := (List.range size).map fun (k : Nat) => PV.int k) (ρ₂ := fun v => [(Str.ofString "k", .loc v), (Str.ofString "places", .fre (natL places))]) (p := fun _ => true) (y := cntY2 places)
      (by rw [← rngL_nat]; exact IT.range (EV.ty (g_range _) b_range (EL.cons (EV.var rfl rfl) EL.nil) (OPL.range1 rfl)) (by decide) (by decide) (by exact o1) (by exact o23 hsz.2))
      ⟨fun f' hw v hv => ASO.loc (by rfl), fun f' hw v hv => TS.nil, fun f' hw v hv _ => ?_, fun v hv => ⟨⟨rfl, trivial⟩, ⟨rfl, trivial⟩⟩⟩ (by rw [List.length_map, List.length_range]; exact o105 hz hsz.2)) (congrArg PV.list (cntY2_all places size))) (EL.cons (EV.var rfl rfl) EL.nil))
    (ct_d2i (ds := cntL size places) (n := wd) (B := wd) (by exact o125 hsz.2 hcl) (by exact o5 hw4.2) (by exact o5 hw4.2) hnum)) (congrArg PV.int hnm)) ?_)
  · obtain ⟨k, hk, rfl⟩ := List.mem_map.mp hv
    refine EV.cast (EV.call (g_countOf _) (k_countOf _) (EL.cons (EV.var rfl rfl) (EL.cons (EV.var rfl rfl) EL.nil)) (ct_countOf (g := isI (.int (k : Nat))) (IterOf.list _) ?_)) (congrArg PV.int (cntOf_isI places k))
    intro x hx
    obtain ⟨p, _, rfl⟩ := List.mem_map.mp hx
    rfl
  refine SX.cons (SX.assign EV.cint ?_)
  let B2 : Rho := [(Str.ofString "number", .loc (.int nm)), (Str.ofString "seen", .loc (natLL (seenP places size size))), (Str.ofString "few", .loc (.int (few : Nat))), (Str.ofString "base", .cel (.int (base : Nat))), (Str.ofString "reach", .loc (.int (reach : Nat))), (Str.ofString "size", .cel (.int (size : Nat))), (Str.ofString "total", .cel (.rint T)), (Str.ofString "width", .loc (.int (wd : Nat))), (Str.ofString "mark", .loc pm),
    (Str.ofString "places", .cel (natL places)), (Str.ofString "found", .ucel), (Str.ofString "again", .ucel), (Str.ofString "sums", .ucel)]
  let cg : Nat → Nat := fun i => ((List.range i).filter fun d => evenP places base (base ^ d)).length
  refine SX.cons (SX.for (fun l' ρ => ∃ i : Nat, i ≤ reach ∧ l' = ((List.range reach).drop i).map (fun (k : Nat) => PV.int k) ∧ (∃ e, ρ.lookup (Str.ofString "step") = some e ∧ e.isCel = true) ∧ SubR ((Str.ofString "goes", .loc (.int (cg i : Nat))) :: B2) ρ)
    (IT.range (EV.ty (g_range _) b_range (EL.cons (EV.var rfl rfl) EL.nil) (OPL.range1 rfl)) (by decide) (by decide) (by exact o1) (by exact o357 hreach)) ⟨0, Nat.zero_le _, by rw [rngL_nat]; rfl, ⟨_, rfl, rfl⟩, rfl, rfl, rfl, rfl, rfl, rfl, rfl, rfl, rfl, rfl, rfl, rfl, rfl, rfl, trivial⟩ ?_ ?_)
  · rintro x l' ρ ⟨i, hi, hl', ⟨e, hst1, hst2⟩, hsub⟩
    have hil : i < reach := by
      have := congrArg List.length hl'
      simp at this; exact o32 this
    rw [List.drop_eq_getElem_cons (by simpa using hil), List.map_cons] at hl'
    injection hl' with h1 h2
    have hx : x = .int (i : Nat) := by rw [h1]; simp
    subst hx
    refine ⟨_, AS.loc, ?_⟩
    refine SX.weaken (ρ' := (Str.ofString "step", e) :: (Str.ofString "depth", .loc (.int (i : Nat))) :: (Str.ofString "goes", .loc (.int (cg i : Nat))) :: B2) ?_ ⟨hst1, rfl, hsub.lookup rfl, hsub.lookup rfl, hsub.lookup rfl, hsub.lookup rfl, hsub.lookup rfl, hsub.lookup rfl, hsub.lookup rfl, hsub.lookup rfl, hsub.lookup rfl, hsub.lookup rfl, hsub.lookup rfl, hsub.lookup rfl, hsub.lookup rfl, hsub.lookup rfl, trivial⟩
    have hstep : 0 < base ^ i ∧ base ^ i ≤ 9 ∧ base * base ^ i ≤ 9 := by
      rcases (by exact o10 hf1 : few = 0 ∨ few = 1) with h | h <;> subst h <;> subst hbase <;> subst hreach
      · rcases (by exact o82 hil : i = 0 ∨ i = 1 ∨ i = 2) with h | h | h <;> subst h <;> decide
      · rcases (by exact o83 hil : i = 0 ∨ i = 1) with h | h <;> subst h <;> decide
    have R := ring_ok (w := wd) (few := few) (d := i) hw4.1 hw4.2 hf1 (by exact o508 hreach hil) (cs := cntL size places) (ev := evenP places base (base ^ i)) Fsml (by exact o460 hsz.2 hcl) (by rw [hbase]; exact Frng i (by exact o379 hil))
    rw [hbase] at R
    have hcg : (cg i : Int) + (if evenP places base (base ^ i) = true then 1 else 0) = (cg (i + 1) : Nat) := by
      show ((((List.range i).filter fun d => evenP places base (base ^ d)).length : Nat) : Int) + _ = ((((List.range (i + 1)).filter fun d => evenP places base (base ^ d)).length : Nat) : Int)
      rw [List.range_succ, List.filter_append, List.length_append, List.filter_cons]
      by_cases q : evenP places base (base ^ i) = true
      · rw [if_pos q, if_pos q]; simp
      · rw [if_neg q, if_neg q]; simp
    generalize hev : evenP places base (base ^ i) = ev at R hcg
    have e2 : (2 : Int) ^ 2 = 4 := by decide
    have e27 : (2 : Int) ^ 27 = 134217728 := by decide
    have hib : Builtin.Int.intBits (base : Int) ≤ 2 := intBits_lt (by exact o0) (by exact o55 hf1 hbase)
    refine SX.cons (SX.assignC (EV.cast (EV.bin (EV.var rfl rfl) (EV.var rfl rfl) (OP2.pow0 rfl rfl (by exact o0) ?_)) (show _ = PV.int ((base ^ i : Nat) : Int) from by rw [Int.toNat_natCast, Int.natCast_pow])) rfl hst2 ?_)
    · have : (Builtin.Int.intBits (base : Int) : Int) * i ≤ 2 * 3 := Int.mul_le_mul (by exact o45 hib) (by exact o507 hreach hil) (by exact o0) (by exact o655)
      exact o70 this
    obtain ⟨st, hst⟩ : ∃ st, base ^ i = st := ⟨_, rfl⟩
    rw [hst] at R hstep hev
    rw [hst]
    refine SX.cons (SX.assign (EV.call (g_digits2int _) (k_digits2int _) (EL.cons (EV.cast (EV.comp (l := (List.range (base * st - st + 1)).map fun (k : Nat) => PV.int k) (ρ₂ := fun v => [(Str.ofString "k", .loc v), (Str.ofString "step", .fre (.int (st : Nat)))]) (p := fun _ => true) (y := ringY st)
        (by rw [← rngL_nat]; exact IT.range (EV.ty (g_range _) b_range (EL.cons (EV.cast (EV.bin (EV.bin (EV.bin (EV.var rfl rfl) (EV.var rfl rfl) (OP2.mul rfl rfl (smallMul (by exact o430 hf1 hbase : base ≤ 100) (by exact o93 hstep.2.1 : st ≤ 100)))) (EV.var rfl rfl) (OP2.sub rfl rfl)) EV.cint (OP2.add rfl rfl)) (show _ = PV.int ((base * st - st + 1 : Nat) : Int) from by
          have : st ≤ base * st := Nat.le_mul_of_pos_left _ (by exact o106 hbase)
          congr 1; rw [← Int.natCast_mul]; exact o660 this)) EL.nil) (OPL.range1 rfl)) (by decide) (by decide) (by exact o661) (by exact o662 hstep.2.2))
        ⟨fun f' hw v hv => ASO.loc (by rfl), fun f' hw v hv => TS.nil, fun f' hw v hv _ => ?_, fun v hv => ⟨⟨rfl, trivial⟩, ⟨rfl, trivial⟩⟩⟩ (by rw [List.length_map, List.length_range]; exact o502 hz hstep.2.2)) (congrArg PV.list (ringY_all base st))) (EL.cons (EV.var rfl rfl) EL.nil))
      (ct_d2i (ds := ringL base st) (n := wd) (B := wd) R.len (by exact o5 hw4.2) (by exact o5 hw4.2) R.dig)) ?_)
    · obtain ⟨k, hk, rfl⟩ := List.mem_map.mp hv
      refine EV.ifexp (EB.cmp (EV.bin (EV.var rfl rfl) (EV.var rfl rfl) (OP2.mod rfl rfl (by exact o3 hstep.1))) EV.cint (OP2.eqI rfl rfl)) (fun q => ?_) (fun q => ?_)
      · refine EV.cast EV.cint (congrArg PV.int (if_pos ?_).symm)
        exact eq_of_beq q
      · refine EV.cast EV.cint (congrArg PV.int (if_neg ?_).symm)
        exact fun e => by rw [e] at q; cases q
    have rd1 := R.d1
    have rd2 := R.d2
    have rmul := R.mul
    have rev := R.ev
    clear R
    generalize hrg : dval wd (ringL base st) = rg at *
    rw [hnm] at rd1 rd2 rmul rev
    refine SX.cons (SX.unpack2 (EV.call (g_divmodpos _) (k_divmodpos _) (EL.cons (EV.var rfl rfl) (EL.cons (EV.var rfl rfl) EL.nil)) (ct_dm rd1)) ?_)
    have hr0 := Int.emod_nonneg nm (Int.ne_of_gt rd1.b0)
    have hr1 := Int.emod_lt_of_pos nm rd1.b0
    refine SX.cons (SX.ite (b := false) (EB.cast (EB.or2 (EB.cmp (EV.call (g_add _) (k_add _) (EL.cons (EV.call (g_mul _) (k_mul _) (EL.cons (EV.var rfl rfl) (EL.cons (EV.var rfl rfl) EL.nil)) (ct_mul rfl rfl rmul)) (EL.cons (EV.var rfl rfl) EL.nil)) (ct_add rfl rfl)) (EV.var rfl rfl) (OP2.neI rfl rfl)) (fun _ => EB.not (EB.chain2 EV.cint (EV.var rfl rfl) (OP2.leI rfl rfl) (EV.var rfl rfl) (OP2.ltI rfl rfl)))) ?_) (fun q => by cases q) (fun _ => SX.nil ?_))
    · have : nm / rg * rg + nm % rg = nm := by rw [Int.mul_comm]; exact Int.mul_ediv_add_emod nm rg
      rw [this, decide_eq_true hr0, decide_eq_true hr1]; simp
    refine SX.cons (SX.ite (b := false) (EB.cast (EB.cmp (EV.call (g_divmodpos _) (k_divmodpos _) (EL.cons (EV.var rfl rfl) (EL.cons (EV.var rfl rfl) EL.nil)) (ct_dm rd2)) (EV.tuple (EL.cons EV.cint (EL.cons (EV.var rfl rfl) EL.nil))) OP2.neT2) ?_) (fun q => by cases q) (fun _ => SX.nil ?_))
    · rw [Int.ediv_eq_zero_of_lt hr0 hr1, Int.emod_eq_of_lt hr0 hr1]; simp
    refine SX.cons (SX.ite (b := false) (EB.cast (EB.cmp (EV.cmp (EV.var rfl rfl) EV.cint (OP2.eqI rfl rfl)) (EV.call (g_Leven _) (k_Leven _) (EL.cons (EV.var rfl rfl) (EL.cons (EV.var rfl rfl) (EL.cons (EV.var rfl rfl) EL.nil))) (ct_even (by exact o106 hbase) (by exact o118 hf1 hbase) (by exact o212 hstep.1) (by exact o93 hstep.2.1) (by exact o111 hplen))) OP2.neB) ?_) (fun q => by cases q) (fun _ => SX.nil ?_))
    · rw [rev, hev]; cases ev <;> rfl
    refine SX.cons (SX.assign (EV.cast (EV.bin (EV.var rfl rfl) (EV.ifexp (a := .int (if ev = true then 1 else 0)) (EB.cmp (EV.var rfl rfl) EV.cint (OP2.eqI rfl rfl)) (fun q => ?_) (fun q => ?_)) (OP2.add rfl rfl)) (congrArg PV.int hcg)) (SX.nil ?_))
    · rw [rev] at q; exact EV.cast EV.cint (by rw [q]; rfl)
    · rw [rev] at q; exact EV.cast EV.cint (by rw [q]; rfl)
    exact ⟨(Str.ofString "goes", .loc (.int (cg (i + 1) : Nat))) :: (Str.ofString "step", .cel (.int (st : Nat))) :: B2, ⟨rfl, rfl, rfl, rfl, rfl, rfl, rfl, rfl, rfl, rfl, rfl, rfl, rfl, rfl, rfl, trivial⟩, i + 1, hil, h2, ⟨_, rfl, rfl⟩, rfl, rfl, rfl, rfl, rfl, rfl, rfl, rfl, rfl, rfl, rfl, rfl, rfl, rfl, trivial⟩
  rintro ρ ⟨i, hi, hl', -, hsub⟩
  have hir : i = reach := by
    have := congrArg List.length hl'
    simp at this; exact o49 this hi
  subst hir
  refine SX.weaken (SX.nil ?_) hsub
  obtain ⟨r, hr, hgo, hdp, htile⟩ := Fsrh
  have hseenL : (seenP places size size).length = size := by unfold seenP; simp
  have hseenM : ∀ l ∈ seenP places size size, l.length = places.length ∧ ∀ s ∈ l, s < size := by
    intro l hl
    unfold seenP at hl
    obtain ⟨t, _, rfl⟩ := List.mem_map.mp hl
    refine ⟨List.length_map _, fun s hs => ?_⟩
    obtain ⟨p, _, rfl⟩ := List.mem_map.mp hs
    exact Nat.mod_lt _ (by exact o4 hsz.1)
  refine SX.cons (SX.assign (EV.call (g_Lmasks _) (k_Lmasks _) (EL.cons (EV.var rfl rfl) EL.nil) (ct_masks (seen := seenP places size size) (by exact o124 hsz.2 hseenL) (fun l hl => ⟨by have := (hseenM l hl).1; exact o537 hplen this, fun s hs => by have := (hseenM l hl).2 s hs; exact o458 hsz.2 this⟩))) ?_)
  obtain ⟨masks, hmk⟩ : ∃ masks, (seenP places size size).map (maskOf 0) = masks := ⟨_, rfl⟩
  have hmkl : masks.length = size := by rw [← hmk, List.length_map, hseenL]
  rw [hmk] at hr Fwho
  rw [hmk]
  refine SX.cons (SX.assign EV.cint ?_)
  let B3 : Rho := (Str.ofString "masks", .loc (natL masks)) :: (Str.ofString "goes", .loc (.int (cg i : Nat))) :: B2
  refine SX.cons (SX.for (fun l' ρ => ∃ (ms : List Nat) (acc : Nat), l' = ms.map (fun (k : Nat) => PV.int k) ∧ ms.foldl (fun m x => m ||| x) acc = 2 ^ size - 1 ∧ SubR ((Str.ofString "whole", .loc (.int (acc : Nat))) :: B3) ρ)
    (IT.list (EV.var rfl rfl)) ⟨masks, 0, rfl, Fwho, rfl, rfl, rfl, rfl, rfl, rfl, rfl, rfl, rfl, rfl, rfl, rfl, rfl, rfl, rfl, rfl, trivial⟩ ?_ ?_)
  · rintro x l' ρ ⟨ms, acc, hl'', hfold, hsub⟩
    cases ms with
    | nil => cases hl''
    | cons m ms =>
      injection hl'' with h1 h2
      subst h1
      refine ⟨_, AS.loc, ?_⟩
      refine SX.weaken (ρ' := (Str.ofString "mask", .loc (.int (m : Nat))) :: (Str.ofString "whole", .loc (.int (acc : Nat))) :: B3) ?_ ⟨rfl, hsub.lookup rfl, hsub.lookup rfl, hsub.lookup rfl, hsub.lookup rfl, hsub.lookup rfl, hsub.lookup rfl, hsub.lookup rfl, hsub.lookup rfl, hsub.lookup rfl, hsub.lookup rfl, hsub.lookup rfl, hsub.lookup rfl, hsub.lookup rfl, hsub.lookup rfl, hsub.lookup rfl, hsub.lookup rfl, trivial⟩
      refine SX.cons (SX.assign (EV.cast (EV.call (g_or _) (k_or _) (EL.cons (EV.var rfl rfl) (EL.cons (EV.var rfl rfl) EL.nil)) (ct_or rfl rfl)) (congrArg PV.int (bitOr_nat acc m))) (SX.nil ?_))
      exact ⟨(Str.ofString "whole", .loc (.int ((acc ||| m : Nat) : Int))) :: B3, ⟨rfl, rfl, rfl, rfl, rfl, rfl, rfl, rfl, rfl, rfl, rfl, rfl, rfl, rfl, rfl, rfl, trivial⟩, ms, acc ||| m, h2, hfold, rfl, rfl, rfl, rfl, rfl, rfl, rfl, rfl, rfl, rfl, rfl, rfl, rfl, rfl, rfl, rfl, trivial⟩
  rintro ρ ⟨ms, acc, hl'', hfold, hsub⟩
  cases ms with
  | cons m ms => cases hl''
  | nil =>
    refine SX.weaken (SX.nil ?_) hsub
    have hacc : acc = 2 ^ size - 1 := hfold
    refine SX.cons (SX.ite (b := false) (EB.cast (EB.cmp (EV.var rfl rfl) (EV.bin (EV.bin EV.cint (EV.var rfl rfl) (OP2.shl rfl rfl (by exact o0) ?_)) EV.cint (OP2.sub rfl rfl)) (OP2.neI rfl rfl)) ?_) (fun q => by cases q) (fun _ => SX.nil ?_))
    · have : Builtin.Int.intBits 1 = 1 := by decide
      have e27 : (2 : Int) ^ 27 = 134217728 := by decide
      rw [this]; exact o292 hsz.2
    · rw [hacc, Int.toNat_natCast, Int.one_mul]
      have := Nat.two_pow_pos size
      rw [Int.natCast_sub (by exact o77 this), pow_cast]; simp
    refine SX.cons (SX.assignC (EV.callS hrs (g_Lsearch _) (k_Lsearch _) (EL.cons (EV.var rfl rfl) (EL.cons EV.cint (EL.cons (EV.var rfl rfl) EL.nil))) (ct_search hmkl (by exact o94 hsz.2) 12 0 r hr (by decide)) (by decide)) rfl rfl ?_)
    refine SX.cons (SX.assign (EV.cast (EV.cmp (EV.var rfl rfl) EV.cnone OP2.isNot) (show _ = PV.bool r.isSome from by cases r <;> rfl)) ?_)
    have g1 : (((cg i : Nat) : Int) == 2 - (few : Int)) = r.isSome := by
      rw [← hgo, Bool.eq_iff_iff]
      simp only [beq_iff_eq]
      show (((goesP places base i : Nat) : Int) = _) ↔ _
      exact o117 hf1
    have g2 : ((((depthsP places base i).length : Nat) : Int) == 2 - (few : Int)) = r.isSome := by
      rw [← hdp, Bool.eq_iff_iff]
      simp only [beq_iff_eq]
      exact o117 hf1
    refine SX.cons (SX.ite (b := false) (EB.cast (EB.or2 (EB.cmp (EV.cmp (EV.var rfl rfl) (EV.bin EV.cint (EV.var rfl rfl) (OP2.sub rfl rfl)) (OP2.eqI rfl rfl)) (EV.var rfl rfl) OP2.neB)
      (fun _ => EB.cmp (EV.cmp (EV.call (g_Ldepths _) (k_Ldepths _) (EL.cons (EV.var rfl rfl) (EL.cons (EV.var rfl rfl) (EL.cons (EV.var rfl rfl) EL.nil))) (ct_depths (places := places) (by exact o355 hbase) (by exact o118 hf1 hbase) (by exact o359 hreach) (by exact o111 hplen) Fdep)) (EV.bin EV.cint (EV.var rfl rfl) (OP2.sub rfl rfl)) (OP2.eqI rfl rfl)) (EV.var rfl rfl) OP2.neB)) ?_) (fun q => by cases q) (fun _ => SX.nil ?_))
    · rw [g1, g2]; cases r <;> rfl
    refine SX.cons (SX.ite (EB.not (EB.bool (EV.var rfl rfl))) (fun q => SX.cons (SX.ret EV.cbool rfl)) (fun q => SX.nil ?_))
    cases r with
    | none => cases q
    | some found =>
    clear q g1 g2 hgo hdp
    have t := htile found rfl
    clear htile
    obtain ⟨tne, tlt, tlen, tcov, tag, tones, tlowS, tlowL, thi, tdueS, tdueL, tdueT⟩ := t
    refine SX.cons (SX.ite (b := false) (EB.cast (EB.not (EB.bool (EV.call (g_Lcovers _) (k_Lcovers _) (EL.cons (EV.var rfl rfl) (EL.cons (EV.var rfl rfl) (EL.cons (EV.var rfl rfl) EL.nil))) (ct_covers (found := found) (seen := seenP places size size) (size := size) (fun t ht => by have := tlt t ht; exact o30 this hseenL) (by exact o290 tlen) (fun l hl => by have := (hseenM l hl).1; exact o139 hplen this) (by exact o124 hsz.2 hseenL) (by exact o94 hsz.2) (fun l hl k hk => by have := (hseenM l hl).2 k hk; exact o123 hsz.2 this))))) (by rw [tcov]; rfl)) (fun q => by cases q) (fun _ => SX.nil ?_))
    have hdvd : base ∣ size := by
      rw [← hsize]
      obtain ⟨m, hm⟩ : ∃ m, i = m + 1 := ⟨i - 1, by exact o432 hf1 hreach⟩
      rw [hm, Nat.pow_succ]; exact Nat.dvd_mul_left _ _
    obtain ⟨u, hu, hup⟩ := other_num (base := base) (size := size) T (by exact o356 hbase) (by exact o4 hsz.1) hdvd
    have tag' := tag u hu
    clear tag
    obtain ⟨oth, hoth⟩ : ∃ oth, (places.map fun p => (u * p) % size) = oth := ⟨_, rfl⟩
    rw [hoth] at tag'
    have hothL : oth.length = places.length := by rw [← hoth, List.length_map]
    have hothB : ∀ p ∈ oth, p < size := by
      intro p hp; rw [← hoth] at hp
      obtain ⟨q, _, rfl⟩ := List.mem_map.mp hp
      exact Nat.mod_lt _ (by exact o4 hsz.1)
    have hbi : Builtin.Int.intBits (base : Int) ≤ 64 := Nat.le_trans (intBits_lt (n := 2) (by exact o0) (by exact o55 hf1 hbase)) (by decide)
    have hpi : ∀ p : Nat, p < 16 → Builtin.Int.intBits (p : Int) ≤ 64 := fun p hp => Nat.le_trans (intBits_lt (n := 4) (by exact o0) (by exact o244 hp)) (by decide)
    refine SX.cons (SX.comp (l := places.map fun (k : Nat) => PV.int k) (ρ₂ := fun v => [(Str.ofString "place", .loc v), (Str.ofString "base", .fre (.int (base : Nat))), (Str.ofString "size", .fre (.int (size : Nat))), (Str.ofString "total", .fre (.rint T))]) (p := fun _ => true) (y := otherY ((base : Int) * T - 1) size) (IT.list (EV.var rfl rfl))
      ⟨fun f' hw v hv => ASO.loc (by rfl), fun f' hw v hv => TS.nil, fun f' hw v hv _ => ?_, fun v hv => ⟨⟨rfl, rfl, rfl, trivial⟩, ⟨rfl, rfl, rfl, trivial⟩⟩⟩ (by rw [List.length_map]; exact o496 hz hplen) ?_)
    · obtain ⟨p, hp1, rfl⟩ := List.mem_map.mp hv
      have hps := hplt p hp1
      exact EV.call (g_mod _) (k_mod _) (EL.cons (EV.call (g_mul _) (k_mul _) (EL.cons (EV.call (g_sub _) (k_sub _) (EL.cons (EV.call (g_mul _) (k_mul _) (EL.cons (EV.var rfl rfl) (EL.cons (EV.var rfl rfl) EL.nil)) (ct_mul rfl rfl (IntMulOk.of_left hbi))) (EL.cons EV.cint EL.nil)) (ct_sub rfl rfl)) (EL.cons (EV.var rfl rfl) EL.nil)) (ct_mul rfl rfl (IntMulOk.of_right (hpi p (by exact o122 hsz.2 hps))))) (EL.cons (EV.var rfl rfl) EL.nil)) (ct_mod rfl rfl (by exact o80 hsz.1))
    have hov : PV.list (((places.map fun (k : Nat) => PV.int k).filter fun _ => true).map (otherY ((base : Int) * T - 1) size)) = natL oth := by
      rw [List.filter_eq_self.mpr fun _ _ => rfl, ← hoth]
      unfold natL
      rw [List.map_map, List.map_map]
      refine congrArg PV.list (List.map_congr_left fun p _ => ?_)
      show PV.int (((base : Int) * T - 1) * p % size) = .int ((u * p % size : Nat) : Int)
      rw [hup]
    rw [hov]
    let B4 : Rho := [(Str.ofString "others", .loc (natL oth)), (Str.ofString "found", .cel (natL found)), (Str.ofString "number", .loc (.int nm)), (Str.ofString "size", .cel (.int (size : Nat))), (Str.ofString "base", .cel (.int (base : Nat))), (Str.ofString "total", .cel (.rint T)), (Str.ofString "width", .loc (.int (wd : Nat))), (Str.ofString "mark", .loc pm), (Str.ofString "places", .cel (natL places)), (Str.ofString "again", .ucel), (Str.ofString "sums", .ucel)]
    refine SX.cons (SX.for (fun l' ρ => ∃ j : Nat, j ≤ places.length ∧ l' = ((List.range places.length).drop j).map (fun (k : Nat) => PV.int k) ∧ SubR B4 ρ)
      (IT.range (EV.ty (g_range _) b_range (EL.cons (EV.cast (EV.blt (g_len _) b_len (EL.cons (EV.var rfl rfl) EL.nil) (OPL.len (by rw [List.length_map]; exact o390 hplen))) (by rw [List.length_map])) EL.nil) (OPL.range1 rfl)) (by decide) (by decide) (by exact o1) (by exact o389 hplen)) ⟨0, Nat.zero_le _, by rw [rngL_nat]; rfl, rfl, rfl, rfl, rfl, rfl, rfl, rfl, rfl, rfl, rfl, rfl, trivial⟩ ?_ ?_)
    · rintro x l' ρ ⟨j, hj, hl'', hsub⟩
      have hjl : j < places.length := by
        have := congrArg List.length hl''
        simp at this; exact o32 this
      rw [List.drop_eq_getElem_cons (by simpa using hjl), List.map_cons] at hl''
      injection hl'' with h1' h2'
      have hx : x = .int (j : Nat) := by rw [h1']; simp
      subst hx
      refine ⟨_, AS.loc, ?_⟩
      refine SX.weaken (ρ' := (Str.ofString "k", .loc (.int (j : Nat))) :: B4) ?_ ⟨rfl, hsub.lookup rfl, hsub.lookup rfl, hsub.lookup rfl, hsub.lookup rfl, hsub.lookup rfl, hsub.lookup rfl, hsub.lookup rfl, hsub.lookup rfl, hsub.lookup rfl, hsub.lookup rfl, hsub.lookup rfl, trivial⟩
      have hjj : (j : Int) < 2 ^ 40 := by exact o522 hjl hplen
      have hpj := hplt _ (List.getElem_mem hjl)
      have ho1 : (places.map fun (k : Nat) => PV.int k)[((j : Nat) : Int).toNat]? = some (.int ((places[j] : Nat) : Int)) := by
        rw [Int.toNat_natCast, List.getElem?_map, List.getElem?_eq_getElem hjl]; rfl
      have hjo : j < oth.length := by exact o30 hjl hothL
      have ho2 : (oth.map fun (k : Nat) => PV.int k)[((j : Nat) : Int).toNat]? = some (.int ((oth[j] : Nat) : Int)) := by
        rw [Int.toNat_natCast, List.getElem?_map, List.getElem?_eq_getElem hjo]; rfl
      have hoj : ((oth[j] : Nat) : Int) = ((base : Int) * T - 1) * (places[j] : Nat) % size := by
        rw [hup]; congr 1; simp [← hoth]
      have hob := hothB _ (List.getElem_mem hjo)
      refine SX.cons (SX.ite (b := false) (EB.cast (EB.or2 (EB.not (EB.chain2 EV.cint (EV.item (EQL.of (EV.var rfl rfl)) (EV.var rfl rfl) rfl (Int.natCast_nonneg j) hjj ho2) (OP2.leI rfl rfl) (EV.var rfl rfl) (OP2.ltI rfl rfl)))
        (fun _ => EB.cmp (EV.bin (EV.bin (EV.item (EQL.of (EV.var rfl rfl)) (EV.var rfl rfl) rfl (Int.natCast_nonneg j) hjj ho2) (EV.bin (EV.bin (EV.bin (EV.var rfl rfl) (EV.var rfl rfl) (OP2.mul rfl rfl (IntMulOk.of_left hbi))) EV.cint (OP2.sub rfl rfl)) (EV.item (EQL.of (EV.var rfl rfl)) (EV.var rfl rfl) rfl (Int.natCast_nonneg j) hjj ho1) (OP2.mul rfl rfl (IntMulOk.of_right (hpi _ (by exact o122 hsz.2 hpj))))) (OP2.sub rfl rfl)) (EV.var rfl rfl) (OP2.mod rfl rfl (by exact o80 hsz.1))) EV.cint (OP2.neI rfl rfl))) ?_) (fun q => by cases q) (fun _ => SX.nil ?_))
      · rw [decide_eq_true (show (0 : Int) ≤ ((oth[j] : Nat) : Int) by exact o0), decide_eq_true (show ((oth[j] : Nat) : Int) < size by exact o109 hob)]
        have : (((oth[j] : Nat) : Int) - ((base : Int) * T - 1) * (places[j] : Nat)) % size = 0 := by
          rw [hoj, Int.sub_emod, Int.emod_emod_of_dvd _ (Int.dvd_refl _), Int.sub_self, Int.zero_emod]
        rw [this]; rfl
      exact SX.nil ⟨B4, ⟨rfl, rfl, rfl, rfl, rfl, rfl, rfl, rfl, rfl, rfl, rfl, trivial⟩, j + 1, hjl, h2', rfl, rfl, rfl, rfl, rfl, rfl, rfl, rfl, rfl, rfl, rfl, trivial⟩
    rintro ρ ⟨j, hj, hl'', hsub⟩
    clear hj hl''
    refine SX.weaken (SX.nil ?_) hsub
    have happ : ∀ a b : List Nat, PV.list ((a.map fun (k : Nat) => PV.int k) ++ b.map fun (k : Nat) => PV.int k) = natL (a ++ b) := fun a b => by unfold natL; rw [List.map_append]
    refine SX.cons (SX.ite (b := false) (EB.cast (EB.cmp (EV.cast (EV.call (g_concat _) (k_concat _) (EL.cons (EV.var rfl rfl) (EL.cons (EV.var rfl rfl) EL.nil)) (ct_concatL (by rw [List.length_map, List.length_map]; exact o145 hz hplen hothL))) (happ places oth)) (EV.cast (EV.bin (EV.var rfl rfl) (EV.var rfl rfl) (OP2.addL (by rw [List.length_map, List.length_map]; exact o145 hz hplen hothL))) (happ places oth)) (OP2.neI2 (asInts_natL _) (asInts_natL _))) (by simp)) (fun q => by cases q) (fun _ => SX.nil ?_))
    obtain ⟨hM1, hM2⟩ := toZ_max tne
    have hMs : maxN found < size := tlt _ (maxN_mem tne)
    refine SX.cons (SX.assignC (EV.call (g_Lrounds _) (k_Lrounds _) (EL.cons (EV.var rfl rfl) (EL.cons (EV.var rfl rfl) (EL.cons (EV.var rfl rfl) (EL.cons (EV.blt (g_max _) b_max (EL.cons (EV.var rfl rfl) EL.nil) (OPL.max (asInts_natL found) hM1 hM2)) EL.nil))))
      (ct_rounds (places := oth) (rounds := maxN found) hpm rfl (by exact o4 hsz.1) (by exact o95 hsz.2) hothB (by exact o536 hplen hothL) (by exact o459 hsz.2 hMs) h46 h10 h13 hc60)) rfl rfl ?_)
    obtain ⟨ag, hag⟩ : ∃ ag, seenP oth size (maxN found + 1) = ag := ⟨_, rfl⟩
    rw [hag] at tag' ⊢
    have hagl : ag.length = maxN found + 1 := by rw [← hag]; unfold seenP; simp
    have hagm : ∀ l ∈ ag, l.length ≤ 4 ∧ ∀ s ∈ l, s < size := by
      intro l hl
      rw [← hag] at hl
      unfold seenP at hl
      obtain ⟨t, _, rfl⟩ := List.mem_map.mp hl
      refine ⟨by rw [List.length_map]; exact o139 hplen hothL, fun s hs => ?_⟩
      obtain ⟨p, _, rfl⟩ := List.mem_map.mp hs
      exact Nat.mod_lt _ (by exact o4 hsz.1)
    refine SX.cons (SX.ite (b := false) (EB.cmp (EV.var rfl rfl) (EV.list EL.nil) (OP2.seenNil (seen := ag) (by intro q; rw [q] at hagl; cases hagl))) (fun q => by cases q) (fun _ => SX.nil ?_))
    obtain ⟨sp, hsp⟩ : ∃ sp, (found.flatMap fun t => ag.getD t []) = sp := ⟨_, rfl⟩
    have hspl : sp.length ≤ 32 := by
      rw [← hsp]
      have : ∀ l : List Nat, (∀ t ∈ l, t < ag.length) → (l.flatMap fun t => ag.getD t []).length ≤ l.length * 4 := by
        intro l; induction l with
        | nil => intro _; simp
        | cons a l ih =>
          intro h
          have h1 := ih fun x hx => h x (.tail _ hx)
          have h2 : a < ag.length := h a (.head _)
          have h3 : (ag.getD a []).length ≤ 4 := by
            rw [List.getD_eq_getElem?_getD, List.getElem?_eq_getElem h2]; exact (hagm _ (List.getElem_mem h2)).1
          rw [List.flatMap_cons, List.length_append, List.length_cons]; exact o531 h3 h1
      have := this found fun t ht => by have := maxN_le ht; exact o31 hagl this
      exact o456 tlen this
    have hspb : ∀ k ∈ sp, k < 2 ^ 20 := by
      intro k hk
      rw [← hsp] at hk
      obtain ⟨t, ht, hk⟩ := List.mem_flatMap.mp hk
      have h2 : t < ag.length := by have := maxN_le ht; exact o31 hagl this
      rw [List.getD_eq_getElem?_getD, List.getElem?_eq_getElem h2] at hk
      have := (hagm _ (List.getElem_mem h2)).2 k hk
      exact o123 hsz.2 this
    obtain ⟨s1, s2⟩ := srt_toZ sp
    have hrngZ : (List.map (fun (k : Nat) => (0 : Int) + k) (List.range ((size : Int) - 0).toNat)) = toZ (List.range size) := by
      unfold toZ
      rw [show ((size : Int) - 0).toNat = size by exact o72]
      exact List.map_congr_left fun k _ => Int.zero_add _
    have hitem : ∀ t ∈ found, ((t : Nat) : Int) < 2 ^ 40 ∧ (ag.map natL)[((t : Nat) : Int).toNat]? = some (.list (spotsOf ag (.int (t : Nat)))) := by
      intro t ht
      have h2 : t < ag.length := by have := maxN_le ht; exact o31 hagl this
      refine ⟨by have := maxN_le ht; exact o600 hsz.2 h2 hMs hagl, ?_⟩
      rw [Int.toNat_natCast, List.getElem?_map, List.getElem?_eq_getElem h2]
      show some (natL ag[t]) = some (PV.list ((ag.getD ((t : Nat) : Int).toNat []).map fun (k : Nat) => .int k))
      rw [Int.toNat_natCast, List.getD_eq_getElem?_getD, List.getElem?_eq_getElem h2]; rfl
    refine SX.cons (SX.ite (b := false) (EB.cast (EB.cmp (EV.blt (g_sorted _) b_sorted (EL.cons (EV.cast (EV.comp2 (l := found.map fun (k : Nat) => PV.int k) (l2 := spotsOf ag) (ρ₂ := fun v => [(Str.ofString "turn", .loc v), (Str.ofString "again", .fre (.list (ag.map natL)))]) (ρ₃ := fun v u => [(Str.ofString "spot", .loc u), (Str.ofString "turn", .loc v), (Str.ofString "again", .fre (.list (ag.map natL)))]) (y := fun _ u => u) (B := 4)
          (IT.list (EV.var rfl rfl)) ⟨fun f' hw v hv => ASO.loc (by rfl), fun f' hw v hv => ?_, fun v hv => ?_, fun f' hw v hv u hu => ASO.loc (by rfl), fun f' hw v hv u hu => EV.var rfl rfl, fun v hv => ⟨rfl, trivial⟩, fun v hv u hu => ⟨rfl, rfl, trivial⟩⟩ (by rw [List.length_map]; exact o352 hz tlen)) ((spots_all ag found).trans (congrArg natL hsp))) EL.nil) (OPL.sorted (asInts_natL sp) (by unfold toZ; rw [List.length_map]; exact o89 hspl) (layable_toZ (by exact o89 hspl) hspb) _ s1 s2))
      (EV.ty (g_list _) b_list (EL.cons (EV.ty (g_range _) b_range (EL.cons (EV.var rfl rfl) EL.nil) (OPL.range1 rfl)) EL.nil) (OPL.listRange (by decide) (by decide) (by exact o1) (by exact o23 hsz.2) (by exact o291 hsz.2))) (OP2.neI2 rfl rfl)) ?_) (fun q => by cases q) (fun _ => SX.nil ?_))
    · obtain ⟨t, ht, rfl⟩ := List.mem_map.mp hv
      exact IT.list (EV.item (EQL.of (EV.var rfl rfl)) (EV.var rfl rfl) rfl (Int.natCast_nonneg t) (hitem t ht).1 (hitem t ht).2)
    · obtain ⟨t, ht, rfl⟩ := List.mem_map.mp hv
      have h2 : t < ag.length := by have := maxN_le ht; exact o31 hagl this
      show ((ag.getD ((t : Nat) : Int).toNat []).map fun (k : Nat) => PV.int k).length ≤ 4
      rw [List.length_map, Int.toNat_natCast, List.getD_eq_getElem?_getD, List.getElem?_eq_getElem h2]; exact (hagm _ (List.getElem_mem h2)).1
    · rw [hsp] at tag'
      rw [hrngZ, tag']; simp
    clear hitem hrngZ s1 s2 hspb hspl hagm hagl hM1 hM2
    have hfs : small (cntL size found) = true := small_cnt tlen
    have hnumF : ∀ d ∈ cntL size found, 0 ≤ d ∧ d < 2 ^ wd := small_of wd hw4.1 hfs
    have hclF : (cntL size found).length = size := cntP_len _ _
    have TN := tile_num (w := wd) (size := size) hw4.1 hw4.2 (by exact o237 hsz.1) (by exact o295 hsz.2) Fsml hfs hcl hclF tones tlowS tlowL thi tdueS (by unfold toI; rw [List.length_map]; exact tdueL) (by
      intro d hd
      unfold toI at hd
      rw [List.getLast?_map] at hd
      cases hq : (dueP places found size).getLast? with
      | none => rw [hq] at hd; cases hd
      | some d0 =>
        rw [hq] at hd
        cases hd
        have := tdueT d0 hq
        show (0 : Int) < ((d0 : Nat) : Int)
        exact o3 this)
    obtain ⟨tn, htn⟩ : ∃ tn, dval wd (cntL size found) = tn := ⟨_, rfl⟩
    obtain ⟨nmul, ndiv, nfr, nlo, nsh, nbe, ndlow, nnlow, nddue, nndue, ndar, nnar⟩ := TN
    rw [hnm, htn] at nmul ndiv nfr nlo nsh nbe
    refine SX.cons (SX.assign (EV.cast (EV.call (g_digits2int _) (k_digits2int _) (EL.cons (EV.cast (EV.comp (l := (List.range size).map fun (k : Nat) => PV.int k) (ρ₂ := fun v => [(Str.ofString "k", .loc v), (Str.ofString "found", .fre (natL found))]) (p := fun _ => true) (y := cntY2 found)
        (by rw [← rngL_nat]; exact IT.range (EV.ty (g_range _) b_range (EL.cons (EV.var rfl rfl) EL.nil) (OPL.range1 rfl)) (by decide) (by decide) (by exact o1) (by exact o23 hsz.2))
        ⟨fun f' hw v hv => ASO.loc (by rfl), fun f' hw v hv => TS.nil, fun f' hw v hv _ => ?_, fun v hv => ⟨⟨rfl, trivial⟩, ⟨rfl, trivial⟩⟩⟩ (by rw [List.length_map, List.length_range]; exact o105 hz hsz.2)) (congrArg PV.list (cntY2_all found size))) (EL.cons (EV.var rfl rfl) EL.nil))
      (ct_d2i (ds := cntL size found) (n := wd) (B := wd) (by exact o125 hsz.2 hclF) (by exact o5 hw4.2) (by exact o5 hw4.2) hnumF)) (congrArg PV.int htn)) ?_)
    · obtain ⟨k, hk, rfl⟩ := List.mem_map.mp hv
      refine EV.cast (EV.call (g_countOf _) (k_countOf _) (EL.cons (EV.var rfl rfl) (EL.cons (EV.var rfl rfl) EL.nil)) (ct_countOf (g := isI (.int (k : Nat))) (IterOf.list _) ?_)) (congrArg PV.int (cntOf_isI found k))
      intro x hx
      obtain ⟨p, _, rfl⟩ := List.mem_map.mp hx
      rfl
    refine SX.cons (SX.assign (EV.call (g_mul _) (k_mul _) (EL.cons (EV.var rfl rfl) (EL.cons (EV.var rfl rfl) EL.nil)) (ct_mul rfl rfl nmul)) ?_)
    obtain ⟨ws, hws⟩ : ∃ ws, wd * size = ws := ⟨_, rfl⟩
    have hwsB : ws ≤ 1403 * 9 := by rw [← hws]; exact Nat.mul_le_mul hw4.2 hsz.2
    obtain ⟨pr, hpr⟩ : ∃ pr, nm * tn = pr := ⟨_, rfl⟩
    rw [hws] at ndiv nfr nlo nsh nbe ndar nnar
    rw [hpr] at ndiv nfr nlo nsh nbe
    rw [hpr]
    obtain ⟨O, hO⟩ : ∃ O, dval wd (List.replicate size (1 : Int)) = O := ⟨_, rfl⟩
    obtain ⟨H, hH⟩ : ∃ H, dval wd (toI (dueP places found size)) = H := ⟨_, rfl⟩
    rw [hH] at nfr nsh nbe nddue nndue
    rw [hO] at nlo nbe ndlow nnlow
    have hmw : IntMulOk (wd : Int) (size : Int) := mulOkB (Nat.le_trans (intBits_lt (n := 11) (by exact o0) (by exact o272 hw4.2)) (by decide)) (Nat.le_trans (intBits_lt (n := 11) (by exact o0) (by exact o293 hsz.2)) (by decide))
    have hcast : PV.int ((wd : Int) * (size : Int)) = PV.int ((ws : Nat) : Int) := by rw [← hws, Int.natCast_mul]
    have hib1 : Builtin.Int.intBits 1 = 1 := by decide
    have hp0 : 0 ≤ pr := ndiv.a0
    refine SX.cons (SX.assign (EV.cast (EV.call (g_sub _) (k_sub _) (EL.cons (EV.call (g_lshift _) (k_lshift _) (EL.cons EV.cint (EL.cons (EV.cast (EV.bin (EV.var rfl rfl) (EV.var rfl rfl) (OP2.mul rfl rfl hmw)) hcast) EL.nil)) (ct_lshift rfl rfl (by exact o0) (by rw [hib1]; exact o269 hwsB))) (EL.cons EV.cint EL.nil)) (ct_sub rfl rfl)) (show _ = PV.int (2 ^ ws - 1) from by rw [Int.toNat_natCast, Int.one_mul])) ?_)
    refine SX.cons (SX.unpack2 (EV.cast (EV.call (g_divmodpos _) (k_divmodpos _) (EL.cons (EV.var rfl rfl) (EL.cons (EV.var rfl rfl) EL.nil)) (ct_dm ndiv)) (show _ = PV.tup [.int H, .int O] from by rw [nfr, nlo])) ?_)
    refine SX.cons (SX.assign (EV.cast (EV.call (g_and _) (k_and _) (EL.cons (EV.var rfl rfl) (EL.cons (EV.var rfl rfl) EL.nil)) (ct_and rfl rfl)) (show _ = PV.int (O - H) from by rw [bitAnd_mask ws hp0, nbe])) ?_)
    have hdueR := small_of wd hw4.1 tdueS
    have hdueL : (toI (dueP places found size)).length ≤ 9 := by unfold toI; rw [List.length_map]; exact o461 hsz.2 tdueL
    have hHb := dval_lt wd hdueR
    rw [hH] at hHb
    have hHib : Builtin.Int.intBits H ≤ wd * 9 := Nat.le_trans (intBits_lt hHb.1 hHb.2) (Nat.mul_le_mul_left wd hdueL)
    have hprE : pr = H * 2 ^ ws - (H - O) := by
      have := Int.mul_ediv_add_emod pr (2 ^ ws - 1)
      rw [nfr, nlo, Int.sub_mul, Int.one_mul, Int.mul_comm] at this
      exact o580 this
    refine SX.cons (SX.ite (b := false) (EB.cast (EB.or2 (EB.cmp (EV.call (g_rshift _) (k_rshift _) (EL.cons (EV.var rfl rfl) (EL.cons (EV.cast (EV.bin (EV.var rfl rfl) (EV.var rfl rfl) (OP2.mul rfl rfl hmw)) hcast) EL.nil)) (ct_rshift rfl rfl (by exact o0))) (EV.var rfl rfl) (OP2.neI rfl rfl))
      (fun _ => EB.cmp (EV.call (g_lshift _) (k_lshift _) (EL.cons (EV.var rfl rfl) (EL.cons (EV.cast (EV.bin (EV.var rfl rfl) (EV.var rfl rfl) (OP2.mul rfl rfl hmw)) hcast) EL.nil)) (ct_lshift rfl rfl (by exact o0) (by exact o558 hw4.2 hwsB hHib))) (EV.bin (EV.var rfl rfl) (EV.var rfl rfl) (OP2.sub rfl rfl)) (OP2.neI rfl rfl))) ?_) (fun q => by cases q) (fun _ => SX.nil ?_))
    · rw [Int.toNat_natCast, nsh]
      have : H * 2 ^ ws = pr - (O - H) := by exact o583 hprE
      rw [this]; simp
    have hrepl : ∀ x : Int, PV.list (List.replicate ((size : Nat) : Int).toNat [PV.int x]).flatten = .list ((List.replicate size x).map .int) := by
      intro x
      rw [Int.toNat_natCast]
      generalize size = n
      congr 1
      induction n with
      | zero => rfl
      | succ n ih => rw [List.replicate_succ, List.replicate_succ, List.flatten_cons, ih]; rfl
    have hwdE : (1 : Int) * 2 ^ ((wd : Nat) : Int).toNat - 1 = 2 ^ wd - 1 := by rw [Int.toNat_natCast, Int.one_mul]
    have hps1 : (0 : Int) ≤ 2 ^ ws - 1 := Int.le_of_lt ndiv.b0
    refine SX.cons (SX.ite (b := false) (EB.cast (EB.or2 (EB.cmp (EV.call (g_add _) (k_add _) (EL.cons (EV.var rfl rfl) (EL.cons (EV.call (g_sub _) (k_sub _) (EL.cons (EV.var rfl rfl) (EL.cons (EV.var rfl rfl) EL.nil)) (ct_sub rfl rfl)) EL.nil)) (ct_add rfl rfl)) EV.cint (OP2.neI rfl rfl))
      (fun _ => EB.cmp (EV.call (g_int2digits _) (k_int2digits _) (EL.cons (EV.var rfl rfl) (EL.cons (EV.var rfl rfl) EL.nil)) (ct_i2d (a := 2 ^ ws - 1) (n := wd) (m := size) hps1 (by exact o9 hw4.1) (by exact o5 hw4.2) nnar (by exact o47 hsz.2))) (EV.cast (EV.mulL (EV.list (EL.cons (EV.bin (EV.bin EV.cint (EV.var rfl rfl) (OP2.shl rfl rfl (by exact o0) (by rw [hib1]; exact o271 hw4.2))) EV.cint (OP2.sub rfl rfl)) EL.nil)) (EV.var rfl rfl) rfl (by simp) (by exact o0) (by rw [Int.toNat_natCast]; simp only [List.length_cons, List.length_nil]; exact o700 (Nat.le_trans hsz.2 (by decide)))) (hrepl _)) (OP2.neI2 (asIs_int _) (asIs_int _)))) ?_) (fun q => by cases q) (fun _ => SX.nil ?_))
    · rw [hwdE, ndar, show O - H + (H - O) = 0 by exact o318]; simp
    refine SX.cons (SX.assignC (EV.comp2 (l := places.map fun (k : Nat) => PV.int k) (l2 := fun _ => found.map fun (k : Nat) => PV.int k) (ρ₂ := fun v => [(Str.ofString "place", .loc v), (Str.ofString "found", .fre (natL found))]) (ρ₃ := fun v u => [(Str.ofString "turn", .loc u), (Str.ofString "place", .loc v), (Str.ofString "found", .fre (natL found))]) (y := sumY) (B := 8)
      (IT.list (EV.var rfl rfl)) ⟨fun f' hw v hv => ASO.loc (by rfl), fun f' hw v hv => IT.list (EV.var rfl rfl), fun v hv => (by rw [List.length_map]; exact tlen), fun f' hw v hv u hu => ASO.loc (by rfl), fun f' hw v hv u hu => ?_, fun v hv => ⟨rfl, trivial⟩, fun v hv u hu => ⟨rfl, rfl, trivial⟩⟩ (by rw [List.length_map]; exact o495 hz hplen)) rfl rfl ?_)
    · obtain ⟨p, hp1, rfl⟩ := List.mem_map.mp hv
      obtain ⟨t, ht1, rfl⟩ := List.mem_map.mp hu
      exact EV.bin (EV.var rfl rfl) (EV.var rfl rfl) (OP2.add rfl rfl)
    rw [sums_all]
    have hsne : sumsP places found ≠ [] := by
      intro q
      obtain ⟨p, hp⟩ := List.exists_mem_of_length_pos (l := places) (by exact o433 hf1 hplen)
      obtain ⟨t, ht⟩ := List.exists_mem_of_ne_nil found tne
      have : p + t ∈ sumsP places found := List.mem_flatMap.mpr ⟨p, hp, List.mem_map.mpr ⟨t, ht, rfl⟩⟩
      rw [q] at this; cases this
    obtain ⟨hS1, hS2⟩ := toZ_max hsne
    have hSb : maxN (sumsP places found) < 18 := by
      obtain ⟨p, hp, h⟩ := List.mem_flatMap.mp (maxN_mem hsne)
      obtain ⟨t, ht, h⟩ := List.mem_map.mp h
      have h : p + t = maxN (sumsP places found) := h
      have := hplt p hp
      have := tlt t ht
      exact o601 hsz.2 this (by assumption) h
    refine SX.cons (SX.comp (l := rngL size ((maxN (sumsP places found) : Nat) + 1)) (ρ₂ := fun v => [(Str.ofString "k", .loc v), (Str.ofString "sums", .fre (.list ((sumsP places found).map fun (k : Nat) => PV.int k)))]) (p := fun _ => true) (y := dueC (sumsP places found))
      (IT.range (EV.ty (g_range _) b_range (EL.cons (EV.var rfl rfl) (EL.cons (EV.bin (EV.blt (g_max _) b_max (EL.cons (EV.var rfl rfl) EL.nil) (OPL.max (asIs_nat _) hS1 hS2)) EV.cint (OP2.add rfl rfl)) EL.nil)) (OPL.range2 rfl rfl)) (by exact o1) (by exact o23 hsz.2) (by exact o204) (by exact o245 hSb))
      ⟨fun f' hw v hv => ASO.loc (by rfl), fun f' hw v hv => TS.nil, fun f' hw v hv _ => ?_, fun v hv => ⟨⟨rfl, trivial⟩, ⟨rfl, trivial⟩⟩⟩ (by unfold rngL; rw [List.length_map, List.length_range]; exact o500 hz hSb) ?_)
    · obtain ⟨k, hk, rfl⟩ := List.mem_map.mp hv
      exact EV.count (EV.var rfl rfl) (asIs_nat _) (EV.var rfl rfl) rfl
    rw [due_all]
    refine SX.cons (SX.ret (EV.cast (EV.and2 (EV.cmp (EV.call (g_int2digits _) (k_int2digits _) (EL.cons (EV.var rfl rfl) (EL.cons (EV.var rfl rfl) EL.nil)) (ct_i2d (a := O) (n := wd) (m := size) ?_ (by exact o9 hw4.1) (by exact o5 hw4.2) nnlow (by exact o47 hsz.2))) (EV.cast (EV.mulL (EV.list (EL.cons EV.cint EL.nil)) (EV.var rfl rfl) rfl (by simp) (by exact o0) (by rw [Int.toNat_natCast]; simp only [List.length_cons, List.length_nil]; exact o700 (Nat.le_trans hsz.2 (by decide)))) (hrepl _)) (OP2.eqI2 (asIs_int _) (asIs_int _)))
      (fun _ => EV.cmp (EV.call (g_int2digits _) (k_int2digits _) (EL.cons (EV.var rfl rfl) (EL.cons (EV.var rfl rfl) EL.nil)) (ct_i2d (a := H) (n := wd) (m := (toI (dueP places found size)).length) hHb.1 (by exact o9 hw4.1) (by exact o5 hw4.2) nndue (by exact o47 hdueL))) (EV.var rfl rfl) (OP2.eqI2 (asIs_int _) (asIs_nat _)))) (show _ = PV.bool true from ?_)) rfl)
    · rw [← hO]
      exact (dval_lt wd (l := List.replicate size (1 : Int)) fun d hd => by
        rw [List.eq_of_mem_replicate hd]
        have e1 : (2 : Int) ^ 4 ≤ 2 ^ wd := pow_le hw4.1
        exact o35 e1).1
    · rw [ndlow, nddue]
      unfold toI
      simp
end Mine

end
open PySem PySem.W PyProof.Rows PySem.Calls PySem.Spec PySem.Challenge
theorem PySem.Challenge.cw_ti0009_01_holds : PySem.Challenge.rw_ti0009_01.Holds :=
  Mine.hd (by
  w_strict (
    k_fill
    intro w s₀ s₁ mg mb G Y fa o pm cd doc dV kV ho hd hcd hD hmg hg args vals as hpre hlay hrd hwl hlo
    have KX := km_in_of Y
    km_tabs Y
    have X := (Ground.X G).1
    have V := (Ground.X G).2
    refine Ground.open G ?_
    intro T B D TE TW
    try (refine guard_noD D (by decide +kernel) ?_; clear D)
    km_lay T hmg ho hd cd
    wrow_args hpre hlay hrd hwl hlo
    all_goals (
      first | refine callC_kw (enter_call ?_) | refine enter_call ?_
      w_top on
      kn_posts
      refine Mine.start KX hT8 T hT9 (by assumption) (by assumption) hmg hg (Mine.ct_law _ _ ?_) (by decide)
      omega)))

