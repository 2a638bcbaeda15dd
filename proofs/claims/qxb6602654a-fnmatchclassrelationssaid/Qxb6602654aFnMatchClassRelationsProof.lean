/-
  DERIVED. A proof of 'Rows.FnMatchClassRelationsSaid': the shell as the tool wrote it, its hole filled.
-/
import Derived.Test.Qxb6602654aRows
import Derived.WalkKit
import Derived.ProofKit
import Derived.OpenShut
import Derived.ShutString
import Derived.WalkSpells
import Derived.Test.Qxb6602654aClass
namespace Go.Proofs.Qxb6602654a.fnMatchClassRelations
open Go.ChangeShapes Go.WideShapes Go.ChangeAt Go.RowKit
open Go.ChangeMaps (open_string shut_string)
set_option linter.unusedVariables false      -- a walk need not use every 'w<i>' (that an integer argument fits its kind)

theorem own : ownKnob Try.prog.godebug = none := by kernel_rfl

theorem lo_a (c : Int) : mcB c 97 = in_a c := by
  have h : bits .or .u8 97 32 = 97 := by decide
  have hu : upB 97 = false := by decide
  unfold mcB mcL
  rw [h, hu]
  simp
theorem up_a (c : Int) : mcB c 65 = !in_a c := by
  have h : bits .or .u8 65 32 = 97 := by decide
  have hu : upB 65 = true := by decide
  unfold mcB mcL
  rw [h, hu]
  simp
theorem ne_a (c : Int) : (mcB c 65 == mcB c 97) = false := by rw [lo_a, up_a]; cases in_a c <;> rfl
theorem lo_c (c : Int) : mcB c 99 = in_c c := by
  have h : bits .or .u8 99 32 = 99 := by decide
  have hu : upB 99 = false := by decide
  unfold mcB mcL
  rw [h, hu]
  simp
theorem up_c (c : Int) : mcB c 67 = !in_c c := by
  have h : bits .or .u8 67 32 = 99 := by decide
  have hu : upB 67 = true := by decide
  unfold mcB mcL
  rw [h, hu]
  simp
theorem ne_c (c : Int) : (mcB c 67 == mcB c 99) = false := by rw [lo_c, up_c]; cases in_c c <;> rfl
theorem lo_d (c : Int) : mcB c 100 = in_d c := by
  have h : bits .or .u8 100 32 = 100 := by decide
  have hu : upB 100 = false := by decide
  unfold mcB mcL
  rw [h, hu]
  simp
theorem up_d (c : Int) : mcB c 68 = !in_d c := by
  have h : bits .or .u8 68 32 = 100 := by decide
  have hu : upB 68 = true := by decide
  unfold mcB mcL
  rw [h, hu]
  simp
theorem ne_d (c : Int) : (mcB c 68 == mcB c 100) = false := by rw [lo_d, up_d]; cases in_d c <;> rfl
theorem lo_l (c : Int) : mcB c 108 = in_l c := by
  have h : bits .or .u8 108 32 = 108 := by decide
  have hu : upB 108 = false := by decide
  unfold mcB mcL
  rw [h, hu]
  simp
theorem up_l (c : Int) : mcB c 76 = !in_l c := by
  have h : bits .or .u8 76 32 = 108 := by decide
  have hu : upB 76 = true := by decide
  unfold mcB mcL
  rw [h, hu]
  simp
theorem ne_l (c : Int) : (mcB c 76 == mcB c 108) = false := by rw [lo_l, up_l]; cases in_l c <;> rfl
theorem lo_p (c : Int) : mcB c 112 = in_p c := by
  have h : bits .or .u8 112 32 = 112 := by decide
  have hu : upB 112 = false := by decide
  unfold mcB mcL
  rw [h, hu]
  simp
theorem up_p (c : Int) : mcB c 80 = !in_p c := by
  have h : bits .or .u8 80 32 = 112 := by decide
  have hu : upB 80 = true := by decide
  unfold mcB mcL
  rw [h, hu]
  simp
theorem ne_p (c : Int) : (mcB c 80 == mcB c 112) = false := by rw [lo_p, up_p]; cases in_p c <;> rfl
theorem lo_s (c : Int) : mcB c 115 = in_s c := by
  have h : bits .or .u8 115 32 = 115 := by decide
  have hu : upB 115 = false := by decide
  unfold mcB mcL
  rw [h, hu]
  simp
theorem up_s (c : Int) : mcB c 83 = !in_s c := by
  have h : bits .or .u8 83 32 = 115 := by decide
  have hu : upB 83 = true := by decide
  unfold mcB mcL
  rw [h, hu]
  simp
theorem ne_s (c : Int) : (mcB c 83 == mcB c 115) = false := by rw [lo_s, up_s]; cases in_s c <;> rfl
theorem lo_u (c : Int) : mcB c 117 = in_u c := by
  have h : bits .or .u8 117 32 = 117 := by decide
  have hu : upB 117 = false := by decide
  unfold mcB mcL
  rw [h, hu]
  simp
theorem up_u (c : Int) : mcB c 85 = !in_u c := by
  have h : bits .or .u8 85 32 = 117 := by decide
  have hu : upB 85 = true := by decide
  unfold mcB mcL
  rw [h, hu]
  simp
theorem ne_u (c : Int) : (mcB c 85 == mcB c 117) = false := by rw [lo_u, up_u]; cases in_u c <;> rfl
theorem lo_w (c : Int) : mcB c 119 = in_w c := by
  have h : bits .or .u8 119 32 = 119 := by decide
  have hu : upB 119 = false := by decide
  unfold mcB mcL
  rw [h, hu]
  simp
theorem up_w (c : Int) : mcB c 87 = !in_w c := by
  have h : bits .or .u8 87 32 = 119 := by decide
  have hu : upB 87 = true := by decide
  unfold mcB mcL
  rw [h, hu]
  simp
theorem ne_w (c : Int) : (mcB c 87 == mcB c 119) = false := by rw [lo_w, up_w]; cases in_w c <;> rfl
theorem lo_x (c : Int) : mcB c 120 = in_x c := by
  have h : bits .or .u8 120 32 = 120 := by decide
  have hu : upB 120 = false := by decide
  unfold mcB mcL
  rw [h, hu]
  simp
theorem up_x (c : Int) : mcB c 88 = !in_x c := by
  have h : bits .or .u8 88 32 = 120 := by decide
  have hu : upB 88 = true := by decide
  unfold mcB mcL
  rw [h, hu]
  simp
theorem ne_x (c : Int) : (mcB c 88 == mcB c 120) = false := by rw [lo_x, up_x]; cases in_x c <;> rfl
theorem lo_z (c : Int) : mcB c 122 = in_z c := by
  have h : bits .or .u8 122 32 = 122 := by decide
  have hu : upB 122 = false := by decide
  unfold mcB mcL
  rw [h, hu]
  simp
theorem up_z (c : Int) : mcB c 90 = !in_z c := by
  have h : bits .or .u8 90 32 = 122 := by decide
  have hu : upB 90 = true := by decide
  unfold mcB mcL
  rw [h, hu]
  simp
theorem ne_z (c : Int) : (mcB c 90 == mcB c 122) = false := by rw [lo_z, up_z]; cases in_z c <;> rfl
theorem kinds (c : Int) (h0 : 0 ≤ c) (h1 : c ≤ 255) : ((0 ≤ c ∧ c ≤ 0)) ∨ ((9 ≤ c ∧ c ≤ 13)) ∨ ((1 ≤ c ∧ c ≤ 8) ∨ (14 ≤ c ∧ c ≤ 31) ∨ (127 ≤ c ∧ c ≤ 127)) ∨ ((32 ≤ c ∧ c ≤ 32)) ∨ ((33 ≤ c ∧ c ≤ 47) ∨ (58 ≤ c ∧ c ≤ 64) ∨ (91 ≤ c ∧ c ≤ 96) ∨ (123 ≤ c ∧ c ≤ 126)) ∨ ((48 ≤ c ∧ c ≤ 57)) ∨ ((65 ≤ c ∧ c ≤ 70)) ∨ ((71 ≤ c ∧ c ≤ 90)) ∨ ((97 ≤ c ∧ c ≤ 102)) ∨ ((103 ≤ c ∧ c ≤ 122)) ∨ ((128 ≤ c ∧ c ≤ 255)) := by omega
theorem v0_a (c : Int) (h : (0 ≤ c ∧ c ≤ 0)) : mcB c 97 = false := by
  rw [lo_a, Bool.eq_false_iff]
  simp [in_a, alphaB]
  omega
theorem v0_c (c : Int) (h : (0 ≤ c ∧ c ≤ 0)) : mcB c 99 = true := by
  rw [lo_c]
  simp [in_c]
  omega
theorem v0_d (c : Int) (h : (0 ≤ c ∧ c ≤ 0)) : mcB c 100 = false := by
  rw [lo_d, Bool.eq_false_iff]
  simp [in_d, digitB]
  omega
theorem v0_l (c : Int) (h : (0 ≤ c ∧ c ≤ 0)) : mcB c 108 = false := by
  rw [lo_l, Bool.eq_false_iff]
  simp [in_l]
  omega
theorem v0_p (c : Int) (h : (0 ≤ c ∧ c ≤ 0)) : mcB c 112 = false := by
  rw [lo_p, Bool.eq_false_iff]
  simp [in_p, alphaB, digitB]
  omega
theorem v0_s (c : Int) (h : (0 ≤ c ∧ c ≤ 0)) : mcB c 115 = false := by
  rw [lo_s, Bool.eq_false_iff]
  simp [in_s]
  omega
theorem v0_u (c : Int) (h : (0 ≤ c ∧ c ≤ 0)) : mcB c 117 = false := by
  rw [lo_u, Bool.eq_false_iff]
  simp [in_u]
  omega
theorem v0_w (c : Int) (h : (0 ≤ c ∧ c ≤ 0)) : mcB c 119 = false := by
  rw [lo_w, Bool.eq_false_iff]
  simp [in_w, alphaB, digitB]
  omega
theorem v0_x (c : Int) (h : (0 ≤ c ∧ c ≤ 0)) : mcB c 120 = false := by
  rw [lo_x, Bool.eq_false_iff]
  simp [in_x, hexB, digitB]
  omega
theorem v0_z (c : Int) (h : (0 ≤ c ∧ c ≤ 0)) : mcB c 122 = true := by
  rw [lo_z]
  simp [in_z]
  omega
theorem v1_a (c : Int) (h : (9 ≤ c ∧ c ≤ 13)) : mcB c 97 = false := by
  rw [lo_a, Bool.eq_false_iff]
  simp [in_a, alphaB]
  omega
theorem v1_c (c : Int) (h : (9 ≤ c ∧ c ≤ 13)) : mcB c 99 = true := by
  rw [lo_c]
  simp [in_c]
  omega
theorem v1_d (c : Int) (h : (9 ≤ c ∧ c ≤ 13)) : mcB c 100 = false := by
  rw [lo_d, Bool.eq_false_iff]
  simp [in_d, digitB]
  omega
theorem v1_l (c : Int) (h : (9 ≤ c ∧ c ≤ 13)) : mcB c 108 = false := by
  rw [lo_l, Bool.eq_false_iff]
  simp [in_l]
  omega
theorem v1_p (c : Int) (h : (9 ≤ c ∧ c ≤ 13)) : mcB c 112 = false := by
  rw [lo_p, Bool.eq_false_iff]
  simp [in_p, alphaB, digitB]
  omega
theorem v1_s (c : Int) (h : (9 ≤ c ∧ c ≤ 13)) : mcB c 115 = true := by
  rw [lo_s]
  simp [in_s]
  omega
theorem v1_u (c : Int) (h : (9 ≤ c ∧ c ≤ 13)) : mcB c 117 = false := by
  rw [lo_u, Bool.eq_false_iff]
  simp [in_u]
  omega
theorem v1_w (c : Int) (h : (9 ≤ c ∧ c ≤ 13)) : mcB c 119 = false := by
  rw [lo_w, Bool.eq_false_iff]
  simp [in_w, alphaB, digitB]
  omega
theorem v1_x (c : Int) (h : (9 ≤ c ∧ c ≤ 13)) : mcB c 120 = false := by
  rw [lo_x, Bool.eq_false_iff]
  simp [in_x, hexB, digitB]
  omega
theorem v1_z (c : Int) (h : (9 ≤ c ∧ c ≤ 13)) : mcB c 122 = false := by
  rw [lo_z, Bool.eq_false_iff]
  simp [in_z]
  omega
theorem v2_a (c : Int) (h : (1 ≤ c ∧ c ≤ 8) ∨ (14 ≤ c ∧ c ≤ 31) ∨ (127 ≤ c ∧ c ≤ 127)) : mcB c 97 = false := by
  rw [lo_a, Bool.eq_false_iff]
  simp [in_a, alphaB]
  omega
theorem v2_c (c : Int) (h : (1 ≤ c ∧ c ≤ 8) ∨ (14 ≤ c ∧ c ≤ 31) ∨ (127 ≤ c ∧ c ≤ 127)) : mcB c 99 = true := by
  rw [lo_c]
  simp [in_c]
  omega
theorem v2_d (c : Int) (h : (1 ≤ c ∧ c ≤ 8) ∨ (14 ≤ c ∧ c ≤ 31) ∨ (127 ≤ c ∧ c ≤ 127)) : mcB c 100 = false := by
  rw [lo_d, Bool.eq_false_iff]
  simp [in_d, digitB]
  omega
theorem v2_l (c : Int) (h : (1 ≤ c ∧ c ≤ 8) ∨ (14 ≤ c ∧ c ≤ 31) ∨ (127 ≤ c ∧ c ≤ 127)) : mcB c 108 = false := by
  rw [lo_l, Bool.eq_false_iff]
  simp [in_l]
  omega
theorem v2_p (c : Int) (h : (1 ≤ c ∧ c ≤ 8) ∨ (14 ≤ c ∧ c ≤ 31) ∨ (127 ≤ c ∧ c ≤ 127)) : mcB c 112 = false := by
  rw [lo_p, Bool.eq_false_iff]
  simp [in_p, alphaB, digitB]
  omega
theorem v2_s (c : Int) (h : (1 ≤ c ∧ c ≤ 8) ∨ (14 ≤ c ∧ c ≤ 31) ∨ (127 ≤ c ∧ c ≤ 127)) : mcB c 115 = false := by
  rw [lo_s, Bool.eq_false_iff]
  simp [in_s]
  omega
theorem v2_u (c : Int) (h : (1 ≤ c ∧ c ≤ 8) ∨ (14 ≤ c ∧ c ≤ 31) ∨ (127 ≤ c ∧ c ≤ 127)) : mcB c 117 = false := by
  rw [lo_u, Bool.eq_false_iff]
  simp [in_u]
  omega
theorem v2_w (c : Int) (h : (1 ≤ c ∧ c ≤ 8) ∨ (14 ≤ c ∧ c ≤ 31) ∨ (127 ≤ c ∧ c ≤ 127)) : mcB c 119 = false := by
  rw [lo_w, Bool.eq_false_iff]
  simp [in_w, alphaB, digitB]
  omega
theorem v2_x (c : Int) (h : (1 ≤ c ∧ c ≤ 8) ∨ (14 ≤ c ∧ c ≤ 31) ∨ (127 ≤ c ∧ c ≤ 127)) : mcB c 120 = false := by
  rw [lo_x, Bool.eq_false_iff]
  simp [in_x, hexB, digitB]
  omega
theorem v2_z (c : Int) (h : (1 ≤ c ∧ c ≤ 8) ∨ (14 ≤ c ∧ c ≤ 31) ∨ (127 ≤ c ∧ c ≤ 127)) : mcB c 122 = false := by
  rw [lo_z, Bool.eq_false_iff]
  simp [in_z]
  omega
theorem v3_a (c : Int) (h : (32 ≤ c ∧ c ≤ 32)) : mcB c 97 = false := by
  rw [lo_a, Bool.eq_false_iff]
  simp [in_a, alphaB]
  omega
theorem v3_c (c : Int) (h : (32 ≤ c ∧ c ≤ 32)) : mcB c 99 = false := by
  rw [lo_c, Bool.eq_false_iff]
  simp [in_c]
  omega
theorem v3_d (c : Int) (h : (32 ≤ c ∧ c ≤ 32)) : mcB c 100 = false := by
  rw [lo_d, Bool.eq_false_iff]
  simp [in_d, digitB]
  omega
theorem v3_l (c : Int) (h : (32 ≤ c ∧ c ≤ 32)) : mcB c 108 = false := by
  rw [lo_l, Bool.eq_false_iff]
  simp [in_l]
  omega
theorem v3_p (c : Int) (h : (32 ≤ c ∧ c ≤ 32)) : mcB c 112 = false := by
  rw [lo_p, Bool.eq_false_iff]
  simp [in_p, alphaB, digitB]
  omega
theorem v3_s (c : Int) (h : (32 ≤ c ∧ c ≤ 32)) : mcB c 115 = true := by
  rw [lo_s]
  simp [in_s]
  omega
theorem v3_u (c : Int) (h : (32 ≤ c ∧ c ≤ 32)) : mcB c 117 = false := by
  rw [lo_u, Bool.eq_false_iff]
  simp [in_u]
  omega
theorem v3_w (c : Int) (h : (32 ≤ c ∧ c ≤ 32)) : mcB c 119 = false := by
  rw [lo_w, Bool.eq_false_iff]
  simp [in_w, alphaB, digitB]
  omega
theorem v3_x (c : Int) (h : (32 ≤ c ∧ c ≤ 32)) : mcB c 120 = false := by
  rw [lo_x, Bool.eq_false_iff]
  simp [in_x, hexB, digitB]
  omega
theorem v3_z (c : Int) (h : (32 ≤ c ∧ c ≤ 32)) : mcB c 122 = false := by
  rw [lo_z, Bool.eq_false_iff]
  simp [in_z]
  omega
theorem v4_a (c : Int) (h : (33 ≤ c ∧ c ≤ 47) ∨ (58 ≤ c ∧ c ≤ 64) ∨ (91 ≤ c ∧ c ≤ 96) ∨ (123 ≤ c ∧ c ≤ 126)) : mcB c 97 = false := by
  rw [lo_a, Bool.eq_false_iff]
  simp [in_a, alphaB]
  omega
theorem v4_c (c : Int) (h : (33 ≤ c ∧ c ≤ 47) ∨ (58 ≤ c ∧ c ≤ 64) ∨ (91 ≤ c ∧ c ≤ 96) ∨ (123 ≤ c ∧ c ≤ 126)) : mcB c 99 = false := by
  rw [lo_c, Bool.eq_false_iff]
  simp [in_c]
  omega
theorem v4_d (c : Int) (h : (33 ≤ c ∧ c ≤ 47) ∨ (58 ≤ c ∧ c ≤ 64) ∨ (91 ≤ c ∧ c ≤ 96) ∨ (123 ≤ c ∧ c ≤ 126)) : mcB c 100 = false := by
  rw [lo_d, Bool.eq_false_iff]
  simp [in_d, digitB]
  omega
theorem v4_l (c : Int) (h : (33 ≤ c ∧ c ≤ 47) ∨ (58 ≤ c ∧ c ≤ 64) ∨ (91 ≤ c ∧ c ≤ 96) ∨ (123 ≤ c ∧ c ≤ 126)) : mcB c 108 = false := by
  rw [lo_l, Bool.eq_false_iff]
  simp [in_l]
  omega
theorem v4_p (c : Int) (h : (33 ≤ c ∧ c ≤ 47) ∨ (58 ≤ c ∧ c ≤ 64) ∨ (91 ≤ c ∧ c ≤ 96) ∨ (123 ≤ c ∧ c ≤ 126)) : mcB c 112 = true := by
  rw [lo_p]
  simp [in_p, alphaB, digitB]
  omega
theorem v4_s (c : Int) (h : (33 ≤ c ∧ c ≤ 47) ∨ (58 ≤ c ∧ c ≤ 64) ∨ (91 ≤ c ∧ c ≤ 96) ∨ (123 ≤ c ∧ c ≤ 126)) : mcB c 115 = false := by
  rw [lo_s, Bool.eq_false_iff]
  simp [in_s]
  omega
theorem v4_u (c : Int) (h : (33 ≤ c ∧ c ≤ 47) ∨ (58 ≤ c ∧ c ≤ 64) ∨ (91 ≤ c ∧ c ≤ 96) ∨ (123 ≤ c ∧ c ≤ 126)) : mcB c 117 = false := by
  rw [lo_u, Bool.eq_false_iff]
  simp [in_u]
  omega
theorem v4_w (c : Int) (h : (33 ≤ c ∧ c ≤ 47) ∨ (58 ≤ c ∧ c ≤ 64) ∨ (91 ≤ c ∧ c ≤ 96) ∨ (123 ≤ c ∧ c ≤ 126)) : mcB c 119 = false := by
  rw [lo_w, Bool.eq_false_iff]
  simp [in_w, alphaB, digitB]
  omega
theorem v4_x (c : Int) (h : (33 ≤ c ∧ c ≤ 47) ∨ (58 ≤ c ∧ c ≤ 64) ∨ (91 ≤ c ∧ c ≤ 96) ∨ (123 ≤ c ∧ c ≤ 126)) : mcB c 120 = false := by
  rw [lo_x, Bool.eq_false_iff]
  simp [in_x, hexB, digitB]
  omega
theorem v4_z (c : Int) (h : (33 ≤ c ∧ c ≤ 47) ∨ (58 ≤ c ∧ c ≤ 64) ∨ (91 ≤ c ∧ c ≤ 96) ∨ (123 ≤ c ∧ c ≤ 126)) : mcB c 122 = false := by
  rw [lo_z, Bool.eq_false_iff]
  simp [in_z]
  omega
theorem v5_a (c : Int) (h : (48 ≤ c ∧ c ≤ 57)) : mcB c 97 = false := by
  rw [lo_a, Bool.eq_false_iff]
  simp [in_a, alphaB]
  omega
theorem v5_c (c : Int) (h : (48 ≤ c ∧ c ≤ 57)) : mcB c 99 = false := by
  rw [lo_c, Bool.eq_false_iff]
  simp [in_c]
  omega
theorem v5_d (c : Int) (h : (48 ≤ c ∧ c ≤ 57)) : mcB c 100 = true := by
  rw [lo_d]
  simp [in_d, digitB]
  omega
theorem v5_l (c : Int) (h : (48 ≤ c ∧ c ≤ 57)) : mcB c 108 = false := by
  rw [lo_l, Bool.eq_false_iff]
  simp [in_l]
  omega
theorem v5_p (c : Int) (h : (48 ≤ c ∧ c ≤ 57)) : mcB c 112 = false := by
  rw [lo_p, Bool.eq_false_iff]
  simp [in_p, alphaB, digitB]
  omega
theorem v5_s (c : Int) (h : (48 ≤ c ∧ c ≤ 57)) : mcB c 115 = false := by
  rw [lo_s, Bool.eq_false_iff]
  simp [in_s]
  omega
theorem v5_u (c : Int) (h : (48 ≤ c ∧ c ≤ 57)) : mcB c 117 = false := by
  rw [lo_u, Bool.eq_false_iff]
  simp [in_u]
  omega
theorem v5_w (c : Int) (h : (48 ≤ c ∧ c ≤ 57)) : mcB c 119 = true := by
  rw [lo_w]
  simp [in_w, alphaB, digitB]
  omega
theorem v5_x (c : Int) (h : (48 ≤ c ∧ c ≤ 57)) : mcB c 120 = true := by
  rw [lo_x]
  simp [in_x, hexB, digitB]
  omega
theorem v5_z (c : Int) (h : (48 ≤ c ∧ c ≤ 57)) : mcB c 122 = false := by
  rw [lo_z, Bool.eq_false_iff]
  simp [in_z]
  omega
theorem v6_a (c : Int) (h : (65 ≤ c ∧ c ≤ 70)) : mcB c 97 = true := by
  rw [lo_a]
  simp [in_a, alphaB]
  omega
theorem v6_c (c : Int) (h : (65 ≤ c ∧ c ≤ 70)) : mcB c 99 = false := by
  rw [lo_c, Bool.eq_false_iff]
  simp [in_c]
  omega
theorem v6_d (c : Int) (h : (65 ≤ c ∧ c ≤ 70)) : mcB c 100 = false := by
  rw [lo_d, Bool.eq_false_iff]
  simp [in_d, digitB]
  omega
theorem v6_l (c : Int) (h : (65 ≤ c ∧ c ≤ 70)) : mcB c 108 = false := by
  rw [lo_l, Bool.eq_false_iff]
  simp [in_l]
  omega
theorem v6_p (c : Int) (h : (65 ≤ c ∧ c ≤ 70)) : mcB c 112 = false := by
  rw [lo_p, Bool.eq_false_iff]
  simp [in_p, alphaB, digitB]
  omega
theorem v6_s (c : Int) (h : (65 ≤ c ∧ c ≤ 70)) : mcB c 115 = false := by
  rw [lo_s, Bool.eq_false_iff]
  simp [in_s]
  omega
theorem v6_u (c : Int) (h : (65 ≤ c ∧ c ≤ 70)) : mcB c 117 = true := by
  rw [lo_u]
  simp [in_u]
  omega
theorem v6_w (c : Int) (h : (65 ≤ c ∧ c ≤ 70)) : mcB c 119 = true := by
  rw [lo_w]
  simp [in_w, alphaB, digitB]
  omega
theorem v6_x (c : Int) (h : (65 ≤ c ∧ c ≤ 70)) : mcB c 120 = true := by
  rw [lo_x]
  simp [in_x, hexB, digitB]
  omega
theorem v6_z (c : Int) (h : (65 ≤ c ∧ c ≤ 70)) : mcB c 122 = false := by
  rw [lo_z, Bool.eq_false_iff]
  simp [in_z]
  omega
theorem v7_a (c : Int) (h : (71 ≤ c ∧ c ≤ 90)) : mcB c 97 = true := by
  rw [lo_a]
  simp [in_a, alphaB]
  omega
theorem v7_c (c : Int) (h : (71 ≤ c ∧ c ≤ 90)) : mcB c 99 = false := by
  rw [lo_c, Bool.eq_false_iff]
  simp [in_c]
  omega
theorem v7_d (c : Int) (h : (71 ≤ c ∧ c ≤ 90)) : mcB c 100 = false := by
  rw [lo_d, Bool.eq_false_iff]
  simp [in_d, digitB]
  omega
theorem v7_l (c : Int) (h : (71 ≤ c ∧ c ≤ 90)) : mcB c 108 = false := by
  rw [lo_l, Bool.eq_false_iff]
  simp [in_l]
  omega
theorem v7_p (c : Int) (h : (71 ≤ c ∧ c ≤ 90)) : mcB c 112 = false := by
  rw [lo_p, Bool.eq_false_iff]
  simp [in_p, alphaB, digitB]
  omega
theorem v7_s (c : Int) (h : (71 ≤ c ∧ c ≤ 90)) : mcB c 115 = false := by
  rw [lo_s, Bool.eq_false_iff]
  simp [in_s]
  omega
theorem v7_u (c : Int) (h : (71 ≤ c ∧ c ≤ 90)) : mcB c 117 = true := by
  rw [lo_u]
  simp [in_u]
  omega
theorem v7_w (c : Int) (h : (71 ≤ c ∧ c ≤ 90)) : mcB c 119 = true := by
  rw [lo_w]
  simp [in_w, alphaB, digitB]
  omega
theorem v7_x (c : Int) (h : (71 ≤ c ∧ c ≤ 90)) : mcB c 120 = false := by
  rw [lo_x, Bool.eq_false_iff]
  simp [in_x, hexB, digitB]
  omega
theorem v7_z (c : Int) (h : (71 ≤ c ∧ c ≤ 90)) : mcB c 122 = false := by
  rw [lo_z, Bool.eq_false_iff]
  simp [in_z]
  omega
theorem v8_a (c : Int) (h : (97 ≤ c ∧ c ≤ 102)) : mcB c 97 = true := by
  rw [lo_a]
  simp [in_a, alphaB]
  omega
theorem v8_c (c : Int) (h : (97 ≤ c ∧ c ≤ 102)) : mcB c 99 = false := by
  rw [lo_c, Bool.eq_false_iff]
  simp [in_c]
  omega
theorem v8_d (c : Int) (h : (97 ≤ c ∧ c ≤ 102)) : mcB c 100 = false := by
  rw [lo_d, Bool.eq_false_iff]
  simp [in_d, digitB]
  omega
theorem v8_l (c : Int) (h : (97 ≤ c ∧ c ≤ 102)) : mcB c 108 = true := by
  rw [lo_l]
  simp [in_l]
  omega
theorem v8_p (c : Int) (h : (97 ≤ c ∧ c ≤ 102)) : mcB c 112 = false := by
  rw [lo_p, Bool.eq_false_iff]
  simp [in_p, alphaB, digitB]
  omega
theorem v8_s (c : Int) (h : (97 ≤ c ∧ c ≤ 102)) : mcB c 115 = false := by
  rw [lo_s, Bool.eq_false_iff]
  simp [in_s]
  omega
theorem v8_u (c : Int) (h : (97 ≤ c ∧ c ≤ 102)) : mcB c 117 = false := by
  rw [lo_u, Bool.eq_false_iff]
  simp [in_u]
  omega
theorem v8_w (c : Int) (h : (97 ≤ c ∧ c ≤ 102)) : mcB c 119 = true := by
  rw [lo_w]
  simp [in_w, alphaB, digitB]
  omega
theorem v8_x (c : Int) (h : (97 ≤ c ∧ c ≤ 102)) : mcB c 120 = true := by
  rw [lo_x]
  simp [in_x, hexB, digitB]
  omega
theorem v8_z (c : Int) (h : (97 ≤ c ∧ c ≤ 102)) : mcB c 122 = false := by
  rw [lo_z, Bool.eq_false_iff]
  simp [in_z]
  omega
theorem v9_a (c : Int) (h : (103 ≤ c ∧ c ≤ 122)) : mcB c 97 = true := by
  rw [lo_a]
  simp [in_a, alphaB]
  omega
theorem v9_c (c : Int) (h : (103 ≤ c ∧ c ≤ 122)) : mcB c 99 = false := by
  rw [lo_c, Bool.eq_false_iff]
  simp [in_c]
  omega
theorem v9_d (c : Int) (h : (103 ≤ c ∧ c ≤ 122)) : mcB c 100 = false := by
  rw [lo_d, Bool.eq_false_iff]
  simp [in_d, digitB]
  omega
theorem v9_l (c : Int) (h : (103 ≤ c ∧ c ≤ 122)) : mcB c 108 = true := by
  rw [lo_l]
  simp [in_l]
  omega
theorem v9_p (c : Int) (h : (103 ≤ c ∧ c ≤ 122)) : mcB c 112 = false := by
  rw [lo_p, Bool.eq_false_iff]
  simp [in_p, alphaB, digitB]
  omega
theorem v9_s (c : Int) (h : (103 ≤ c ∧ c ≤ 122)) : mcB c 115 = false := by
  rw [lo_s, Bool.eq_false_iff]
  simp [in_s]
  omega
theorem v9_u (c : Int) (h : (103 ≤ c ∧ c ≤ 122)) : mcB c 117 = false := by
  rw [lo_u, Bool.eq_false_iff]
  simp [in_u]
  omega
theorem v9_w (c : Int) (h : (103 ≤ c ∧ c ≤ 122)) : mcB c 119 = true := by
  rw [lo_w]
  simp [in_w, alphaB, digitB]
  omega
theorem v9_x (c : Int) (h : (103 ≤ c ∧ c ≤ 122)) : mcB c 120 = false := by
  rw [lo_x, Bool.eq_false_iff]
  simp [in_x, hexB, digitB]
  omega
theorem v9_z (c : Int) (h : (103 ≤ c ∧ c ≤ 122)) : mcB c 122 = false := by
  rw [lo_z, Bool.eq_false_iff]
  simp [in_z]
  omega
theorem v10_a (c : Int) (h : (128 ≤ c ∧ c ≤ 255)) : mcB c 97 = false := by
  rw [lo_a, Bool.eq_false_iff]
  simp [in_a, alphaB]
  omega
theorem v10_c (c : Int) (h : (128 ≤ c ∧ c ≤ 255)) : mcB c 99 = false := by
  rw [lo_c, Bool.eq_false_iff]
  simp [in_c]
  omega
theorem v10_d (c : Int) (h : (128 ≤ c ∧ c ≤ 255)) : mcB c 100 = false := by
  rw [lo_d, Bool.eq_false_iff]
  simp [in_d, digitB]
  omega
theorem v10_l (c : Int) (h : (128 ≤ c ∧ c ≤ 255)) : mcB c 108 = false := by
  rw [lo_l, Bool.eq_false_iff]
  simp [in_l]
  omega
theorem v10_p (c : Int) (h : (128 ≤ c ∧ c ≤ 255)) : mcB c 112 = false := by
  rw [lo_p, Bool.eq_false_iff]
  simp [in_p, alphaB, digitB]
  omega
theorem v10_s (c : Int) (h : (128 ≤ c ∧ c ≤ 255)) : mcB c 115 = false := by
  rw [lo_s, Bool.eq_false_iff]
  simp [in_s]
  omega
theorem v10_u (c : Int) (h : (128 ≤ c ∧ c ≤ 255)) : mcB c 117 = false := by
  rw [lo_u, Bool.eq_false_iff]
  simp [in_u]
  omega
theorem v10_w (c : Int) (h : (128 ≤ c ∧ c ≤ 255)) : mcB c 119 = false := by
  rw [lo_w, Bool.eq_false_iff]
  simp [in_w, alphaB, digitB]
  omega
theorem v10_x (c : Int) (h : (128 ≤ c ∧ c ≤ 255)) : mcB c 120 = false := by
  rw [lo_x, Bool.eq_false_iff]
  simp [in_x, hexB, digitB]
  omega
theorem v10_z (c : Int) (h : (128 ≤ c ∧ c ≤ 255)) : mcB c 122 = false := by
  rw [lo_z, Bool.eq_false_iff]
  simp [in_z]
  omega
theorem ne_at (c : Int) (k : Nat) (hk : k < 10) : (mcB c (((({ data := #[97, 99, 100, 108, 112, 115, 117, 119, 120, 122] } : ByteArray)[k]'hk).toNat - 32 : Int) % 256) == mcB c ((({ data := #[97, 99, 100, 108, 112, 115, 117, 119, 120, 122] } : ByteArray)[k]'hk).toNat : Int)) = false :=
  match k, hk with
  | 0, _ => ne_a c
  | 1, _ => ne_c c
  | 2, _ => ne_d c
  | 3, _ => ne_l c
  | 4, _ => ne_p c
  | 5, _ => ne_s c
  | 6, _ => ne_u c
  | 7, _ => ne_w c
  | 8, _ => ne_x c
  | 9, _ => ne_z c


/-! ### STEP 1: THE WALK: the Go text returns true. 'Grown w w'': the world has at most new blocks (Derived/RowKit3.lean). Part the cases AHEAD of 'go_enter' where a test parts the walk; take each callee by a contract of your own. -/
set_option maxRecDepth 100000 in
set_option maxHeartbeats 4000000 in
theorem walk (a0 : Int) (w0 : (Lit.int .u8 a0).wf = true) (w : World) :
    Calls Try.prog 4 #[.int .u8 a0] w fun e w' => e = .returned (.bool true) ∧ Grown w w' := by
  have hb := bounds_u8 w0
  obtain ⟨hb0, hb1⟩ := hb
  go_enter Try.func4, Try.ntmps4
  go_wp2
  go_loop [3] (fun i => ∃ k : Nat, k ≤ 10 ∧ i = .int .i64 k) (fun i => 10 - (intOf i).toNat)
  case atStart => exact ⟨0, Nat.zero_le _, rfl⟩
  case round =>
    obtain ⟨k, hk, rfl⟩ := hrel
    by_cases hlt : k < 10
    · have hne := ne_at a0 k hlt
      go_wp2_with (go_at_call 7; refine (zzmc_any _ _ _).mono ?_; rintro e w' ⟨rfl, rfl⟩)
      go_round
      case rel => exact ⟨k + 1, by omega, by go_num⟩
      case measure => simp [intOf]; omega
    · have hge : 10 ≤ k := by omega
      clear hlt
      rcases kinds a0 hb0 hb1 with h | h | h | h | h | h | h | h | h | h | h
      · skip
        have m97 := v0_a a0 h
        have m99 := v0_c a0 h
        have m100 := v0_d a0 h
        have m108 := v0_l a0 h
        have m112 := v0_p a0 h
        have m115 := v0_s a0 h
        have m117 := v0_u a0 h
        have m119 := v0_w a0 h
        have m120 := v0_x a0 h
        have m122 := v0_z a0 h
        have e0 : (a0 == 0) = true := by simp; omega
        have e32 : (a0 == 32) = false := by simp; omega
        have n32 : (a0 != 32) = true := by simp; omega
        have e128 : a0 < 128 := by omega
        clear h
        go_wp2_with (go_at_call 7; refine (zzmc_any _ _ _).mono ?_; rintro e w' ⟨rfl, rfl⟩)
        go_ret
        exact ⟨rfl, Grown.refl _⟩
      · skip
        have m97 := v1_a a0 h
        have m99 := v1_c a0 h
        have m100 := v1_d a0 h
        have m108 := v1_l a0 h
        have m112 := v1_p a0 h
        have m115 := v1_s a0 h
        have m117 := v1_u a0 h
        have m119 := v1_w a0 h
        have m120 := v1_x a0 h
        have m122 := v1_z a0 h
        have e0 : (a0 == 0) = false := by simp; omega
        have e32 : (a0 == 32) = false := by simp; omega
        have n32 : (a0 != 32) = true := by simp; omega
        have e128 : a0 < 128 := by omega
        clear h
        go_wp2_with (go_at_call 7; refine (zzmc_any _ _ _).mono ?_; rintro e w' ⟨rfl, rfl⟩)
        go_ret
        exact ⟨rfl, Grown.refl _⟩
      · skip
        have m97 := v2_a a0 h
        have m99 := v2_c a0 h
        have m100 := v2_d a0 h
        have m108 := v2_l a0 h
        have m112 := v2_p a0 h
        have m115 := v2_s a0 h
        have m117 := v2_u a0 h
        have m119 := v2_w a0 h
        have m120 := v2_x a0 h
        have m122 := v2_z a0 h
        have e0 : (a0 == 0) = false := by simp; omega
        have e32 : (a0 == 32) = false := by simp; omega
        have n32 : (a0 != 32) = true := by simp; omega
        have e128 : a0 < 128 := by omega
        clear h
        go_wp2_with (go_at_call 7; refine (zzmc_any _ _ _).mono ?_; rintro e w' ⟨rfl, rfl⟩)
        go_ret
        exact ⟨rfl, Grown.refl _⟩
      · skip
        have m97 := v3_a a0 h
        have m99 := v3_c a0 h
        have m100 := v3_d a0 h
        have m108 := v3_l a0 h
        have m112 := v3_p a0 h
        have m115 := v3_s a0 h
        have m117 := v3_u a0 h
        have m119 := v3_w a0 h
        have m120 := v3_x a0 h
        have m122 := v3_z a0 h
        have e0 : (a0 == 0) = false := by simp; omega
        have e32 : (a0 == 32) = true := by simp; omega
        have n32 : (a0 != 32) = false := by simp; omega
        have e128 : a0 < 128 := by omega
        clear h
        go_wp2_with (go_at_call 7; refine (zzmc_any _ _ _).mono ?_; rintro e w' ⟨rfl, rfl⟩)
        go_ret
        exact ⟨rfl, Grown.refl _⟩
      · skip
        have m97 := v4_a a0 h
        have m99 := v4_c a0 h
        have m100 := v4_d a0 h
        have m108 := v4_l a0 h
        have m112 := v4_p a0 h
        have m115 := v4_s a0 h
        have m117 := v4_u a0 h
        have m119 := v4_w a0 h
        have m120 := v4_x a0 h
        have m122 := v4_z a0 h
        have e0 : (a0 == 0) = false := by simp; omega
        have e32 : (a0 == 32) = false := by simp; omega
        have n32 : (a0 != 32) = true := by simp; omega
        have e128 : a0 < 128 := by omega
        clear h
        go_wp2_with (go_at_call 7; refine (zzmc_any _ _ _).mono ?_; rintro e w' ⟨rfl, rfl⟩)
        go_ret
        exact ⟨rfl, Grown.refl _⟩
      · skip
        have m97 := v5_a a0 h
        have m99 := v5_c a0 h
        have m100 := v5_d a0 h
        have m108 := v5_l a0 h
        have m112 := v5_p a0 h
        have m115 := v5_s a0 h
        have m117 := v5_u a0 h
        have m119 := v5_w a0 h
        have m120 := v5_x a0 h
        have m122 := v5_z a0 h
        have e0 : (a0 == 0) = false := by simp; omega
        have e32 : (a0 == 32) = false := by simp; omega
        have n32 : (a0 != 32) = true := by simp; omega
        have e128 : a0 < 128 := by omega
        clear h
        go_wp2_with (go_at_call 7; refine (zzmc_any _ _ _).mono ?_; rintro e w' ⟨rfl, rfl⟩)
        go_ret
        exact ⟨rfl, Grown.refl _⟩
      · skip
        have m97 := v6_a a0 h
        have m99 := v6_c a0 h
        have m100 := v6_d a0 h
        have m108 := v6_l a0 h
        have m112 := v6_p a0 h
        have m115 := v6_s a0 h
        have m117 := v6_u a0 h
        have m119 := v6_w a0 h
        have m120 := v6_x a0 h
        have m122 := v6_z a0 h
        have e0 : (a0 == 0) = false := by simp; omega
        have e32 : (a0 == 32) = false := by simp; omega
        have n32 : (a0 != 32) = true := by simp; omega
        have e128 : a0 < 128 := by omega
        clear h
        go_wp2_with (go_at_call 7; refine (zzmc_any _ _ _).mono ?_; rintro e w' ⟨rfl, rfl⟩)
        go_ret
        exact ⟨rfl, Grown.refl _⟩
      · skip
        have m97 := v7_a a0 h
        have m99 := v7_c a0 h
        have m100 := v7_d a0 h
        have m108 := v7_l a0 h
        have m112 := v7_p a0 h
        have m115 := v7_s a0 h
        have m117 := v7_u a0 h
        have m119 := v7_w a0 h
        have m120 := v7_x a0 h
        have m122 := v7_z a0 h
        have e0 : (a0 == 0) = false := by simp; omega
        have e32 : (a0 == 32) = false := by simp; omega
        have n32 : (a0 != 32) = true := by simp; omega
        have e128 : a0 < 128 := by omega
        clear h
        go_wp2_with (go_at_call 7; refine (zzmc_any _ _ _).mono ?_; rintro e w' ⟨rfl, rfl⟩)
        go_ret
        exact ⟨rfl, Grown.refl _⟩
      · skip
        have m97 := v8_a a0 h
        have m99 := v8_c a0 h
        have m100 := v8_d a0 h
        have m108 := v8_l a0 h
        have m112 := v8_p a0 h
        have m115 := v8_s a0 h
        have m117 := v8_u a0 h
        have m119 := v8_w a0 h
        have m120 := v8_x a0 h
        have m122 := v8_z a0 h
        have e0 : (a0 == 0) = false := by simp; omega
        have e32 : (a0 == 32) = false := by simp; omega
        have n32 : (a0 != 32) = true := by simp; omega
        have e128 : a0 < 128 := by omega
        clear h
        go_wp2_with (go_at_call 7; refine (zzmc_any _ _ _).mono ?_; rintro e w' ⟨rfl, rfl⟩)
        go_ret
        exact ⟨rfl, Grown.refl _⟩
      · skip
        have m97 := v9_a a0 h
        have m99 := v9_c a0 h
        have m100 := v9_d a0 h
        have m108 := v9_l a0 h
        have m112 := v9_p a0 h
        have m115 := v9_s a0 h
        have m117 := v9_u a0 h
        have m119 := v9_w a0 h
        have m120 := v9_x a0 h
        have m122 := v9_z a0 h
        have e0 : (a0 == 0) = false := by simp; omega
        have e32 : (a0 == 32) = false := by simp; omega
        have n32 : (a0 != 32) = true := by simp; omega
        have e128 : a0 < 128 := by omega
        clear h
        go_wp2_with (go_at_call 7; refine (zzmc_any _ _ _).mono ?_; rintro e w' ⟨rfl, rfl⟩)
        go_ret
        exact ⟨rfl, Grown.refl _⟩
      · skip
        have m97 := v10_a a0 h
        have m99 := v10_c a0 h
        have m100 := v10_d a0 h
        have m108 := v10_l a0 h
        have m112 := v10_p a0 h
        have m115 := v10_s a0 h
        have m117 := v10_u a0 h
        have m119 := v10_w a0 h
        have m120 := v10_x a0 h
        have m122 := v10_z a0 h
        have e0 : (a0 == 0) = false := by simp; omega
        have e32 : (a0 == 32) = false := by simp; omega
        have n32 : (a0 != 32) = true := by simp; omega
        have e128 : 128 ≤ a0 := by omega
        clear h
        go_wp2_with (go_at_call 7; refine (zzmc_any _ _ _).mono ?_; rintro e w' ⟨rfl, rfl⟩)
        go_ret
        exact ⟨rfl, Grown.refl _⟩

/-! ### THE ROW's STEP: WRITTEN OUT: LEAVE IT -/
set_option maxRecDepth 100000 in
theorem lifted (os : Os) (started : os.Started) (H : Type) (enc : TypeId × Value → H) :
    ReturnsInHanded {} Try.checked os 4 .any (Rows.fnMatchClassRelationsSpec.pre6 enc Try.prog Try.f4 Rows.fnMatchClassRelationsRow.domain false) (Rows.fnMatchClassRelationsSpec.post enc Try.prog Try.f4 false true false false) := by
  refine returnsInHanded_of_change (C := Try.checked) own started (by kernel_rfl) Try.func4
    (ChangeSpec.witness6 (enc := enc) (C := Try.checked) false ⟨#[], #[.int .u8 0], []⟩ 8 (by kernel_rfl) (by kernel_rfl) (by kernel_rfl) (by kernel_rfl)) ?_
  intro W base args ds gs before hval0 hW hcnd _
  have hval : ∀ (j : Nat) t v, Try.f4.params[j]? = some t → args[j]? = some v → Value.okWide Try.prog W .any base t v := hval0
  have hW' := hW
  obtain ⟨p, q, hA0, hV, rfl, hfz, hnd⟩ := hW
  have hA : DataW.TrodAll enc Try.prog W 0 (fun _ => true) true Try.f4.params.toList args.toList ds p := hA0
  rw [Try.params4] at hA hval
  obtain ⟨v0, vs0, d0, ds0, p0, q0, hargs, rfl, rfl, h0, r0⟩ := trodAll_cons hA
  obtain ⟨rfl, rfl, rfl⟩ := trodAll_nil r0
  obtain rfl : args = #[v0] := by cases args; simp_all
  obtain ⟨rfl, rfl⟩ := trodVars_none hV
  obtain ⟨a0, rfl, rfl, rfl, w0⟩ := open_int Try.underlying5 (hval 0 5 v0 rfl rfl) h0
  clear hA0 hval0
  simp only [List.append_nil] at hW'
  refine (walk a0 w0 W).mono fun e W' ⟨he, hg⟩ => ?_
  subst he
  exact ⟨_, rfl, post_of_same (pa := []) (pv := []) hW' (fun _ _ _ => (trodAll_cons_mk (shut_bool Try.underlying4 _) trodAll_mk0)) (fun sp _ => (trodAll_cons_mk (shut_int Try.underlying5 w0) trodAll_mk0)) (fun _ _ => rfl) rfl
    (hg.frame _) hg.2.1 (ok_one (by kernel_rfl) rfl (okWide_bool_mk Try.underlying4 _))⟩

theorem over : Rows.fnMatchClassRelationsRow.holds Try.pinned (OpenSpec.ofChange Rows.fnMatchClassRelationsSpec) :=
  OpenClaim.holds_of_wide 4 Try.f4 rfl rfl rfl rfl rfl rfl rfl ⟨rfl, rfl, rfl, rfl, rfl⟩ rfl rfl rfl rfl rfl (by kernel_rfl) Try.func4 (by kernel_rfl)
    (of_decide_eq_true (by kernel_rfl)) (by unfold Func.isWrapper; first | (rw [if_pos (by decide +kernel)]; kernel_rfl) | (rw [if_neg (by decide +kernel)]; exact ⟨rfl, rfl⟩))
    (fun os started H enc _ => lifted os started H enc)

/-- ████ THE STATEMENT ████ -/
theorem proved : Rows.FnMatchClassRelationsSaid :=
  over
#print axioms proved
end Go.Proofs.Qxb6602654a.fnMatchClassRelations
