/-
  DERIVED. The walks of isAlpha, isDigit, isHex, matchClass, ZZmatchClass; what they compute, as plain functions on integers.
-/
import Derived.Test.Qxb6602654aRows
import Derived.WalkKit
import Derived.ProofKit
import Derived.WalkSpells
namespace Go.Proofs.Qxb6602654a
open Go.ChangeShapes Go.WideShapes Go.ChangeAt Go.RowKit

theorem ret_b {a b : Bool} (h : a = b) : Ending.returned (.bool a) = .returned (.bool b) := by rw [h]
theorem ret_i {k : IntKind} {a b : Int} (h : a = b) : Ending.returned (.int k a) = .returned (.int k b) := by rw [h]

def digitB (c : Int) : Bool := decide (48 ≤ c) && decide (c ≤ 57)
def alphaB (c : Int) : Bool := (decide (97 ≤ c) && decide (c ≤ 122)) || (decide (65 ≤ c) && decide (c ≤ 90))
def hexB (c : Int) : Bool := digitB c || (decide (97 ≤ c) && decide (c ≤ 102)) || (decide (65 ≤ c) && decide (c ≤ 70))
def in_a (c : Int) : Bool := alphaB c
def in_c (c : Int) : Bool := (decide (c < 32) || c == 127)
def in_d (c : Int) : Bool := digitB c
def in_l (c : Int) : Bool := (decide (97 ≤ c) && decide (c ≤ 122))
def in_p (c : Int) : Bool := (decide (32 < c) && decide (c < 127) && !alphaB c && !digitB c)
def in_s (c : Int) : Bool := (c == 32 || decide (9 ≤ c) && decide (c ≤ 13))
def in_u (c : Int) : Bool := (decide (65 ≤ c) && decide (c ≤ 90))
def in_w (c : Int) : Bool := (alphaB c || digitB c)
def in_x (c : Int) : Bool := hexB c
def in_z (c : Int) : Bool := (c == 0)
def upB (cl : Int) : Bool := decide (65 ≤ cl) && decide (cl ≤ 90)
/-- What matchClass computes, L being cl | 0x20. -/
def mcL (L c cl : Int) : Bool :=
  if L = 97 then (in_a c != upB cl) else
  if L = 99 then (in_c c != upB cl) else
  if L = 100 then (in_d c != upB cl) else
  if L = 108 then (in_l c != upB cl) else
  if L = 112 then (in_p c != upB cl) else
  if L = 115 then (in_s c != upB cl) else
  if L = 117 then (in_u c != upB cl) else
  if L = 119 then (in_w c != upB cl) else
  if L = 120 then (in_x c != upB cl) else
  if L = 122 then (in_z c != upB cl) else
  (cl == c)
def mcB (c cl : Int) : Bool := mcL (bits .or .u8 cl 32) c cl

theorem alpha_any (c : Int) (w : World) : Calls Try.prog 16 #[.int .u8 c] w fun e w' => e = .returned (.bool (alphaB c)) ∧ w' = w := by
  by_cases h1 : 97 ≤ c
  · by_cases h2 : c ≤ 122
    · go_enter Try.func16, Try.ntmps16
      go_wp2
      go_ret
      refine ⟨ret_b ?_, rfl⟩
      simp [alphaB, h1, h2]
    · have h2' : decide (c ≤ 122) = false := decide_eq_false h2
      go_enter Try.func16, Try.ntmps16
      go_wp2
      all_goals
        go_ret
        refine ⟨ret_b ?_, rfl⟩
        rw [Bool.eq_iff_iff]
        simp [alphaB]
        omega
  · have h1' : c < 97 := by omega
    go_enter Try.func16, Try.ntmps16
    go_wp2
    all_goals
      go_ret
      refine ⟨ret_b ?_, rfl⟩
      rw [Bool.eq_iff_iff]
      simp [alphaB]
      omega
theorem digit_any (c : Int) (w : World) : Calls Try.prog 17 #[.int .u8 c] w fun e w' => e = .returned (.bool (digitB c)) ∧ w' = w := by
  go_enter Try.func17, Try.ntmps17
  go_wp2
  all_goals
    go_ret
    refine ⟨ret_b ?_, rfl⟩
    rw [Bool.eq_iff_iff]
    simp [digitB]
    omega
theorem hex_any (c : Int) (w : World) : Calls Try.prog 18 #[.int .u8 c] w fun e w' => e = .returned (.bool (hexB c)) ∧ w' = w := by
  cases hd : digitB c
  · have HD : Hid (digitB c = false) := hd
    clear hd
    go_enter Try.func18, Try.ntmps18
    go_wp2_with (go_at_call 17; refine (digit_any _ _).mono ?_; rw [HD.out]; rintro e w' ⟨rfl, rfl⟩)
    all_goals
      go_ret
      refine ⟨ret_b ?_, rfl⟩
      unfold hexB
      rw [HD.out, Bool.eq_iff_iff]
      simp
      omega
  · have HD : Hid (digitB c = true) := hd
    clear hd
    go_enter Try.func18, Try.ntmps18
    go_wp2_with (go_at_call 17; refine (digit_any _ _).mono ?_; rw [HD.out]; rintro e w' ⟨rfl, rfl⟩)
    all_goals
      go_ret
      refine ⟨ret_b ?_, rfl⟩
      unfold hexB
      rw [HD.out]
      simp

set_option maxHeartbeats 1000000 in
theorem mc_a (c cl : Int) (w : World) (hor : bits .or .u8 cl 32 = 97) : Calls Try.prog 14 #[.int .u8 c, .int .u8 cl] w fun e w' => e = .returned (.bool (in_a c != upB cl)) ∧ w' = w := by
  by_cases h1 : 65 ≤ cl
  · by_cases h2 : cl ≤ 90
    · have HU : Hid (upB cl = true) := (by simp [upB, h1, h2] : upB cl = true)
      go_enter Try.func14, Try.ntmps14
      go_wp2_with (first | (go_at_call 16; refine (alpha_any _ _).mono ?_; rintro e w' ⟨rfl, rfl⟩) | (go_at_call 17; refine (digit_any _ _).mono ?_; rintro e w' ⟨rfl, rfl⟩) | (go_at_call 18; refine (hex_any _ _).mono ?_; rintro e w' ⟨rfl, rfl⟩))
      all_goals
        go_ret
        refine ⟨ret_b ?_, rfl⟩
        rw [HU.out]
        unfold in_a
        simp
    · have HU : Hid (upB cl = false) := (by simp [upB, h2] : upB cl = false)
      have h2' : 90 < cl := by omega
      clear h2
      go_enter Try.func14, Try.ntmps14
      go_wp2_with (first | (go_at_call 16; refine (alpha_any _ _).mono ?_; rintro e w' ⟨rfl, rfl⟩) | (go_at_call 17; refine (digit_any _ _).mono ?_; rintro e w' ⟨rfl, rfl⟩) | (go_at_call 18; refine (hex_any _ _).mono ?_; rintro e w' ⟨rfl, rfl⟩))
      all_goals
        go_ret
        refine ⟨ret_b ?_, rfl⟩
        rw [HU.out]
        unfold in_a
        simp
  · have HU : Hid (upB cl = false) := (by simp [upB, h1] : upB cl = false)
    have h1' : cl < 65 := by omega
    clear h1
    go_enter Try.func14, Try.ntmps14
    go_wp2_with (first | (go_at_call 16; refine (alpha_any _ _).mono ?_; rintro e w' ⟨rfl, rfl⟩) | (go_at_call 17; refine (digit_any _ _).mono ?_; rintro e w' ⟨rfl, rfl⟩) | (go_at_call 18; refine (hex_any _ _).mono ?_; rintro e w' ⟨rfl, rfl⟩))
    all_goals
      go_ret
      refine ⟨ret_b ?_, rfl⟩
      rw [HU.out]
      unfold in_a
      simp

set_option maxHeartbeats 1000000 in
theorem mc_c (c cl : Int) (w : World) (hor : bits .or .u8 cl 32 = 99) : Calls Try.prog 14 #[.int .u8 c, .int .u8 cl] w fun e w' => e = .returned (.bool (in_c c != upB cl)) ∧ w' = w := by
  by_cases h1 : 65 ≤ cl
  · by_cases h2 : cl ≤ 90
    · have HU : Hid (upB cl = true) := (by simp [upB, h1, h2] : upB cl = true)
      go_enter Try.func14, Try.ntmps14
      go_wp2_with (first | (go_at_call 16; refine (alpha_any _ _).mono ?_; rintro e w' ⟨rfl, rfl⟩) | (go_at_call 17; refine (digit_any _ _).mono ?_; rintro e w' ⟨rfl, rfl⟩) | (go_at_call 18; refine (hex_any _ _).mono ?_; rintro e w' ⟨rfl, rfl⟩))
      all_goals
        go_ret
        refine ⟨ret_b ?_, rfl⟩
        rw [HU.out]
        unfold in_c
        rw [Bool.eq_iff_iff]
        simp [*]
        try omega
    · have HU : Hid (upB cl = false) := (by simp [upB, h2] : upB cl = false)
      have h2' : 90 < cl := by omega
      clear h2
      go_enter Try.func14, Try.ntmps14
      go_wp2_with (first | (go_at_call 16; refine (alpha_any _ _).mono ?_; rintro e w' ⟨rfl, rfl⟩) | (go_at_call 17; refine (digit_any _ _).mono ?_; rintro e w' ⟨rfl, rfl⟩) | (go_at_call 18; refine (hex_any _ _).mono ?_; rintro e w' ⟨rfl, rfl⟩))
      all_goals
        go_ret
        refine ⟨ret_b ?_, rfl⟩
        rw [HU.out]
        unfold in_c
        rw [Bool.eq_iff_iff]
        simp [*]
        try omega
  · have HU : Hid (upB cl = false) := (by simp [upB, h1] : upB cl = false)
    have h1' : cl < 65 := by omega
    clear h1
    go_enter Try.func14, Try.ntmps14
    go_wp2_with (first | (go_at_call 16; refine (alpha_any _ _).mono ?_; rintro e w' ⟨rfl, rfl⟩) | (go_at_call 17; refine (digit_any _ _).mono ?_; rintro e w' ⟨rfl, rfl⟩) | (go_at_call 18; refine (hex_any _ _).mono ?_; rintro e w' ⟨rfl, rfl⟩))
    all_goals
      go_ret
      refine ⟨ret_b ?_, rfl⟩
      rw [HU.out]
      unfold in_c
      rw [Bool.eq_iff_iff]
      simp [*]
      try omega

set_option maxHeartbeats 1000000 in
theorem mc_d (c cl : Int) (w : World) (hor : bits .or .u8 cl 32 = 100) : Calls Try.prog 14 #[.int .u8 c, .int .u8 cl] w fun e w' => e = .returned (.bool (in_d c != upB cl)) ∧ w' = w := by
  by_cases h1 : 65 ≤ cl
  · by_cases h2 : cl ≤ 90
    · have HU : Hid (upB cl = true) := (by simp [upB, h1, h2] : upB cl = true)
      go_enter Try.func14, Try.ntmps14
      go_wp2_with (first | (go_at_call 16; refine (alpha_any _ _).mono ?_; rintro e w' ⟨rfl, rfl⟩) | (go_at_call 17; refine (digit_any _ _).mono ?_; rintro e w' ⟨rfl, rfl⟩) | (go_at_call 18; refine (hex_any _ _).mono ?_; rintro e w' ⟨rfl, rfl⟩))
      all_goals
        go_ret
        refine ⟨ret_b ?_, rfl⟩
        rw [HU.out]
        unfold in_d
        simp
    · have HU : Hid (upB cl = false) := (by simp [upB, h2] : upB cl = false)
      have h2' : 90 < cl := by omega
      clear h2
      go_enter Try.func14, Try.ntmps14
      go_wp2_with (first | (go_at_call 16; refine (alpha_any _ _).mono ?_; rintro e w' ⟨rfl, rfl⟩) | (go_at_call 17; refine (digit_any _ _).mono ?_; rintro e w' ⟨rfl, rfl⟩) | (go_at_call 18; refine (hex_any _ _).mono ?_; rintro e w' ⟨rfl, rfl⟩))
      all_goals
        go_ret
        refine ⟨ret_b ?_, rfl⟩
        rw [HU.out]
        unfold in_d
        simp
  · have HU : Hid (upB cl = false) := (by simp [upB, h1] : upB cl = false)
    have h1' : cl < 65 := by omega
    clear h1
    go_enter Try.func14, Try.ntmps14
    go_wp2_with (first | (go_at_call 16; refine (alpha_any _ _).mono ?_; rintro e w' ⟨rfl, rfl⟩) | (go_at_call 17; refine (digit_any _ _).mono ?_; rintro e w' ⟨rfl, rfl⟩) | (go_at_call 18; refine (hex_any _ _).mono ?_; rintro e w' ⟨rfl, rfl⟩))
    all_goals
      go_ret
      refine ⟨ret_b ?_, rfl⟩
      rw [HU.out]
      unfold in_d
      simp

set_option maxHeartbeats 1000000 in
theorem mc_l (c cl : Int) (w : World) (hor : bits .or .u8 cl 32 = 108) : Calls Try.prog 14 #[.int .u8 c, .int .u8 cl] w fun e w' => e = .returned (.bool (in_l c != upB cl)) ∧ w' = w := by
  by_cases h1 : 65 ≤ cl
  · by_cases h2 : cl ≤ 90
    · have HU : Hid (upB cl = true) := (by simp [upB, h1, h2] : upB cl = true)
      go_enter Try.func14, Try.ntmps14
      go_wp2_with (first | (go_at_call 16; refine (alpha_any _ _).mono ?_; rintro e w' ⟨rfl, rfl⟩) | (go_at_call 17; refine (digit_any _ _).mono ?_; rintro e w' ⟨rfl, rfl⟩) | (go_at_call 18; refine (hex_any _ _).mono ?_; rintro e w' ⟨rfl, rfl⟩))
      all_goals
        go_ret
        refine ⟨ret_b ?_, rfl⟩
        rw [HU.out]
        unfold in_l
        rw [Bool.eq_iff_iff]
        simp [*]
        try omega
    · have HU : Hid (upB cl = false) := (by simp [upB, h2] : upB cl = false)
      have h2' : 90 < cl := by omega
      clear h2
      go_enter Try.func14, Try.ntmps14
      go_wp2_with (first | (go_at_call 16; refine (alpha_any _ _).mono ?_; rintro e w' ⟨rfl, rfl⟩) | (go_at_call 17; refine (digit_any _ _).mono ?_; rintro e w' ⟨rfl, rfl⟩) | (go_at_call 18; refine (hex_any _ _).mono ?_; rintro e w' ⟨rfl, rfl⟩))
      all_goals
        go_ret
        refine ⟨ret_b ?_, rfl⟩
        rw [HU.out]
        unfold in_l
        rw [Bool.eq_iff_iff]
        simp [*]
        try omega
  · have HU : Hid (upB cl = false) := (by simp [upB, h1] : upB cl = false)
    have h1' : cl < 65 := by omega
    clear h1
    go_enter Try.func14, Try.ntmps14
    go_wp2_with (first | (go_at_call 16; refine (alpha_any _ _).mono ?_; rintro e w' ⟨rfl, rfl⟩) | (go_at_call 17; refine (digit_any _ _).mono ?_; rintro e w' ⟨rfl, rfl⟩) | (go_at_call 18; refine (hex_any _ _).mono ?_; rintro e w' ⟨rfl, rfl⟩))
    all_goals
      go_ret
      refine ⟨ret_b ?_, rfl⟩
      rw [HU.out]
      unfold in_l
      rw [Bool.eq_iff_iff]
      simp [*]
      try omega

set_option maxHeartbeats 1000000 in
theorem mc_p (c cl : Int) (w : World) (hor : bits .or .u8 cl 32 = 112) : Calls Try.prog 14 #[.int .u8 c, .int .u8 cl] w fun e w' => e = .returned (.bool (in_p c != upB cl)) ∧ w' = w := by
  by_cases h1 : 65 ≤ cl
  · by_cases h2 : cl ≤ 90
    · have HU : Hid (upB cl = true) := (by simp [upB, h1, h2] : upB cl = true)
      go_enter Try.func14, Try.ntmps14
      go_wp2_with (first | (go_at_call 16; refine (alpha_any _ _).mono ?_; rintro e w' ⟨rfl, rfl⟩) | (go_at_call 17; refine (digit_any _ _).mono ?_; rintro e w' ⟨rfl, rfl⟩) | (go_at_call 18; refine (hex_any _ _).mono ?_; rintro e w' ⟨rfl, rfl⟩))
      all_goals
        go_ret
        refine ⟨ret_b ?_, rfl⟩
        rw [HU.out]
        unfold in_p
        rw [Bool.eq_iff_iff]
        simp [*]
        try omega
    · have HU : Hid (upB cl = false) := (by simp [upB, h2] : upB cl = false)
      have h2' : 90 < cl := by omega
      clear h2
      go_enter Try.func14, Try.ntmps14
      go_wp2_with (first | (go_at_call 16; refine (alpha_any _ _).mono ?_; rintro e w' ⟨rfl, rfl⟩) | (go_at_call 17; refine (digit_any _ _).mono ?_; rintro e w' ⟨rfl, rfl⟩) | (go_at_call 18; refine (hex_any _ _).mono ?_; rintro e w' ⟨rfl, rfl⟩))
      all_goals
        go_ret
        refine ⟨ret_b ?_, rfl⟩
        rw [HU.out]
        unfold in_p
        rw [Bool.eq_iff_iff]
        simp [*]
        try omega
  · have HU : Hid (upB cl = false) := (by simp [upB, h1] : upB cl = false)
    have h1' : cl < 65 := by omega
    clear h1
    go_enter Try.func14, Try.ntmps14
    go_wp2_with (first | (go_at_call 16; refine (alpha_any _ _).mono ?_; rintro e w' ⟨rfl, rfl⟩) | (go_at_call 17; refine (digit_any _ _).mono ?_; rintro e w' ⟨rfl, rfl⟩) | (go_at_call 18; refine (hex_any _ _).mono ?_; rintro e w' ⟨rfl, rfl⟩))
    all_goals
      go_ret
      refine ⟨ret_b ?_, rfl⟩
      rw [HU.out]
      unfold in_p
      rw [Bool.eq_iff_iff]
      simp [*]
      try omega

set_option maxHeartbeats 1000000 in
theorem mc_s (c cl : Int) (w : World) (hor : bits .or .u8 cl 32 = 115) : Calls Try.prog 14 #[.int .u8 c, .int .u8 cl] w fun e w' => e = .returned (.bool (in_s c != upB cl)) ∧ w' = w := by
  by_cases h1 : 65 ≤ cl
  · by_cases h2 : cl ≤ 90
    · have HU : Hid (upB cl = true) := (by simp [upB, h1, h2] : upB cl = true)
      go_enter Try.func14, Try.ntmps14
      go_wp2_with (first | (go_at_call 16; refine (alpha_any _ _).mono ?_; rintro e w' ⟨rfl, rfl⟩) | (go_at_call 17; refine (digit_any _ _).mono ?_; rintro e w' ⟨rfl, rfl⟩) | (go_at_call 18; refine (hex_any _ _).mono ?_; rintro e w' ⟨rfl, rfl⟩))
      all_goals
        go_ret
        refine ⟨ret_b ?_, rfl⟩
        rw [HU.out]
        unfold in_s
        rw [Bool.eq_iff_iff]
        simp [*]
        try omega
    · have HU : Hid (upB cl = false) := (by simp [upB, h2] : upB cl = false)
      have h2' : 90 < cl := by omega
      clear h2
      go_enter Try.func14, Try.ntmps14
      go_wp2_with (first | (go_at_call 16; refine (alpha_any _ _).mono ?_; rintro e w' ⟨rfl, rfl⟩) | (go_at_call 17; refine (digit_any _ _).mono ?_; rintro e w' ⟨rfl, rfl⟩) | (go_at_call 18; refine (hex_any _ _).mono ?_; rintro e w' ⟨rfl, rfl⟩))
      all_goals
        go_ret
        refine ⟨ret_b ?_, rfl⟩
        rw [HU.out]
        unfold in_s
        rw [Bool.eq_iff_iff]
        simp [*]
        try omega
  · have HU : Hid (upB cl = false) := (by simp [upB, h1] : upB cl = false)
    have h1' : cl < 65 := by omega
    clear h1
    go_enter Try.func14, Try.ntmps14
    go_wp2_with (first | (go_at_call 16; refine (alpha_any _ _).mono ?_; rintro e w' ⟨rfl, rfl⟩) | (go_at_call 17; refine (digit_any _ _).mono ?_; rintro e w' ⟨rfl, rfl⟩) | (go_at_call 18; refine (hex_any _ _).mono ?_; rintro e w' ⟨rfl, rfl⟩))
    all_goals
      go_ret
      refine ⟨ret_b ?_, rfl⟩
      rw [HU.out]
      unfold in_s
      rw [Bool.eq_iff_iff]
      simp [*]
      try omega

set_option maxHeartbeats 1000000 in
theorem mc_u (c cl : Int) (w : World) (hor : bits .or .u8 cl 32 = 117) : Calls Try.prog 14 #[.int .u8 c, .int .u8 cl] w fun e w' => e = .returned (.bool (in_u c != upB cl)) ∧ w' = w := by
  by_cases h1 : 65 ≤ cl
  · by_cases h2 : cl ≤ 90
    · have HU : Hid (upB cl = true) := (by simp [upB, h1, h2] : upB cl = true)
      go_enter Try.func14, Try.ntmps14
      go_wp2_with (first | (go_at_call 16; refine (alpha_any _ _).mono ?_; rintro e w' ⟨rfl, rfl⟩) | (go_at_call 17; refine (digit_any _ _).mono ?_; rintro e w' ⟨rfl, rfl⟩) | (go_at_call 18; refine (hex_any _ _).mono ?_; rintro e w' ⟨rfl, rfl⟩))
      all_goals
        go_ret
        refine ⟨ret_b ?_, rfl⟩
        rw [HU.out]
        unfold in_u
        rw [Bool.eq_iff_iff]
        simp [*]
        try omega
    · have HU : Hid (upB cl = false) := (by simp [upB, h2] : upB cl = false)
      have h2' : 90 < cl := by omega
      clear h2
      go_enter Try.func14, Try.ntmps14
      go_wp2_with (first | (go_at_call 16; refine (alpha_any _ _).mono ?_; rintro e w' ⟨rfl, rfl⟩) | (go_at_call 17; refine (digit_any _ _).mono ?_; rintro e w' ⟨rfl, rfl⟩) | (go_at_call 18; refine (hex_any _ _).mono ?_; rintro e w' ⟨rfl, rfl⟩))
      all_goals
        go_ret
        refine ⟨ret_b ?_, rfl⟩
        rw [HU.out]
        unfold in_u
        rw [Bool.eq_iff_iff]
        simp [*]
        try omega
  · have HU : Hid (upB cl = false) := (by simp [upB, h1] : upB cl = false)
    have h1' : cl < 65 := by omega
    clear h1
    go_enter Try.func14, Try.ntmps14
    go_wp2_with (first | (go_at_call 16; refine (alpha_any _ _).mono ?_; rintro e w' ⟨rfl, rfl⟩) | (go_at_call 17; refine (digit_any _ _).mono ?_; rintro e w' ⟨rfl, rfl⟩) | (go_at_call 18; refine (hex_any _ _).mono ?_; rintro e w' ⟨rfl, rfl⟩))
    all_goals
      go_ret
      refine ⟨ret_b ?_, rfl⟩
      rw [HU.out]
      unfold in_u
      rw [Bool.eq_iff_iff]
      simp [*]
      try omega

set_option maxHeartbeats 1000000 in
theorem mc_w (c cl : Int) (w : World) (hor : bits .or .u8 cl 32 = 119) : Calls Try.prog 14 #[.int .u8 c, .int .u8 cl] w fun e w' => e = .returned (.bool (in_w c != upB cl)) ∧ w' = w := by
  by_cases h1 : 65 ≤ cl
  · by_cases h2 : cl ≤ 90
    · have HU : Hid (upB cl = true) := (by simp [upB, h1, h2] : upB cl = true)
      go_enter Try.func14, Try.ntmps14
      go_wp2_with (first | (go_at_call 16; refine (alpha_any _ _).mono ?_; rintro e w' ⟨rfl, rfl⟩) | (go_at_call 17; refine (digit_any _ _).mono ?_; rintro e w' ⟨rfl, rfl⟩) | (go_at_call 18; refine (hex_any _ _).mono ?_; rintro e w' ⟨rfl, rfl⟩))
      all_goals
        go_ret
        refine ⟨ret_b ?_, rfl⟩
        rw [HU.out]
        unfold in_w
        rw [Bool.eq_iff_iff]
        simp [*]
        try omega
    · have HU : Hid (upB cl = false) := (by simp [upB, h2] : upB cl = false)
      have h2' : 90 < cl := by omega
      clear h2
      go_enter Try.func14, Try.ntmps14
      go_wp2_with (first | (go_at_call 16; refine (alpha_any _ _).mono ?_; rintro e w' ⟨rfl, rfl⟩) | (go_at_call 17; refine (digit_any _ _).mono ?_; rintro e w' ⟨rfl, rfl⟩) | (go_at_call 18; refine (hex_any _ _).mono ?_; rintro e w' ⟨rfl, rfl⟩))
      all_goals
        go_ret
        refine ⟨ret_b ?_, rfl⟩
        rw [HU.out]
        unfold in_w
        rw [Bool.eq_iff_iff]
        simp [*]
        try omega
  · have HU : Hid (upB cl = false) := (by simp [upB, h1] : upB cl = false)
    have h1' : cl < 65 := by omega
    clear h1
    go_enter Try.func14, Try.ntmps14
    go_wp2_with (first | (go_at_call 16; refine (alpha_any _ _).mono ?_; rintro e w' ⟨rfl, rfl⟩) | (go_at_call 17; refine (digit_any _ _).mono ?_; rintro e w' ⟨rfl, rfl⟩) | (go_at_call 18; refine (hex_any _ _).mono ?_; rintro e w' ⟨rfl, rfl⟩))
    all_goals
      go_ret
      refine ⟨ret_b ?_, rfl⟩
      rw [HU.out]
      unfold in_w
      rw [Bool.eq_iff_iff]
      simp [*]
      try omega

set_option maxHeartbeats 1000000 in
theorem mc_x (c cl : Int) (w : World) (hor : bits .or .u8 cl 32 = 120) : Calls Try.prog 14 #[.int .u8 c, .int .u8 cl] w fun e w' => e = .returned (.bool (in_x c != upB cl)) ∧ w' = w := by
  by_cases h1 : 65 ≤ cl
  · by_cases h2 : cl ≤ 90
    · have HU : Hid (upB cl = true) := (by simp [upB, h1, h2] : upB cl = true)
      go_enter Try.func14, Try.ntmps14
      go_wp2_with (first | (go_at_call 16; refine (alpha_any _ _).mono ?_; rintro e w' ⟨rfl, rfl⟩) | (go_at_call 17; refine (digit_any _ _).mono ?_; rintro e w' ⟨rfl, rfl⟩) | (go_at_call 18; refine (hex_any _ _).mono ?_; rintro e w' ⟨rfl, rfl⟩))
      all_goals
        go_ret
        refine ⟨ret_b ?_, rfl⟩
        rw [HU.out]
        unfold in_x
        simp
    · have HU : Hid (upB cl = false) := (by simp [upB, h2] : upB cl = false)
      have h2' : 90 < cl := by omega
      clear h2
      go_enter Try.func14, Try.ntmps14
      go_wp2_with (first | (go_at_call 16; refine (alpha_any _ _).mono ?_; rintro e w' ⟨rfl, rfl⟩) | (go_at_call 17; refine (digit_any _ _).mono ?_; rintro e w' ⟨rfl, rfl⟩) | (go_at_call 18; refine (hex_any _ _).mono ?_; rintro e w' ⟨rfl, rfl⟩))
      all_goals
        go_ret
        refine ⟨ret_b ?_, rfl⟩
        rw [HU.out]
        unfold in_x
        simp
  · have HU : Hid (upB cl = false) := (by simp [upB, h1] : upB cl = false)
    have h1' : cl < 65 := by omega
    clear h1
    go_enter Try.func14, Try.ntmps14
    go_wp2_with (first | (go_at_call 16; refine (alpha_any _ _).mono ?_; rintro e w' ⟨rfl, rfl⟩) | (go_at_call 17; refine (digit_any _ _).mono ?_; rintro e w' ⟨rfl, rfl⟩) | (go_at_call 18; refine (hex_any _ _).mono ?_; rintro e w' ⟨rfl, rfl⟩))
    all_goals
      go_ret
      refine ⟨ret_b ?_, rfl⟩
      rw [HU.out]
      unfold in_x
      simp

set_option maxHeartbeats 1000000 in
theorem mc_z (c cl : Int) (w : World) (hor : bits .or .u8 cl 32 = 122) : Calls Try.prog 14 #[.int .u8 c, .int .u8 cl] w fun e w' => e = .returned (.bool (in_z c != upB cl)) ∧ w' = w := by
  by_cases h1 : 65 ≤ cl
  · by_cases h2 : cl ≤ 90
    · have HU : Hid (upB cl = true) := (by simp [upB, h1, h2] : upB cl = true)
      go_enter Try.func14, Try.ntmps14
      go_wp2_with (first | (go_at_call 16; refine (alpha_any _ _).mono ?_; rintro e w' ⟨rfl, rfl⟩) | (go_at_call 17; refine (digit_any _ _).mono ?_; rintro e w' ⟨rfl, rfl⟩) | (go_at_call 18; refine (hex_any _ _).mono ?_; rintro e w' ⟨rfl, rfl⟩))
      all_goals
        go_ret
        refine ⟨ret_b ?_, rfl⟩
        rw [HU.out]
        unfold in_z
        rw [Bool.eq_iff_iff]
        simp [*]
        try omega
    · have HU : Hid (upB cl = false) := (by simp [upB, h2] : upB cl = false)
      have h2' : 90 < cl := by omega
      clear h2
      go_enter Try.func14, Try.ntmps14
      go_wp2_with (first | (go_at_call 16; refine (alpha_any _ _).mono ?_; rintro e w' ⟨rfl, rfl⟩) | (go_at_call 17; refine (digit_any _ _).mono ?_; rintro e w' ⟨rfl, rfl⟩) | (go_at_call 18; refine (hex_any _ _).mono ?_; rintro e w' ⟨rfl, rfl⟩))
      all_goals
        go_ret
        refine ⟨ret_b ?_, rfl⟩
        rw [HU.out]
        unfold in_z
        rw [Bool.eq_iff_iff]
        simp [*]
        try omega
  · have HU : Hid (upB cl = false) := (by simp [upB, h1] : upB cl = false)
    have h1' : cl < 65 := by omega
    clear h1
    go_enter Try.func14, Try.ntmps14
    go_wp2_with (first | (go_at_call 16; refine (alpha_any _ _).mono ?_; rintro e w' ⟨rfl, rfl⟩) | (go_at_call 17; refine (digit_any _ _).mono ?_; rintro e w' ⟨rfl, rfl⟩) | (go_at_call 18; refine (hex_any _ _).mono ?_; rintro e w' ⟨rfl, rfl⟩))
    all_goals
      go_ret
      refine ⟨ret_b ?_, rfl⟩
      rw [HU.out]
      unfold in_z
      rw [Bool.eq_iff_iff]
      simp [*]
      try omega

set_option maxHeartbeats 1000000 in
theorem mc_other (c cl : Int) (w : World) (h97 : (bits .or .u8 cl 32 == 97) = false) (h99 : (bits .or .u8 cl 32 == 99) = false) (h100 : (bits .or .u8 cl 32 == 100) = false) (h108 : (bits .or .u8 cl 32 == 108) = false) (h112 : (bits .or .u8 cl 32 == 112) = false) (h115 : (bits .or .u8 cl 32 == 115) = false) (h117 : (bits .or .u8 cl 32 == 117) = false) (h119 : (bits .or .u8 cl 32 == 119) = false) (h120 : (bits .or .u8 cl 32 == 120) = false) (h122 : (bits .or .u8 cl 32 == 122) = false) : Calls Try.prog 14 #[.int .u8 c, .int .u8 cl] w fun e w' => e = .returned (.bool (cl == c)) ∧ w' = w := by
  go_enter Try.func14, Try.ntmps14
  go_wp2_with fail
  go_ret
  exact ⟨rfl, rfl⟩

/-- matchClass, whatever the two bytes. -/
theorem mc_any (c cl : Int) (w : World) : Calls Try.prog 14 #[.int .u8 c, .int .u8 cl] w fun e w' => e = .returned (.bool (mcB c cl)) ∧ w' = w := by
  unfold mcB mcL
  by_cases h97 : bits .or .u8 cl 32 = 97
  · rw [if_pos h97]
    exact mc_a c cl w h97
  rw [if_neg h97]
  by_cases h99 : bits .or .u8 cl 32 = 99
  · rw [if_pos h99]
    exact mc_c c cl w h99
  rw [if_neg h99]
  by_cases h100 : bits .or .u8 cl 32 = 100
  · rw [if_pos h100]
    exact mc_d c cl w h100
  rw [if_neg h100]
  by_cases h108 : bits .or .u8 cl 32 = 108
  · rw [if_pos h108]
    exact mc_l c cl w h108
  rw [if_neg h108]
  by_cases h112 : bits .or .u8 cl 32 = 112
  · rw [if_pos h112]
    exact mc_p c cl w h112
  rw [if_neg h112]
  by_cases h115 : bits .or .u8 cl 32 = 115
  · rw [if_pos h115]
    exact mc_s c cl w h115
  rw [if_neg h115]
  by_cases h117 : bits .or .u8 cl 32 = 117
  · rw [if_pos h117]
    exact mc_u c cl w h117
  rw [if_neg h117]
  by_cases h119 : bits .or .u8 cl 32 = 119
  · rw [if_pos h119]
    exact mc_w c cl w h119
  rw [if_neg h119]
  by_cases h120 : bits .or .u8 cl 32 = 120
  · rw [if_pos h120]
    exact mc_x c cl w h120
  rw [if_neg h120]
  by_cases h122 : bits .or .u8 cl 32 = 122
  · rw [if_pos h122]
    exact mc_z c cl w h122
  rw [if_neg h122]
  exact mc_other c cl w (beq_eq_false_iff_ne.2 h97) (beq_eq_false_iff_ne.2 h99) (beq_eq_false_iff_ne.2 h100) (beq_eq_false_iff_ne.2 h108) (beq_eq_false_iff_ne.2 h112) (beq_eq_false_iff_ne.2 h115) (beq_eq_false_iff_ne.2 h117) (beq_eq_false_iff_ne.2 h119) (beq_eq_false_iff_ne.2 h120) (beq_eq_false_iff_ne.2 h122)

/-- ZZmatchClass hands its arguments on. -/
theorem zzmc_any (c cl : Int) (w : World) : Calls Try.prog 7 #[.int .u8 c, .int .u8 cl] w fun e w' => e = .returned (.bool (mcB c cl)) ∧ w' = w := by
  go_enter Try.func7, Try.ntmps7
  go_wp2_with fail
  refine (mc_any c cl _).mono ?_
  rintro e w' ⟨rfl, rfl⟩
  go_wp2
  go_ret
  exact ⟨rfl, rfl⟩

/-- cl | 0x20, by arithmetic. -/
theorem or32_fin : ∀ n : Fin 256, bits .or .u8 ((n.val : Nat) : Int) 32 = (if n.val / 32 % 2 = 1 then ((n.val : Nat) : Int) else ((n.val + 32 : Nat) : Int)) := by decide +kernel
theorem or32 (cl : Int) (h0 : 0 ≤ cl) (h1 : cl ≤ 255) : bits .or .u8 cl 32 = if cl / 32 % 2 = 1 then cl else cl + 32 := by
  obtain ⟨n, rfl⟩ : ∃ n : Nat, cl = n := ⟨cl.toNat, by omega⟩
  have := or32_fin ⟨n, by omega⟩
  rw [this]
  by_cases h : n / 32 % 2 = 1
  · rw [if_pos h, if_pos (by omega)]
  · rw [if_neg h, if_neg (by omega)]; rfl
end Go.Proofs.Qxb6602654a
