import Derived.Test.Qxb6002680aRows
import Derived.WalkKit
import Derived.ProofKit
import Derived.WalkSpells
import Derived.Deep.QuietTactic
import Derived.BigQuiet
namespace Go.Proofs.Qxb6002680a
open Go.ChangeShapes Go.WideShapes Go.ChangeAt Go.RowKit

/-- One byte fits one byte of a shape. -/
def fit1 (a b : UInt8) : Bool := if b.toNat = 100 then decide (48 ≤ a.toNat ∧ a.toNat ≤ 57) else decide (a.toNat = b.toNat)
def Fits (s p : ByteArray) (k : Nat) : Prop := ∀ j (h : j < s.size) (h' : j < p.size), j < k → fit1 s[j] p[j] = true

theorem Fits.succ {s p : ByteArray} {k : Nat} (hf : Fits s p k) (h : k < s.size) (h' : k < p.size) (hk : fit1 s[k] p[k] = true) : Fits s p (k + 1) := by
  intro j hj hj' hlt
  by_cases e : j = k
  · subst e; exact hk
  · exact hf j hj hj' (by omega)
theorem not_fits {s p : ByteArray} {k n : Nat} (h : k < s.size) (h' : k < p.size) (hn : k < n) (hk : fit1 s[k] p[k] = false) : (false = true) ↔ s.size = p.size ∧ Fits s p n :=
  ⟨fun h => (Bool.noConfusion h), fun hf => by have := hf.2 k h h' hn; rw [hk] at this; exact this⟩
theorem fit_digit {a b : UInt8} (hd : ((b.toNat : Int) == 100) = true) (h1 : (48 : Int) ≤ a.toNat) (h2 : (a.toNat : Int) ≤ 57) : fit1 a b = true := by
  unfold fit1; rw [if_pos (by have := of_decide_eq_true hd; omega)]; simp; omega
theorem fit_digit_lo {a b : UInt8} (hd : ((b.toNat : Int) == 100) = true) (h1 : ¬ (48 : Int) ≤ a.toNat) : fit1 a b = false := by
  unfold fit1; rw [if_pos (by have := of_decide_eq_true hd; omega)]; simp; omega
theorem fit_digit_hi {a b : UInt8} (hd : ((b.toNat : Int) == 100) = true) (h2 : ¬ (a.toNat : Int) ≤ 57) : fit1 a b = false := by
  unfold fit1; rw [if_pos (by have := of_decide_eq_true hd; omega)]; simp; omega
theorem fit_self {a b : UInt8} (hd : ((b.toNat : Int) == 100) = false) (h : ((a.toNat : Int) != b.toNat) = false) : fit1 a b = true := by
  unfold fit1; rw [if_neg (by have := of_decide_eq_false hd; omega)]; simp at h ⊢; omega
theorem fit_other {a b : UInt8} (hd : ((b.toNat : Int) == 100) = false) (h : ((a.toNat : Int) != b.toNat) = true) : fit1 a b = false := by
  unfold fit1; rw [if_neg (by have := of_decide_eq_false hd; omega)]; simp at h ⊢; omega

/-- What hasShape answers: a bool that says whether the lengths are one and each byte fits; draws alone. -/
def ShapeAns (s p : ByteArray) (w : World) (e : Ending) (w' : World) : Prop := ∃ r : Bool, e = .returned (.bool r) ∧ (r = true ↔ s.size = p.size ∧ Fits s p s.size) ∧ ∃ n, w' = w.drewN n

/-- Other lengths: no. -/
theorem shape_ne (s p : ByteArray) (w : World) (h : ((s.size : Int) != p.size) = true) :
    Calls Try.prog 21 #[.string s, .string p] w fun e w' => e = .returned (.bool false) ∧ w' = w := by
  go_enter Try.func21, Try.ntmps21
  go_wp2
  go_ret
  exact ⟨rfl, rfl⟩

set_option maxHeartbeats 1000000 in
/-- One length: byte for byte. -/
theorem shape_eq (s p : ByteArray) (w : World) (hs : s.size ≤ maxLen) (h : ((s.size : Int) != p.size) = false) :
    Calls Try.prog 21 #[.string s, .string p] w fun e w' => ShapeAns s p w e w' := by
  unfold maxLen at hs
  have hl : s.size ≤ p.size := by have := h.symm; simp at this; omega
  go_enter Try.func21, Try.ntmps21
  go_wp2
  go_loopw [14] (fun i w' => ∃ k : Nat, k ≤ s.size ∧ i = .int .i64 k ∧ Fits s p k ∧ ∃ n, w' = w.drewN n) (fun i _ => s.size - (intOf i).toNat)
  case atStart => exact ⟨0, Nat.zero_le _, rfl, fun j _ _ hj => absurd hj (Nat.not_lt_zero _), 0, rfl⟩
  case round =>
    obtain ⟨k, hk, rfl, hf, n, rfl⟩ := hrel
    by_cases hlt : k < s.size
    · have hlt' : k < p.size := by omega
      have HF : Hid (Fits s p k) := hf
      clear hf
      by_cases hd : (p[k].toNat : Int) = 100
      · have hd1 : ((p[k].toNat : Int) == 100) = true := by simp [hd]
        have hd2 : ((p[k].toNat : Int) != 100) = false := by simp [hd]
        clear hd
        by_cases h1 : (48 : Int) ≤ s[k].toNat
        · by_cases h2 : (s[k].toNat : Int) ≤ 57
          · go_wp2
            go_quiet (fail)
            go_wp2
            go_roundw
            case rel => exact ⟨k + 1, by omega, by go_num, HF.out.succ hlt hlt' (fit_digit hd1 h1 h2), _, rfl⟩
            case measure => simp [intOf]; omega
          · have h2' : decide ((s[k].toNat : Int) ≤ 57) = false := decide_eq_false h2
            go_wp2
            go_quiet (fail)
            go_wp2
            go_ret
            exact ⟨false, rfl, not_fits hlt hlt' hlt (fit_digit_hi hd1 (by omega)), _, World.drewN_drewN _ _ _⟩
        · have h1' : (s[k].toNat : Int) < 48 := by omega
          clear h1
          go_wp2
          go_quiet (fail)
          go_wp2
          go_ret
          exact ⟨false, rfl, not_fits hlt hlt' hlt (fit_digit_lo hd1 (by omega)), _, World.drewN_drewN _ _ _⟩
      · have hd1 : ((p[k].toNat : Int) == 100) = false := by simp [hd]
        have hd2 : ((p[k].toNat : Int) != 100) = true := by simp [hd]
        clear hd
        by_cases h1 : ((s[k].toNat : Int) != p[k].toNat) = true
        · go_wp2
          all_goals
            go_quiet (fail)
            go_wp2
            go_ret
            exact ⟨false, rfl, not_fits hlt hlt' hlt (fit_other hd1 h1), _, World.drewN_drewN _ _ _⟩
        · have h1' : ((s[k].toNat : Int) != p[k].toNat) = false := by simpa using h1
          clear h1
          go_wp2
          all_goals
            go_quiet (fail)
            go_wp2
            go_roundw
            case rel => exact ⟨k + 1, by omega, by go_num, HF.out.succ hlt hlt' (fit_self hd1 h1'), _, rfl⟩
            case measure => simp [intOf]; omega
    · have hk' : k = s.size := by omega
      have hr : Hid (s.size = p.size ∧ Fits s p s.size) := ⟨by simp at h; omega, hk' ▸ hf⟩
      have hk2 : s.size ≤ k := by omega
      clear hf hk'
      go_wp2
      go_ret
      exact ⟨true, rfl, ⟨fun _ => hr.out, fun _ => rfl⟩, n, rfl⟩

/-- hasShape, whatever the input. -/
theorem shape_any (s p : ByteArray) (w : World) (hs : s.size ≤ maxLen) :
    Calls Try.prog 21 #[.string s, .string p] w fun e w' => ShapeAns s p w e w' := by
  by_cases h : ((s.size : Int) != p.size) = true
  · refine (shape_ne s p w h).mono ?_
    rintro e w' ⟨rfl, rfl⟩
    exact ⟨false, rfl, ⟨fun h => Bool.noConfusion h, fun h' => by simp at h; omega⟩, 0, rfl⟩
  · exact shape_eq s p w hs (by simpa using h)

/-- ZZHasShape, whatever the input. -/
theorem zzshape_any (s p : ByteArray) (w : World) (hs : s.size ≤ maxLen) :
    Calls Try.prog 10 #[.string s, .string p] w fun e w' => ShapeAns s p w e w' := by
  go_enter Try.func10, Try.ntmps10
  go_wp2_with fail
  refine (shape_any s p _ hs).mono ?_
  rintro e w' ⟨r, rfl, hr, n, rfl⟩
  have HR : Hid (r = true ↔ s.size = p.size ∧ Fits s p s.size) := hr
  clear hr
  go_wp2
  go_ret
  exact ⟨r, rfl, HR.out, n, rfl⟩
end Go.Proofs.Qxb6002680a
