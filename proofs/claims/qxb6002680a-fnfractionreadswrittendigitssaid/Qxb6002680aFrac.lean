/-
  DERIVED. The walks of eventtime.number, strings.CutPrefix at one byte, elem.fraction, ZZFraction, lawPow10.
-/
import Derived.Test.Qxb6002680aRows
import Derived.Test.Qxb6002680aDigits
import Derived.WalkKit
import Derived.ProofKit
import Derived.WalkSpells
import Derived.Deep.QuietTactic
import Derived.BigQuiet
namespace Go.Proofs.Qxb6002680a
open Go.ChangeShapes Go.WideShapes Go.ChangeAt Go.RowKit

/-- How many digits 'number' takes. -/
def took (s : ByteArray) (m : Nat) : Nat := min (Dig.run s.data.toList) m
/-- The number that the first k bytes write. -/
def numb (s : ByteArray) (k : Nat) : Int := (Dig.val (s.data.toList.take k) : Int)

theorem took_le (s : ByteArray) (m : Nat) : took s m ≤ s.size ∧ took s m ≤ m := by
  have := Dig.run_le s.data.toList
  unfold took
  simp only [Array.length_toList] at this
  have h2 : s.data.size = s.size := rfl
  omega
theorem dig_here (s : ByteArray) (m k : Nat) (h : k < s.size) (hk : k ≤ took s m) : (k < Dig.run s.data.toList) ↔ ((48 : Int) ≤ s[k].toNat ∧ (s[k].toNat : Int) ≤ 57) := by
  rw [Dig.lt_run_iff s.data.toList k (by simpa using h) (by unfold took at hk; omega)]
  have e : s.data.toList[k]'(by simpa using h) = s[k] := rfl
  rw [e]
  unfold Dig.isDig
  simp only [Bool.and_eq_true, decide_eq_true_eq]
  omega
theorem numb_bd (s : ByteArray) (k m : Nat) (hm : m ≤ 9) (h : k ≤ took s m) : 0 ≤ numb s k ∧ numb s k < 1000000000 := by
  have h1 := Dig.val_lt s.data.toList k (by unfold took at h; omega)
  have h2 := Dig.pow_le9 (k := k) (by unfold took at h; omega)
  unfold numb
  omega
theorem numb_bd' (s : ByteArray) (k m : Nat) (hm : m ≤ 9) (h : k < took s m) : 0 ≤ numb s k ∧ numb s k < 100000000 := by
  have h1 := Dig.val_lt s.data.toList k (by unfold took at h; omega)
  have h2 : 10 ^ k ≤ 10 ^ 8 := Nat.pow_le_pow_right (by omega) (by unfold took at h; omega)
  unfold numb
  omega
theorem numb_succ (s : ByteArray) (k : Nat) (h : k < s.size) (h1 : (48 : Int) ≤ s[k].toNat) : numb s (k + 1) = numb s k * 10 + ((s[k].toNat : Int) - 48) := by
  unfold numb
  rw [Dig.val_take_succ s.data.toList k (by simpa using h)]
  have e : s.data.toList[k]'(by simpa using h) = s[k] := rfl
  rw [e]
  omega

/-- Three results of 'number'. -/
def NumAns (s : ByteArray) (least : Int) (c : Nat) (w : World) (e : Ending) (w' : World) : Prop :=
  e = .returned (.tuple #[.int .i64 (numb s c), .string (s.extract c s.size), .bool (decide (least ≤ (c : Int)))]) ∧ ∃ n, w' = w.drewN n

set_option maxHeartbeats 1000000 in
/-- number(s, least, most), most at most 9. -/
theorem number_any (s : ByteArray) (least : Int) (m : Nat) (w : World) (hs : s.size ≤ maxLen) (hm : m ≤ 9) :
    Calls Try.prog 24 #[.string s, .int .i64 least, .int .i64 m] w fun e w' => NumAns s least (took s m) w e w' := by
  unfold maxLen at hs
  have htk := took_le s m
  go_enter Try.func24, Try.ntmps24
  go_wp2
  go_loop [6, 9] (fun n i => ∃ k : Nat, k ≤ took s m ∧ i = .int .i64 k ∧ n = .int .i64 (numb s k)) (fun _ i => s.size - (intOf i).toNat)
  case atStart => exact ⟨0, Nat.zero_le _, rfl, rfl⟩
  case round =>
    obtain ⟨k, hk, rfl, rfl⟩ := hrel
    by_cases hc : k < took s m
    · have hlt : k < s.size := by omega
      have hkm : k < m := by omega
      obtain ⟨h1, h2⟩ := (dig_here s m k hlt hk).1 (by unfold took at hc; omega)
      have hb := numb_bd' s k m hm hc
      have hn : Hid (numb s (k + 1) = numb s k * 10 + ((s[k].toNat : Int) - 48)) := numb_succ s k hlt h1
      generalize hx : numb s k = x at *
      clear hx
      obtain ⟨hb1, hb2⟩ := hb
      go_wp2
      go_round
      case rel => exact ⟨k + 1, by omega, by go_num, by rw [hn.out]⟩
      case measure => simp [intOf]; omega
    · have hk' : Hid (k = took s m) := (by omega : k = took s m)
      have hsz : k ≤ s.size := by omega
      have hcase : (k = s.size ∨ (k < s.size ∧ k = m)) ∨ ∃ h : k < s.size, k < m ∧ ¬ ((48 : Int) ≤ s[k].toNat ∧ (s[k].toNat : Int) ≤ 57) := by
        by_cases e1 : k = s.size
        · exact .inl (.inl e1)
        · by_cases e2 : k = m
          · exact .inl (.inr ⟨by omega, e2⟩)
          · refine .inr ⟨by omega, by omega, fun h => ?_⟩
            have := (dig_here s m k (by omega) hk).2 h
            unfold took at hc
            omega
      have fin : ∀ nq, NumAns s least (took s m) w (.returned (.tuple #[.int .i64 (numb s k), .string (s.extract k s.size), .bool (decide (least ≤ (k : Int)))])) (w.drewN nq) := fun nq => by
        rw [← hk'.out]; exact ⟨rfl, nq, rfl⟩
      have Fin : Hid (∀ nq, NumAns s least (took s m) w (.returned (.tuple #[.int .i64 (numb s k), .string (s.extract k s.size), .bool (decide (least ≤ (k : Int)))])) (w.drewN nq)) := fin
      clear fin hc htk
      rcases hcase with (e1 | ⟨e1, e2⟩) | ⟨hlt, hkm, hnd⟩
      · have e1' : s.size ≤ k := by omega
        clear e1
        go_wp2
        go_quiet (fail)
        go_wp2
        go_ret3
        exact Fin.out _
      · have e2' : m ≤ k := by omega
        clear e2
        go_wp2
        go_quiet (fail)
        go_wp2
        go_ret3
        exact Fin.out _
      · by_cases h1 : (48 : Int) ≤ s[k].toNat
        · have h2 : 57 < (s[k].toNat : Int) := by omega
          clear hnd
          go_wp2
          go_quiet (fail)
          go_wp2
          go_ret3
          exact Fin.out _
        · have h2 : (s[k].toNat : Int) < 48 := by omega
          clear hnd h1
          go_wp2
          go_quiet (fail)
          go_wp2
          go_ret3
          exact Fin.out _

set_option maxHeartbeats 1000000 in
/-- strings.CutPrefix, the library's own text walked (after the shelf's template). -/
theorem cutPrefix (s p : ByteArray) (w : World) :
    Calls Try.prog 23 #[.string s, .string p] w fun e w' => e = .returned (.tuple #[.string ⟨(Lib.trimPrefix s.data.toList p.data.toList).toArray⟩, .bool (Lib.hasPrefix s.data.toList p.data.toList)]) ∧ w' = w := by
  go_enter Try.func23, Try.ntmps23
  go_wp2
  · have h2 : (!((s.extract 0 p.size).toList == p.toList)) = true := by assumption
    have h3 : (decide (p.size ≤ s.size) && ((s.extract 0 p.size).toList == p.toList)) = false := by
      have : ((s.extract 0 p.size).toList == p.toList) = false := by simpa using h2
      rw [this]
      simp
    go_ret2
    refine ⟨?_, rfl⟩
    rw [Lib.trimPrefix_miss s p h3, ← Lib.hasPrefix_raw, h3]
    rfl
  · have h1 : p.size ≤ s.size := by assumption
    have h2 : (!((s.extract 0 p.size).toList == p.toList)) = false := by assumption
    have h2' : ((s.extract 0 p.size).toList == p.toList) = true := by simpa using h2
    go_ret2
    refine ⟨?_, rfl⟩
    rw [Lib.trimPrefix_hit s p h1 h2', ← Lib.hasPrefix_raw, h2', decide_eq_true h1]
    rfl
  · have h1 : ¬ p.size ≤ s.size := by assumption
    have h3 : (decide (p.size ≤ s.size) && ((s.extract 0 p.size).toList == p.toList)) = false := by simp [h1]
    go_ret2
    refine ⟨?_, rfl⟩
    rw [Lib.trimPrefix_miss s p h3, ← Lib.hasPrefix_raw, h3]
    rfl

theorem ofList (s : ByteArray) : (⟨s.data.toList.toArray⟩ : ByteArray) = s := by cases s; simp

theorem cut_yes (s t : ByteArray) (w : World) (h : s.data.toList = 46 :: t.data.toList) :
    Calls Try.prog 23 #[.string s, .string ⟨#[46]⟩] w fun e w' => e = .returned (.tuple #[.string t, .bool true]) ∧ w' = w := by
  refine (cutPrefix s ⟨#[46]⟩ w).mono ?_
  rintro e w' ⟨rfl, rfl⟩
  refine ⟨?_, rfl⟩
  have e1 : Lib.hasPrefix s.data.toList [46] = true := by rw [h]; simp [Lib.hasPrefix]
  have e2 : Lib.trimPrefix s.data.toList [46] = t.data.toList := by
    unfold Lib.trimPrefix; rw [e1, h]; rfl
  show Ending.returned (.tuple #[.string ⟨(Lib.trimPrefix s.data.toList [46]).toArray⟩, .bool (Lib.hasPrefix s.data.toList [46])]) = _
  rw [e2, e1, ofList]

theorem cut_no (s : ByteArray) (w : World) (h : s.data.toList.head? ≠ some 46) :
    Calls Try.prog 23 #[.string s, .string ⟨#[46]⟩] w fun e w' => e = .returned (.tuple #[.string s, .bool false]) ∧ w' = w := by
  refine (cutPrefix s ⟨#[46]⟩ w).mono ?_
  rintro e w' ⟨rfl, rfl⟩
  refine ⟨?_, rfl⟩
  have e1 : Lib.hasPrefix s.data.toList [46] = false := by
    cases hl : s.data.toList with
    | nil => rfl
    | cons c l =>
      rw [hl] at h
      have e : ¬ 46 = c := fun e => h (by rw [e]; rfl)
      have e2 : (46 == c) = false := beq_eq_false_iff_ne.2 e
      simp [Lib.hasPrefix, List.isPrefixOf, e2]
  have e2 : Lib.trimPrefix s.data.toList [46] = s.data.toList := by
    unfold Lib.trimPrefix; rw [e1]; rfl
  show Ending.returned (.tuple #[.string ⟨(Lib.trimPrefix s.data.toList [46]).toArray⟩, .bool (Lib.hasPrefix s.data.toList [46])]) = _
  rw [e2, e1, ofList]

/-- lawPow10 -/
def p10 (k : Nat) : Int := ((10 ^ k : Nat) : Int)
theorem p10_succ (k : Nat) : p10 (k + 1) = p10 k * 10 := by unfold p10; rw [Nat.pow_succ]; omega
theorem p10_bd (k : Nat) (h : k ≤ 9) : 0 ≤ p10 k ∧ p10 k ≤ 1000000000 := by
  have := Dig.pow_le9 h
  unfold p10
  generalize 10 ^ k = z at *
  omega
theorem pow10_any (k : Nat) (w : World) (hk : k ≤ 9) :
    Calls Try.prog 16 #[.int .i64 k] w fun e w' => e = .returned (.int .i64 (p10 k)) ∧ w' = w := by
  go_enter Try.func16, Try.ntmps16
  go_wp2
  go_loop [3, 4] (fun p i => ∃ j : Nat, j ≤ k ∧ i = .int .i64 j ∧ p = .int .i64 (p10 j)) (fun _ i => k - (intOf i).toNat)
  case atStart => exact ⟨0, Nat.zero_le _, rfl, rfl⟩
  case round =>
    obtain ⟨j, hj, rfl, rfl⟩ := hrel
    have hb := p10_bd j (by omega)
    have hn : Hid (p10 (j + 1) = p10 j * 10) := p10_succ j
    have hz : Hid (∀ h : j = k, p10 j = p10 k) := fun h => by rw [h]
    generalize hx : p10 j = x at *
    clear hx
    obtain ⟨hb1, hb2⟩ := hb
    by_cases hlt : j < k
    · go_wp2
      go_round
      case rel => exact ⟨j + 1, by omega, by go_num, by rw [hn.out]⟩
      case measure => simp [intOf]; omega
    · go_wp2
      go_ret
      exact ⟨by rw [← hz.out (by omega)]; rfl, rfl⟩

/-- What the fraction's reader answers, in three results; memory has at most grown. -/
def FracAns (n : Int) (r : ByteArray) (ok : Bool) (w : World) (e : Ending) (w' : World) : Prop :=
  e = .returned (.tuple #[.int .i64 n, .string r, .bool ok]) ∧ Grown w w'

def mostOf (wd : Nat) : Nat := if wd = 0 then 9 else wd
theorem mostOf_le {wd : Nat} (h : wd ≤ 9) : mostOf wd ≤ 9 := by unfold mostOf; split <;> omega
/-- The number read, k times tenfold. -/
def scaled (s : ByteArray) (c k : Nat) : Int := numb s c * p10 k
theorem scaled_succ (s : ByteArray) (c k : Nat) : scaled s c (k + 1) = scaled s c k * 10 := by
  unfold scaled; rw [p10_succ, Int.mul_assoc]
theorem scaled_bd (s : ByteArray) (c m k : Nat) (hc : c ≤ took s m) (hk : k + c ≤ 9) : 0 ≤ scaled s c k ∧ scaled s c k < 1000000000 := by
  have h1 := Dig.val_lt s.data.toList c (by unfold took at hc; omega)
  unfold scaled numb p10
  rw [← Int.natCast_mul]
  have h2 : Dig.val (s.data.toList.take c) * 10 ^ k < 10 ^ c * 10 ^ k := Nat.mul_lt_mul_of_pos_right h1 (Nat.pow_pos (by omega))
  rw [← Nat.pow_add] at h2
  have h3 := Dig.pow_le9 (k := c + k) (by omega)
  generalize Dig.val (s.data.toList.take c) * 10 ^ k = z at *
  omega

theorem scaled_zero (s : ByteArray) (c : Nat) : scaled s c 0 = numb s c := by unfold scaled p10; simp
theorem number_nine (s : ByteArray) (least : Int) (w : World) (hs : s.size ≤ maxLen) :
    Calls Try.prog 24 #[.string s, .int .i64 least, .int .i64 9] w fun e w' => NumAns s least (took s 9) w e w' := number_any s least 9 w hs (by omega)

theorem grown_drewN {w w' : World} (h : Grown w w') (n : Nat) : Grown w (w'.drewN n) := h

set_option maxHeartbeats 1000000 in
theorem frac_plain_pos (s : ByteArray) (wd : Nat) (w : World) (hs : s.size ≤ maxLen) (hwd : wd ≤ 9) (h0 : (0 : Int) < wd) :
    Calls Try.prog 22 #[.agg #[.string ⟨#[]⟩, .string ⟨#[]⟩, .bool false, .int .i64 wd], .string s] w fun e w' =>
      FracAns (scaled s (took s wd) (9 - took s wd)) (s.extract (took s wd) s.size) (decide (wd ≤ took s wd)) w e w' := by
  have hs' := hs
  unfold maxLen at hs
  go_enter Try.func22, Try.ntmps22
  go_wp2_with fail
  go_quiet (fail)
  go_wp2_with fail
  refine (number_any s _ wd _ hs' hwd).mono ?_
  rintro e w1 ⟨rfl, n, rfl⟩
  have hc1 := took_le s wd
  have hbd : Hid (∀ k, k + took s wd ≤ 9 → 0 ≤ scaled s (took s wd) k ∧ scaled s (took s wd) k < 1000000000) := fun k hk => scaled_bd s (took s wd) wd k (Nat.le_refl _) hk
  rw [← scaled_zero]
  generalize hce : took s wd = c at *
  have HC : Hid (took s wd = c) := hce
  clear hce
  obtain ⟨hc2, hc3⟩ := hc1
  go_wp2
  go_loop [9, 41] (fun d i => ∃ k : Nat, k + c ≤ 9 ∧ i = .int .i64 k ∧ d = .int .i64 (scaled s c k)) (fun _ i => 9 - (intOf i).toNat)
  case atStart => exact ⟨0, by omega, rfl, rfl⟩
  case round =>
    obtain ⟨k, hk, rfl, rfl⟩ := hrel
    have hb := hbd.out k hk
    have hn : Hid (scaled s c (k + 1) = scaled s c k * 10) := scaled_succ s c k
    have hz : Hid (∀ h : k = 9 - c, scaled s c k = scaled s c (9 - c)) := fun h => by rw [h]
    generalize hx : scaled s c k = x at *
    clear hx
    obtain ⟨hb1, hb2⟩ := hb
    by_cases hlt : k + c < 9
    · go_wp2
      go_round
      case rel => exact ⟨k + 1, by omega, by go_num, by rw [hn.out]⟩
      case measure => simp [intOf]; omega
    · go_wp2
      go_ret3
      exact ⟨by rw [HC.out, ← hz.out (by omega)]; rfl, grown_drewN (Grown.alloc (Grown.refl _) _ _) _⟩

set_option maxHeartbeats 1000000 in
theorem frac_plain_zero (s : ByteArray) (w : World) (hs : s.size ≤ maxLen) :
    Calls Try.prog 22 #[.agg #[.string ⟨#[]⟩, .string ⟨#[]⟩, .bool false, .int .i64 0], .string s] w fun e w' =>
      FracAns (scaled s (took s 9) (9 - took s 9)) (s.extract (took s 9) s.size) true w e w' := by
  have hs' := hs
  unfold maxLen at hs
  go_enter Try.func22, Try.ntmps22
  go_wp2_with fail
  refine (number_nine s _ _ hs').mono ?_
  rintro e w1 ⟨rfl, n, rfl⟩
  have hc1 := took_le s 9
  have hbd : Hid (∀ k, k + took s 9 ≤ 9 → 0 ≤ scaled s (took s 9) k ∧ scaled s (took s 9) k < 1000000000) := fun k hk => scaled_bd s (took s 9) 9 k (Nat.le_refl _) hk
  rw [← scaled_zero]
  generalize hce : took s 9 = c at *
  have HC : Hid (took s 9 = c) := hce
  clear hce
  obtain ⟨hc2, hc3⟩ := hc1
  go_wp2
  go_loop [9, 41] (fun d i => ∃ k : Nat, k + c ≤ 9 ∧ i = .int .i64 k ∧ d = .int .i64 (scaled s c k)) (fun _ i => 9 - (intOf i).toNat)
  case atStart => exact ⟨0, by omega, rfl, rfl⟩
  case round =>
    obtain ⟨k, hk, rfl, rfl⟩ := hrel
    have hb := hbd.out k hk
    have hn : Hid (scaled s c (k + 1) = scaled s c k * 10) := scaled_succ s c k
    have hz : Hid (∀ h : k = 9 - c, scaled s c k = scaled s c (9 - c)) := fun h => by rw [h]
    generalize hx : scaled s c k = x at *
    clear hx
    obtain ⟨hb1, hb2⟩ := hb
    by_cases hlt : k + c < 9
    · go_wp2
      go_round
      case rel => exact ⟨k + 1, by omega, by go_num, by rw [hn.out]⟩
      case measure => simp [intOf]; omega
    · go_wp2
      go_ret3
      exact ⟨by rw [HC.out, ← hz.out (by omega)]; rfl, grown_drewN (Grown.alloc (Grown.refl _) _ _) _⟩

set_option maxHeartbeats 1000000 in
theorem frac_dot_pos (s0 s : ByteArray) (wd : Nat) (w : World) (hs : s.size ≤ maxLen) (hwd : wd ≤ 9) (h0 : (0 : Int) < wd) (hd : s0.data.toList = 46 :: s.data.toList) :
    Calls Try.prog 22 #[.agg #[.string ⟨#[]⟩, .string ⟨#[]⟩, .bool true, .int .i64 wd], .string s0] w fun e w' =>
      FracAns (scaled s (took s wd) (9 - took s wd)) (s.extract (took s wd) s.size) (decide (wd ≤ took s wd)) w e w' := by
  have hs' := hs
  unfold maxLen at hs
  have HD : Hid (s0.data.toList = 46 :: s.data.toList) := hd
  clear hd
  go_enter Try.func22, Try.ntmps22
  go_wp2_with fail
  refine (cut_yes s0 s _ HD.out).mono ?_
  rintro e w1 ⟨rfl, rfl⟩
  go_wp2_with fail
  go_quiet (fail)
  go_wp2_with fail
  refine (number_any s _ wd _ hs' hwd).mono ?_
  rintro e w1 ⟨rfl, n, rfl⟩
  have hc1 := took_le s wd
  have hbd : Hid (∀ k, k + took s wd ≤ 9 → 0 ≤ scaled s (took s wd) k ∧ scaled s (took s wd) k < 1000000000) := fun k hk => scaled_bd s (took s wd) wd k (Nat.le_refl _) hk
  rw [← scaled_zero]
  generalize hce : took s wd = c at *
  have HC : Hid (took s wd = c) := hce
  clear hce
  obtain ⟨hc2, hc3⟩ := hc1
  go_wp2
  go_loop [9, 41] (fun d i => ∃ k : Nat, k + c ≤ 9 ∧ i = .int .i64 k ∧ d = .int .i64 (scaled s c k)) (fun _ i => 9 - (intOf i).toNat)
  case atStart => exact ⟨0, by omega, rfl, rfl⟩
  case round =>
    obtain ⟨k, hk, rfl, rfl⟩ := hrel
    have hb := hbd.out k hk
    have hn : Hid (scaled s c (k + 1) = scaled s c k * 10) := scaled_succ s c k
    have hz : Hid (∀ h : k = 9 - c, scaled s c k = scaled s c (9 - c)) := fun h => by rw [h]
    generalize hx : scaled s c k = x at *
    clear hx
    obtain ⟨hb1, hb2⟩ := hb
    by_cases hlt : k + c < 9
    · go_wp2
      go_round
      case rel => exact ⟨k + 1, by omega, by go_num, by rw [hn.out]⟩
      case measure => simp [intOf]; omega
    · go_wp2
      go_ret3
      exact ⟨by rw [HC.out, ← hz.out (by omega)]; rfl, grown_drewN (Grown.alloc (Grown.refl _) _ _) _⟩

set_option maxHeartbeats 1000000 in
theorem frac_dot_zero (s0 s : ByteArray) (w : World) (hs : s.size ≤ maxLen) (hd : s0.data.toList = 46 :: s.data.toList) :
    Calls Try.prog 22 #[.agg #[.string ⟨#[]⟩, .string ⟨#[]⟩, .bool true, .int .i64 0], .string s0] w fun e w' =>
      FracAns (scaled s (took s 9) (9 - took s 9)) (s.extract (took s 9) s.size) true w e w' := by
  have hs' := hs
  unfold maxLen at hs
  have HD : Hid (s0.data.toList = 46 :: s.data.toList) := hd
  clear hd
  go_enter Try.func22, Try.ntmps22
  go_wp2_with fail
  refine (cut_yes s0 s _ HD.out).mono ?_
  rintro e w1 ⟨rfl, rfl⟩
  go_wp2_with fail
  refine (number_nine s _ _ hs').mono ?_
  rintro e w1 ⟨rfl, n, rfl⟩
  have hc1 := took_le s 9
  have hbd : Hid (∀ k, k + took s 9 ≤ 9 → 0 ≤ scaled s (took s 9) k ∧ scaled s (took s 9) k < 1000000000) := fun k hk => scaled_bd s (took s 9) 9 k (Nat.le_refl _) hk
  rw [← scaled_zero]
  generalize hce : took s 9 = c at *
  have HC : Hid (took s 9 = c) := hce
  clear hce
  obtain ⟨hc2, hc3⟩ := hc1
  go_wp2
  go_loop [9, 41] (fun d i => ∃ k : Nat, k + c ≤ 9 ∧ i = .int .i64 k ∧ d = .int .i64 (scaled s c k)) (fun _ i => 9 - (intOf i).toNat)
  case atStart => exact ⟨0, by omega, rfl, rfl⟩
  case round =>
    obtain ⟨k, hk, rfl, rfl⟩ := hrel
    have hb := hbd.out k hk
    have hn : Hid (scaled s c (k + 1) = scaled s c k * 10) := scaled_succ s c k
    have hz : Hid (∀ h : k = 9 - c, scaled s c k = scaled s c (9 - c)) := fun h => by rw [h]
    generalize hx : scaled s c k = x at *
    clear hx
    obtain ⟨hb1, hb2⟩ := hb
    by_cases hlt : k + c < 9
    · go_wp2
      go_round
      case rel => exact ⟨k + 1, by omega, by go_num, by rw [hn.out]⟩
      case measure => simp [intOf]; omega
    · go_wp2
      go_ret3
      exact ⟨by rw [HC.out, ← hz.out (by omega)]; rfl, grown_drewN (Grown.alloc (Grown.refl _) _ _) _⟩

theorem frac_dot_none (s : ByteArray) (wd : Int) (w : World) (hd : s.data.toList.head? ≠ some 46) :
    Calls Try.prog 22 #[.agg #[.string ⟨#[]⟩, .string ⟨#[]⟩, .bool true, .int .i64 wd], .string s] w fun e w' => FracAns 0 s true w e w' := by
  have HD : Hid (s.data.toList.head? ≠ some 46) := hd
  clear hd
  go_enter Try.func22, Try.ntmps22
  go_wp2_with fail
  refine (cut_no s _ HD.out).mono ?_
  rintro e w1 ⟨rfl, rfl⟩
  go_wp2_with fail
  go_ret3
  exact ⟨rfl, Grown.alloc (Grown.refl _) _ _⟩

/-- ZZFraction hands its arguments on. -/
theorem zz_of (dot : Bool) (wd : Int) (s : ByteArray) (n : Int) (r : ByteArray) (ok : Bool)
    (h : ∀ w, Calls Try.prog 22 #[.agg #[.string ⟨#[]⟩, .string ⟨#[]⟩, .bool dot, .int .i64 wd], .string s] w fun e w' => FracAns n r ok w e w') (w : World) :
    Calls Try.prog 15 #[.bool dot, .int .i64 wd, .string s] w fun e w' => FracAns n r ok w e w' := by
  have H : Hid (∀ w, Calls Try.prog 22 #[.agg #[.string ⟨#[]⟩, .string ⟨#[]⟩, .bool dot, .int .i64 wd], .string s] w fun e w' => FracAns n r ok w e w') := h
  clear h
  go_enter Try.func15, Try.ntmps15
  go_wp2_with fail
  refine (H.out _).mono ?_
  rintro e w1 ⟨rfl, hg⟩
  have HG : Hid (Grown w w1) := hg
  clear hg
  go_wp2
  go_ret3
  exact ⟨rfl, HG.out⟩
end Go.Proofs.Qxb6002680a
