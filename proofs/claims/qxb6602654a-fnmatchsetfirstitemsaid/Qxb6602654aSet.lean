/-
  DERIVED. The walks of matchSet and ZZmatchSet.
-/
import Derived.Test.Qxb6602654aClass
import Derived.Test.Qxb6602654aScan
import Derived.Lib.Strings
namespace Go.Proofs.Qxb6602654a
open Go.ChangeShapes Go.WideShapes Go.ChangeAt Go.RowKit

/-- A set between its brackets. -/
def inner (s : ByteArray) : ByteArray := s.extract 1 (s.size - 1)
/-- What is left of the items from place k on. -/
def left (c : Int) (T : ByteArray) (k : Nat) : Bool := Scan.scan (mcB c) c (T.data.toList.drop k)

theorem drop_cons (T : ByteArray) (k : Nat) (h : k < T.size) : T.data.toList.drop k = T[k] :: T.data.toList.drop (k + 1) := by
  rw [List.drop_eq_getElem_cons (by simpa using h)]; rfl
theorem left_class (c : Int) (T : ByteArray) (k : Nat) (h : k + 1 < T.size) (hx : ((T[k].toNat : Int) == 37) = true) : left c T k = (mcB c (T[k + 1].toNat : Int) || left c T (k + 2)) := by
  unfold left
  rw [drop_cons T k (by omega), drop_cons T (k + 1) h]
  exact Scan.scan_class _ _ _ _ _ (by have := of_decide_eq_true hx; omega)
theorem left_range (c : Int) (T : ByteArray) (k : Nat) (h : k + 2 < T.size) (hx : ((T[k].toNat : Int) == 37) = false) (hy : ((T[k + 1].toNat : Int) == 45) = true) : left c T k = ((decide ((T[k].toNat : Int) ≤ c) && decide (c ≤ (T[k + 2].toNat : Int))) || left c T (k + 3)) := by
  unfold left
  rw [drop_cons T k (by omega), drop_cons T (k + 1) (by omega), drop_cons T (k + 2) h]
  exact Scan.scan_range _ _ _ _ _ _ (by have := of_decide_eq_false hx; omega) (by have := of_decide_eq_true hy; omega)
theorem left_one (c : Int) (T : ByteArray) (k : Nat) (h : k < T.size) (hx : ((T[k].toNat : Int) == 37) = false ∨ T.size ≤ k + 1) (hy : T.size ≤ k + 2 ∨ ∃ h : k + 1 < T.size, ((T[k + 1].toNat : Int) == 45) = false) : left c T k = (((T[k].toNat : Int) == c) || left c T (k + 1)) := by
  unfold left
  rw [drop_cons T k h]
  have hl : (T.data.toList.drop (k + 1)).length = T.size - (k + 1) := by simp
  refine Scan.scan_one _ _ _ _ ?_ ?_
  · rcases hx with hx | hx
    · exact .inl (by have := of_decide_eq_false hx; omega)
    · exact .inr (List.length_eq_zero_iff.1 (by omega))
  · rcases hy with hy | ⟨h1, hy⟩
    · exact .inl (by omega)
    · refine .inr (fun y e => ?_)
      rw [drop_cons T (k + 1) h1] at e
      have e2 : T[k + 1] = y := by simpa using e
      subst e2
      have := of_decide_eq_false hy
      omega
theorem left_end (c : Int) (T : ByteArray) (k : Nat) (h : T.size ≤ k) : left c T k = false := by
  unfold left
  rw [List.drop_of_length_le (by simpa using h)]
  rfl

theorem body_neg (c : Int) (T : ByteArray) (h : 0 < T.size) (hx : ((T[0].toNat : Int) == 94) = true) : Scan.body (mcB c) c T.data.toList = !left c (T.extract 1 T.size) 0 := by
  have e : T.data.toList = T[0] :: T.data.toList.drop 1 := by
    have := drop_cons T 0 h
    simpa using this
  have e2 : (T.extract 1 T.size).data.toList = T.data.toList.drop 1 := by
    rw [Lib.extract_data, List.take_of_length_le (by simp)]
  unfold left
  rw [e2, List.drop_zero]
  have e3 : Scan.body (mcB c) c T.data.toList = Scan.body (mcB c) c (T[0] :: T.data.toList.drop 1) := congrArg (Scan.body (mcB c) c) e
  rw [e3]
  show (if T[0].toNat = 94 then _ else _) = _
  rw [if_pos (by have := of_decide_eq_true hx; omega)]
theorem body_pos (c : Int) (T : ByteArray) (hx : T.size = 0 ∨ ∃ h : 0 < T.size, ((T[0].toNat : Int) == 94) = false) : Scan.body (mcB c) c T.data.toList = left c T 0 := by
  unfold left
  rw [List.drop_zero]
  rcases hx with hx | ⟨h, hx⟩
  · have : T.data.toList = [] := List.length_eq_zero_iff.1 (by simpa using hx)
    rw [this]; rfl
  · have e : T.data.toList = T[0] :: T.data.toList.drop 1 := by
      have := drop_cons T 0 h
      simpa using this
    rw [e]
    show (if T[0].toNat = 94 then _ else _) = _
    rw [if_neg (by have := of_decide_eq_false hx; omega)]

set_option maxHeartbeats 4000000 in
theorem set_neg (c : Int) (s : ByteArray) (w : World) (hs : s.size ≤ 1048576) (hne : 0 < s.size - 1 - 1) (h94 : (((s.extract 1 (s.size - 1))[0]'(by simp; omega)).toNat : Int) = 94) :
    Calls Try.prog 15 #[.int .u8 c, .string s] w fun e w' => e = .returned (.bool (!left c ((s.extract 1 (s.size - 1)).extract 1 (s.size - 1 - 1)) 0)) ∧ w' = w := by
  have h94' : ((((s.extract 1 (s.size - 1))[0]'(by simp; omega)).toNat : Int) == 94) = true := beq_iff_eq.2 h94
  clear h94
  go_enter Try.func15, Try.ntmps15
  go_wp2_with fail
  have hT : ((s.extract 1 (s.size - 1)).extract 1 (s.size - 1 - 1)).size ≤ 1048576 := by simp; omega
  generalize hTe : (s.extract 1 (s.size - 1)).extract 1 (s.size - 1 - 1) = T at *
  have HT : Hid ((s.extract 1 (s.size - 1)).extract 1 (s.size - 1 - 1) = T) := hTe
  clear hTe
  go_loop [6] (fun i => ∃ k : Nat, k ≤ T.size ∧ i = .int .i64 k ∧ left c T 0 = left c T k) (fun i => T.size - (intOf i).toNat)
  case atStart => exact ⟨0, Nat.zero_le _, rfl, rfl⟩
  case round =>
    obtain ⟨k, hk, rfl, hl⟩ := hrel
    have HL : Hid (left c T 0 = left c T k) := hl
    clear hl
    by_cases hlt : k < T.size
    · by_cases h37 : (T[k].toNat : Int) = 37
      · by_cases h1 : k + 1 < T.size
        · have hst : Hid (left c T k = (mcB c (T[k + 1].toNat : Int) || left c T (k + 2))) := left_class c T k h1 (beq_iff_eq.2 h37)
          cases hm : mcB c (T[k + 1].toNat : Int)
          · have HS : Hid (left c T 0 = left c T (k + 2)) := (by rw [HL.out, hst.out, hm]; rfl : left c T 0 = left c T (k + 2))
            have h1' : (k : Int) + 1 < T.size := by omega
            clear hst
            go_wp2_with (go_at_call 14; refine (mc_any _ _ _).mono ?_; rintro e w' ⟨rfl, rfl⟩)
            go_round
            case rel => exact ⟨k + 2, by omega, by go_num, HS.out⟩
            case measure => simp [intOf]; omega
          · have HS : Hid (left c T 0 = true) := (by rw [HL.out, hst.out, hm]; rfl : left c T 0 = true)
            have h1' : (k : Int) + 1 < T.size := by omega
            clear hst
            go_wp2_with (go_at_call 14; refine (mc_any _ _ _).mono ?_; rintro e w' ⟨rfl, rfl⟩)
            go_ret
            exact ⟨by rw [HT.out, HS.out]; rfl, rfl⟩
        · have hst : Hid (left c T k = (((T[k].toNat : Int) == c) || left c T (k + 1))) := left_one c T k hlt (.inr (by omega)) (.inl (by omega))
          have h1' : (T.size : Int) ≤ (k : Int) + 1 := by omega
          by_cases hc : (T[k].toNat : Int) = c
          · have HS : Hid (left c T 0 = true) := (by rw [HL.out, hst.out, beq_iff_eq.2 hc]; rfl : left c T 0 = true)
            have hc1 : ((37 : Int) == c) = true := beq_iff_eq.2 (by omega)
            clear hst hc h1
            go_wp2_with fail
            go_ret
            exact ⟨by rw [HT.out, HS.out]; rfl, rfl⟩
          · have HS : Hid (left c T 0 = left c T (k + 1)) := (by rw [HL.out, hst.out, beq_eq_false_iff_ne.2 hc]; rfl : left c T 0 = left c T (k + 1))
            have hc1 : ((37 : Int) == c) = false := beq_eq_false_iff_ne.2 (by omega)
            clear hst hc h1
            go_wp2_with fail
            go_round
            case rel => exact ⟨k + 1, by omega, by go_num, HS.out⟩
            case measure => simp [intOf]; omega
      · by_cases hr : ∃ h : k + 2 < T.size, (T[k + 1].toNat : Int) = 45
        · obtain ⟨hr2, h45⟩ := hr
          have hst : Hid (left c T k = ((decide ((T[k].toNat : Int) ≤ c) && decide (c ≤ (T[k + 2].toNat : Int))) || left c T (k + 3))) := left_range c T k hr2 (beq_eq_false_iff_ne.2 h37) (beq_iff_eq.2 h45)
          have h1' : (k : Int) + 2 < T.size := by omega
          have h1'' : (k : Int) + 1 < T.size := by omega
          have h37' : ((T[k].toNat : Int) == 37) = false := beq_eq_false_iff_ne.2 h37
          have h45' : ((T[k + 1].toNat : Int) == 45) = true := beq_iff_eq.2 h45
          clear h37 h45
          by_cases ha : (T[k].toNat : Int) ≤ c
          · by_cases hb : c ≤ (T[k + 2].toNat : Int)
            · have HS : Hid (left c T 0 = true) := (by rw [HL.out, hst.out, decide_eq_true ha, decide_eq_true hb]; rfl : left c T 0 = true)
              clear hst
              go_wp2_with fail
              go_ret
              exact ⟨by rw [HT.out, HS.out]; rfl, rfl⟩
            · have HS : Hid (left c T 0 = left c T (k + 3)) := (by rw [HL.out, hst.out, decide_eq_false hb]; simp : left c T 0 = left c T (k + 3))
              have hb' : (T[k + 2].toNat : Int) < c := by omega
              clear hst hb
              go_wp2_with fail
              go_round
              case rel => exact ⟨k + 3, by omega, by go_num, HS.out⟩
              case measure => simp [intOf]; omega
          · have HS : Hid (left c T 0 = left c T (k + 3)) := (by rw [HL.out, hst.out, decide_eq_false ha]; simp : left c T 0 = left c T (k + 3))
            have ha' : c < (T[k].toNat : Int) := by omega
            clear hst ha
            go_wp2_with fail
            go_round
            case rel => exact ⟨k + 3, by omega, by go_num, HS.out⟩
            case measure => simp [intOf]; omega
        · have hst : Hid (left c T k = (((T[k].toNat : Int) == c) || left c T (k + 1))) := left_one c T k hlt (.inl (beq_eq_false_iff_ne.2 h37)) (by
            by_cases h2 : k + 2 < T.size
            · exact .inr ⟨by omega, beq_eq_false_iff_ne.2 (fun e => hr ⟨h2, e⟩)⟩
            · exact .inl (by omega))
          have h37' : ((T[k].toNat : Int) == 37) = false := beq_eq_false_iff_ne.2 h37
          by_cases hc : ((T[k].toNat : Int) == c) = true
          · have HS : Hid (left c T 0 = true) := (by rw [HL.out, hst.out, hc]; rfl : left c T 0 = true)
            clear hst h37
            by_cases h2 : k + 2 < T.size
            · have h45' : ((T[k + 1].toNat : Int) == 45) = false := beq_eq_false_iff_ne.2 (fun e => hr ⟨h2, e⟩)
              have h1' : (k : Int) + 2 < T.size := by omega
              have h1'' : (k : Int) + 1 < T.size := by omega
              clear hr
              go_wp2_with fail
              go_ret
              exact ⟨by rw [HT.out, HS.out]; rfl, rfl⟩
            · have h1' : (T.size : Int) ≤ (k : Int) + 2 := by omega
              clear hr h2
              go_wp2_with fail
              go_ret
              exact ⟨by rw [HT.out, HS.out]; rfl, rfl⟩
          · have hc' : ((T[k].toNat : Int) == c) = false := by simpa using hc
            have HS : Hid (left c T 0 = left c T (k + 1)) := (by rw [HL.out, hst.out, hc']; rfl : left c T 0 = left c T (k + 1))
            clear hst h37 hc
            by_cases h2 : k + 2 < T.size
            · have h45' : ((T[k + 1].toNat : Int) == 45) = false := beq_eq_false_iff_ne.2 (fun e => hr ⟨h2, e⟩)
              have h1' : (k : Int) + 2 < T.size := by omega
              have h1'' : (k : Int) + 1 < T.size := by omega
              clear hr
              go_wp2_with fail
              go_round
              case rel => exact ⟨k + 1, by omega, by go_num, HS.out⟩
              case measure => simp [intOf]; omega
            · have h1' : (T.size : Int) ≤ (k : Int) + 2 := by omega
              clear hr h2
              go_wp2_with fail
              go_round
              case rel => exact ⟨k + 1, by omega, by go_num, HS.out⟩
              case measure => simp [intOf]; omega
    · have HS : Hid (left c T 0 = false) := (by rw [HL.out, left_end c T k (by omega)] : left c T 0 = false)
      have hge : T.size ≤ k := by omega
      clear hlt
      go_wp2_with fail
      go_ret
      exact ⟨by rw [HT.out, HS.out]; rfl, rfl⟩

set_option maxHeartbeats 4000000 in
theorem set_pos (c : Int) (s : ByteArray) (w : World) (hs : s.size ≤ 1048576) (hne : 0 < s.size - 1 - 1) (h94 : ¬ (((s.extract 1 (s.size - 1))[0]'(by simp; omega)).toNat : Int) = 94) :
    Calls Try.prog 15 #[.int .u8 c, .string s] w fun e w' => e = .returned (.bool (left c (s.extract 1 (s.size - 1)) 0)) ∧ w' = w := by
  have h94' : ((((s.extract 1 (s.size - 1))[0]'(by simp; omega)).toNat : Int) == 94) = false := beq_eq_false_iff_ne.2 h94
  clear h94
  go_enter Try.func15, Try.ntmps15
  go_wp2_with fail
  generalize (s.extract 1 (s.size - 1))[0]'(by simp; omega) = b0 at *
  have hT : (s.extract 1 (s.size - 1)).size ≤ 1048576 := by simp; omega
  generalize hTe : s.extract 1 (s.size - 1) = T at *
  have HT : Hid (s.extract 1 (s.size - 1) = T) := hTe
  clear hTe
  go_loop [6] (fun i => ∃ k : Nat, k ≤ T.size ∧ i = .int .i64 k ∧ left c T 0 = left c T k) (fun i => T.size - (intOf i).toNat)
  case atStart => exact ⟨0, Nat.zero_le _, rfl, rfl⟩
  case round =>
    obtain ⟨k, hk, rfl, hl⟩ := hrel
    have HL : Hid (left c T 0 = left c T k) := hl
    clear hl
    by_cases hlt : k < T.size
    · by_cases h37 : (T[k].toNat : Int) = 37
      · by_cases h1 : k + 1 < T.size
        · have hst : Hid (left c T k = (mcB c (T[k + 1].toNat : Int) || left c T (k + 2))) := left_class c T k h1 (beq_iff_eq.2 h37)
          cases hm : mcB c (T[k + 1].toNat : Int)
          · have HS : Hid (left c T 0 = left c T (k + 2)) := (by rw [HL.out, hst.out, hm]; rfl : left c T 0 = left c T (k + 2))
            have h1' : (k : Int) + 1 < T.size := by omega
            clear hst
            go_wp2_with (go_at_call 14; refine (mc_any _ _ _).mono ?_; rintro e w' ⟨rfl, rfl⟩)
            go_round
            case rel => exact ⟨k + 2, by omega, by go_num, HS.out⟩
            case measure => simp [intOf]; omega
          · have HS : Hid (left c T 0 = true) := (by rw [HL.out, hst.out, hm]; rfl : left c T 0 = true)
            have h1' : (k : Int) + 1 < T.size := by omega
            clear hst
            go_wp2_with (go_at_call 14; refine (mc_any _ _ _).mono ?_; rintro e w' ⟨rfl, rfl⟩)
            go_ret
            exact ⟨by rw [HT.out, HS.out]; rfl, rfl⟩
        · have hst : Hid (left c T k = (((T[k].toNat : Int) == c) || left c T (k + 1))) := left_one c T k hlt (.inr (by omega)) (.inl (by omega))
          have h1' : (T.size : Int) ≤ (k : Int) + 1 := by omega
          by_cases hc : (T[k].toNat : Int) = c
          · have HS : Hid (left c T 0 = true) := (by rw [HL.out, hst.out, beq_iff_eq.2 hc]; rfl : left c T 0 = true)
            have hc1 : ((37 : Int) == c) = true := beq_iff_eq.2 (by omega)
            clear hst hc h1
            go_wp2_with fail
            go_ret
            exact ⟨by rw [HT.out, HS.out]; rfl, rfl⟩
          · have HS : Hid (left c T 0 = left c T (k + 1)) := (by rw [HL.out, hst.out, beq_eq_false_iff_ne.2 hc]; rfl : left c T 0 = left c T (k + 1))
            have hc1 : ((37 : Int) == c) = false := beq_eq_false_iff_ne.2 (by omega)
            clear hst hc h1
            go_wp2_with fail
            go_round
            case rel => exact ⟨k + 1, by omega, by go_num, HS.out⟩
            case measure => simp [intOf]; omega
      · by_cases hr : ∃ h : k + 2 < T.size, (T[k + 1].toNat : Int) = 45
        · obtain ⟨hr2, h45⟩ := hr
          have hst : Hid (left c T k = ((decide ((T[k].toNat : Int) ≤ c) && decide (c ≤ (T[k + 2].toNat : Int))) || left c T (k + 3))) := left_range c T k hr2 (beq_eq_false_iff_ne.2 h37) (beq_iff_eq.2 h45)
          have h1' : (k : Int) + 2 < T.size := by omega
          have h1'' : (k : Int) + 1 < T.size := by omega
          have h37' : ((T[k].toNat : Int) == 37) = false := beq_eq_false_iff_ne.2 h37
          have h45' : ((T[k + 1].toNat : Int) == 45) = true := beq_iff_eq.2 h45
          clear h37 h45
          by_cases ha : (T[k].toNat : Int) ≤ c
          · by_cases hb : c ≤ (T[k + 2].toNat : Int)
            · have HS : Hid (left c T 0 = true) := (by rw [HL.out, hst.out, decide_eq_true ha, decide_eq_true hb]; rfl : left c T 0 = true)
              clear hst
              go_wp2_with fail
              go_ret
              exact ⟨by rw [HT.out, HS.out]; rfl, rfl⟩
            · have HS : Hid (left c T 0 = left c T (k + 3)) := (by rw [HL.out, hst.out, decide_eq_false hb]; simp : left c T 0 = left c T (k + 3))
              have hb' : (T[k + 2].toNat : Int) < c := by omega
              clear hst hb
              go_wp2_with fail
              go_round
              case rel => exact ⟨k + 3, by omega, by go_num, HS.out⟩
              case measure => simp [intOf]; omega
          · have HS : Hid (left c T 0 = left c T (k + 3)) := (by rw [HL.out, hst.out, decide_eq_false ha]; simp : left c T 0 = left c T (k + 3))
            have ha' : c < (T[k].toNat : Int) := by omega
            clear hst ha
            go_wp2_with fail
            go_round
            case rel => exact ⟨k + 3, by omega, by go_num, HS.out⟩
            case measure => simp [intOf]; omega
        · have hst : Hid (left c T k = (((T[k].toNat : Int) == c) || left c T (k + 1))) := left_one c T k hlt (.inl (beq_eq_false_iff_ne.2 h37)) (by
            by_cases h2 : k + 2 < T.size
            · exact .inr ⟨by omega, beq_eq_false_iff_ne.2 (fun e => hr ⟨h2, e⟩)⟩
            · exact .inl (by omega))
          have h37' : ((T[k].toNat : Int) == 37) = false := beq_eq_false_iff_ne.2 h37
          by_cases hc : ((T[k].toNat : Int) == c) = true
          · have HS : Hid (left c T 0 = true) := (by rw [HL.out, hst.out, hc]; rfl : left c T 0 = true)
            clear hst h37
            by_cases h2 : k + 2 < T.size
            · have h45' : ((T[k + 1].toNat : Int) == 45) = false := beq_eq_false_iff_ne.2 (fun e => hr ⟨h2, e⟩)
              have h1' : (k : Int) + 2 < T.size := by omega
              have h1'' : (k : Int) + 1 < T.size := by omega
              clear hr
              go_wp2_with fail
              go_ret
              exact ⟨by rw [HT.out, HS.out]; rfl, rfl⟩
            · have h1' : (T.size : Int) ≤ (k : Int) + 2 := by omega
              clear hr h2
              go_wp2_with fail
              go_ret
              exact ⟨by rw [HT.out, HS.out]; rfl, rfl⟩
          · have hc' : ((T[k].toNat : Int) == c) = false := by simpa using hc
            have HS : Hid (left c T 0 = left c T (k + 1)) := (by rw [HL.out, hst.out, hc']; rfl : left c T 0 = left c T (k + 1))
            clear hst h37 hc
            by_cases h2 : k + 2 < T.size
            · have h45' : ((T[k + 1].toNat : Int) == 45) = false := beq_eq_false_iff_ne.2 (fun e => hr ⟨h2, e⟩)
              have h1' : (k : Int) + 2 < T.size := by omega
              have h1'' : (k : Int) + 1 < T.size := by omega
              clear hr
              go_wp2_with fail
              go_round
              case rel => exact ⟨k + 1, by omega, by go_num, HS.out⟩
              case measure => simp [intOf]; omega
            · have h1' : (T.size : Int) ≤ (k : Int) + 2 := by omega
              clear hr h2
              go_wp2_with fail
              go_round
              case rel => exact ⟨k + 1, by omega, by go_num, HS.out⟩
              case measure => simp [intOf]; omega
    · have HS : Hid (left c T 0 = false) := (by rw [HL.out, left_end c T k (by omega)] : left c T 0 = false)
      have hge : T.size ≤ k := by omega
      clear hlt
      go_wp2_with fail
      go_ret
      exact ⟨by rw [HT.out, HS.out]; rfl, rfl⟩

set_option maxHeartbeats 4000000 in
theorem set_empty (c : Int) (s : ByteArray) (w : World) (hs : s.size ≤ 1048576) (h2 : 2 ≤ s.size) (hne : s.size - 1 - 1 ≤ 0) :
    Calls Try.prog 15 #[.int .u8 c, .string s] w fun e w' => e = .returned (.bool (left c (s.extract 1 (s.size - 1)) 0)) ∧ w' = w := by
  go_enter Try.func15, Try.ntmps15
  go_wp2_with fail
  have hT : (s.extract 1 (s.size - 1)).size ≤ 1048576 := by simp; omega
  generalize hTe : s.extract 1 (s.size - 1) = T at *
  have HT : Hid (s.extract 1 (s.size - 1) = T) := hTe
  clear hTe
  go_loop [6] (fun i => ∃ k : Nat, k ≤ T.size ∧ i = .int .i64 k ∧ left c T 0 = left c T k) (fun i => T.size - (intOf i).toNat)
  case atStart => exact ⟨0, Nat.zero_le _, rfl, rfl⟩
  case round =>
    obtain ⟨k, hk, rfl, hl⟩ := hrel
    have HL : Hid (left c T 0 = left c T k) := hl
    clear hl
    by_cases hlt : k < T.size
    · by_cases h37 : (T[k].toNat : Int) = 37
      · by_cases h1 : k + 1 < T.size
        · have hst : Hid (left c T k = (mcB c (T[k + 1].toNat : Int) || left c T (k + 2))) := left_class c T k h1 (beq_iff_eq.2 h37)
          cases hm : mcB c (T[k + 1].toNat : Int)
          · have HS : Hid (left c T 0 = left c T (k + 2)) := (by rw [HL.out, hst.out, hm]; rfl : left c T 0 = left c T (k + 2))
            have h1' : (k : Int) + 1 < T.size := by omega
            clear hst
            go_wp2_with (go_at_call 14; refine (mc_any _ _ _).mono ?_; rintro e w' ⟨rfl, rfl⟩)
            go_round
            case rel => exact ⟨k + 2, by omega, by go_num, HS.out⟩
            case measure => simp [intOf]; omega
          · have HS : Hid (left c T 0 = true) := (by rw [HL.out, hst.out, hm]; rfl : left c T 0 = true)
            have h1' : (k : Int) + 1 < T.size := by omega
            clear hst
            go_wp2_with (go_at_call 14; refine (mc_any _ _ _).mono ?_; rintro e w' ⟨rfl, rfl⟩)
            go_ret
            exact ⟨by rw [HT.out, HS.out]; rfl, rfl⟩
        · have hst : Hid (left c T k = (((T[k].toNat : Int) == c) || left c T (k + 1))) := left_one c T k hlt (.inr (by omega)) (.inl (by omega))
          have h1' : (T.size : Int) ≤ (k : Int) + 1 := by omega
          by_cases hc : (T[k].toNat : Int) = c
          · have HS : Hid (left c T 0 = true) := (by rw [HL.out, hst.out, beq_iff_eq.2 hc]; rfl : left c T 0 = true)
            have hc1 : ((37 : Int) == c) = true := beq_iff_eq.2 (by omega)
            clear hst hc h1
            go_wp2_with fail
            go_ret
            exact ⟨by rw [HT.out, HS.out]; rfl, rfl⟩
          · have HS : Hid (left c T 0 = left c T (k + 1)) := (by rw [HL.out, hst.out, beq_eq_false_iff_ne.2 hc]; rfl : left c T 0 = left c T (k + 1))
            have hc1 : ((37 : Int) == c) = false := beq_eq_false_iff_ne.2 (by omega)
            clear hst hc h1
            go_wp2_with fail
            go_round
            case rel => exact ⟨k + 1, by omega, by go_num, HS.out⟩
            case measure => simp [intOf]; omega
      · by_cases hr : ∃ h : k + 2 < T.size, (T[k + 1].toNat : Int) = 45
        · obtain ⟨hr2, h45⟩ := hr
          have hst : Hid (left c T k = ((decide ((T[k].toNat : Int) ≤ c) && decide (c ≤ (T[k + 2].toNat : Int))) || left c T (k + 3))) := left_range c T k hr2 (beq_eq_false_iff_ne.2 h37) (beq_iff_eq.2 h45)
          have h1' : (k : Int) + 2 < T.size := by omega
          have h1'' : (k : Int) + 1 < T.size := by omega
          have h37' : ((T[k].toNat : Int) == 37) = false := beq_eq_false_iff_ne.2 h37
          have h45' : ((T[k + 1].toNat : Int) == 45) = true := beq_iff_eq.2 h45
          clear h37 h45
          by_cases ha : (T[k].toNat : Int) ≤ c
          · by_cases hb : c ≤ (T[k + 2].toNat : Int)
            · have HS : Hid (left c T 0 = true) := (by rw [HL.out, hst.out, decide_eq_true ha, decide_eq_true hb]; rfl : left c T 0 = true)
              clear hst
              go_wp2_with fail
              go_ret
              exact ⟨by rw [HT.out, HS.out]; rfl, rfl⟩
            · have HS : Hid (left c T 0 = left c T (k + 3)) := (by rw [HL.out, hst.out, decide_eq_false hb]; simp : left c T 0 = left c T (k + 3))
              have hb' : (T[k + 2].toNat : Int) < c := by omega
              clear hst hb
              go_wp2_with fail
              go_round
              case rel => exact ⟨k + 3, by omega, by go_num, HS.out⟩
              case measure => simp [intOf]; omega
          · have HS : Hid (left c T 0 = left c T (k + 3)) := (by rw [HL.out, hst.out, decide_eq_false ha]; simp : left c T 0 = left c T (k + 3))
            have ha' : c < (T[k].toNat : Int) := by omega
            clear hst ha
            go_wp2_with fail
            go_round
            case rel => exact ⟨k + 3, by omega, by go_num, HS.out⟩
            case measure => simp [intOf]; omega
        · have hst : Hid (left c T k = (((T[k].toNat : Int) == c) || left c T (k + 1))) := left_one c T k hlt (.inl (beq_eq_false_iff_ne.2 h37)) (by
            by_cases h2 : k + 2 < T.size
            · exact .inr ⟨by omega, beq_eq_false_iff_ne.2 (fun e => hr ⟨h2, e⟩)⟩
            · exact .inl (by omega))
          have h37' : ((T[k].toNat : Int) == 37) = false := beq_eq_false_iff_ne.2 h37
          by_cases hc : ((T[k].toNat : Int) == c) = true
          · have HS : Hid (left c T 0 = true) := (by rw [HL.out, hst.out, hc]; rfl : left c T 0 = true)
            clear hst h37
            by_cases h2 : k + 2 < T.size
            · have h45' : ((T[k + 1].toNat : Int) == 45) = false := beq_eq_false_iff_ne.2 (fun e => hr ⟨h2, e⟩)
              have h1' : (k : Int) + 2 < T.size := by omega
              have h1'' : (k : Int) + 1 < T.size := by omega
              clear hr
              go_wp2_with fail
              go_ret
              exact ⟨by rw [HT.out, HS.out]; rfl, rfl⟩
            · have h1' : (T.size : Int) ≤ (k : Int) + 2 := by omega
              clear hr h2
              go_wp2_with fail
              go_ret
              exact ⟨by rw [HT.out, HS.out]; rfl, rfl⟩
          · have hc' : ((T[k].toNat : Int) == c) = false := by simpa using hc
            have HS : Hid (left c T 0 = left c T (k + 1)) := (by rw [HL.out, hst.out, hc']; rfl : left c T 0 = left c T (k + 1))
            clear hst h37 hc
            by_cases h2 : k + 2 < T.size
            · have h45' : ((T[k + 1].toNat : Int) == 45) = false := beq_eq_false_iff_ne.2 (fun e => hr ⟨h2, e⟩)
              have h1' : (k : Int) + 2 < T.size := by omega
              have h1'' : (k : Int) + 1 < T.size := by omega
              clear hr
              go_wp2_with fail
              go_round
              case rel => exact ⟨k + 1, by omega, by go_num, HS.out⟩
              case measure => simp [intOf]; omega
            · have h1' : (T.size : Int) ≤ (k : Int) + 2 := by omega
              clear hr h2
              go_wp2_with fail
              go_round
              case rel => exact ⟨k + 1, by omega, by go_num, HS.out⟩
              case measure => simp [intOf]; omega
    · have HS : Hid (left c T 0 = false) := (by rw [HL.out, left_end c T k (by omega)] : left c T 0 = false)
      have hge : T.size ≤ k := by omega
      clear hlt
      go_wp2_with fail
      go_ret
      exact ⟨by rw [HT.out, HS.out]; rfl, rfl⟩

/-- matchSet, whatever the set of two bytes or more. -/
theorem set_any (c : Int) (s : ByteArray) (w : World) (hs : s.size ≤ 1048576) (h2 : 2 ≤ s.size) :
    Calls Try.prog 15 #[.int .u8 c, .string s] w fun e w' => e = .returned (.bool (Scan.body (mcB c) c (inner s).data.toList)) ∧ w' = w := by
  have hsz : (inner s).size = s.size - 1 - 1 := by unfold inner; simp
  by_cases hne : 0 < s.size - 1 - 1
  · by_cases h94 : (((s.extract 1 (s.size - 1))[0]'(by simp; omega)).toNat : Int) = 94
    · rw [body_neg c (inner s) (by omega) (beq_iff_eq.2 h94), hsz]
      exact set_neg c s w hs hne h94
    · rw [body_pos c (inner s) (.inr ⟨by omega, beq_eq_false_iff_ne.2 h94⟩)]
      exact set_pos c s w hs hne h94
  · rw [body_pos c (inner s) (.inl (by omega))]
    exact set_empty c s w hs h2 (by omega)

/-- ZZmatchSet hands its arguments on. -/
theorem zzset_any (c : Int) (s : ByteArray) (w : World) (hs : s.size ≤ 1048576) (h2 : 2 ≤ s.size) :
    Calls Try.prog 11 #[.int .u8 c, .string s] w fun e w' => e = .returned (.bool (Scan.body (mcB c) c (inner s).data.toList)) ∧ w' = w := by
  go_enter Try.func11, Try.ntmps11
  go_wp2_with fail
  refine (set_any c s _ hs h2).mono ?_
  rintro e w' ⟨rfl, rfl⟩
  go_wp2
  go_ret
  exact ⟨rfl, rfl⟩
end Go.Proofs.Qxb6602654a
