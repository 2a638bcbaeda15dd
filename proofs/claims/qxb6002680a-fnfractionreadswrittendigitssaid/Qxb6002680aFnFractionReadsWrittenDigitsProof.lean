/-
  DERIVED. A proof of 'Rows.FnFractionReadsWrittenDigitsSaid': the shell as the tool wrote it, its hole filled.
-/
import Derived.Test.Qxb6002680aRows
import Derived.WalkKit
import Derived.ProofKit
import Derived.OpenShut
import Derived.ShutString
import Derived.WalkSpells
import Derived.Test.Qxb6002680aFrac
import Derived.Test.Qxb6002680aPad
namespace Go.Proofs.Qxb6002680a.fnFractionReadsWrittenDigits
open Go.ChangeShapes Go.WideShapes Go.ChangeAt Go.RowKit
open Go.ChangeMaps (open_string shut_string)
set_option linter.unusedVariables false      -- a walk need not use every 'w<i>' (that an integer argument fits its kind)

theorem own : ownKnob Try.prog.godebug = none := by kernel_rfl

/-! ### The program's own bound on lengths: it answers a bool and only computes. -/
theorem bound (v k : Int) (s : ByteArray) (w : World) (hs : s.size ≤ maxLen) :
    Calls Try.prog 14 #[.int .i64 v, .int .i64 k, .string s] w fun e w' => ∃ b : Bool, e = .returned (.bool b) ∧ w' = w := by
  unfold maxLen at hs
  go_enter Try.func14, Try.ntmps14
  go_wp2
  all_goals
    go_ret
    exact ⟨_, rfl, rfl⟩

theorem grown_trans {a b c : World} (h : Grown a b) (k : Grown b c) : Grown a c :=
  ⟨World.keptBut_trans h.1 k.1, fun x => (k.2.1 x).trans (h.2.1 x), Nat.le_trans h.2.2 k.2.2⟩

theorem p10_pos (k : Nat) (h : k ≤ 9) : 1 ≤ p10 k ∧ p10 k ≤ 1000000000 := by
  have h1 := p10_bd k h
  have h2 : 0 < 10 ^ k := Nat.pow_pos (by omega)
  refine ⟨?_, h1.2⟩
  unfold p10
  generalize 10 ^ k = z at *
  omega
theorem pow10_int (i : Int) (k : Nat) (w : World) (h : i = (k : Int)) (hk : k ≤ 9) :
    Calls Try.prog 16 #[.int .i64 i] w fun e w' => e = .returned (.int .i64 (p10 k)) ∧ w' = w := by
  subst h; exact pow10_any k w hk
theorem prod_bd (v k : Nat) (hk : k ≤ 9) (hv : (v : Int) < p10 k) : 0 ≤ (v : Int) * p10 (9 - k) ∧ (v : Int) * p10 (9 - k) < 1000000000 := by
  have h1 : v < 10 ^ k := by unfold p10 at hv; omega
  have h2 := Nat.mul_lt_mul_of_pos_right h1 (Nat.pow_pos (n := 9 - k) (show 0 < 10 by omega))
  rw [Dig.pow_split hk] at h2
  unfold p10
  rw [← Int.natCast_mul]
  generalize v * 10 ^ (9 - k) = z at *
  omega

/-! ### The plain law: what is written reads back. -/
theorem padStr_list (k v : Nat) : (padStr k v).data.toList = Dig.pad k v := by simp [padStr]
theorem padStr_size (k v : Nat) : (padStr k v).size = k := by
  have : (padStr k v).size = (padStr k v).data.toList.length := rfl
  rw [this, padStr_list, Dig.pad_length]
theorem app_list (a b : ByteArray) : (a ++ b).data.toList = a.data.toList ++ b.data.toList := by simp
theorem took_pad (k v m : Nat) (t : ByteArray) (hk : k ≤ m) (ht : ∀ c, t.data.toList.head? = some c → Dig.isDig c = false) : took (padStr k v ++ t) m = k := by
  unfold took
  rw [app_list, padStr_list, Dig.run_all _ (Dig.pad_dig k v) _ ht, Dig.pad_length]
  omega
theorem numb_pad (k v : Nat) (t : ByteArray) (hv : v < 10 ^ k) : numb (padStr k v ++ t) k = v := by
  unfold numb
  rw [app_list, padStr_list, List.take_append_of_le_length (by rw [Dig.pad_length]; omega), List.take_of_length_le (by rw [Dig.pad_length]; omega), Dig.pad_val k v hv]
theorem rest_pad (k v : Nat) (t : ByteArray) : (padStr k v ++ t).extract k (padStr k v ++ t).size = t := by
  have h : ((padStr k v ++ t).extract k (padStr k v ++ t).size).data.toList = t.data.toList := by
    rw [Lib.extract_data, app_list, padStr_list]
    have e : (padStr k v ++ t).size - k = t.data.toList.length := by
      rw [ByteArray.size_append, padStr_size]
      have : t.size = t.data.toList.length := rfl
      omega
    rw [e, List.drop_append_of_le_length (by rw [Dig.pad_length]; omega), List.drop_of_length_le (by rw [Dig.pad_length]; omega), List.nil_append, List.take_length]
  rw [← ofList ((padStr k v ++ t).extract k (padStr k v ++ t).size), h, ofList]
theorem dotted (d t : ByteArray) : ((⟨#[46]⟩ ++ d ++ t : ByteArray)).data.toList = 46 :: (d ++ t).data.toList := by simp

theorem long (k v : Nat) (t : ByteArray) (hk : k ≤ 9) (hs : t.size ≤ 65536) : (padStr k v ++ t).size ≤ maxLen := by
  rw [ByteArray.size_append, padStr_size]; unfold maxLen; omega
theorem c2 (k v : Nat) (t : ByteArray) (hk1 : 1 ≤ k) (hk : k ≤ 9) (hv : v < 10 ^ k) (hs : t.size ≤ 65536) (ht : ∀ c, t.data.toList.head? = some c → Dig.isDig c = false) (w : World) : Calls Try.prog 15 #[.bool false, .int .i64 k, .string (padStr k v ++ t)] w fun e w' => FracAns ((v : Int) * p10 (9 - k)) t true w e w' := by
  refine zz_of false k _ _ _ _ (fun w => ?_) w
  have h := frac_plain_pos (padStr k v ++ t) k w (long k v t hk hs) hk (by omega)
  rw [took_pad k v k t (Nat.le_refl _) ht, rest_pad, decide_eq_true (Nat.le_refl k)] at h
  unfold scaled at h
  rw [numb_pad k v t hv] at h
  exact h
theorem c3 (k v : Nat) (t : ByteArray) (hk1 : 1 ≤ k) (hk : k ≤ 9) (hv : v < 10 ^ k) (hs : t.size ≤ 65536) (ht : ∀ c, t.data.toList.head? = some c → Dig.isDig c = false) (w : World) : Calls Try.prog 15 #[.bool true, .int .i64 k, .string (⟨#[46]⟩ ++ padStr k v ++ t)] w fun e w' => FracAns ((v : Int) * p10 (9 - k)) t true w e w' := by
  refine zz_of true k _ _ _ _ (fun w => ?_) w
  have h := frac_dot_pos (⟨#[46]⟩ ++ padStr k v ++ t) (padStr k v ++ t) k w (long k v t hk hs) hk (by omega) (dotted _ _)
  rw [took_pad k v k t (Nat.le_refl _) ht, rest_pad, decide_eq_true (Nat.le_refl k)] at h
  unfold scaled at h
  rw [numb_pad k v t hv] at h
  exact h
theorem c4 (k v : Nat) (t : ByteArray) (hk : k ≤ 9) (hv : v < 10 ^ k) (hs : t.size ≤ 65536) (ht : ∀ c, t.data.toList.head? = some c → Dig.isDig c = false) (w : World) : Calls Try.prog 15 #[.bool false, .int .i64 0, .string (padStr k v ++ t)] w fun e w' => FracAns ((v : Int) * p10 (9 - k)) t true w e w' := by
  refine zz_of false 0 _ _ _ _ (fun w => ?_) w
  have h := frac_plain_zero (padStr k v ++ t) w (long k v t hk hs)
  rw [took_pad k v 9 t hk ht, rest_pad] at h
  unfold scaled at h
  rw [numb_pad k v t hv] at h
  exact h
theorem c1 (k v : Nat) (t : ByteArray) (hk : k ≤ 9) (hv : v < 10 ^ k) (hs : t.size ≤ 65536) (ht : ∀ c, t.data.toList.head? = some c → Dig.isDig c = false) (w : World) : Calls Try.prog 15 #[.bool true, .int .i64 0, .string (⟨#[46]⟩ ++ padStr k v ++ t)] w fun e w' => FracAns ((v : Int) * p10 (9 - k)) t true w e w' := by
  refine zz_of true 0 _ _ _ _ (fun w => ?_) w
  have h := frac_dot_zero (⟨#[46]⟩ ++ padStr k v ++ t) (padStr k v ++ t) w (long k v t hk hs) (dotted _ _)
  rw [took_pad k v 9 t hk ht, rest_pad] at h
  unfold scaled at h
  rw [numb_pad k v t hv] at h
  exact h
theorem n5 (k : Int) (t : ByteArray) (ht : t.data.toList.head? ≠ some 46) (w : World) : Calls Try.prog 15 #[.bool true, .int .i64 k, .string t] w fun e w' => FracAns 0 t true w e w' :=
  zz_of true k t _ _ _ (fun w => frac_dot_none t k w ht) w
theorem head_eq (s : ByteArray) (h : 0 < s.size) : s.data.toList.head? = some s[0] := by
  rw [List.head?_eq_getElem?, List.getElem?_eq_getElem (by simpa using h)]
  rfl
theorem head_not (s : ByteArray) (h : 0 < s.size) (hd : ¬ ((48 : Int) ≤ s[0].toNat ∧ (s[0].toNat : Int) ≤ 57)) : ∀ c, s.data.toList.head? = some c → Dig.isDig c = false := by
  intro c hc
  rw [head_eq s h] at hc
  have : s[0] = c := by simpa using hc
  subst this
  unfold Dig.isDig
  rw [Bool.and_eq_false_iff, decide_eq_false_iff_not, decide_eq_false_iff_not]
  omega
theorem head_other (s : ByteArray) (h : 0 < s.size) (hd : ¬ (s[0].toNat : Int) = 46) : s.data.toList.head? ≠ some 46 := by
  rw [head_eq s h]
  intro e
  have e2 : s[0] = 46 := by simpa using e
  rw [e2] at hd
  exact hd rfl
theorem size_ne (s : ByteArray) (h : 0 < s.size) : ((s.size : Int) == 0) = false := by
  simp
  intro e
  rw [e] at h
  simp at h
theorem head_none (s : ByteArray) (h : ¬ 0 < s.size) : s.data.toList = [] := by
  have : s.data.toList.length = 0 := by
    have : s.data.toList.length = s.size := rfl
    omega
  exact List.length_eq_zero_iff.1 this
theorem isdig_lo (x : Int) (w : World) (h : x < 48) : Calls Try.prog 12 #[.int .u8 x] w fun e w' => e = .returned (.bool false) ∧ w' = w := by
  go_enter Try.func12, Try.ntmps12
  go_wp2
  go_ret
  exact ⟨rfl, rfl⟩
theorem isdig_hi (x : Int) (w : World) (h : 57 < x) : Calls Try.prog 12 #[.int .u8 x] w fun e w' => e = .returned (.bool false) ∧ w' = w := by
  have h1 : 48 ≤ x := by omega
  have hx : decide (x ≤ 57) = false := decide_eq_false (by omega)
  go_enter Try.func12, Try.ntmps12
  go_wp2
  go_ret
  exact ⟨rfl, rfl⟩
theorem isdig_yes (x : Int) (w : World) (h1 : 48 ≤ x) (h2 : x ≤ 57) : Calls Try.prog 12 #[.int .u8 x] w fun e w' => e = .returned (.bool true) ∧ w' = w := by
  go_enter Try.func12, Try.ntmps12
  go_wp2
  go_ret
  exact ⟨rfl, rfl⟩


/-! ### STEP 1: THE WALK: the Go text returns true. 'Grown w w'': the world has at most new blocks (Derived/RowKit3.lean). Part the cases AHEAD of 'go_enter' where a test parts the walk; take each callee by a contract of your own. -/
set_option maxRecDepth 100000 in
set_option maxHeartbeats 2000000 in
theorem walk (a0 : Int) (a1 : Int) (a2 : ByteArray) (w0 : (Lit.int .i64 a0).wf = true) (w1 : (Lit.int .i64 a1).wf = true) (w2 : a2.size ≤ maxLen) (w : World) :
    Calls Try.prog 6 #[.int .i64 a0, .int .i64 a1, .string a2] w fun e w' => e = .returned (.bool true) ∧ Grown w w' := by
  have hs := w2
  unfold maxLen at w2
  go_enter Try.func6, Try.ntmps6
  go_wp2_with fail
  refine (bound a0 a1 a2 _ (by unfold maxLen; exact w2)).mono ?_
  rintro e w' ⟨b, rfl, rfl⟩
  cases b
  · go_wp2
    go_ret
    exact ⟨rfl, Grown.refl _⟩
  · by_cases g0 : (65536 : Int) < a2.size
    · go_wp2
      go_ret
      exact ⟨rfl, Grown.refl _⟩
    by_cases g1 : a1 < 1
    · go_wp2
      go_ret
      exact ⟨rfl, Grown.refl _⟩
    by_cases g2 : 9 < a1
    · go_wp2
      go_ret
      exact ⟨rfl, Grown.refl _⟩
    obtain ⟨k, rfl⟩ : ∃ k : Nat, a1 = k := ⟨a1.toNat, by omega⟩
    have hk : k ≤ 9 := by omega
    have hk1 : 1 ≤ k := by omega
    have g0' : a2.size ≤ 65536 := by omega
    by_cases hz : 0 < a2.size
    · by_cases hdot : (a2[0].toNat : Int) = 46
      · have hz0 : ((a2.size : Int) == 0) = false := size_ne a2 hz
        have hdot1 : ((a2[0].toNat : Int) != 46) = false := by simp [hdot]
        have hlo : (a2[0].toNat : Int) < 48 := by omega
        have ND : Hid (∀ c, a2.data.toList.head? = some c → Dig.isDig c = false) := head_not a2 hz (by omega)
        clear hdot
        by_cases v0 : a0 < 0
        · skip
          go_wp2_with fail
          go_ret
          exact ⟨rfl, (Grown.refl _)⟩
        obtain ⟨v, rfl⟩ : ∃ v : Nat, a0 = v := ⟨a0.toNat, by omega⟩
        have PK : Hid (∀ w, Calls Try.prog 16 #[.int .i64 (k : Int)] w fun e w' => e = .returned (.int .i64 (p10 k)) ∧ w' = w) := fun w => pow10_any k w hk
        by_cases v1 : p10 k ≤ v
        · generalize p10 k = z at *
          go_wp2_with fail
          refine (PK.out _).mono ?_
          rintro e wC ⟨rfl, rfl⟩
          go_wp2_with fail
          go_ret
          exact ⟨rfl, (Grown.refl _)⟩
        have hv : v < 10 ^ k := by unfold p10 at v1; omega
        have hb := prod_bd v k hk (by omega)
        have C1 : Hid (∀ w, Calls Try.prog 15 #[.bool true, .int .i64 0, .string (⟨#[46]⟩ ++ padStr k v ++ a2)] w fun e w' => FracAns ((v : Int) * p10 (9 - k)) a2 true w e w') := c1 k v a2 hk hv g0' ND.out
        have C2 : Hid (∀ w, Calls Try.prog 15 #[.bool false, .int .i64 k, .string (padStr k v ++ a2)] w fun e w' => FracAns ((v : Int) * p10 (9 - k)) a2 true w e w') := c2 k v a2 hk1 hk hv g0' ND.out
        have C3 : Hid (∀ w, Calls Try.prog 15 #[.bool true, .int .i64 k, .string (⟨#[46]⟩ ++ padStr k v ++ a2)] w fun e w' => FracAns ((v : Int) * p10 (9 - k)) a2 true w e w') := c3 k v a2 hk1 hk hv g0' ND.out
        have C4 : Hid (∀ w, Calls Try.prog 15 #[.bool false, .int .i64 0, .string (padStr k v ++ a2)] w fun e w' => FracAns ((v : Int) * p10 (9 - k)) a2 true w e w') := c4 k v a2 hk hv g0' ND.out
        have P9 : Hid (∀ w, Calls Try.prog 16 #[.int .i64 (9 - (k : Int))] w fun e w' => e = .returned (.int .i64 (p10 (9 - k))) ∧ w' = w) := fun w => pow10_int (9 - (k : Int)) (9 - k) w (by omega) (by omega)
        have PD : Hid (∀ w, Calls Try.prog 17 #[.int .i64 v, .int .i64 k] w fun e w' => PadAns k v w e w') := fun w => pad_any v k w (by have := Dig.pow_le9 hk; omega) hk
        have hd : (padStr k v).size ≤ 9 := by rw [padStr_size]; exact hk
        have hy := p10_pos (9 - k) (by omega)
        have v2 : (v : Int) < p10 k := by omega
        unfold PadAns at PD
        generalize p10 (9 - k) = y at *
        generalize p10 k = z at *
        generalize padStr k v = d at *
        clear hv v1
        obtain ⟨hb1, hb2⟩ := hb
        obtain ⟨hy1, hy2⟩ := hy
        go_wp2_with fail
        refine (PK.out _).mono ?_
        rintro e wC ⟨rfl, rfl⟩
        go_wp2_with fail
        refine (isdig_lo _ _ hlo).mono ?_
        rintro e wX ⟨rfl, rfl⟩
        go_wp2_with fail
        refine (P9.out _).mono ?_
        rintro e wD ⟨rfl, rfl⟩
        go_wp2_with fail
        refine (PD.out _).mono ?_
        rintro e wE ⟨rfl, hgE⟩
        have HE : Hid (Grown _ wE) := hgE
        clear hgE
        go_wp2_with fail
        refine (C1.out _).mono ?_
        rintro e wF ⟨rfl, hgF⟩
        have HF : Hid (Grown wE wF) := hgF
        clear hgF
        go_wp2_with fail
        refine (C2.out _).mono ?_
        rintro e wG ⟨rfl, hgG⟩
        have HG : Hid (Grown wF wG) := hgG
        clear hgG
        go_wp2_with fail
        refine (C3.out _).mono ?_
        rintro e wH ⟨rfl, hgH⟩
        have HH : Hid (Grown wG wH) := hgH
        clear hgH
        go_wp2_with fail
        refine (C4.out _).mono ?_
        rintro e wI ⟨rfl, hgI⟩
        have HI : Hid (Grown wH wI) := hgI
        clear hgI
        go_wp2_with fail
        go_ret
        exact ⟨rfl, grown_trans (Grown.refl _) (grown_trans HE.out (grown_trans HF.out (grown_trans HG.out (grown_trans HH.out HI.out))))⟩

      · have hz0 : ((a2.size : Int) == 0) = false := size_ne a2 hz
        have hdot1 : ((a2[0].toNat : Int) != 46) = true := by simp [hdot]
        have N5 : Hid (∀ (j : Int) w, Calls Try.prog 15 #[.bool true, .int .i64 j, .string a2] w fun e w' => FracAns 0 a2 true w e w') := fun j w => n5 j a2 (head_other a2 hz hdot) w
        clear hdot
        by_cases v0 : a0 < 0
        · skip
          go_wp2_with fail
          refine (N5.out _ _).mono ?_
          rintro e wA ⟨rfl, hgA⟩
          have HA : Hid (Grown w' wA) := hgA
          clear hgA
          go_wp2_with fail
          refine (N5.out _ _).mono ?_
          rintro e wB ⟨rfl, hgB⟩
          have HB : Hid (Grown wA wB) := hgB
          clear hgB
          go_wp2_with fail
          go_ret
          exact ⟨rfl, (grown_trans HA.out HB.out)⟩
        obtain ⟨v, rfl⟩ : ∃ v : Nat, a0 = v := ⟨a0.toNat, by omega⟩
        have PK : Hid (∀ w, Calls Try.prog 16 #[.int .i64 (k : Int)] w fun e w' => e = .returned (.int .i64 (p10 k)) ∧ w' = w) := fun w => pow10_any k w hk
        by_cases v1 : p10 k ≤ v
        · generalize p10 k = z at *
          go_wp2_with fail
          refine (N5.out _ _).mono ?_
          rintro e wA ⟨rfl, hgA⟩
          have HA : Hid (Grown w' wA) := hgA
          clear hgA
          go_wp2_with fail
          refine (N5.out _ _).mono ?_
          rintro e wB ⟨rfl, hgB⟩
          have HB : Hid (Grown wA wB) := hgB
          clear hgB
          go_wp2_with fail
          refine (PK.out _).mono ?_
          rintro e wC ⟨rfl, rfl⟩
          go_wp2_with fail
          go_ret
          exact ⟨rfl, (grown_trans HA.out HB.out)⟩
        by_cases hdg : (48 : Int) ≤ a2[0].toNat ∧ (a2[0].toNat : Int) ≤ 57
        · obtain ⟨h1, h2⟩ := hdg
          have v2 : (v : Int) < p10 k := by omega
          generalize p10 k = z at *
          clear v1
          go_wp2_with fail
          refine (N5.out _ _).mono ?_
          rintro e wA ⟨rfl, hgA⟩
          have HA : Hid (Grown w' wA) := hgA
          clear hgA
          go_wp2_with fail
          refine (N5.out _ _).mono ?_
          rintro e wB ⟨rfl, hgB⟩
          have HB : Hid (Grown wA wB) := hgB
          clear hgB
          go_wp2_with fail
          refine (PK.out _).mono ?_
          rintro e wC ⟨rfl, rfl⟩
          go_wp2_with fail
          refine (isdig_yes _ _ h1 h2).mono ?_
          rintro e wX ⟨rfl, rfl⟩
          go_wp2_with fail
          go_ret
          exact ⟨rfl, grown_trans HA.out HB.out⟩
        · have ND : Hid (∀ c, a2.data.toList.head? = some c → Dig.isDig c = false) := head_not a2 hz hdg
          have ISD : Hid (∀ w, Calls Try.prog 12 #[.int .u8 (a2[0].toNat : Int)] w fun e w' => e = .returned (.bool false) ∧ w' = w) := fun w => by
            by_cases h1 : (48 : Int) ≤ a2[0].toNat
            · exact isdig_hi _ w (by omega)
            · exact isdig_lo _ w (by omega)
          clear hdg
          have hv : v < 10 ^ k := by unfold p10 at v1; omega
          have hb := prod_bd v k hk (by omega)
          have C1 : Hid (∀ w, Calls Try.prog 15 #[.bool true, .int .i64 0, .string (⟨#[46]⟩ ++ padStr k v ++ a2)] w fun e w' => FracAns ((v : Int) * p10 (9 - k)) a2 true w e w') := c1 k v a2 hk hv g0' ND.out
          have C2 : Hid (∀ w, Calls Try.prog 15 #[.bool false, .int .i64 k, .string (padStr k v ++ a2)] w fun e w' => FracAns ((v : Int) * p10 (9 - k)) a2 true w e w') := c2 k v a2 hk1 hk hv g0' ND.out
          have C3 : Hid (∀ w, Calls Try.prog 15 #[.bool true, .int .i64 k, .string (⟨#[46]⟩ ++ padStr k v ++ a2)] w fun e w' => FracAns ((v : Int) * p10 (9 - k)) a2 true w e w') := c3 k v a2 hk1 hk hv g0' ND.out
          have C4 : Hid (∀ w, Calls Try.prog 15 #[.bool false, .int .i64 0, .string (padStr k v ++ a2)] w fun e w' => FracAns ((v : Int) * p10 (9 - k)) a2 true w e w') := c4 k v a2 hk hv g0' ND.out
          have P9 : Hid (∀ w, Calls Try.prog 16 #[.int .i64 (9 - (k : Int))] w fun e w' => e = .returned (.int .i64 (p10 (9 - k))) ∧ w' = w) := fun w => pow10_int (9 - (k : Int)) (9 - k) w (by omega) (by omega)
          have PD : Hid (∀ w, Calls Try.prog 17 #[.int .i64 v, .int .i64 k] w fun e w' => PadAns k v w e w') := fun w => pad_any v k w (by have := Dig.pow_le9 hk; omega) hk
          have hd : (padStr k v).size ≤ 9 := by rw [padStr_size]; exact hk
          have hy := p10_pos (9 - k) (by omega)
          have v2 : (v : Int) < p10 k := by omega
          unfold PadAns at PD
          generalize p10 (9 - k) = y at *
          generalize p10 k = z at *
          generalize padStr k v = d at *
          clear hv v1
          obtain ⟨hb1, hb2⟩ := hb
          obtain ⟨hy1, hy2⟩ := hy
          go_wp2_with fail
          refine (N5.out _ _).mono ?_
          rintro e wA ⟨rfl, hgA⟩
          have HA : Hid (Grown w' wA) := hgA
          clear hgA
          go_wp2_with fail
          refine (N5.out _ _).mono ?_
          rintro e wB ⟨rfl, hgB⟩
          have HB : Hid (Grown wA wB) := hgB
          clear hgB
          go_wp2_with fail
          refine (PK.out _).mono ?_
          rintro e wC ⟨rfl, rfl⟩
          go_wp2_with fail
          refine (ISD.out _).mono ?_
          rintro e wX ⟨rfl, rfl⟩
          go_wp2_with fail
          refine (P9.out _).mono ?_
          rintro e wD ⟨rfl, rfl⟩
          go_wp2_with fail
          refine (PD.out _).mono ?_
          rintro e wE ⟨rfl, hgE⟩
          have HE : Hid (Grown _ wE) := hgE
          clear hgE
          go_wp2_with fail
          refine (C1.out _).mono ?_
          rintro e wF ⟨rfl, hgF⟩
          have HF : Hid (Grown wE wF) := hgF
          clear hgF
          go_wp2_with fail
          refine (C2.out _).mono ?_
          rintro e wG ⟨rfl, hgG⟩
          have HG : Hid (Grown wF wG) := hgG
          clear hgG
          go_wp2_with fail
          refine (C3.out _).mono ?_
          rintro e wH ⟨rfl, hgH⟩
          have HH : Hid (Grown wG wH) := hgH
          clear hgH
          go_wp2_with fail
          refine (C4.out _).mono ?_
          rintro e wI ⟨rfl, hgI⟩
          have HI : Hid (Grown wH wI) := hgI
          clear hgI
          go_wp2_with fail
          go_ret
          exact ⟨rfl, grown_trans (grown_trans HA.out HB.out) (grown_trans HE.out (grown_trans HF.out (grown_trans HG.out (grown_trans HH.out HI.out))))⟩
    · have hz1 : ((a2.size : Int) == 0) = true := beq_iff_eq.2 (by omega)
      have hz2 : (a2.size : Int) < 1 := by omega
      have ND : Hid (∀ c, a2.data.toList.head? = some c → Dig.isDig c = false) := fun c hc => by rw [head_none a2 hz] at hc; exact absurd hc (by simp)
      have N5 : Hid (∀ (j : Int) w, Calls Try.prog 15 #[.bool true, .int .i64 j, .string a2] w fun e w' => FracAns 0 a2 true w e w') := fun j w => n5 j a2 (by rw [head_none a2 hz]; simp) w
      clear hz
      by_cases v0 : a0 < 0
      · skip
        go_wp2_with fail
        refine (N5.out _ _).mono ?_
        rintro e wA ⟨rfl, hgA⟩
        have HA : Hid (Grown w' wA) := hgA
        clear hgA
        go_wp2_with fail
        refine (N5.out _ _).mono ?_
        rintro e wB ⟨rfl, hgB⟩
        have HB : Hid (Grown wA wB) := hgB
        clear hgB
        go_wp2_with fail
        go_ret
        exact ⟨rfl, (grown_trans HA.out HB.out)⟩
      obtain ⟨v, rfl⟩ : ∃ v : Nat, a0 = v := ⟨a0.toNat, by omega⟩
      have PK : Hid (∀ w, Calls Try.prog 16 #[.int .i64 (k : Int)] w fun e w' => e = .returned (.int .i64 (p10 k)) ∧ w' = w) := fun w => pow10_any k w hk
      by_cases v1 : p10 k ≤ v
      · generalize p10 k = z at *
        go_wp2_with fail
        refine (N5.out _ _).mono ?_
        rintro e wA ⟨rfl, hgA⟩
        have HA : Hid (Grown w' wA) := hgA
        clear hgA
        go_wp2_with fail
        refine (N5.out _ _).mono ?_
        rintro e wB ⟨rfl, hgB⟩
        have HB : Hid (Grown wA wB) := hgB
        clear hgB
        go_wp2_with fail
        refine (PK.out _).mono ?_
        rintro e wC ⟨rfl, rfl⟩
        go_wp2_with fail
        go_ret
        exact ⟨rfl, (grown_trans HA.out HB.out)⟩
      have hv : v < 10 ^ k := by unfold p10 at v1; omega
      have hb := prod_bd v k hk (by omega)
      have C1 : Hid (∀ w, Calls Try.prog 15 #[.bool true, .int .i64 0, .string (⟨#[46]⟩ ++ padStr k v ++ a2)] w fun e w' => FracAns ((v : Int) * p10 (9 - k)) a2 true w e w') := c1 k v a2 hk hv g0' ND.out
      have C2 : Hid (∀ w, Calls Try.prog 15 #[.bool false, .int .i64 k, .string (padStr k v ++ a2)] w fun e w' => FracAns ((v : Int) * p10 (9 - k)) a2 true w e w') := c2 k v a2 hk1 hk hv g0' ND.out
      have C3 : Hid (∀ w, Calls Try.prog 15 #[.bool true, .int .i64 k, .string (⟨#[46]⟩ ++ padStr k v ++ a2)] w fun e w' => FracAns ((v : Int) * p10 (9 - k)) a2 true w e w') := c3 k v a2 hk1 hk hv g0' ND.out
      have C4 : Hid (∀ w, Calls Try.prog 15 #[.bool false, .int .i64 0, .string (padStr k v ++ a2)] w fun e w' => FracAns ((v : Int) * p10 (9 - k)) a2 true w e w') := c4 k v a2 hk hv g0' ND.out
      have P9 : Hid (∀ w, Calls Try.prog 16 #[.int .i64 (9 - (k : Int))] w fun e w' => e = .returned (.int .i64 (p10 (9 - k))) ∧ w' = w) := fun w => pow10_int (9 - (k : Int)) (9 - k) w (by omega) (by omega)
      have PD : Hid (∀ w, Calls Try.prog 17 #[.int .i64 v, .int .i64 k] w fun e w' => PadAns k v w e w') := fun w => pad_any v k w (by have := Dig.pow_le9 hk; omega) hk
      have hd : (padStr k v).size ≤ 9 := by rw [padStr_size]; exact hk
      have hy := p10_pos (9 - k) (by omega)
      have v2 : (v : Int) < p10 k := by omega
      unfold PadAns at PD
      generalize p10 (9 - k) = y at *
      generalize p10 k = z at *
      generalize padStr k v = d at *
      clear hv v1
      obtain ⟨hb1, hb2⟩ := hb
      obtain ⟨hy1, hy2⟩ := hy
      go_wp2_with fail
      refine (N5.out _ _).mono ?_
      rintro e wA ⟨rfl, hgA⟩
      have HA : Hid (Grown w' wA) := hgA
      clear hgA
      go_wp2_with fail
      refine (N5.out _ _).mono ?_
      rintro e wB ⟨rfl, hgB⟩
      have HB : Hid (Grown wA wB) := hgB
      clear hgB
      go_wp2_with fail
      refine (PK.out _).mono ?_
      rintro e wC ⟨rfl, rfl⟩
      go_wp2_with fail
      refine (P9.out _).mono ?_
      rintro e wD ⟨rfl, rfl⟩
      go_wp2_with fail
      refine (PD.out _).mono ?_
      rintro e wE ⟨rfl, hgE⟩
      have HE : Hid (Grown _ wE) := hgE
      clear hgE
      go_wp2_with fail
      refine (C1.out _).mono ?_
      rintro e wF ⟨rfl, hgF⟩
      have HF : Hid (Grown wE wF) := hgF
      clear hgF
      go_wp2_with fail
      refine (C2.out _).mono ?_
      rintro e wG ⟨rfl, hgG⟩
      have HG : Hid (Grown wF wG) := hgG
      clear hgG
      go_wp2_with fail
      refine (C3.out _).mono ?_
      rintro e wH ⟨rfl, hgH⟩
      have HH : Hid (Grown wG wH) := hgH
      clear hgH
      go_wp2_with fail
      refine (C4.out _).mono ?_
      rintro e wI ⟨rfl, hgI⟩
      have HI : Hid (Grown wH wI) := hgI
      clear hgI
      go_wp2_with fail
      go_ret
      exact ⟨rfl, grown_trans (grown_trans HA.out HB.out) (grown_trans HE.out (grown_trans HF.out (grown_trans HG.out (grown_trans HH.out HI.out))))⟩


/-! ### THE ROW's STEP: WRITTEN OUT: LEAVE IT -/
set_option maxRecDepth 100000 in
theorem lifted (os : Os) (started : os.Started) (H : Type) (enc : TypeId × Value → H) :
    ReturnsInHanded {} Try.checked os 6 .any (Rows.fnFractionReadsWrittenDigitsSpec.pre6 enc Try.prog Try.f6 Rows.fnFractionReadsWrittenDigitsRow.domain false) (Rows.fnFractionReadsWrittenDigitsSpec.post enc Try.prog Try.f6 false true false false) := by
  refine returnsInHanded_of_change (C := Try.checked) own started (by kernel_rfl) Try.func6
    (ChangeSpec.witness6 (enc := enc) (C := Try.checked) false ⟨#[], #[.int .i64 0, .int .i64 0, .string ByteArray.empty], []⟩ 8 (by kernel_rfl) (by kernel_rfl) (by kernel_rfl) (by kernel_rfl)) ?_
  intro W base args ds gs before hval0 hW hcnd _
  have hval : ∀ (j : Nat) t v, Try.f6.params[j]? = some t → args[j]? = some v → Value.okWide Try.prog W .any base t v := hval0
  have hW' := hW
  obtain ⟨p, q, hA0, hV, rfl, hfz, hnd⟩ := hW
  have hA : DataW.TrodAll enc Try.prog W 0 (fun _ => true) true Try.f6.params.toList args.toList ds p := hA0
  rw [Try.params6] at hA hval
  obtain ⟨v0, vs0, d0, ds0, p0, q0, hargs, rfl, rfl, h0, r0⟩ := trodAll_cons hA
  obtain ⟨v1, vs1, d1, ds1, p1, q1, rfl, rfl, rfl, h1, r1⟩ := trodAll_cons r0
  obtain ⟨v2, vs2, d2, ds2, p2, q2, rfl, rfl, rfl, h2, r2⟩ := trodAll_cons r1
  obtain ⟨rfl, rfl, rfl⟩ := trodAll_nil r2
  obtain rfl : args = #[v0, v1, v2] := by cases args; simp_all
  obtain ⟨rfl, rfl⟩ := trodVars_none hV
  obtain ⟨a0, rfl, rfl, rfl, w0⟩ := open_int Try.underlying3 (hval 0 3 v0 rfl rfl) h0
  obtain ⟨a1, rfl, rfl, rfl, w1⟩ := open_int Try.underlying3 (hval 1 3 v1 rfl rfl) h1
  obtain ⟨a2, rfl, rfl, rfl, w2⟩ := open_string Try.underlying9 (hval 2 9 v2 rfl rfl) h2
  clear hA0 hval0
  simp only [List.append_nil] at hW'
  refine (walk a0 a1 a2 w0 w1 w2 W).mono fun e W' ⟨he, hg⟩ => ?_
  subst he
  exact ⟨_, rfl, post_of_same (pa := []) (pv := []) hW' (fun _ _ _ => (trodAll_cons_mk (shut_bool Try.underlying4 _) trodAll_mk0)) (fun sp _ => (trodAll_cons_mk (shut_int Try.underlying3 w0) (trodAll_cons_mk (shut_int Try.underlying3 w1) (trodAll_cons_mk (shut_string Try.underlying9 w2) trodAll_mk0)))) (fun _ _ => rfl) rfl
    (hg.frame _) hg.2.1 (ok_one (by kernel_rfl) rfl (okWide_bool_mk Try.underlying4 _))⟩

theorem over : Rows.fnFractionReadsWrittenDigitsRow.holds Try.pinned (OpenSpec.ofChange Rows.fnFractionReadsWrittenDigitsSpec) :=
  OpenClaim.holds_of_wide 6 Try.f6 rfl rfl rfl rfl rfl rfl rfl ⟨rfl, rfl, rfl, rfl, rfl⟩ rfl rfl rfl rfl rfl (by kernel_rfl) Try.func6 (by kernel_rfl)
    (of_decide_eq_true (by kernel_rfl)) (by unfold Func.isWrapper; first | (rw [if_pos (by decide +kernel)]; kernel_rfl) | (rw [if_neg (by decide +kernel)]; exact ⟨rfl, rfl⟩))
    (fun os started H enc _ => lifted os started H enc)

/-- ████ THE STATEMENT ████ -/
theorem proved : Rows.FnFractionReadsWrittenDigitsSaid :=
  over
#print axioms proved
end Go.Proofs.Qxb6002680a.fnFractionReadsWrittenDigits
