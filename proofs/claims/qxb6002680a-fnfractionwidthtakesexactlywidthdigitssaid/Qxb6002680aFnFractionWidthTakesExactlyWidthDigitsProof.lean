/-
  DERIVED. A proof of 'Rows.FnFractionWidthTakesExactlyWidthDigitsSaid': the shell as the tool wrote it, its hole filled.
-/
import Derived.Test.Qxb6002680aRows
import Derived.WalkKit
import Derived.ProofKit
import Derived.OpenShut
import Derived.ShutString
import Derived.WalkSpells
import Derived.Test.Qxb6002680aFrac
namespace Go.Proofs.Qxb6002680a.fnFractionWidthTakesExactlyWidthDigits
open Go.ChangeShapes Go.WideShapes Go.ChangeAt Go.RowKit
open Go.ChangeMaps (open_string shut_string)
set_option linter.unusedVariables false      -- a walk need not use every 'w<i>' (that an integer argument fits its kind)

theorem own : ownKnob Try.prog.godebug = none := by kernel_rfl

/-! ### The program's own bound on lengths: it answers a bool and only computes. -/
theorem bound (v : Int) (s : ByteArray) (w : World) (hs : s.size ≤ maxLen) :
    Calls Try.prog 18 #[.int .i64 v, .string s] w fun e w' => ∃ b : Bool, e = .returned (.bool b) ∧ w' = w := by
  unfold maxLen at hs
  go_enter Try.func18, Try.ntmps18
  go_wp2
  all_goals
    go_ret
    exact ⟨_, rfl, rfl⟩

def runOf (s : ByteArray) : Nat := Dig.run s.data.toList
theorem runOf_le (s : ByteArray) : runOf s ≤ s.size := by
  have := Dig.run_le s.data.toList
  simpa [runOf] using this
theorem runOf_here (s : ByteArray) (k : Nat) (h : k < s.size) (hk : k ≤ runOf s) : (k < runOf s) ↔ ((48 : Int) ≤ s[k].toNat ∧ (s[k].toNat : Int) ≤ 57) := by
  have := dig_here s (runOf s) k h (by unfold took; unfold runOf at *; omega)
  unfold runOf
  exact this

set_option maxHeartbeats 1000000 in
/-- lawLeadingDigits -/
theorem leading (s : ByteArray) (w : World) (hs : s.size ≤ maxLen) :
    Calls Try.prog 19 #[.string s] w fun e w' => e = .returned (.int .i64 (runOf s)) ∧ w' = w := by
  unfold maxLen at hs
  have hle := runOf_le s
  go_enter Try.func19, Try.ntmps19
  go_wp2
  go_loop [3] (fun i => ∃ k : Nat, k ≤ runOf s ∧ i = .int .i64 k) (fun i => s.size - (intOf i).toNat)
  case atStart => exact ⟨0, Nat.zero_le _, rfl⟩
  case round =>
    obtain ⟨k, hk, rfl⟩ := hrel
    by_cases hlt : k < s.size
    · by_cases hc : k < runOf s
      · obtain ⟨h1, h2⟩ := (runOf_here s k hlt hk).1 hc
        go_wp2
        go_round
        case rel => exact ⟨k + 1, by omega, by go_num⟩
        case measure => simp [intOf]; omega
      · have hnd : ¬ ((48 : Int) ≤ s[k].toNat ∧ (s[k].toNat : Int) ≤ 57) := fun h => hc ((runOf_here s k hlt hk).2 h)
        have hk' : Hid (k = runOf s) := (by omega : k = runOf s)
        clear hc
        by_cases h1 : (48 : Int) ≤ s[k].toNat
        · have h2 : 57 < (s[k].toNat : Int) := by omega
          clear hnd
          go_wp2
          go_ret
          exact ⟨by rw [← hk'.out]; rfl, rfl⟩
        · have h2 : (s[k].toNat : Int) < 48 := by omega
          clear hnd h1
          go_wp2
          go_ret
          exact ⟨by rw [← hk'.out]; rfl, rfl⟩
    · have hk' : Hid (k = runOf s) := (by omega : k = runOf s)
      have hge : s.size ≤ k := by omega
      clear hlt
      go_wp2
      go_ret
      exact ⟨by rw [← hk'.out]; rfl, rfl⟩

theorem p10_pos (k : Nat) (h : k ≤ 9) : 1 ≤ p10 k ∧ p10 k ≤ 1000000000 := by
  have h1 := p10_bd k h
  have h2 : 0 < 10 ^ k := Nat.pow_pos (by omega)
  refine ⟨?_, h1.2⟩
  unfold p10
  generalize 10 ^ k = z at *
  omega
theorem pow10_int (i : Int) (k : Nat) (w : World) (h : i = (k : Int)) (hk : k ≤ 9) :
    Calls Try.prog 16 #[.int .i64 i] w fun e w' => e = .returned (.int .i64 (p10 k)) ∧ w' = w := by
  subst h; exact pow10_any k w hk


/-! ### STEP 1: THE WALK: the Go text returns true. 'Grown w w'': the world has at most new blocks (Derived/RowKit3.lean). Part the cases AHEAD of 'go_enter' where a test parts the walk; take each callee by a contract of your own. -/
theorem walk (a0 : Int) (a1 : ByteArray) (w0 : (Lit.int .i64 a0).wf = true) (w1 : a1.size ≤ maxLen) (w : World) :
    Calls Try.prog 7 #[.int .i64 a0, .string a1] w fun e w' => e = .returned (.bool true) ∧ Grown w w' := by
  have hs := w1
  unfold maxLen at w1
  go_enter Try.func7, Try.ntmps7
  go_wp2_with fail
  refine (bound a0 a1 _ (by unfold maxLen; exact w1)).mono ?_
  rintro e w' ⟨b, rfl, rfl⟩
  cases b
  · go_wp2
    go_ret
    exact ⟨rfl, Grown.refl _⟩
  · by_cases g0 : (65536 : Int) < a1.size
    · go_wp2
      go_ret
      exact ⟨rfl, Grown.refl _⟩
    by_cases g1 : a0 < 1
    · go_wp2
      go_ret
      exact ⟨rfl, Grown.refl _⟩
    by_cases g2 : 9 < a0
    · go_wp2
      go_ret
      exact ⟨rfl, Grown.refl _⟩
    obtain ⟨wd, rfl⟩ : ∃ wd : Nat, a0 = wd := ⟨a0.toNat, by omega⟩
    have hpos : (0 : Int) < wd := by omega
    have hwd : wd ≤ 9 := by omega
    have zz := zz_of false wd a1 _ _ _ (fun w => frac_plain_pos a1 wd w hs hwd hpos)
    have Z : Hid (∀ w, Calls Try.prog 15 #[.bool false, .int .i64 wd, .string a1] w fun e w' => FracAns (scaled a1 (took a1 wd) (9 - took a1 wd)) (a1.extract (took a1 wd) a1.size) (decide (wd ≤ took a1 wd)) w e w') := zz
    clear zz
    go_wp2_with fail
    refine (leading a1 _ hs).mono ?_
    rintro e w2 ⟨rfl, rfl⟩
    have hrun := runOf_le a1
    have htk : took a1 wd = min (runOf a1) wd := rfl
    by_cases hr : runOf a1 < wd
    · have hok : decide (wd ≤ took a1 wd) = false := decide_eq_false (by omega)
      clear htk
      go_wp2_with fail
      refine (Z.out _).mono ?_
      rintro e w3 ⟨rfl, hg⟩
      have HG : Hid (Grown w2 w3) := hg
      clear hg
      go_wp2
      go_ret
      exact ⟨rfl, HG.out⟩
    · have htw : took a1 wd = wd := by omega
      rw [htw] at Z
      clear htk htw
      have hb := scaled_bd a1 wd wd (9 - wd) (by unfold took; unfold runOf at *; omega) (by omega)
      have hm : (scaled a1 wd (9 - wd) % p10 (9 - wd) == 0) = true := by simp [scaled]
      have hok : decide (wd ≤ wd) = true := decide_eq_true (Nat.le_refl _)
      have P : Hid (∀ w, Calls Try.prog 16 #[.int .i64 (9 - (wd : Int))] w fun e w' => e = .returned (.int .i64 (p10 (9 - wd))) ∧ w' = w) := fun w => pow10_int (9 - (wd : Int)) (9 - wd) w (by omega) (by omega)
      have hy := p10_pos (9 - wd) (by omega)
      generalize scaled a1 wd (9 - wd) = x at *
      generalize p10 (9 - wd) = y at *
      obtain ⟨hy1, hy2⟩ := hy
      obtain ⟨hb1, hb2⟩ := hb
      have hle : wd ≤ a1.size := by omega
      go_wp2_with fail
      refine (Z.out _).mono ?_
      rintro e w3 ⟨rfl, hg⟩
      have HG : Hid (Grown w2 w3) := hg
      clear hg
      go_wp2_with fail
      refine (P.out _).mono ?_
      rintro e w4 ⟨rfl, rfl⟩
      go_wp2
      go_ret
      exact ⟨rfl, HG.out⟩

/-! ### THE ROW's STEP: WRITTEN OUT: LEAVE IT -/
set_option maxRecDepth 100000 in
theorem lifted (os : Os) (started : os.Started) (H : Type) (enc : TypeId × Value → H) :
    ReturnsInHanded {} Try.checked os 7 .any (Rows.fnFractionWidthTakesExactlyWidthDigitsSpec.pre6 enc Try.prog Try.f7 Rows.fnFractionWidthTakesExactlyWidthDigitsRow.domain false) (Rows.fnFractionWidthTakesExactlyWidthDigitsSpec.post enc Try.prog Try.f7 false true false false) := by
  refine returnsInHanded_of_change (C := Try.checked) own started (by kernel_rfl) Try.func7
    (ChangeSpec.witness6 (enc := enc) (C := Try.checked) false ⟨#[], #[.int .i64 0, .string ByteArray.empty], []⟩ 8 (by kernel_rfl) (by kernel_rfl) (by kernel_rfl) (by kernel_rfl)) ?_
  intro W base args ds gs before hval0 hW hcnd _
  have hval : ∀ (j : Nat) t v, Try.f7.params[j]? = some t → args[j]? = some v → Value.okWide Try.prog W .any base t v := hval0
  have hW' := hW
  obtain ⟨p, q, hA0, hV, rfl, hfz, hnd⟩ := hW
  have hA : DataW.TrodAll enc Try.prog W 0 (fun _ => true) true Try.f7.params.toList args.toList ds p := hA0
  rw [Try.params7] at hA hval
  obtain ⟨v0, vs0, d0, ds0, p0, q0, hargs, rfl, rfl, h0, r0⟩ := trodAll_cons hA
  obtain ⟨v1, vs1, d1, ds1, p1, q1, rfl, rfl, rfl, h1, r1⟩ := trodAll_cons r0
  obtain ⟨rfl, rfl, rfl⟩ := trodAll_nil r1
  obtain rfl : args = #[v0, v1] := by cases args; simp_all
  obtain ⟨rfl, rfl⟩ := trodVars_none hV
  obtain ⟨a0, rfl, rfl, rfl, w0⟩ := open_int Try.underlying3 (hval 0 3 v0 rfl rfl) h0
  obtain ⟨a1, rfl, rfl, rfl, w1⟩ := open_string Try.underlying9 (hval 1 9 v1 rfl rfl) h1
  clear hA0 hval0
  simp only [List.append_nil] at hW'
  refine (walk a0 a1 w0 w1 W).mono fun e W' ⟨he, hg⟩ => ?_
  subst he
  exact ⟨_, rfl, post_of_same (pa := []) (pv := []) hW' (fun _ _ _ => (trodAll_cons_mk (shut_bool Try.underlying4 _) trodAll_mk0)) (fun sp _ => (trodAll_cons_mk (shut_int Try.underlying3 w0) (trodAll_cons_mk (shut_string Try.underlying9 w1) trodAll_mk0))) (fun _ _ => rfl) rfl
    (hg.frame _) hg.2.1 (ok_one (by kernel_rfl) rfl (okWide_bool_mk Try.underlying4 _))⟩

theorem over : Rows.fnFractionWidthTakesExactlyWidthDigitsRow.holds Try.pinned (OpenSpec.ofChange Rows.fnFractionWidthTakesExactlyWidthDigitsSpec) :=
  OpenClaim.holds_of_wide 7 Try.f7 rfl rfl rfl rfl rfl rfl rfl ⟨rfl, rfl, rfl, rfl, rfl⟩ rfl rfl rfl rfl rfl (by kernel_rfl) Try.func7 (by kernel_rfl)
    (of_decide_eq_true (by kernel_rfl)) (by unfold Func.isWrapper; first | (rw [if_pos (by decide +kernel)]; kernel_rfl) | (rw [if_neg (by decide +kernel)]; exact ⟨rfl, rfl⟩))
    (fun os started H enc _ => lifted os started H enc)

/-- ████ THE STATEMENT ████ -/
theorem proved : Rows.FnFractionWidthTakesExactlyWidthDigitsSaid :=
  over
#print axioms proved
end Go.Proofs.Qxb6002680a.fnFractionWidthTakesExactlyWidthDigits
