/-
  DERIVED. A proof of 'Rows.FnMatchSetFirstItemSaid': the shell as the tool wrote it, its hole filled.
-/
import Derived.Test.Qxb6602654aRows
import Derived.WalkKit
import Derived.ProofKit
import Derived.OpenShut
import Derived.ShutString
import Derived.WalkSpells
import Derived.Test.Qxb6602654aSet
import Derived.Test.Qxb6602654aSetOf
namespace Go.Proofs.Qxb6602654a.fnMatchSetFirstItem
open Go.ChangeShapes Go.WideShapes Go.ChangeAt Go.RowKit
open Go.ChangeMaps (open_string shut_string)
set_option linter.unusedVariables false      -- a walk need not use every 'w<i>' (that an integer argument fits its kind)

theorem own : ownKnob Try.prog.godebug = none := by kernel_rfl

/-! ### The program's own bound on lengths: it answers a bool and only computes. -/
theorem bound (c cl lo hi x : Int) (s : ByteArray) (w : World) (hs : s.size ≤ maxLen) :
    Calls Try.prog 12 #[.int .u8 c, .int .u8 cl, .int .u8 lo, .int .u8 hi, .int .u8 x, .string s] w fun e w' => ∃ b : Bool, e = .returned (.bool b) ∧ w' = w := by
  unfold maxLen at hs
  go_enter Try.func12, Try.ntmps12
  go_wp2
  all_goals
    go_ret
    exact ⟨_, rfl, rfl⟩
theorem grown_trans {a b c : World} (h : Grown a b) (k : Grown b c) : Grown a c :=
  ⟨World.keptBut_trans h.1 k.1, fun x => (k.2.1 x).trans (h.2.1 x), Nat.le_trans h.2.2 k.2.2⟩

/-! ### The plain law -/
theorem inner_list (s : ByteArray) : (inner s).data.toList = (s.data.toList.drop 1).take (s.size - 1 - 1) := by
  unfold inner; rw [Lib.extract_data]
theorem wrapS_size (p : List UInt8) (r : ByteArray) : (wrapS p r).size = p.length + r.size + 2 := by
  have e : (wrapS p r).size = (wrapS p r).data.toList.length := rfl
  have e2 : r.data.toList.length = r.size := rfl
  rw [e]
  unfold wrapS
  simp only [List.length_cons, List.length_append, List.length_nil, e2]
theorem wrapS_inner (p : List UInt8) (r : ByteArray) : (inner (wrapS p r)).data.toList = p ++ r.data.toList := by
  rw [inner_list, wrapS_size]
  have e2 : r.data.toList.length = r.size := rfl
  have e : (wrapS p r).data.toList = 91 :: (p ++ r.data.toList ++ [93]) := by unfold wrapS; simp
  rw [e, List.drop_succ_cons, List.drop_zero]
  rw [List.take_append_of_le_length (by rw [List.length_append]; omega), List.take_of_length_le (by rw [List.length_append]; omega)]
theorem body_not (m : Int → Bool) (c : Int) (l : List UInt8) (h : ∀ x, l.head? = some x → ¬ x.toNat = 94) : Scan.body m c l = Scan.scan m c l := by
  cases l with
  | nil => rfl
  | cons x t => show (if x.toNat = 94 then _ else _) = _; rw [if_neg (h x rfl)]
theorem head_get (B : ByteArray) (h : 0 < B.size) : B.data.toList.head? = some B[0] := by
  have := drop_cons B 0 h
  rw [List.drop_zero] at this
  rw [this]; rfl
theorem not_hat (r : ByteArray) (h : ¬ ∃ h : 0 < r.size, (r[0].toNat : Int) = 94) : ∀ x, r.data.toList.head? = some x → ¬ x.toNat = 94 := by
  intro x hx e
  by_cases hz : 0 < r.size
  · rw [head_get r hz] at hx
    have e2 : r[0] = x := by simpa using hx
    exact h ⟨hz, by rw [e2]; omega⟩
  · have : r.data.toList = [] := List.length_eq_zero_iff.1 (by have e : r.data.toList.length = r.size := rfl; omega)
    rw [this] at hx
    exact absurd hx (by simp)
theorem not_dash (r : ByteArray) (hz : 0 < r.size) (h : ¬ (r[0].toNat : Int) = 45) : ∀ x, r.data.toList.head? = some x → ¬ x.toNat = 45 := by
  intro x hx e
  rw [head_get r hz] at hx
  have e2 : r[0] = x := by simpa using hx
  rw [e2] at h
  omega
theorem zs (c : Int) (p : List UInt8) (r : ByteArray) (hp : p.length ≤ 3) (hr : r.size ≤ 65536) (w : World) : Calls Try.prog 11 #[.int .u8 c, .string (wrapS p r)] w fun e w' => e = .returned (.bool (Scan.body (mcB c) c (p ++ r.data.toList))) ∧ w' = w := by
  have h := zzset_any c (wrapS p r) w (by rw [wrapS_size]; omega) (by rw [wrapS_size]; omega)
  rw [wrapS_inner] at h
  exact h
theorem z_none (c : Int) (w : World) : Calls Try.prog 11 #[.int .u8 c, .string ⟨#[91, 93]⟩] w fun e w' => e = .returned (.bool false) ∧ w' = w :=
  zzset_any c ⟨#[91, 93]⟩ w (by decide) (by decide)
theorem z_all (c : Int) (w : World) : Calls Try.prog 11 #[.int .u8 c, .string ⟨#[91, 94, 93]⟩] w fun e w' => e = .returned (.bool true) ∧ w' = w :=
  zzset_any c ⟨#[91, 94, 93]⟩ w (by decide) (by decide)
section
variable (c : Int) (r : ByteArray)
theorem b0 (hn : ∀ x, r.data.toList.head? = some x → ¬ x.toNat = 94) : Scan.body (mcB c) c ([] ++ r.data.toList) = Scan.scan (mcB c) c r.data.toList := body_not _ _ _ hn
theorem b2 (cl : Int) (h0 : 0 ≤ cl) (h1 : cl ≤ 255) : Scan.body (mcB c) c ([37, u8 cl] ++ r.data.toList) = (mcB c cl || Scan.scan (mcB c) c r.data.toList) := by
  rw [body_not _ _ _ (by intro x hx; have e : (37 : UInt8) = x := by simpa using hx
                         rw [← e]; decide)]
  have := Scan.scan_class (mcB c) c 37 (u8 cl) r.data.toList rfl
  rw [u8_val h0 h1] at this
  exact this
theorem b3 (lo hi : Int) (h0 : 0 ≤ lo) (h1 : lo ≤ 255) (k0 : 0 ≤ hi) (k1 : hi ≤ 255) (n37 : ¬ lo = 37) (n94 : ¬ lo = 94) : Scan.body (mcB c) c ([u8 lo, 45, u8 hi] ++ r.data.toList) = ((decide (lo ≤ c) && decide (c ≤ hi)) || Scan.scan (mcB c) c r.data.toList) := by
  have e := u8_val h0 h1
  rw [body_not _ _ _ (by intro x hx; have e2 : u8 lo = x := by simpa using hx
                         rw [← e2]; omega)]
  have := Scan.scan_range (mcB c) c (u8 lo) 45 (u8 hi) r.data.toList (by omega) rfl
  rw [u8_val h0 h1, u8_val k0 k1] at this
  exact this
theorem b1 (x : Int) (h0 : 0 ≤ x) (h1 : x ≤ 255) (n37 : ¬ x = 37) (n94 : ¬ x = 94) (hd : r.size ≤ 1 ∨ ∀ y, r.data.toList.head? = some y → ¬ y.toNat = 45) : Scan.body (mcB c) c ([u8 x] ++ r.data.toList) = ((c == x) || Scan.scan (mcB c) c r.data.toList) := by
  have e := u8_val h0 h1
  rw [body_not _ _ _ (by intro y hy; have e2 : u8 x = y := by simpa using hy
                         rw [← e2]; omega)]
  have := Scan.scan_one (mcB c) c (u8 x) r.data.toList (.inl (by omega)) (by
    rcases hd with hd | hd
    · exact .inl hd
    · exact .inr hd)
  rw [e] at this
  have ec : (x == c) = (c == x) := by
    by_cases hxc : x = c
    · rw [hxc]
    · rw [beq_eq_false_iff_ne.2 hxc, beq_eq_false_iff_ne.2 (fun e => hxc e.symm)]
  rw [ec] at this
  exact this
end


/-! ### STEP 1: THE WALK: the Go text returns true. 'Grown w w'': the world has at most new blocks (Derived/RowKit3.lean). Part the cases AHEAD of 'go_enter' where a test parts the walk; take each callee by a contract of your own. -/
set_option maxRecDepth 100000 in
set_option maxHeartbeats 20000000 in
theorem walk (a0 : Int) (a1 : Int) (a2 : Int) (a3 : Int) (a4 : Int) (a5 : ByteArray) (w0 : (Lit.int .u8 a0).wf = true) (w1 : (Lit.int .u8 a1).wf = true) (w2 : (Lit.int .u8 a2).wf = true) (w3 : (Lit.int .u8 a3).wf = true) (w4 : (Lit.int .u8 a4).wf = true) (w5 : a5.size ≤ maxLen) (w : World) :
    Calls Try.prog 6 #[.int .u8 a0, .int .u8 a1, .int .u8 a2, .int .u8 a3, .int .u8 a4, .string a5] w fun e w' => e = .returned (.bool true) ∧ Grown w w' := by
  unfold maxLen at w5
  obtain ⟨c0, c1⟩ := bounds_u8 w0
  obtain ⟨cl0, cl1⟩ := bounds_u8 w1
  obtain ⟨lo0, lo1⟩ := bounds_u8 w2
  obtain ⟨hi0, hi1⟩ := bounds_u8 w3
  obtain ⟨x0, x1⟩ := bounds_u8 w4
  go_enter Try.func6, Try.ntmps6
  go_wp2_with fail
  refine (bound a0 a1 a2 a3 a4 a5 _ (by unfold maxLen; exact w5)).mono ?_
  rintro e w' ⟨b, rfl, rfl⟩
  cases b
  · go_wp2
    go_ret
    exact ⟨rfl, Grown.refl _⟩
  · by_cases g0 : (65536 : Int) < a5.size
    · go_wp2
      go_ret
      exact ⟨rfl, Grown.refl _⟩
    have hs : a5.size ≤ 65536 := by omega
    by_cases hhat : ∃ h : 0 < a5.size, (a5[0].toNat : Int) = 94
    · obtain ⟨hz, h94⟩ := hhat
      have h94' : ((a5[0].toNat : Int) == 94) = true := beq_iff_eq.2 h94
      have hz' : (0 : Int) < a5.size := by omega
      clear h94
      go_wp2_with fail
      go_ret
      exact ⟨rfl, Grown.refl _⟩
    have hn : ∀ x, a5.data.toList.head? = some x → ¬ x.toNat = 94 := not_hat a5 hhat
    have ZS : Hid (∀ (p : List UInt8) w, p.length ≤ 3 → Calls Try.prog 11 #[.int .u8 a0, .string (wrapS p a5)] w fun e w' => e = .returned (.bool (Scan.body (mcB a0) a0 (p ++ a5.data.toList))) ∧ w' = w) := fun p w hp => zs a0 p a5 hp hs w
    have E0 : Hid (Scan.body (mcB a0) a0 ([] ++ a5.data.toList) = Scan.scan (mcB a0) a0 a5.data.toList) := b0 a0 a5 hn
    have E2 : Hid (Scan.body (mcB a0) a0 ([37, u8 a1] ++ a5.data.toList) = (mcB a0 a1 || Scan.scan (mcB a0) a0 a5.data.toList)) := b2 a0 a5 a1 cl0 cl1
    have E3 : Hid (¬ a2 = 37 → ¬ a2 = 94 → Scan.body (mcB a0) a0 ([u8 a2, 45, u8 a3] ++ a5.data.toList) = ((decide (a2 ≤ a0) && decide (a0 ≤ a3)) || Scan.scan (mcB a0) a0 a5.data.toList)) := b3 a0 a5 a2 a3 lo0 lo1 hi0 hi1
    have E1 : Hid (¬ a4 = 37 → ¬ a4 = 94 → (a5.size ≤ 1 ∨ ∀ y, a5.data.toList.head? = some y → ¬ y.toNat = 45) → Scan.body (mcB a0) a0 ([u8 a4] ++ a5.data.toList) = ((a0 == a4) || Scan.scan (mcB a0) a0 a5.data.toList)) := b1 a0 a5 a4 x0 x1
    have ZN : Hid (∀ w, Calls Try.prog 11 #[.int .u8 a0, .string (wrapS [] a5)] w fun e w' => e = .returned (.bool (Scan.scan (mcB a0) a0 a5.data.toList)) ∧ w' = w) := fun w => by rw [← E0.out]; exact ZS.out [] w (by simp)
    have Z2 : Hid (∀ w, Calls Try.prog 11 #[.int .u8 a0, .string (wrapS [37, u8 a1] a5)] w fun e w' => e = .returned (.bool (mcB a0 a1 || Scan.scan (mcB a0) a0 a5.data.toList)) ∧ w' = w) := fun w => by rw [← E2.out]; exact ZS.out [37, u8 a1] w (by simp)
    have Z3 : Hid (¬ a2 = 37 → ¬ a2 = 94 → ∀ w, Calls Try.prog 11 #[.int .u8 a0, .string (wrapS [u8 a2, 45, u8 a3] a5)] w fun e w' => e = .returned (.bool ((decide (a2 ≤ a0) && decide (a0 ≤ a3)) || Scan.scan (mcB a0) a0 a5.data.toList)) ∧ w' = w) := fun h1 h2 w => by rw [← E3.out h1 h2]; exact ZS.out [u8 a2, 45, u8 a3] w (by simp)
    have Z1 : Hid (¬ a4 = 37 → ¬ a4 = 94 → (a5.size ≤ 1 ∨ ∀ y, a5.data.toList.head? = some y → ¬ y.toNat = 45) → ∀ w, Calls Try.prog 11 #[.int .u8 a0, .string (wrapS [u8 a4] a5)] w fun e w' => e = .returned (.bool ((a0 == a4) || Scan.scan (mcB a0) a0 a5.data.toList)) ∧ w' = w) := fun h1 h2 h3 w => by rw [← E1.out h1 h2 h3]; exact ZS.out [u8 a4] w (by simp)
    generalize Scan.scan (mcB a0) a0 a5.data.toList = g at *
    clear E0 E1 E2 E3 ZS hn
    have hop : (∃ h : 0 < a5.size, ((a5[0].toNat : Int) == 94) = false) ∨ (a5.size : Int) < 1 := by
      by_cases hz : 0 < a5.size
      · exact .inl ⟨hz, beq_eq_false_iff_ne.2 (fun e => hhat ⟨hz, e⟩)⟩
      · exact .inr (by omega)
    clear hhat
    rcases hop with ⟨hz, h94⟩ | hz
    · have hz' : (0 : Int) < a5.size := by omega
      go_wp2_with fail
      refine (z_none a0 _).mono ?_
      rintro e wX ⟨rfl, rfl⟩
      go_wp2_with fail
      refine (z_all a0 _).mono ?_
      rintro e wY ⟨rfl, rfl⟩
      go_wp2_with fail
      refine (setof_any none 0 0 [] a5 _ (pre_nil _) (by omega) hs).mono ?_
      rintro e wA ⟨rfl, hgA⟩
      have HA : Hid (Grown wY wA) := hgA
      clear hgA
      go_wp2_with fail
      refine (ZN.out _).mono ?_
      rintro e wA2 ⟨rfl, rfl⟩
      go_wp2_with fail
      refine (setof_any _ 2 2 [37, u8 a1] a5 _ (pre2 wA2 a1 cl0 cl1) (by omega) hs).mono ?_
      rintro e wB ⟨rfl, hgB⟩
      have HB : Hid (Grown wY wB) := grown_trans (HA.out.alloc _ _) hgB
      clear hgB HA
      go_wp2_with fail
      refine (Z2.out _).mono ?_
      rintro e wB2 ⟨rfl, rfl⟩
      go_wp2_with fail
      refine (zzmc_any a0 a1 _).mono ?_
      rintro e wB3 ⟨rfl, rfl⟩
      generalize mcB a0 a1 = mm at *
      clear ZN Z2 cl0 cl1 w0 w1 w2 w3 w4 c0 c1
      cases mm
      · skip
        by_cases m37 : a2 = 37
        · have f1 : (a2 != 37) = false := by simp [m37]
          clear m37 Z3
          by_cases n37 : a4 = 37
          · have q1 : (a4 != 37) = false := by simp [n37]
            clear n37 Z1
            go_wp2_with fail
            go_ret
            exact ⟨rfl, HB.out⟩
          have q1 : (a4 != 37) = true := by simp [n37]
          by_cases n94 : a4 = 94
          · have q2 : (a4 != 94) = false := by simp [n94]
            clear n37 n94 Z1
            go_wp2_with fail
            go_ret
            exact ⟨rfl, HB.out⟩
          have q2 : (a4 != 94) = true := by simp [n94]
          by_cases q3 : (2 : Int) ≤ a5.size
          · by_cases d45 : (a5[0].toNat : Int) = 45
            · have q4 : ((a5[0].toNat : Int) == 45) = true := beq_iff_eq.2 d45
              clear n37 n94 d45 Z1
              go_wp2_with fail
              go_ret
              exact ⟨rfl, HB.out⟩
            have q4 : ((a5[0].toNat : Int) == 45) = false := beq_eq_false_iff_ne.2 d45
            have hdash := not_dash a5 (by omega) d45
            by_cases r0 : a0 = a4
            · have r1 : (a0 == a4) = true := beq_iff_eq.2 r0
              have Y1 : Hid (∀ w, Calls Try.prog 11 #[.int .u8 a0, .string (wrapS [u8 a4] a5)] w fun e w' => e = .returned (.bool true) ∧ w' = w) := fun w => by have := Z1.out n37 n94 (.inr hdash) w; rw [r1] at this; exact this
              clear r0 Z1 n37 n94 d45 hdash
              go_wp2_with fail
              refine (setof_any _ 1 1 [u8 a4] a5 _ (pre1 wB3 a4 x0 x1) (by omega) hs).mono ?_
              rintro e wE ⟨rfl, hgE⟩
              have HE : Hid (Grown wY wE) := grown_trans (HB.out.alloc _ _) hgE
              clear hgE
              go_wp2_with fail
              refine (Y1.out _).mono ?_
              rintro e wE2 ⟨rfl, rfl⟩
              go_wp2_with fail
              go_ret
              exact ⟨rfl, HE.out⟩
            · have r1 : (a0 == a4) = false := beq_eq_false_iff_ne.2 r0
              have Y1 : Hid (∀ w, Calls Try.prog 11 #[.int .u8 a0, .string (wrapS [u8 a4] a5)] w fun e w' => e = .returned (.bool g) ∧ w' = w) := fun w => by have := Z1.out n37 n94 (.inr hdash) w; rw [r1] at this; exact this
              clear r0 Z1 n37 n94 d45 hdash
              go_wp2_with fail
              refine (setof_any _ 1 1 [u8 a4] a5 _ (pre1 wB3 a4 x0 x1) (by omega) hs).mono ?_
              rintro e wE ⟨rfl, hgE⟩
              have HE : Hid (Grown wY wE) := grown_trans (HB.out.alloc _ _) hgE
              clear hgE
              go_wp2_with fail
              refine (Y1.out _).mono ?_
              rintro e wE2 ⟨rfl, rfl⟩
              go_wp2_with fail
              go_ret
              exact ⟨rfl, HE.out⟩
          · have q3' : (a5.size : Int) < 2 := by omega
            by_cases r0 : a0 = a4
            · have r1 : (a0 == a4) = true := beq_iff_eq.2 r0
              have Y1 : Hid (∀ w, Calls Try.prog 11 #[.int .u8 a0, .string (wrapS [u8 a4] a5)] w fun e w' => e = .returned (.bool true) ∧ w' = w) := fun w => by have := Z1.out n37 n94 (.inl (by omega)) w; rw [r1] at this; exact this
              clear r0 Z1 n37 n94 q3
              go_wp2_with fail
              refine (setof_any _ 1 1 [u8 a4] a5 _ (pre1 wB3 a4 x0 x1) (by omega) hs).mono ?_
              rintro e wE ⟨rfl, hgE⟩
              have HE : Hid (Grown wY wE) := grown_trans (HB.out.alloc _ _) hgE
              clear hgE
              go_wp2_with fail
              refine (Y1.out _).mono ?_
              rintro e wE2 ⟨rfl, rfl⟩
              go_wp2_with fail
              go_ret
              exact ⟨rfl, HE.out⟩
            · have r1 : (a0 == a4) = false := beq_eq_false_iff_ne.2 r0
              have Y1 : Hid (∀ w, Calls Try.prog 11 #[.int .u8 a0, .string (wrapS [u8 a4] a5)] w fun e w' => e = .returned (.bool g) ∧ w' = w) := fun w => by have := Z1.out n37 n94 (.inl (by omega)) w; rw [r1] at this; exact this
              clear r0 Z1 n37 n94 q3
              go_wp2_with fail
              refine (setof_any _ 1 1 [u8 a4] a5 _ (pre1 wB3 a4 x0 x1) (by omega) hs).mono ?_
              rintro e wE ⟨rfl, hgE⟩
              have HE : Hid (Grown wY wE) := grown_trans (HB.out.alloc _ _) hgE
              clear hgE
              go_wp2_with fail
              refine (Y1.out _).mono ?_
              rintro e wE2 ⟨rfl, rfl⟩
              go_wp2_with fail
              go_ret
              exact ⟨rfl, HE.out⟩
        have f1 : (a2 != 37) = true := by simp [m37]
        by_cases m94 : a2 = 94
        · have f2 : (a2 != 94) = false := by simp [m94]
          clear m37 m94 Z3
          by_cases n37 : a4 = 37
          · have q1 : (a4 != 37) = false := by simp [n37]
            clear n37 Z1
            go_wp2_with fail
            go_ret
            exact ⟨rfl, HB.out⟩
          have q1 : (a4 != 37) = true := by simp [n37]
          by_cases n94 : a4 = 94
          · have q2 : (a4 != 94) = false := by simp [n94]
            clear n37 n94 Z1
            go_wp2_with fail
            go_ret
            exact ⟨rfl, HB.out⟩
          have q2 : (a4 != 94) = true := by simp [n94]
          by_cases q3 : (2 : Int) ≤ a5.size
          · by_cases d45 : (a5[0].toNat : Int) = 45
            · have q4 : ((a5[0].toNat : Int) == 45) = true := beq_iff_eq.2 d45
              clear n37 n94 d45 Z1
              go_wp2_with fail
              go_ret
              exact ⟨rfl, HB.out⟩
            have q4 : ((a5[0].toNat : Int) == 45) = false := beq_eq_false_iff_ne.2 d45
            have hdash := not_dash a5 (by omega) d45
            by_cases r0 : a0 = a4
            · have r1 : (a0 == a4) = true := beq_iff_eq.2 r0
              have Y1 : Hid (∀ w, Calls Try.prog 11 #[.int .u8 a0, .string (wrapS [u8 a4] a5)] w fun e w' => e = .returned (.bool true) ∧ w' = w) := fun w => by have := Z1.out n37 n94 (.inr hdash) w; rw [r1] at this; exact this
              clear r0 Z1 n37 n94 d45 hdash
              go_wp2_with fail
              refine (setof_any _ 1 1 [u8 a4] a5 _ (pre1 wB3 a4 x0 x1) (by omega) hs).mono ?_
              rintro e wE ⟨rfl, hgE⟩
              have HE : Hid (Grown wY wE) := grown_trans (HB.out.alloc _ _) hgE
              clear hgE
              go_wp2_with fail
              refine (Y1.out _).mono ?_
              rintro e wE2 ⟨rfl, rfl⟩
              go_wp2_with fail
              go_ret
              exact ⟨rfl, HE.out⟩
            · have r1 : (a0 == a4) = false := beq_eq_false_iff_ne.2 r0
              have Y1 : Hid (∀ w, Calls Try.prog 11 #[.int .u8 a0, .string (wrapS [u8 a4] a5)] w fun e w' => e = .returned (.bool g) ∧ w' = w) := fun w => by have := Z1.out n37 n94 (.inr hdash) w; rw [r1] at this; exact this
              clear r0 Z1 n37 n94 d45 hdash
              go_wp2_with fail
              refine (setof_any _ 1 1 [u8 a4] a5 _ (pre1 wB3 a4 x0 x1) (by omega) hs).mono ?_
              rintro e wE ⟨rfl, hgE⟩
              have HE : Hid (Grown wY wE) := grown_trans (HB.out.alloc _ _) hgE
              clear hgE
              go_wp2_with fail
              refine (Y1.out _).mono ?_
              rintro e wE2 ⟨rfl, rfl⟩
              go_wp2_with fail
              go_ret
              exact ⟨rfl, HE.out⟩
          · have q3' : (a5.size : Int) < 2 := by omega
            by_cases r0 : a0 = a4
            · have r1 : (a0 == a4) = true := beq_iff_eq.2 r0
              have Y1 : Hid (∀ w, Calls Try.prog 11 #[.int .u8 a0, .string (wrapS [u8 a4] a5)] w fun e w' => e = .returned (.bool true) ∧ w' = w) := fun w => by have := Z1.out n37 n94 (.inl (by omega)) w; rw [r1] at this; exact this
              clear r0 Z1 n37 n94 q3
              go_wp2_with fail
              refine (setof_any _ 1 1 [u8 a4] a5 _ (pre1 wB3 a4 x0 x1) (by omega) hs).mono ?_
              rintro e wE ⟨rfl, hgE⟩
              have HE : Hid (Grown wY wE) := grown_trans (HB.out.alloc _ _) hgE
              clear hgE
              go_wp2_with fail
              refine (Y1.out _).mono ?_
              rintro e wE2 ⟨rfl, rfl⟩
              go_wp2_with fail
              go_ret
              exact ⟨rfl, HE.out⟩
            · have r1 : (a0 == a4) = false := beq_eq_false_iff_ne.2 r0
              have Y1 : Hid (∀ w, Calls Try.prog 11 #[.int .u8 a0, .string (wrapS [u8 a4] a5)] w fun e w' => e = .returned (.bool g) ∧ w' = w) := fun w => by have := Z1.out n37 n94 (.inl (by omega)) w; rw [r1] at this; exact this
              clear r0 Z1 n37 n94 q3
              go_wp2_with fail
              refine (setof_any _ 1 1 [u8 a4] a5 _ (pre1 wB3 a4 x0 x1) (by omega) hs).mono ?_
              rintro e wE ⟨rfl, hgE⟩
              have HE : Hid (Grown wY wE) := grown_trans (HB.out.alloc _ _) hgE
              clear hgE
              go_wp2_with fail
              refine (Y1.out _).mono ?_
              rintro e wE2 ⟨rfl, rfl⟩
              go_wp2_with fail
              go_ret
              exact ⟨rfl, HE.out⟩
        have f2 : (a2 != 94) = true := by simp [m94]
        by_cases p1 : a2 ≤ a0
        · by_cases p2 : a0 ≤ a3
          · have Y3 : Hid (∀ w, Calls Try.prog 11 #[.int .u8 a0, .string (wrapS [u8 a2, 45, u8 a3] a5)] w fun e w' => e = .returned (.bool true) ∧ w' = w) := fun w => by have := Z3.out m37 m94 w; rw [decide_eq_true p1, decide_eq_true p2] at this; simpa using this
            clear m37 m94 Z3
            go_wp2_with fail
            refine (setof_any _ 3 3 [u8 a2, 45, u8 a3] a5 _ (pre3 wB3 a2 a3 lo0 lo1 hi0 hi1) (by omega) hs).mono ?_
            rintro e wC ⟨rfl, hgC⟩
            have HC : Hid (Grown wY wC) := grown_trans (HB.out.alloc _ _) hgC
            clear hgC HB
            go_wp2_with fail
            refine (Y3.out _).mono ?_
            rintro e wC2 ⟨rfl, rfl⟩
            clear Y3
            by_cases n37 : a4 = 37
            · have q1 : (a4 != 37) = false := by simp [n37]
              clear n37 Z1
              go_wp2_with fail
              go_ret
              exact ⟨rfl, HC.out⟩
            have q1 : (a4 != 37) = true := by simp [n37]
            by_cases n94 : a4 = 94
            · have q2 : (a4 != 94) = false := by simp [n94]
              clear n37 n94 Z1
              go_wp2_with fail
              go_ret
              exact ⟨rfl, HC.out⟩
            have q2 : (a4 != 94) = true := by simp [n94]
            by_cases q3 : (2 : Int) ≤ a5.size
            · by_cases d45 : (a5[0].toNat : Int) = 45
              · have q4 : ((a5[0].toNat : Int) == 45) = true := beq_iff_eq.2 d45
                clear n37 n94 d45 Z1
                go_wp2_with fail
                go_ret
                exact ⟨rfl, HC.out⟩
              have q4 : ((a5[0].toNat : Int) == 45) = false := beq_eq_false_iff_ne.2 d45
              have hdash := not_dash a5 (by omega) d45
              by_cases r0 : a0 = a4
              · have r1 : (a0 == a4) = true := beq_iff_eq.2 r0
                have Y1 : Hid (∀ w, Calls Try.prog 11 #[.int .u8 a0, .string (wrapS [u8 a4] a5)] w fun e w' => e = .returned (.bool true) ∧ w' = w) := fun w => by have := Z1.out n37 n94 (.inr hdash) w; rw [r1] at this; exact this
                clear r0 Z1 n37 n94 d45 hdash
                go_wp2_with fail
                refine (setof_any _ 1 1 [u8 a4] a5 _ (pre1 wC2 a4 x0 x1) (by omega) hs).mono ?_
                rintro e wE ⟨rfl, hgE⟩
                have HE : Hid (Grown wY wE) := grown_trans (HC.out.alloc _ _) hgE
                clear hgE
                go_wp2_with fail
                refine (Y1.out _).mono ?_
                rintro e wE2 ⟨rfl, rfl⟩
                go_wp2_with fail
                go_ret
                exact ⟨rfl, HE.out⟩
              · have r1 : (a0 == a4) = false := beq_eq_false_iff_ne.2 r0
                have Y1 : Hid (∀ w, Calls Try.prog 11 #[.int .u8 a0, .string (wrapS [u8 a4] a5)] w fun e w' => e = .returned (.bool g) ∧ w' = w) := fun w => by have := Z1.out n37 n94 (.inr hdash) w; rw [r1] at this; exact this
                clear r0 Z1 n37 n94 d45 hdash
                go_wp2_with fail
                refine (setof_any _ 1 1 [u8 a4] a5 _ (pre1 wC2 a4 x0 x1) (by omega) hs).mono ?_
                rintro e wE ⟨rfl, hgE⟩
                have HE : Hid (Grown wY wE) := grown_trans (HC.out.alloc _ _) hgE
                clear hgE
                go_wp2_with fail
                refine (Y1.out _).mono ?_
                rintro e wE2 ⟨rfl, rfl⟩
                go_wp2_with fail
                go_ret
                exact ⟨rfl, HE.out⟩
            · have q3' : (a5.size : Int) < 2 := by omega
              by_cases r0 : a0 = a4
              · have r1 : (a0 == a4) = true := beq_iff_eq.2 r0
                have Y1 : Hid (∀ w, Calls Try.prog 11 #[.int .u8 a0, .string (wrapS [u8 a4] a5)] w fun e w' => e = .returned (.bool true) ∧ w' = w) := fun w => by have := Z1.out n37 n94 (.inl (by omega)) w; rw [r1] at this; exact this
                clear r0 Z1 n37 n94 q3
                go_wp2_with fail
                refine (setof_any _ 1 1 [u8 a4] a5 _ (pre1 wC2 a4 x0 x1) (by omega) hs).mono ?_
                rintro e wE ⟨rfl, hgE⟩
                have HE : Hid (Grown wY wE) := grown_trans (HC.out.alloc _ _) hgE
                clear hgE
                go_wp2_with fail
                refine (Y1.out _).mono ?_
                rintro e wE2 ⟨rfl, rfl⟩
                go_wp2_with fail
                go_ret
                exact ⟨rfl, HE.out⟩
              · have r1 : (a0 == a4) = false := beq_eq_false_iff_ne.2 r0
                have Y1 : Hid (∀ w, Calls Try.prog 11 #[.int .u8 a0, .string (wrapS [u8 a4] a5)] w fun e w' => e = .returned (.bool g) ∧ w' = w) := fun w => by have := Z1.out n37 n94 (.inl (by omega)) w; rw [r1] at this; exact this
                clear r0 Z1 n37 n94 q3
                go_wp2_with fail
                refine (setof_any _ 1 1 [u8 a4] a5 _ (pre1 wC2 a4 x0 x1) (by omega) hs).mono ?_
                rintro e wE ⟨rfl, hgE⟩
                have HE : Hid (Grown wY wE) := grown_trans (HC.out.alloc _ _) hgE
                clear hgE
                go_wp2_with fail
                refine (Y1.out _).mono ?_
                rintro e wE2 ⟨rfl, rfl⟩
                go_wp2_with fail
                go_ret
                exact ⟨rfl, HE.out⟩
          · have Y3 : Hid (∀ w, Calls Try.prog 11 #[.int .u8 a0, .string (wrapS [u8 a2, 45, u8 a3] a5)] w fun e w' => e = .returned (.bool g) ∧ w' = w) := fun w => by have := Z3.out m37 m94 w; rw [decide_eq_false p2] at this; simpa using this
            have p2d : decide (a0 ≤ a3) = false := decide_eq_false p2
            have p2' : a3 < a0 := by omega
            clear m37 m94 Z3 p2
            go_wp2_with fail
            refine (setof_any _ 3 3 [u8 a2, 45, u8 a3] a5 _ (pre3 wB3 a2 a3 lo0 lo1 hi0 hi1) (by omega) hs).mono ?_
            rintro e wC ⟨rfl, hgC⟩
            have HC : Hid (Grown wY wC) := grown_trans (HB.out.alloc _ _) hgC
            clear hgC HB
            go_wp2_with fail
            refine (Y3.out _).mono ?_
            rintro e wC2 ⟨rfl, rfl⟩
            clear Y3
            by_cases n37 : a4 = 37
            · have q1 : (a4 != 37) = false := by simp [n37]
              clear n37 Z1
              go_wp2_with fail
              go_ret
              exact ⟨rfl, HC.out⟩
            have q1 : (a4 != 37) = true := by simp [n37]
            by_cases n94 : a4 = 94
            · have q2 : (a4 != 94) = false := by simp [n94]
              clear n37 n94 Z1
              go_wp2_with fail
              go_ret
              exact ⟨rfl, HC.out⟩
            have q2 : (a4 != 94) = true := by simp [n94]
            by_cases q3 : (2 : Int) ≤ a5.size
            · by_cases d45 : (a5[0].toNat : Int) = 45
              · have q4 : ((a5[0].toNat : Int) == 45) = true := beq_iff_eq.2 d45
                clear n37 n94 d45 Z1
                go_wp2_with fail
                go_ret
                exact ⟨rfl, HC.out⟩
              have q4 : ((a5[0].toNat : Int) == 45) = false := beq_eq_false_iff_ne.2 d45
              have hdash := not_dash a5 (by omega) d45
              by_cases r0 : a0 = a4
              · have r1 : (a0 == a4) = true := beq_iff_eq.2 r0
                have Y1 : Hid (∀ w, Calls Try.prog 11 #[.int .u8 a0, .string (wrapS [u8 a4] a5)] w fun e w' => e = .returned (.bool true) ∧ w' = w) := fun w => by have := Z1.out n37 n94 (.inr hdash) w; rw [r1] at this; exact this
                clear r0 Z1 n37 n94 d45 hdash
                go_wp2_with fail
                refine (setof_any _ 1 1 [u8 a4] a5 _ (pre1 wC2 a4 x0 x1) (by omega) hs).mono ?_
                rintro e wE ⟨rfl, hgE⟩
                have HE : Hid (Grown wY wE) := grown_trans (HC.out.alloc _ _) hgE
                clear hgE
                go_wp2_with fail
                refine (Y1.out _).mono ?_
                rintro e wE2 ⟨rfl, rfl⟩
                go_wp2_with fail
                go_ret
                exact ⟨rfl, HE.out⟩
              · have r1 : (a0 == a4) = false := beq_eq_false_iff_ne.2 r0
                have Y1 : Hid (∀ w, Calls Try.prog 11 #[.int .u8 a0, .string (wrapS [u8 a4] a5)] w fun e w' => e = .returned (.bool g) ∧ w' = w) := fun w => by have := Z1.out n37 n94 (.inr hdash) w; rw [r1] at this; exact this
                clear r0 Z1 n37 n94 d45 hdash
                go_wp2_with fail
                refine (setof_any _ 1 1 [u8 a4] a5 _ (pre1 wC2 a4 x0 x1) (by omega) hs).mono ?_
                rintro e wE ⟨rfl, hgE⟩
                have HE : Hid (Grown wY wE) := grown_trans (HC.out.alloc _ _) hgE
                clear hgE
                go_wp2_with fail
                refine (Y1.out _).mono ?_
                rintro e wE2 ⟨rfl, rfl⟩
                go_wp2_with fail
                go_ret
                exact ⟨rfl, HE.out⟩
            · have q3' : (a5.size : Int) < 2 := by omega
              by_cases r0 : a0 = a4
              · have r1 : (a0 == a4) = true := beq_iff_eq.2 r0
                have Y1 : Hid (∀ w, Calls Try.prog 11 #[.int .u8 a0, .string (wrapS [u8 a4] a5)] w fun e w' => e = .returned (.bool true) ∧ w' = w) := fun w => by have := Z1.out n37 n94 (.inl (by omega)) w; rw [r1] at this; exact this
                clear r0 Z1 n37 n94 q3
                go_wp2_with fail
                refine (setof_any _ 1 1 [u8 a4] a5 _ (pre1 wC2 a4 x0 x1) (by omega) hs).mono ?_
                rintro e wE ⟨rfl, hgE⟩
                have HE : Hid (Grown wY wE) := grown_trans (HC.out.alloc _ _) hgE
                clear hgE
                go_wp2_with fail
                refine (Y1.out _).mono ?_
                rintro e wE2 ⟨rfl, rfl⟩
                go_wp2_with fail
                go_ret
                exact ⟨rfl, HE.out⟩
              · have r1 : (a0 == a4) = false := beq_eq_false_iff_ne.2 r0
                have Y1 : Hid (∀ w, Calls Try.prog 11 #[.int .u8 a0, .string (wrapS [u8 a4] a5)] w fun e w' => e = .returned (.bool g) ∧ w' = w) := fun w => by have := Z1.out n37 n94 (.inl (by omega)) w; rw [r1] at this; exact this
                clear r0 Z1 n37 n94 q3
                go_wp2_with fail
                refine (setof_any _ 1 1 [u8 a4] a5 _ (pre1 wC2 a4 x0 x1) (by omega) hs).mono ?_
                rintro e wE ⟨rfl, hgE⟩
                have HE : Hid (Grown wY wE) := grown_trans (HC.out.alloc _ _) hgE
                clear hgE
                go_wp2_with fail
                refine (Y1.out _).mono ?_
                rintro e wE2 ⟨rfl, rfl⟩
                go_wp2_with fail
                go_ret
                exact ⟨rfl, HE.out⟩
        · have Y3 : Hid (∀ w, Calls Try.prog 11 #[.int .u8 a0, .string (wrapS [u8 a2, 45, u8 a3] a5)] w fun e w' => e = .returned (.bool g) ∧ w' = w) := fun w => by have := Z3.out m37 m94 w; rw [decide_eq_false p1] at this; simpa using this
          have p1' : a0 < a2 := by omega
          clear m37 m94 Z3 p1
          go_wp2_with fail
          refine (setof_any _ 3 3 [u8 a2, 45, u8 a3] a5 _ (pre3 wB3 a2 a3 lo0 lo1 hi0 hi1) (by omega) hs).mono ?_
          rintro e wC ⟨rfl, hgC⟩
          have HC : Hid (Grown wY wC) := grown_trans (HB.out.alloc _ _) hgC
          clear hgC HB
          go_wp2_with fail
          refine (Y3.out _).mono ?_
          rintro e wC2 ⟨rfl, rfl⟩
          clear Y3
          by_cases n37 : a4 = 37
          · have q1 : (a4 != 37) = false := by simp [n37]
            clear n37 Z1
            go_wp2_with fail
            go_ret
            exact ⟨rfl, HC.out⟩
          have q1 : (a4 != 37) = true := by simp [n37]
          by_cases n94 : a4 = 94
          · have q2 : (a4 != 94) = false := by simp [n94]
            clear n37 n94 Z1
            go_wp2_with fail
            go_ret
            exact ⟨rfl, HC.out⟩
          have q2 : (a4 != 94) = true := by simp [n94]
          by_cases q3 : (2 : Int) ≤ a5.size
          · by_cases d45 : (a5[0].toNat : Int) = 45
            · have q4 : ((a5[0].toNat : Int) == 45) = true := beq_iff_eq.2 d45
              clear n37 n94 d45 Z1
              go_wp2_with fail
              go_ret
              exact ⟨rfl, HC.out⟩
            have q4 : ((a5[0].toNat : Int) == 45) = false := beq_eq_false_iff_ne.2 d45
            have hdash := not_dash a5 (by omega) d45
            by_cases r0 : a0 = a4
            · have r1 : (a0 == a4) = true := beq_iff_eq.2 r0
              have Y1 : Hid (∀ w, Calls Try.prog 11 #[.int .u8 a0, .string (wrapS [u8 a4] a5)] w fun e w' => e = .returned (.bool true) ∧ w' = w) := fun w => by have := Z1.out n37 n94 (.inr hdash) w; rw [r1] at this; exact this
              clear r0 Z1 n37 n94 d45 hdash
              go_wp2_with fail
              refine (setof_any _ 1 1 [u8 a4] a5 _ (pre1 wC2 a4 x0 x1) (by omega) hs).mono ?_
              rintro e wE ⟨rfl, hgE⟩
              have HE : Hid (Grown wY wE) := grown_trans (HC.out.alloc _ _) hgE
              clear hgE
              go_wp2_with fail
              refine (Y1.out _).mono ?_
              rintro e wE2 ⟨rfl, rfl⟩
              go_wp2_with fail
              go_ret
              exact ⟨rfl, HE.out⟩
            · have r1 : (a0 == a4) = false := beq_eq_false_iff_ne.2 r0
              have Y1 : Hid (∀ w, Calls Try.prog 11 #[.int .u8 a0, .string (wrapS [u8 a4] a5)] w fun e w' => e = .returned (.bool g) ∧ w' = w) := fun w => by have := Z1.out n37 n94 (.inr hdash) w; rw [r1] at this; exact this
              clear r0 Z1 n37 n94 d45 hdash
              go_wp2_with fail
              refine (setof_any _ 1 1 [u8 a4] a5 _ (pre1 wC2 a4 x0 x1) (by omega) hs).mono ?_
              rintro e wE ⟨rfl, hgE⟩
              have HE : Hid (Grown wY wE) := grown_trans (HC.out.alloc _ _) hgE
              clear hgE
              go_wp2_with fail
              refine (Y1.out _).mono ?_
              rintro e wE2 ⟨rfl, rfl⟩
              go_wp2_with fail
              go_ret
              exact ⟨rfl, HE.out⟩
          · have q3' : (a5.size : Int) < 2 := by omega
            by_cases r0 : a0 = a4
            · have r1 : (a0 == a4) = true := beq_iff_eq.2 r0
              have Y1 : Hid (∀ w, Calls Try.prog 11 #[.int .u8 a0, .string (wrapS [u8 a4] a5)] w fun e w' => e = .returned (.bool true) ∧ w' = w) := fun w => by have := Z1.out n37 n94 (.inl (by omega)) w; rw [r1] at this; exact this
              clear r0 Z1 n37 n94 q3
              go_wp2_with fail
              refine (setof_any _ 1 1 [u8 a4] a5 _ (pre1 wC2 a4 x0 x1) (by omega) hs).mono ?_
              rintro e wE ⟨rfl, hgE⟩
              have HE : Hid (Grown wY wE) := grown_trans (HC.out.alloc _ _) hgE
              clear hgE
              go_wp2_with fail
              refine (Y1.out _).mono ?_
              rintro e wE2 ⟨rfl, rfl⟩
              go_wp2_with fail
              go_ret
              exact ⟨rfl, HE.out⟩
            · have r1 : (a0 == a4) = false := beq_eq_false_iff_ne.2 r0
              have Y1 : Hid (∀ w, Calls Try.prog 11 #[.int .u8 a0, .string (wrapS [u8 a4] a5)] w fun e w' => e = .returned (.bool g) ∧ w' = w) := fun w => by have := Z1.out n37 n94 (.inl (by omega)) w; rw [r1] at this; exact this
              clear r0 Z1 n37 n94 q3
              go_wp2_with fail
              refine (setof_any _ 1 1 [u8 a4] a5 _ (pre1 wC2 a4 x0 x1) (by omega) hs).mono ?_
              rintro e wE ⟨rfl, hgE⟩
              have HE : Hid (Grown wY wE) := grown_trans (HC.out.alloc _ _) hgE
              clear hgE
              go_wp2_with fail
              refine (Y1.out _).mono ?_
              rintro e wE2 ⟨rfl, rfl⟩
              go_wp2_with fail
              go_ret
              exact ⟨rfl, HE.out⟩
      · skip
        by_cases m37 : a2 = 37
        · have f1 : (a2 != 37) = false := by simp [m37]
          clear m37 Z3
          by_cases n37 : a4 = 37
          · have q1 : (a4 != 37) = false := by simp [n37]
            clear n37 Z1
            go_wp2_with fail
            go_ret
            exact ⟨rfl, HB.out⟩
          have q1 : (a4 != 37) = true := by simp [n37]
          by_cases n94 : a4 = 94
          · have q2 : (a4 != 94) = false := by simp [n94]
            clear n37 n94 Z1
            go_wp2_with fail
            go_ret
            exact ⟨rfl, HB.out⟩
          have q2 : (a4 != 94) = true := by simp [n94]
          by_cases q3 : (2 : Int) ≤ a5.size
          · by_cases d45 : (a5[0].toNat : Int) = 45
            · have q4 : ((a5[0].toNat : Int) == 45) = true := beq_iff_eq.2 d45
              clear n37 n94 d45 Z1
              go_wp2_with fail
              go_ret
              exact ⟨rfl, HB.out⟩
            have q4 : ((a5[0].toNat : Int) == 45) = false := beq_eq_false_iff_ne.2 d45
            have hdash := not_dash a5 (by omega) d45
            by_cases r0 : a0 = a4
            · have r1 : (a0 == a4) = true := beq_iff_eq.2 r0
              have Y1 : Hid (∀ w, Calls Try.prog 11 #[.int .u8 a0, .string (wrapS [u8 a4] a5)] w fun e w' => e = .returned (.bool true) ∧ w' = w) := fun w => by have := Z1.out n37 n94 (.inr hdash) w; rw [r1] at this; exact this
              clear r0 Z1 n37 n94 d45 hdash
              go_wp2_with fail
              refine (setof_any _ 1 1 [u8 a4] a5 _ (pre1 wB3 a4 x0 x1) (by omega) hs).mono ?_
              rintro e wE ⟨rfl, hgE⟩
              have HE : Hid (Grown wY wE) := grown_trans (HB.out.alloc _ _) hgE
              clear hgE
              go_wp2_with fail
              refine (Y1.out _).mono ?_
              rintro e wE2 ⟨rfl, rfl⟩
              go_wp2_with fail
              go_ret
              exact ⟨rfl, HE.out⟩
            · have r1 : (a0 == a4) = false := beq_eq_false_iff_ne.2 r0
              have Y1 : Hid (∀ w, Calls Try.prog 11 #[.int .u8 a0, .string (wrapS [u8 a4] a5)] w fun e w' => e = .returned (.bool g) ∧ w' = w) := fun w => by have := Z1.out n37 n94 (.inr hdash) w; rw [r1] at this; exact this
              clear r0 Z1 n37 n94 d45 hdash
              go_wp2_with fail
              refine (setof_any _ 1 1 [u8 a4] a5 _ (pre1 wB3 a4 x0 x1) (by omega) hs).mono ?_
              rintro e wE ⟨rfl, hgE⟩
              have HE : Hid (Grown wY wE) := grown_trans (HB.out.alloc _ _) hgE
              clear hgE
              go_wp2_with fail
              refine (Y1.out _).mono ?_
              rintro e wE2 ⟨rfl, rfl⟩
              go_wp2_with fail
              go_ret
              exact ⟨rfl, HE.out⟩
          · have q3' : (a5.size : Int) < 2 := by omega
            by_cases r0 : a0 = a4
            · have r1 : (a0 == a4) = true := beq_iff_eq.2 r0
              have Y1 : Hid (∀ w, Calls Try.prog 11 #[.int .u8 a0, .string (wrapS [u8 a4] a5)] w fun e w' => e = .returned (.bool true) ∧ w' = w) := fun w => by have := Z1.out n37 n94 (.inl (by omega)) w; rw [r1] at this; exact this
              clear r0 Z1 n37 n94 q3
              go_wp2_with fail
              refine (setof_any _ 1 1 [u8 a4] a5 _ (pre1 wB3 a4 x0 x1) (by omega) hs).mono ?_
              rintro e wE ⟨rfl, hgE⟩
              have HE : Hid (Grown wY wE) := grown_trans (HB.out.alloc _ _) hgE
              clear hgE
              go_wp2_with fail
              refine (Y1.out _).mono ?_
              rintro e wE2 ⟨rfl, rfl⟩
              go_wp2_with fail
              go_ret
              exact ⟨rfl, HE.out⟩
            · have r1 : (a0 == a4) = false := beq_eq_false_iff_ne.2 r0
              have Y1 : Hid (∀ w, Calls Try.prog 11 #[.int .u8 a0, .string (wrapS [u8 a4] a5)] w fun e w' => e = .returned (.bool g) ∧ w' = w) := fun w => by have := Z1.out n37 n94 (.inl (by omega)) w; rw [r1] at this; exact this
              clear r0 Z1 n37 n94 q3
              go_wp2_with fail
              refine (setof_any _ 1 1 [u8 a4] a5 _ (pre1 wB3 a4 x0 x1) (by omega) hs).mono ?_
              rintro e wE ⟨rfl, hgE⟩
              have HE : Hid (Grown wY wE) := grown_trans (HB.out.alloc _ _) hgE
              clear hgE
              go_wp2_with fail
              refine (Y1.out _).mono ?_
              rintro e wE2 ⟨rfl, rfl⟩
              go_wp2_with fail
              go_ret
              exact ⟨rfl, HE.out⟩
        have f1 : (a2 != 37) = true := by simp [m37]
        by_cases m94 : a2 = 94
        · have f2 : (a2 != 94) = false := by simp [m94]
          clear m37 m94 Z3
          by_cases n37 : a4 = 37
          · have q1 : (a4 != 37) = false := by simp [n37]
            clear n37 Z1
            go_wp2_with fail
            go_ret
            exact ⟨rfl, HB.out⟩
          have q1 : (a4 != 37) = true := by simp [n37]
          by_cases n94 : a4 = 94
          · have q2 : (a4 != 94) = false := by simp [n94]
            clear n37 n94 Z1
            go_wp2_with fail
            go_ret
            exact ⟨rfl, HB.out⟩
          have q2 : (a4 != 94) = true := by simp [n94]
          by_cases q3 : (2 : Int) ≤ a5.size
          · by_cases d45 : (a5[0].toNat : Int) = 45
            · have q4 : ((a5[0].toNat : Int) == 45) = true := beq_iff_eq.2 d45
              clear n37 n94 d45 Z1
              go_wp2_with fail
              go_ret
              exact ⟨rfl, HB.out⟩
            have q4 : ((a5[0].toNat : Int) == 45) = false := beq_eq_false_iff_ne.2 d45
            have hdash := not_dash a5 (by omega) d45
            by_cases r0 : a0 = a4
            · have r1 : (a0 == a4) = true := beq_iff_eq.2 r0
              have Y1 : Hid (∀ w, Calls Try.prog 11 #[.int .u8 a0, .string (wrapS [u8 a4] a5)] w fun e w' => e = .returned (.bool true) ∧ w' = w) := fun w => by have := Z1.out n37 n94 (.inr hdash) w; rw [r1] at this; exact this
              clear r0 Z1 n37 n94 d45 hdash
              go_wp2_with fail
              refine (setof_any _ 1 1 [u8 a4] a5 _ (pre1 wB3 a4 x0 x1) (by omega) hs).mono ?_
              rintro e wE ⟨rfl, hgE⟩
              have HE : Hid (Grown wY wE) := grown_trans (HB.out.alloc _ _) hgE
              clear hgE
              go_wp2_with fail
              refine (Y1.out _).mono ?_
              rintro e wE2 ⟨rfl, rfl⟩
              go_wp2_with fail
              go_ret
              exact ⟨rfl, HE.out⟩
            · have r1 : (a0 == a4) = false := beq_eq_false_iff_ne.2 r0
              have Y1 : Hid (∀ w, Calls Try.prog 11 #[.int .u8 a0, .string (wrapS [u8 a4] a5)] w fun e w' => e = .returned (.bool g) ∧ w' = w) := fun w => by have := Z1.out n37 n94 (.inr hdash) w; rw [r1] at this; exact this
              clear r0 Z1 n37 n94 d45 hdash
              go_wp2_with fail
              refine (setof_any _ 1 1 [u8 a4] a5 _ (pre1 wB3 a4 x0 x1) (by omega) hs).mono ?_
              rintro e wE ⟨rfl, hgE⟩
              have HE : Hid (Grown wY wE) := grown_trans (HB.out.alloc _ _) hgE
              clear hgE
              go_wp2_with fail
              refine (Y1.out _).mono ?_
              rintro e wE2 ⟨rfl, rfl⟩
              go_wp2_with fail
              go_ret
              exact ⟨rfl, HE.out⟩
          · have q3' : (a5.size : Int) < 2 := by omega
            by_cases r0 : a0 = a4
            · have r1 : (a0 == a4) = true := beq_iff_eq.2 r0
              have Y1 : Hid (∀ w, Calls Try.prog 11 #[.int .u8 a0, .string (wrapS [u8 a4] a5)] w fun e w' => e = .returned (.bool true) ∧ w' = w) := fun w => by have := Z1.out n37 n94 (.inl (by omega)) w; rw [r1] at this; exact this
              clear r0 Z1 n37 n94 q3
              go_wp2_with fail
              refine (setof_any _ 1 1 [u8 a4] a5 _ (pre1 wB3 a4 x0 x1) (by omega) hs).mono ?_
              rintro e wE ⟨rfl, hgE⟩
              have HE : Hid (Grown wY wE) := grown_trans (HB.out.alloc _ _) hgE
              clear hgE
              go_wp2_with fail
              refine (Y1.out _).mono ?_
              rintro e wE2 ⟨rfl, rfl⟩
              go_wp2_with fail
              go_ret
              exact ⟨rfl, HE.out⟩
            · have r1 : (a0 == a4) = false := beq_eq_false_iff_ne.2 r0
              have Y1 : Hid (∀ w, Calls Try.prog 11 #[.int .u8 a0, .string (wrapS [u8 a4] a5)] w fun e w' => e = .returned (.bool g) ∧ w' = w) := fun w => by have := Z1.out n37 n94 (.inl (by omega)) w; rw [r1] at this; exact this
              clear r0 Z1 n37 n94 q3
              go_wp2_with fail
              refine (setof_any _ 1 1 [u8 a4] a5 _ (pre1 wB3 a4 x0 x1) (by omega) hs).mono ?_
              rintro e wE ⟨rfl, hgE⟩
              have HE : Hid (Grown wY wE) := grown_trans (HB.out.alloc _ _) hgE
              clear hgE
              go_wp2_with fail
              refine (Y1.out _).mono ?_
              rintro e wE2 ⟨rfl, rfl⟩
              go_wp2_with fail
              go_ret
              exact ⟨rfl, HE.out⟩
        have f2 : (a2 != 94) = true := by simp [m94]
        by_cases p1 : a2 ≤ a0
        · by_cases p2 : a0 ≤ a3
          · have Y3 : Hid (∀ w, Calls Try.prog 11 #[.int .u8 a0, .string (wrapS [u8 a2, 45, u8 a3] a5)] w fun e w' => e = .returned (.bool true) ∧ w' = w) := fun w => by have := Z3.out m37 m94 w; rw [decide_eq_true p1, decide_eq_true p2] at this; simpa using this
            clear m37 m94 Z3
            go_wp2_with fail
            refine (setof_any _ 3 3 [u8 a2, 45, u8 a3] a5 _ (pre3 wB3 a2 a3 lo0 lo1 hi0 hi1) (by omega) hs).mono ?_
            rintro e wC ⟨rfl, hgC⟩
            have HC : Hid (Grown wY wC) := grown_trans (HB.out.alloc _ _) hgC
            clear hgC HB
            go_wp2_with fail
            refine (Y3.out _).mono ?_
            rintro e wC2 ⟨rfl, rfl⟩
            clear Y3
            by_cases n37 : a4 = 37
            · have q1 : (a4 != 37) = false := by simp [n37]
              clear n37 Z1
              go_wp2_with fail
              go_ret
              exact ⟨rfl, HC.out⟩
            have q1 : (a4 != 37) = true := by simp [n37]
            by_cases n94 : a4 = 94
            · have q2 : (a4 != 94) = false := by simp [n94]
              clear n37 n94 Z1
              go_wp2_with fail
              go_ret
              exact ⟨rfl, HC.out⟩
            have q2 : (a4 != 94) = true := by simp [n94]
            by_cases q3 : (2 : Int) ≤ a5.size
            · by_cases d45 : (a5[0].toNat : Int) = 45
              · have q4 : ((a5[0].toNat : Int) == 45) = true := beq_iff_eq.2 d45
                clear n37 n94 d45 Z1
                go_wp2_with fail
                go_ret
                exact ⟨rfl, HC.out⟩
              have q4 : ((a5[0].toNat : Int) == 45) = false := beq_eq_false_iff_ne.2 d45
              have hdash := not_dash a5 (by omega) d45
              by_cases r0 : a0 = a4
              · have r1 : (a0 == a4) = true := beq_iff_eq.2 r0
                have Y1 : Hid (∀ w, Calls Try.prog 11 #[.int .u8 a0, .string (wrapS [u8 a4] a5)] w fun e w' => e = .returned (.bool true) ∧ w' = w) := fun w => by have := Z1.out n37 n94 (.inr hdash) w; rw [r1] at this; exact this
                clear r0 Z1 n37 n94 d45 hdash
                go_wp2_with fail
                refine (setof_any _ 1 1 [u8 a4] a5 _ (pre1 wC2 a4 x0 x1) (by omega) hs).mono ?_
                rintro e wE ⟨rfl, hgE⟩
                have HE : Hid (Grown wY wE) := grown_trans (HC.out.alloc _ _) hgE
                clear hgE
                go_wp2_with fail
                refine (Y1.out _).mono ?_
                rintro e wE2 ⟨rfl, rfl⟩
                go_wp2_with fail
                go_ret
                exact ⟨rfl, HE.out⟩
              · have r1 : (a0 == a4) = false := beq_eq_false_iff_ne.2 r0
                have Y1 : Hid (∀ w, Calls Try.prog 11 #[.int .u8 a0, .string (wrapS [u8 a4] a5)] w fun e w' => e = .returned (.bool g) ∧ w' = w) := fun w => by have := Z1.out n37 n94 (.inr hdash) w; rw [r1] at this; exact this
                clear r0 Z1 n37 n94 d45 hdash
                go_wp2_with fail
                refine (setof_any _ 1 1 [u8 a4] a5 _ (pre1 wC2 a4 x0 x1) (by omega) hs).mono ?_
                rintro e wE ⟨rfl, hgE⟩
                have HE : Hid (Grown wY wE) := grown_trans (HC.out.alloc _ _) hgE
                clear hgE
                go_wp2_with fail
                refine (Y1.out _).mono ?_
                rintro e wE2 ⟨rfl, rfl⟩
                go_wp2_with fail
                go_ret
                exact ⟨rfl, HE.out⟩
            · have q3' : (a5.size : Int) < 2 := by omega
              by_cases r0 : a0 = a4
              · have r1 : (a0 == a4) = true := beq_iff_eq.2 r0
                have Y1 : Hid (∀ w, Calls Try.prog 11 #[.int .u8 a0, .string (wrapS [u8 a4] a5)] w fun e w' => e = .returned (.bool true) ∧ w' = w) := fun w => by have := Z1.out n37 n94 (.inl (by omega)) w; rw [r1] at this; exact this
                clear r0 Z1 n37 n94 q3
                go_wp2_with fail
                refine (setof_any _ 1 1 [u8 a4] a5 _ (pre1 wC2 a4 x0 x1) (by omega) hs).mono ?_
                rintro e wE ⟨rfl, hgE⟩
                have HE : Hid (Grown wY wE) := grown_trans (HC.out.alloc _ _) hgE
                clear hgE
                go_wp2_with fail
                refine (Y1.out _).mono ?_
                rintro e wE2 ⟨rfl, rfl⟩
                go_wp2_with fail
                go_ret
                exact ⟨rfl, HE.out⟩
              · have r1 : (a0 == a4) = false := beq_eq_false_iff_ne.2 r0
                have Y1 : Hid (∀ w, Calls Try.prog 11 #[.int .u8 a0, .string (wrapS [u8 a4] a5)] w fun e w' => e = .returned (.bool g) ∧ w' = w) := fun w => by have := Z1.out n37 n94 (.inl (by omega)) w; rw [r1] at this; exact this
                clear r0 Z1 n37 n94 q3
                go_wp2_with fail
                refine (setof_any _ 1 1 [u8 a4] a5 _ (pre1 wC2 a4 x0 x1) (by omega) hs).mono ?_
                rintro e wE ⟨rfl, hgE⟩
                have HE : Hid (Grown wY wE) := grown_trans (HC.out.alloc _ _) hgE
                clear hgE
                go_wp2_with fail
                refine (Y1.out _).mono ?_
                rintro e wE2 ⟨rfl, rfl⟩
                go_wp2_with fail
                go_ret
                exact ⟨rfl, HE.out⟩
          · have Y3 : Hid (∀ w, Calls Try.prog 11 #[.int .u8 a0, .string (wrapS [u8 a2, 45, u8 a3] a5)] w fun e w' => e = .returned (.bool g) ∧ w' = w) := fun w => by have := Z3.out m37 m94 w; rw [decide_eq_false p2] at this; simpa using this
            have p2d : decide (a0 ≤ a3) = false := decide_eq_false p2
            have p2' : a3 < a0 := by omega
            clear m37 m94 Z3 p2
            go_wp2_with fail
            refine (setof_any _ 3 3 [u8 a2, 45, u8 a3] a5 _ (pre3 wB3 a2 a3 lo0 lo1 hi0 hi1) (by omega) hs).mono ?_
            rintro e wC ⟨rfl, hgC⟩
            have HC : Hid (Grown wY wC) := grown_trans (HB.out.alloc _ _) hgC
            clear hgC HB
            go_wp2_with fail
            refine (Y3.out _).mono ?_
            rintro e wC2 ⟨rfl, rfl⟩
            clear Y3
            by_cases n37 : a4 = 37
            · have q1 : (a4 != 37) = false := by simp [n37]
              clear n37 Z1
              go_wp2_with fail
              go_ret
              exact ⟨rfl, HC.out⟩
            have q1 : (a4 != 37) = true := by simp [n37]
            by_cases n94 : a4 = 94
            · have q2 : (a4 != 94) = false := by simp [n94]
              clear n37 n94 Z1
              go_wp2_with fail
              go_ret
              exact ⟨rfl, HC.out⟩
            have q2 : (a4 != 94) = true := by simp [n94]
            by_cases q3 : (2 : Int) ≤ a5.size
            · by_cases d45 : (a5[0].toNat : Int) = 45
              · have q4 : ((a5[0].toNat : Int) == 45) = true := beq_iff_eq.2 d45
                clear n37 n94 d45 Z1
                go_wp2_with fail
                go_ret
                exact ⟨rfl, HC.out⟩
              have q4 : ((a5[0].toNat : Int) == 45) = false := beq_eq_false_iff_ne.2 d45
              have hdash := not_dash a5 (by omega) d45
              by_cases r0 : a0 = a4
              · have r1 : (a0 == a4) = true := beq_iff_eq.2 r0
                have Y1 : Hid (∀ w, Calls Try.prog 11 #[.int .u8 a0, .string (wrapS [u8 a4] a5)] w fun e w' => e = .returned (.bool true) ∧ w' = w) := fun w => by have := Z1.out n37 n94 (.inr hdash) w; rw [r1] at this; exact this
                clear r0 Z1 n37 n94 d45 hdash
                go_wp2_with fail
                refine (setof_any _ 1 1 [u8 a4] a5 _ (pre1 wC2 a4 x0 x1) (by omega) hs).mono ?_
                rintro e wE ⟨rfl, hgE⟩
                have HE : Hid (Grown wY wE) := grown_trans (HC.out.alloc _ _) hgE
                clear hgE
                go_wp2_with fail
                refine (Y1.out _).mono ?_
                rintro e wE2 ⟨rfl, rfl⟩
                go_wp2_with fail
                go_ret
                exact ⟨rfl, HE.out⟩
              · have r1 : (a0 == a4) = false := beq_eq_false_iff_ne.2 r0
                have Y1 : Hid (∀ w, Calls Try.prog 11 #[.int .u8 a0, .string (wrapS [u8 a4] a5)] w fun e w' => e = .returned (.bool g) ∧ w' = w) := fun w => by have := Z1.out n37 n94 (.inr hdash) w; rw [r1] at this; exact this
                clear r0 Z1 n37 n94 d45 hdash
                go_wp2_with fail
                refine (setof_any _ 1 1 [u8 a4] a5 _ (pre1 wC2 a4 x0 x1) (by omega) hs).mono ?_
                rintro e wE ⟨rfl, hgE⟩
                have HE : Hid (Grown wY wE) := grown_trans (HC.out.alloc _ _) hgE
                clear hgE
                go_wp2_with fail
                refine (Y1.out _).mono ?_
                rintro e wE2 ⟨rfl, rfl⟩
                go_wp2_with fail
                go_ret
                exact ⟨rfl, HE.out⟩
            · have q3' : (a5.size : Int) < 2 := by omega
              by_cases r0 : a0 = a4
              · have r1 : (a0 == a4) = true := beq_iff_eq.2 r0
                have Y1 : Hid (∀ w, Calls Try.prog 11 #[.int .u8 a0, .string (wrapS [u8 a4] a5)] w fun e w' => e = .returned (.bool true) ∧ w' = w) := fun w => by have := Z1.out n37 n94 (.inl (by omega)) w; rw [r1] at this; exact this
                clear r0 Z1 n37 n94 q3
                go_wp2_with fail
                refine (setof_any _ 1 1 [u8 a4] a5 _ (pre1 wC2 a4 x0 x1) (by omega) hs).mono ?_
                rintro e wE ⟨rfl, hgE⟩
                have HE : Hid (Grown wY wE) := grown_trans (HC.out.alloc _ _) hgE
                clear hgE
                go_wp2_with fail
                refine (Y1.out _).mono ?_
                rintro e wE2 ⟨rfl, rfl⟩
                go_wp2_with fail
                go_ret
                exact ⟨rfl, HE.out⟩
              · have r1 : (a0 == a4) = false := beq_eq_false_iff_ne.2 r0
                have Y1 : Hid (∀ w, Calls Try.prog 11 #[.int .u8 a0, .string (wrapS [u8 a4] a5)] w fun e w' => e = .returned (.bool g) ∧ w' = w) := fun w => by have := Z1.out n37 n94 (.inl (by omega)) w; rw [r1] at this; exact this
                clear r0 Z1 n37 n94 q3
                go_wp2_with fail
                refine (setof_any _ 1 1 [u8 a4] a5 _ (pre1 wC2 a4 x0 x1) (by omega) hs).mono ?_
                rintro e wE ⟨rfl, hgE⟩
                have HE : Hid (Grown wY wE) := grown_trans (HC.out.alloc _ _) hgE
                clear hgE
                go_wp2_with fail
                refine (Y1.out _).mono ?_
                rintro e wE2 ⟨rfl, rfl⟩
                go_wp2_with fail
                go_ret
                exact ⟨rfl, HE.out⟩
        · have Y3 : Hid (∀ w, Calls Try.prog 11 #[.int .u8 a0, .string (wrapS [u8 a2, 45, u8 a3] a5)] w fun e w' => e = .returned (.bool g) ∧ w' = w) := fun w => by have := Z3.out m37 m94 w; rw [decide_eq_false p1] at this; simpa using this
          have p1' : a0 < a2 := by omega
          clear m37 m94 Z3 p1
          go_wp2_with fail
          refine (setof_any _ 3 3 [u8 a2, 45, u8 a3] a5 _ (pre3 wB3 a2 a3 lo0 lo1 hi0 hi1) (by omega) hs).mono ?_
          rintro e wC ⟨rfl, hgC⟩
          have HC : Hid (Grown wY wC) := grown_trans (HB.out.alloc _ _) hgC
          clear hgC HB
          go_wp2_with fail
          refine (Y3.out _).mono ?_
          rintro e wC2 ⟨rfl, rfl⟩
          clear Y3
          by_cases n37 : a4 = 37
          · have q1 : (a4 != 37) = false := by simp [n37]
            clear n37 Z1
            go_wp2_with fail
            go_ret
            exact ⟨rfl, HC.out⟩
          have q1 : (a4 != 37) = true := by simp [n37]
          by_cases n94 : a4 = 94
          · have q2 : (a4 != 94) = false := by simp [n94]
            clear n37 n94 Z1
            go_wp2_with fail
            go_ret
            exact ⟨rfl, HC.out⟩
          have q2 : (a4 != 94) = true := by simp [n94]
          by_cases q3 : (2 : Int) ≤ a5.size
          · by_cases d45 : (a5[0].toNat : Int) = 45
            · have q4 : ((a5[0].toNat : Int) == 45) = true := beq_iff_eq.2 d45
              clear n37 n94 d45 Z1
              go_wp2_with fail
              go_ret
              exact ⟨rfl, HC.out⟩
            have q4 : ((a5[0].toNat : Int) == 45) = false := beq_eq_false_iff_ne.2 d45
            have hdash := not_dash a5 (by omega) d45
            by_cases r0 : a0 = a4
            · have r1 : (a0 == a4) = true := beq_iff_eq.2 r0
              have Y1 : Hid (∀ w, Calls Try.prog 11 #[.int .u8 a0, .string (wrapS [u8 a4] a5)] w fun e w' => e = .returned (.bool true) ∧ w' = w) := fun w => by have := Z1.out n37 n94 (.inr hdash) w; rw [r1] at this; exact this
              clear r0 Z1 n37 n94 d45 hdash
              go_wp2_with fail
              refine (setof_any _ 1 1 [u8 a4] a5 _ (pre1 wC2 a4 x0 x1) (by omega) hs).mono ?_
              rintro e wE ⟨rfl, hgE⟩
              have HE : Hid (Grown wY wE) := grown_trans (HC.out.alloc _ _) hgE
              clear hgE
              go_wp2_with fail
              refine (Y1.out _).mono ?_
              rintro e wE2 ⟨rfl, rfl⟩
              go_wp2_with fail
              go_ret
              exact ⟨rfl, HE.out⟩
            · have r1 : (a0 == a4) = false := beq_eq_false_iff_ne.2 r0
              have Y1 : Hid (∀ w, Calls Try.prog 11 #[.int .u8 a0, .string (wrapS [u8 a4] a5)] w fun e w' => e = .returned (.bool g) ∧ w' = w) := fun w => by have := Z1.out n37 n94 (.inr hdash) w; rw [r1] at this; exact this
              clear r0 Z1 n37 n94 d45 hdash
              go_wp2_with fail
              refine (setof_any _ 1 1 [u8 a4] a5 _ (pre1 wC2 a4 x0 x1) (by omega) hs).mono ?_
              rintro e wE ⟨rfl, hgE⟩
              have HE : Hid (Grown wY wE) := grown_trans (HC.out.alloc _ _) hgE
              clear hgE
              go_wp2_with fail
              refine (Y1.out _).mono ?_
              rintro e wE2 ⟨rfl, rfl⟩
              go_wp2_with fail
              go_ret
              exact ⟨rfl, HE.out⟩
          · have q3' : (a5.size : Int) < 2 := by omega
            by_cases r0 : a0 = a4
            · have r1 : (a0 == a4) = true := beq_iff_eq.2 r0
              have Y1 : Hid (∀ w, Calls Try.prog 11 #[.int .u8 a0, .string (wrapS [u8 a4] a5)] w fun e w' => e = .returned (.bool true) ∧ w' = w) := fun w => by have := Z1.out n37 n94 (.inl (by omega)) w; rw [r1] at this; exact this
              clear r0 Z1 n37 n94 q3
              go_wp2_with fail
              refine (setof_any _ 1 1 [u8 a4] a5 _ (pre1 wC2 a4 x0 x1) (by omega) hs).mono ?_
              rintro e wE ⟨rfl, hgE⟩
              have HE : Hid (Grown wY wE) := grown_trans (HC.out.alloc _ _) hgE
              clear hgE
              go_wp2_with fail
              refine (Y1.out _).mono ?_
              rintro e wE2 ⟨rfl, rfl⟩
              go_wp2_with fail
              go_ret
              exact ⟨rfl, HE.out⟩
            · have r1 : (a0 == a4) = false := beq_eq_false_iff_ne.2 r0
              have Y1 : Hid (∀ w, Calls Try.prog 11 #[.int .u8 a0, .string (wrapS [u8 a4] a5)] w fun e w' => e = .returned (.bool g) ∧ w' = w) := fun w => by have := Z1.out n37 n94 (.inl (by omega)) w; rw [r1] at this; exact this
              clear r0 Z1 n37 n94 q3
              go_wp2_with fail
              refine (setof_any _ 1 1 [u8 a4] a5 _ (pre1 wC2 a4 x0 x1) (by omega) hs).mono ?_
              rintro e wE ⟨rfl, hgE⟩
              have HE : Hid (Grown wY wE) := grown_trans (HC.out.alloc _ _) hgE
              clear hgE
              go_wp2_with fail
              refine (Y1.out _).mono ?_
              rintro e wE2 ⟨rfl, rfl⟩
              go_wp2_with fail
              go_ret
              exact ⟨rfl, HE.out⟩
    · skip
      go_wp2_with fail
      refine (z_none a0 _).mono ?_
      rintro e wX ⟨rfl, rfl⟩
      go_wp2_with fail
      refine (z_all a0 _).mono ?_
      rintro e wY ⟨rfl, rfl⟩
      go_wp2_with fail
      refine (setof_any none 0 0 [] a5 _ (pre_nil _) (by omega) hs).mono ?_
      rintro e wA ⟨rfl, hgA⟩
      have HA : Hid (Grown wY wA) := hgA
      clear hgA
      go_wp2_with fail
      refine (ZN.out _).mono ?_
      rintro e wA2 ⟨rfl, rfl⟩
      go_wp2_with fail
      refine (setof_any _ 2 2 [37, u8 a1] a5 _ (pre2 wA2 a1 cl0 cl1) (by omega) hs).mono ?_
      rintro e wB ⟨rfl, hgB⟩
      have HB : Hid (Grown wY wB) := grown_trans (HA.out.alloc _ _) hgB
      clear hgB HA
      go_wp2_with fail
      refine (Z2.out _).mono ?_
      rintro e wB2 ⟨rfl, rfl⟩
      go_wp2_with fail
      refine (zzmc_any a0 a1 _).mono ?_
      rintro e wB3 ⟨rfl, rfl⟩
      generalize mcB a0 a1 = mm at *
      clear ZN Z2 cl0 cl1 w0 w1 w2 w3 w4 c0 c1
      cases mm
      · skip
        by_cases m37 : a2 = 37
        · have f1 : (a2 != 37) = false := by simp [m37]
          clear m37 Z3
          by_cases n37 : a4 = 37
          · have q1 : (a4 != 37) = false := by simp [n37]
            clear n37 Z1
            go_wp2_with fail
            go_ret
            exact ⟨rfl, HB.out⟩
          have q1 : (a4 != 37) = true := by simp [n37]
          by_cases n94 : a4 = 94
          · have q2 : (a4 != 94) = false := by simp [n94]
            clear n37 n94 Z1
            go_wp2_with fail
            go_ret
            exact ⟨rfl, HB.out⟩
          have q2 : (a4 != 94) = true := by simp [n94]
          have q3 : (a5.size : Int) < 2 := by omega
          by_cases r0 : a0 = a4
          · have r1 : (a0 == a4) = true := beq_iff_eq.2 r0
            have Y1 : Hid (∀ w, Calls Try.prog 11 #[.int .u8 a0, .string (wrapS [u8 a4] a5)] w fun e w' => e = .returned (.bool true) ∧ w' = w) := fun w => by have := Z1.out n37 n94 (.inl (by omega)) w; rw [r1] at this; exact this
            clear r0 Z1 n37 n94
            go_wp2_with fail
            refine (setof_any _ 1 1 [u8 a4] a5 _ (pre1 wB3 a4 x0 x1) (by omega) hs).mono ?_
            rintro e wE ⟨rfl, hgE⟩
            have HE : Hid (Grown wY wE) := grown_trans (HB.out.alloc _ _) hgE
            clear hgE
            go_wp2_with fail
            refine (Y1.out _).mono ?_
            rintro e wE2 ⟨rfl, rfl⟩
            go_wp2_with fail
            go_ret
            exact ⟨rfl, HE.out⟩
          · have r1 : (a0 == a4) = false := beq_eq_false_iff_ne.2 r0
            have Y1 : Hid (∀ w, Calls Try.prog 11 #[.int .u8 a0, .string (wrapS [u8 a4] a5)] w fun e w' => e = .returned (.bool g) ∧ w' = w) := fun w => by have := Z1.out n37 n94 (.inl (by omega)) w; rw [r1] at this; exact this
            clear r0 Z1 n37 n94
            go_wp2_with fail
            refine (setof_any _ 1 1 [u8 a4] a5 _ (pre1 wB3 a4 x0 x1) (by omega) hs).mono ?_
            rintro e wE ⟨rfl, hgE⟩
            have HE : Hid (Grown wY wE) := grown_trans (HB.out.alloc _ _) hgE
            clear hgE
            go_wp2_with fail
            refine (Y1.out _).mono ?_
            rintro e wE2 ⟨rfl, rfl⟩
            go_wp2_with fail
            go_ret
            exact ⟨rfl, HE.out⟩
        have f1 : (a2 != 37) = true := by simp [m37]
        by_cases m94 : a2 = 94
        · have f2 : (a2 != 94) = false := by simp [m94]
          clear m37 m94 Z3
          by_cases n37 : a4 = 37
          · have q1 : (a4 != 37) = false := by simp [n37]
            clear n37 Z1
            go_wp2_with fail
            go_ret
            exact ⟨rfl, HB.out⟩
          have q1 : (a4 != 37) = true := by simp [n37]
          by_cases n94 : a4 = 94
          · have q2 : (a4 != 94) = false := by simp [n94]
            clear n37 n94 Z1
            go_wp2_with fail
            go_ret
            exact ⟨rfl, HB.out⟩
          have q2 : (a4 != 94) = true := by simp [n94]
          have q3 : (a5.size : Int) < 2 := by omega
          by_cases r0 : a0 = a4
          · have r1 : (a0 == a4) = true := beq_iff_eq.2 r0
            have Y1 : Hid (∀ w, Calls Try.prog 11 #[.int .u8 a0, .string (wrapS [u8 a4] a5)] w fun e w' => e = .returned (.bool true) ∧ w' = w) := fun w => by have := Z1.out n37 n94 (.inl (by omega)) w; rw [r1] at this; exact this
            clear r0 Z1 n37 n94
            go_wp2_with fail
            refine (setof_any _ 1 1 [u8 a4] a5 _ (pre1 wB3 a4 x0 x1) (by omega) hs).mono ?_
            rintro e wE ⟨rfl, hgE⟩
            have HE : Hid (Grown wY wE) := grown_trans (HB.out.alloc _ _) hgE
            clear hgE
            go_wp2_with fail
            refine (Y1.out _).mono ?_
            rintro e wE2 ⟨rfl, rfl⟩
            go_wp2_with fail
            go_ret
            exact ⟨rfl, HE.out⟩
          · have r1 : (a0 == a4) = false := beq_eq_false_iff_ne.2 r0
            have Y1 : Hid (∀ w, Calls Try.prog 11 #[.int .u8 a0, .string (wrapS [u8 a4] a5)] w fun e w' => e = .returned (.bool g) ∧ w' = w) := fun w => by have := Z1.out n37 n94 (.inl (by omega)) w; rw [r1] at this; exact this
            clear r0 Z1 n37 n94
            go_wp2_with fail
            refine (setof_any _ 1 1 [u8 a4] a5 _ (pre1 wB3 a4 x0 x1) (by omega) hs).mono ?_
            rintro e wE ⟨rfl, hgE⟩
            have HE : Hid (Grown wY wE) := grown_trans (HB.out.alloc _ _) hgE
            clear hgE
            go_wp2_with fail
            refine (Y1.out _).mono ?_
            rintro e wE2 ⟨rfl, rfl⟩
            go_wp2_with fail
            go_ret
            exact ⟨rfl, HE.out⟩
        have f2 : (a2 != 94) = true := by simp [m94]
        by_cases p1 : a2 ≤ a0
        · by_cases p2 : a0 ≤ a3
          · have Y3 : Hid (∀ w, Calls Try.prog 11 #[.int .u8 a0, .string (wrapS [u8 a2, 45, u8 a3] a5)] w fun e w' => e = .returned (.bool true) ∧ w' = w) := fun w => by have := Z3.out m37 m94 w; rw [decide_eq_true p1, decide_eq_true p2] at this; simpa using this
            clear m37 m94 Z3
            go_wp2_with fail
            refine (setof_any _ 3 3 [u8 a2, 45, u8 a3] a5 _ (pre3 wB3 a2 a3 lo0 lo1 hi0 hi1) (by omega) hs).mono ?_
            rintro e wC ⟨rfl, hgC⟩
            have HC : Hid (Grown wY wC) := grown_trans (HB.out.alloc _ _) hgC
            clear hgC HB
            go_wp2_with fail
            refine (Y3.out _).mono ?_
            rintro e wC2 ⟨rfl, rfl⟩
            clear Y3
            by_cases n37 : a4 = 37
            · have q1 : (a4 != 37) = false := by simp [n37]
              clear n37 Z1
              go_wp2_with fail
              go_ret
              exact ⟨rfl, HC.out⟩
            have q1 : (a4 != 37) = true := by simp [n37]
            by_cases n94 : a4 = 94
            · have q2 : (a4 != 94) = false := by simp [n94]
              clear n37 n94 Z1
              go_wp2_with fail
              go_ret
              exact ⟨rfl, HC.out⟩
            have q2 : (a4 != 94) = true := by simp [n94]
            have q3 : (a5.size : Int) < 2 := by omega
            by_cases r0 : a0 = a4
            · have r1 : (a0 == a4) = true := beq_iff_eq.2 r0
              have Y1 : Hid (∀ w, Calls Try.prog 11 #[.int .u8 a0, .string (wrapS [u8 a4] a5)] w fun e w' => e = .returned (.bool true) ∧ w' = w) := fun w => by have := Z1.out n37 n94 (.inl (by omega)) w; rw [r1] at this; exact this
              clear r0 Z1 n37 n94
              go_wp2_with fail
              refine (setof_any _ 1 1 [u8 a4] a5 _ (pre1 wC2 a4 x0 x1) (by omega) hs).mono ?_
              rintro e wE ⟨rfl, hgE⟩
              have HE : Hid (Grown wY wE) := grown_trans (HC.out.alloc _ _) hgE
              clear hgE
              go_wp2_with fail
              refine (Y1.out _).mono ?_
              rintro e wE2 ⟨rfl, rfl⟩
              go_wp2_with fail
              go_ret
              exact ⟨rfl, HE.out⟩
            · have r1 : (a0 == a4) = false := beq_eq_false_iff_ne.2 r0
              have Y1 : Hid (∀ w, Calls Try.prog 11 #[.int .u8 a0, .string (wrapS [u8 a4] a5)] w fun e w' => e = .returned (.bool g) ∧ w' = w) := fun w => by have := Z1.out n37 n94 (.inl (by omega)) w; rw [r1] at this; exact this
              clear r0 Z1 n37 n94
              go_wp2_with fail
              refine (setof_any _ 1 1 [u8 a4] a5 _ (pre1 wC2 a4 x0 x1) (by omega) hs).mono ?_
              rintro e wE ⟨rfl, hgE⟩
              have HE : Hid (Grown wY wE) := grown_trans (HC.out.alloc _ _) hgE
              clear hgE
              go_wp2_with fail
              refine (Y1.out _).mono ?_
              rintro e wE2 ⟨rfl, rfl⟩
              go_wp2_with fail
              go_ret
              exact ⟨rfl, HE.out⟩
          · have Y3 : Hid (∀ w, Calls Try.prog 11 #[.int .u8 a0, .string (wrapS [u8 a2, 45, u8 a3] a5)] w fun e w' => e = .returned (.bool g) ∧ w' = w) := fun w => by have := Z3.out m37 m94 w; rw [decide_eq_false p2] at this; simpa using this
            have p2d : decide (a0 ≤ a3) = false := decide_eq_false p2
            have p2' : a3 < a0 := by omega
            clear m37 m94 Z3 p2
            go_wp2_with fail
            refine (setof_any _ 3 3 [u8 a2, 45, u8 a3] a5 _ (pre3 wB3 a2 a3 lo0 lo1 hi0 hi1) (by omega) hs).mono ?_
            rintro e wC ⟨rfl, hgC⟩
            have HC : Hid (Grown wY wC) := grown_trans (HB.out.alloc _ _) hgC
            clear hgC HB
            go_wp2_with fail
            refine (Y3.out _).mono ?_
            rintro e wC2 ⟨rfl, rfl⟩
            clear Y3
            by_cases n37 : a4 = 37
            · have q1 : (a4 != 37) = false := by simp [n37]
              clear n37 Z1
              go_wp2_with fail
              go_ret
              exact ⟨rfl, HC.out⟩
            have q1 : (a4 != 37) = true := by simp [n37]
            by_cases n94 : a4 = 94
            · have q2 : (a4 != 94) = false := by simp [n94]
              clear n37 n94 Z1
              go_wp2_with fail
              go_ret
              exact ⟨rfl, HC.out⟩
            have q2 : (a4 != 94) = true := by simp [n94]
            have q3 : (a5.size : Int) < 2 := by omega
            by_cases r0 : a0 = a4
            · have r1 : (a0 == a4) = true := beq_iff_eq.2 r0
              have Y1 : Hid (∀ w, Calls Try.prog 11 #[.int .u8 a0, .string (wrapS [u8 a4] a5)] w fun e w' => e = .returned (.bool true) ∧ w' = w) := fun w => by have := Z1.out n37 n94 (.inl (by omega)) w; rw [r1] at this; exact this
              clear r0 Z1 n37 n94
              go_wp2_with fail
              refine (setof_any _ 1 1 [u8 a4] a5 _ (pre1 wC2 a4 x0 x1) (by omega) hs).mono ?_
              rintro e wE ⟨rfl, hgE⟩
              have HE : Hid (Grown wY wE) := grown_trans (HC.out.alloc _ _) hgE
              clear hgE
              go_wp2_with fail
              refine (Y1.out _).mono ?_
              rintro e wE2 ⟨rfl, rfl⟩
              go_wp2_with fail
              go_ret
              exact ⟨rfl, HE.out⟩
            · have r1 : (a0 == a4) = false := beq_eq_false_iff_ne.2 r0
              have Y1 : Hid (∀ w, Calls Try.prog 11 #[.int .u8 a0, .string (wrapS [u8 a4] a5)] w fun e w' => e = .returned (.bool g) ∧ w' = w) := fun w => by have := Z1.out n37 n94 (.inl (by omega)) w; rw [r1] at this; exact this
              clear r0 Z1 n37 n94
              go_wp2_with fail
              refine (setof_any _ 1 1 [u8 a4] a5 _ (pre1 wC2 a4 x0 x1) (by omega) hs).mono ?_
              rintro e wE ⟨rfl, hgE⟩
              have HE : Hid (Grown wY wE) := grown_trans (HC.out.alloc _ _) hgE
              clear hgE
              go_wp2_with fail
              refine (Y1.out _).mono ?_
              rintro e wE2 ⟨rfl, rfl⟩
              go_wp2_with fail
              go_ret
              exact ⟨rfl, HE.out⟩
        · have Y3 : Hid (∀ w, Calls Try.prog 11 #[.int .u8 a0, .string (wrapS [u8 a2, 45, u8 a3] a5)] w fun e w' => e = .returned (.bool g) ∧ w' = w) := fun w => by have := Z3.out m37 m94 w; rw [decide_eq_false p1] at this; simpa using this
          have p1' : a0 < a2 := by omega
          clear m37 m94 Z3 p1
          go_wp2_with fail
          refine (setof_any _ 3 3 [u8 a2, 45, u8 a3] a5 _ (pre3 wB3 a2 a3 lo0 lo1 hi0 hi1) (by omega) hs).mono ?_
          rintro e wC ⟨rfl, hgC⟩
          have HC : Hid (Grown wY wC) := grown_trans (HB.out.alloc _ _) hgC
          clear hgC HB
          go_wp2_with fail
          refine (Y3.out _).mono ?_
          rintro e wC2 ⟨rfl, rfl⟩
          clear Y3
          by_cases n37 : a4 = 37
          · have q1 : (a4 != 37) = false := by simp [n37]
            clear n37 Z1
            go_wp2_with fail
            go_ret
            exact ⟨rfl, HC.out⟩
          have q1 : (a4 != 37) = true := by simp [n37]
          by_cases n94 : a4 = 94
          · have q2 : (a4 != 94) = false := by simp [n94]
            clear n37 n94 Z1
            go_wp2_with fail
            go_ret
            exact ⟨rfl, HC.out⟩
          have q2 : (a4 != 94) = true := by simp [n94]
          have q3 : (a5.size : Int) < 2 := by omega
          by_cases r0 : a0 = a4
          · have r1 : (a0 == a4) = true := beq_iff_eq.2 r0
            have Y1 : Hid (∀ w, Calls Try.prog 11 #[.int .u8 a0, .string (wrapS [u8 a4] a5)] w fun e w' => e = .returned (.bool true) ∧ w' = w) := fun w => by have := Z1.out n37 n94 (.inl (by omega)) w; rw [r1] at this; exact this
            clear r0 Z1 n37 n94
            go_wp2_with fail
            refine (setof_any _ 1 1 [u8 a4] a5 _ (pre1 wC2 a4 x0 x1) (by omega) hs).mono ?_
            rintro e wE ⟨rfl, hgE⟩
            have HE : Hid (Grown wY wE) := grown_trans (HC.out.alloc _ _) hgE
            clear hgE
            go_wp2_with fail
            refine (Y1.out _).mono ?_
            rintro e wE2 ⟨rfl, rfl⟩
            go_wp2_with fail
            go_ret
            exact ⟨rfl, HE.out⟩
          · have r1 : (a0 == a4) = false := beq_eq_false_iff_ne.2 r0
            have Y1 : Hid (∀ w, Calls Try.prog 11 #[.int .u8 a0, .string (wrapS [u8 a4] a5)] w fun e w' => e = .returned (.bool g) ∧ w' = w) := fun w => by have := Z1.out n37 n94 (.inl (by omega)) w; rw [r1] at this; exact this
            clear r0 Z1 n37 n94
            go_wp2_with fail
            refine (setof_any _ 1 1 [u8 a4] a5 _ (pre1 wC2 a4 x0 x1) (by omega) hs).mono ?_
            rintro e wE ⟨rfl, hgE⟩
            have HE : Hid (Grown wY wE) := grown_trans (HC.out.alloc _ _) hgE
            clear hgE
            go_wp2_with fail
            refine (Y1.out _).mono ?_
            rintro e wE2 ⟨rfl, rfl⟩
            go_wp2_with fail
            go_ret
            exact ⟨rfl, HE.out⟩
      · skip
        by_cases m37 : a2 = 37
        · have f1 : (a2 != 37) = false := by simp [m37]
          clear m37 Z3
          by_cases n37 : a4 = 37
          · have q1 : (a4 != 37) = false := by simp [n37]
            clear n37 Z1
            go_wp2_with fail
            go_ret
            exact ⟨rfl, HB.out⟩
          have q1 : (a4 != 37) = true := by simp [n37]
          by_cases n94 : a4 = 94
          · have q2 : (a4 != 94) = false := by simp [n94]
            clear n37 n94 Z1
            go_wp2_with fail
            go_ret
            exact ⟨rfl, HB.out⟩
          have q2 : (a4 != 94) = true := by simp [n94]
          have q3 : (a5.size : Int) < 2 := by omega
          by_cases r0 : a0 = a4
          · have r1 : (a0 == a4) = true := beq_iff_eq.2 r0
            have Y1 : Hid (∀ w, Calls Try.prog 11 #[.int .u8 a0, .string (wrapS [u8 a4] a5)] w fun e w' => e = .returned (.bool true) ∧ w' = w) := fun w => by have := Z1.out n37 n94 (.inl (by omega)) w; rw [r1] at this; exact this
            clear r0 Z1 n37 n94
            go_wp2_with fail
            refine (setof_any _ 1 1 [u8 a4] a5 _ (pre1 wB3 a4 x0 x1) (by omega) hs).mono ?_
            rintro e wE ⟨rfl, hgE⟩
            have HE : Hid (Grown wY wE) := grown_trans (HB.out.alloc _ _) hgE
            clear hgE
            go_wp2_with fail
            refine (Y1.out _).mono ?_
            rintro e wE2 ⟨rfl, rfl⟩
            go_wp2_with fail
            go_ret
            exact ⟨rfl, HE.out⟩
          · have r1 : (a0 == a4) = false := beq_eq_false_iff_ne.2 r0
            have Y1 : Hid (∀ w, Calls Try.prog 11 #[.int .u8 a0, .string (wrapS [u8 a4] a5)] w fun e w' => e = .returned (.bool g) ∧ w' = w) := fun w => by have := Z1.out n37 n94 (.inl (by omega)) w; rw [r1] at this; exact this
            clear r0 Z1 n37 n94
            go_wp2_with fail
            refine (setof_any _ 1 1 [u8 a4] a5 _ (pre1 wB3 a4 x0 x1) (by omega) hs).mono ?_
            rintro e wE ⟨rfl, hgE⟩
            have HE : Hid (Grown wY wE) := grown_trans (HB.out.alloc _ _) hgE
            clear hgE
            go_wp2_with fail
            refine (Y1.out _).mono ?_
            rintro e wE2 ⟨rfl, rfl⟩
            go_wp2_with fail
            go_ret
            exact ⟨rfl, HE.out⟩
        have f1 : (a2 != 37) = true := by simp [m37]
        by_cases m94 : a2 = 94
        · have f2 : (a2 != 94) = false := by simp [m94]
          clear m37 m94 Z3
          by_cases n37 : a4 = 37
          · have q1 : (a4 != 37) = false := by simp [n37]
            clear n37 Z1
            go_wp2_with fail
            go_ret
            exact ⟨rfl, HB.out⟩
          have q1 : (a4 != 37) = true := by simp [n37]
          by_cases n94 : a4 = 94
          · have q2 : (a4 != 94) = false := by simp [n94]
            clear n37 n94 Z1
            go_wp2_with fail
            go_ret
            exact ⟨rfl, HB.out⟩
          have q2 : (a4 != 94) = true := by simp [n94]
          have q3 : (a5.size : Int) < 2 := by omega
          by_cases r0 : a0 = a4
          · have r1 : (a0 == a4) = true := beq_iff_eq.2 r0
            have Y1 : Hid (∀ w, Calls Try.prog 11 #[.int .u8 a0, .string (wrapS [u8 a4] a5)] w fun e w' => e = .returned (.bool true) ∧ w' = w) := fun w => by have := Z1.out n37 n94 (.inl (by omega)) w; rw [r1] at this; exact this
            clear r0 Z1 n37 n94
            go_wp2_with fail
            refine (setof_any _ 1 1 [u8 a4] a5 _ (pre1 wB3 a4 x0 x1) (by omega) hs).mono ?_
            rintro e wE ⟨rfl, hgE⟩
            have HE : Hid (Grown wY wE) := grown_trans (HB.out.alloc _ _) hgE
            clear hgE
            go_wp2_with fail
            refine (Y1.out _).mono ?_
            rintro e wE2 ⟨rfl, rfl⟩
            go_wp2_with fail
            go_ret
            exact ⟨rfl, HE.out⟩
          · have r1 : (a0 == a4) = false := beq_eq_false_iff_ne.2 r0
            have Y1 : Hid (∀ w, Calls Try.prog 11 #[.int .u8 a0, .string (wrapS [u8 a4] a5)] w fun e w' => e = .returned (.bool g) ∧ w' = w) := fun w => by have := Z1.out n37 n94 (.inl (by omega)) w; rw [r1] at this; exact this
            clear r0 Z1 n37 n94
            go_wp2_with fail
            refine (setof_any _ 1 1 [u8 a4] a5 _ (pre1 wB3 a4 x0 x1) (by omega) hs).mono ?_
            rintro e wE ⟨rfl, hgE⟩
            have HE : Hid (Grown wY wE) := grown_trans (HB.out.alloc _ _) hgE
            clear hgE
            go_wp2_with fail
            refine (Y1.out _).mono ?_
            rintro e wE2 ⟨rfl, rfl⟩
            go_wp2_with fail
            go_ret
            exact ⟨rfl, HE.out⟩
        have f2 : (a2 != 94) = true := by simp [m94]
        by_cases p1 : a2 ≤ a0
        · by_cases p2 : a0 ≤ a3
          · have Y3 : Hid (∀ w, Calls Try.prog 11 #[.int .u8 a0, .string (wrapS [u8 a2, 45, u8 a3] a5)] w fun e w' => e = .returned (.bool true) ∧ w' = w) := fun w => by have := Z3.out m37 m94 w; rw [decide_eq_true p1, decide_eq_true p2] at this; simpa using this
            clear m37 m94 Z3
            go_wp2_with fail
            refine (setof_any _ 3 3 [u8 a2, 45, u8 a3] a5 _ (pre3 wB3 a2 a3 lo0 lo1 hi0 hi1) (by omega) hs).mono ?_
            rintro e wC ⟨rfl, hgC⟩
            have HC : Hid (Grown wY wC) := grown_trans (HB.out.alloc _ _) hgC
            clear hgC HB
            go_wp2_with fail
            refine (Y3.out _).mono ?_
            rintro e wC2 ⟨rfl, rfl⟩
            clear Y3
            by_cases n37 : a4 = 37
            · have q1 : (a4 != 37) = false := by simp [n37]
              clear n37 Z1
              go_wp2_with fail
              go_ret
              exact ⟨rfl, HC.out⟩
            have q1 : (a4 != 37) = true := by simp [n37]
            by_cases n94 : a4 = 94
            · have q2 : (a4 != 94) = false := by simp [n94]
              clear n37 n94 Z1
              go_wp2_with fail
              go_ret
              exact ⟨rfl, HC.out⟩
            have q2 : (a4 != 94) = true := by simp [n94]
            have q3 : (a5.size : Int) < 2 := by omega
            by_cases r0 : a0 = a4
            · have r1 : (a0 == a4) = true := beq_iff_eq.2 r0
              have Y1 : Hid (∀ w, Calls Try.prog 11 #[.int .u8 a0, .string (wrapS [u8 a4] a5)] w fun e w' => e = .returned (.bool true) ∧ w' = w) := fun w => by have := Z1.out n37 n94 (.inl (by omega)) w; rw [r1] at this; exact this
              clear r0 Z1 n37 n94
              go_wp2_with fail
              refine (setof_any _ 1 1 [u8 a4] a5 _ (pre1 wC2 a4 x0 x1) (by omega) hs).mono ?_
              rintro e wE ⟨rfl, hgE⟩
              have HE : Hid (Grown wY wE) := grown_trans (HC.out.alloc _ _) hgE
              clear hgE
              go_wp2_with fail
              refine (Y1.out _).mono ?_
              rintro e wE2 ⟨rfl, rfl⟩
              go_wp2_with fail
              go_ret
              exact ⟨rfl, HE.out⟩
            · have r1 : (a0 == a4) = false := beq_eq_false_iff_ne.2 r0
              have Y1 : Hid (∀ w, Calls Try.prog 11 #[.int .u8 a0, .string (wrapS [u8 a4] a5)] w fun e w' => e = .returned (.bool g) ∧ w' = w) := fun w => by have := Z1.out n37 n94 (.inl (by omega)) w; rw [r1] at this; exact this
              clear r0 Z1 n37 n94
              go_wp2_with fail
              refine (setof_any _ 1 1 [u8 a4] a5 _ (pre1 wC2 a4 x0 x1) (by omega) hs).mono ?_
              rintro e wE ⟨rfl, hgE⟩
              have HE : Hid (Grown wY wE) := grown_trans (HC.out.alloc _ _) hgE
              clear hgE
              go_wp2_with fail
              refine (Y1.out _).mono ?_
              rintro e wE2 ⟨rfl, rfl⟩
              go_wp2_with fail
              go_ret
              exact ⟨rfl, HE.out⟩
          · have Y3 : Hid (∀ w, Calls Try.prog 11 #[.int .u8 a0, .string (wrapS [u8 a2, 45, u8 a3] a5)] w fun e w' => e = .returned (.bool g) ∧ w' = w) := fun w => by have := Z3.out m37 m94 w; rw [decide_eq_false p2] at this; simpa using this
            have p2d : decide (a0 ≤ a3) = false := decide_eq_false p2
            have p2' : a3 < a0 := by omega
            clear m37 m94 Z3 p2
            go_wp2_with fail
            refine (setof_any _ 3 3 [u8 a2, 45, u8 a3] a5 _ (pre3 wB3 a2 a3 lo0 lo1 hi0 hi1) (by omega) hs).mono ?_
            rintro e wC ⟨rfl, hgC⟩
            have HC : Hid (Grown wY wC) := grown_trans (HB.out.alloc _ _) hgC
            clear hgC HB
            go_wp2_with fail
            refine (Y3.out _).mono ?_
            rintro e wC2 ⟨rfl, rfl⟩
            clear Y3
            by_cases n37 : a4 = 37
            · have q1 : (a4 != 37) = false := by simp [n37]
              clear n37 Z1
              go_wp2_with fail
              go_ret
              exact ⟨rfl, HC.out⟩
            have q1 : (a4 != 37) = true := by simp [n37]
            by_cases n94 : a4 = 94
            · have q2 : (a4 != 94) = false := by simp [n94]
              clear n37 n94 Z1
              go_wp2_with fail
              go_ret
              exact ⟨rfl, HC.out⟩
            have q2 : (a4 != 94) = true := by simp [n94]
            have q3 : (a5.size : Int) < 2 := by omega
            by_cases r0 : a0 = a4
            · have r1 : (a0 == a4) = true := beq_iff_eq.2 r0
              have Y1 : Hid (∀ w, Calls Try.prog 11 #[.int .u8 a0, .string (wrapS [u8 a4] a5)] w fun e w' => e = .returned (.bool true) ∧ w' = w) := fun w => by have := Z1.out n37 n94 (.inl (by omega)) w; rw [r1] at this; exact this
              clear r0 Z1 n37 n94
              go_wp2_with fail
              refine (setof_any _ 1 1 [u8 a4] a5 _ (pre1 wC2 a4 x0 x1) (by omega) hs).mono ?_
              rintro e wE ⟨rfl, hgE⟩
              have HE : Hid (Grown wY wE) := grown_trans (HC.out.alloc _ _) hgE
              clear hgE
              go_wp2_with fail
              refine (Y1.out _).mono ?_
              rintro e wE2 ⟨rfl, rfl⟩
              go_wp2_with fail
              go_ret
              exact ⟨rfl, HE.out⟩
            · have r1 : (a0 == a4) = false := beq_eq_false_iff_ne.2 r0
              have Y1 : Hid (∀ w, Calls Try.prog 11 #[.int .u8 a0, .string (wrapS [u8 a4] a5)] w fun e w' => e = .returned (.bool g) ∧ w' = w) := fun w => by have := Z1.out n37 n94 (.inl (by omega)) w; rw [r1] at this; exact this
              clear r0 Z1 n37 n94
              go_wp2_with fail
              refine (setof_any _ 1 1 [u8 a4] a5 _ (pre1 wC2 a4 x0 x1) (by omega) hs).mono ?_
              rintro e wE ⟨rfl, hgE⟩
              have HE : Hid (Grown wY wE) := grown_trans (HC.out.alloc _ _) hgE
              clear hgE
              go_wp2_with fail
              refine (Y1.out _).mono ?_
              rintro e wE2 ⟨rfl, rfl⟩
              go_wp2_with fail
              go_ret
              exact ⟨rfl, HE.out⟩
        · have Y3 : Hid (∀ w, Calls Try.prog 11 #[.int .u8 a0, .string (wrapS [u8 a2, 45, u8 a3] a5)] w fun e w' => e = .returned (.bool g) ∧ w' = w) := fun w => by have := Z3.out m37 m94 w; rw [decide_eq_false p1] at this; simpa using this
          have p1' : a0 < a2 := by omega
          clear m37 m94 Z3 p1
          go_wp2_with fail
          refine (setof_any _ 3 3 [u8 a2, 45, u8 a3] a5 _ (pre3 wB3 a2 a3 lo0 lo1 hi0 hi1) (by omega) hs).mono ?_
          rintro e wC ⟨rfl, hgC⟩
          have HC : Hid (Grown wY wC) := grown_trans (HB.out.alloc _ _) hgC
          clear hgC HB
          go_wp2_with fail
          refine (Y3.out _).mono ?_
          rintro e wC2 ⟨rfl, rfl⟩
          clear Y3
          by_cases n37 : a4 = 37
          · have q1 : (a4 != 37) = false := by simp [n37]
            clear n37 Z1
            go_wp2_with fail
            go_ret
            exact ⟨rfl, HC.out⟩
          have q1 : (a4 != 37) = true := by simp [n37]
          by_cases n94 : a4 = 94
          · have q2 : (a4 != 94) = false := by simp [n94]
            clear n37 n94 Z1
            go_wp2_with fail
            go_ret
            exact ⟨rfl, HC.out⟩
          have q2 : (a4 != 94) = true := by simp [n94]
          have q3 : (a5.size : Int) < 2 := by omega
          by_cases r0 : a0 = a4
          · have r1 : (a0 == a4) = true := beq_iff_eq.2 r0
            have Y1 : Hid (∀ w, Calls Try.prog 11 #[.int .u8 a0, .string (wrapS [u8 a4] a5)] w fun e w' => e = .returned (.bool true) ∧ w' = w) := fun w => by have := Z1.out n37 n94 (.inl (by omega)) w; rw [r1] at this; exact this
            clear r0 Z1 n37 n94
            go_wp2_with fail
            refine (setof_any _ 1 1 [u8 a4] a5 _ (pre1 wC2 a4 x0 x1) (by omega) hs).mono ?_
            rintro e wE ⟨rfl, hgE⟩
            have HE : Hid (Grown wY wE) := grown_trans (HC.out.alloc _ _) hgE
            clear hgE
            go_wp2_with fail
            refine (Y1.out _).mono ?_
            rintro e wE2 ⟨rfl, rfl⟩
            go_wp2_with fail
            go_ret
            exact ⟨rfl, HE.out⟩
          · have r1 : (a0 == a4) = false := beq_eq_false_iff_ne.2 r0
            have Y1 : Hid (∀ w, Calls Try.prog 11 #[.int .u8 a0, .string (wrapS [u8 a4] a5)] w fun e w' => e = .returned (.bool g) ∧ w' = w) := fun w => by have := Z1.out n37 n94 (.inl (by omega)) w; rw [r1] at this; exact this
            clear r0 Z1 n37 n94
            go_wp2_with fail
            refine (setof_any _ 1 1 [u8 a4] a5 _ (pre1 wC2 a4 x0 x1) (by omega) hs).mono ?_
            rintro e wE ⟨rfl, hgE⟩
            have HE : Hid (Grown wY wE) := grown_trans (HC.out.alloc _ _) hgE
            clear hgE
            go_wp2_with fail
            refine (Y1.out _).mono ?_
            rintro e wE2 ⟨rfl, rfl⟩
            go_wp2_with fail
            go_ret
            exact ⟨rfl, HE.out⟩

/-! ### THE ROW's STEP: WRITTEN OUT: LEAVE IT -/
set_option maxRecDepth 100000 in
theorem lifted (os : Os) (started : os.Started) (H : Type) (enc : TypeId × Value → H) :
    ReturnsInHanded {} Try.checked os 6 .any (Rows.fnMatchSetFirstItemSpec.pre6 enc Try.prog Try.f6 Rows.fnMatchSetFirstItemRow.domain false) (Rows.fnMatchSetFirstItemSpec.post enc Try.prog Try.f6 false true false false) := by
  refine returnsInHanded_of_change (C := Try.checked) own started (by kernel_rfl) Try.func6
    (ChangeSpec.witness6 (enc := enc) (C := Try.checked) false ⟨#[], #[.int .u8 0, .int .u8 0, .int .u8 0, .int .u8 0, .int .u8 0, .string ByteArray.empty], []⟩ 8 (by kernel_rfl) (by kernel_rfl) (by kernel_rfl) (by kernel_rfl)) ?_
  intro W base args ds gs before hval0 hW hcnd _
  have hval : ∀ (j : Nat) t v, Try.f6.params[j]? = some t → args[j]? = some v → Value.okWide Try.prog W .any base t v := hval0
  have hW' := hW
  obtain ⟨p, q, hA0, hV, rfl, hfz, hnd⟩ := hW
  have hA : DataW.TrodAll enc Try.prog W 0 (fun _ => true) true Try.f6.params.toList args.toList ds p := hA0
  rw [Try.params6] at hA hval
  obtain ⟨v0, vs0, d0, ds0, p0, q0, hargs, rfl, rfl, h0, r0⟩ := trodAll_cons hA
  obtain ⟨v1, vs1, d1, ds1, p1, q1, rfl, rfl, rfl, h1, r1⟩ := trodAll_cons r0
  obtain ⟨v2, vs2, d2, ds2, p2, q2, rfl, rfl, rfl, h2, r2⟩ := trodAll_cons r1
  obtain ⟨v3, vs3, d3, ds3, p3, q3, rfl, rfl, rfl, h3, r3⟩ := trodAll_cons r2
  obtain ⟨v4, vs4, d4, ds4, p4, q4, rfl, rfl, rfl, h4, r4⟩ := trodAll_cons r3
  obtain ⟨v5, vs5, d5, ds5, p5, q5, rfl, rfl, rfl, h5, r5⟩ := trodAll_cons r4
  obtain ⟨rfl, rfl, rfl⟩ := trodAll_nil r5
  obtain rfl : args = #[v0, v1, v2, v3, v4, v5] := by cases args; simp_all
  obtain ⟨rfl, rfl⟩ := trodVars_none hV
  obtain ⟨a0, rfl, rfl, rfl, w0⟩ := open_int Try.underlying5 (hval 0 5 v0 rfl rfl) h0
  obtain ⟨a1, rfl, rfl, rfl, w1⟩ := open_int Try.underlying5 (hval 1 5 v1 rfl rfl) h1
  obtain ⟨a2, rfl, rfl, rfl, w2⟩ := open_int Try.underlying5 (hval 2 5 v2 rfl rfl) h2
  obtain ⟨a3, rfl, rfl, rfl, w3⟩ := open_int Try.underlying5 (hval 3 5 v3 rfl rfl) h3
  obtain ⟨a4, rfl, rfl, rfl, w4⟩ := open_int Try.underlying5 (hval 4 5 v4 rfl rfl) h4
  obtain ⟨a5, rfl, rfl, rfl, w5⟩ := open_string Try.underlying9 (hval 5 9 v5 rfl rfl) h5
  clear hA0 hval0
  simp only [List.append_nil] at hW'
  refine (walk a0 a1 a2 a3 a4 a5 w0 w1 w2 w3 w4 w5 W).mono fun e W' ⟨he, hg⟩ => ?_
  subst he
  exact ⟨_, rfl, post_of_same (pa := []) (pv := []) hW' (fun _ _ _ => (trodAll_cons_mk (shut_bool Try.underlying4 _) trodAll_mk0)) (fun sp _ => (trodAll_cons_mk (shut_int Try.underlying5 w0) (trodAll_cons_mk (shut_int Try.underlying5 w1) (trodAll_cons_mk (shut_int Try.underlying5 w2) (trodAll_cons_mk (shut_int Try.underlying5 w3) (trodAll_cons_mk (shut_int Try.underlying5 w4) (trodAll_cons_mk (shut_string Try.underlying9 w5) trodAll_mk0))))))) (fun _ _ => rfl) rfl
    (hg.frame _) hg.2.1 (ok_one (by kernel_rfl) rfl (okWide_bool_mk Try.underlying4 _))⟩

theorem over : Rows.fnMatchSetFirstItemRow.holds Try.pinned (OpenSpec.ofChange Rows.fnMatchSetFirstItemSpec) :=
  OpenClaim.holds_of_wide 6 Try.f6 rfl rfl rfl rfl rfl rfl rfl ⟨rfl, rfl, rfl, rfl, rfl⟩ rfl rfl rfl rfl rfl (by kernel_rfl) Try.func6 (by kernel_rfl)
    (of_decide_eq_true (by kernel_rfl)) (by unfold Func.isWrapper; first | (rw [if_pos (by decide +kernel)]; kernel_rfl) | (rw [if_neg (by decide +kernel)]; exact ⟨rfl, rfl⟩))
    (fun os started H enc _ => lifted os started H enc)

/-- ████ THE STATEMENT ████ -/
theorem proved : Rows.FnMatchSetFirstItemSaid :=
  over
#print axioms proved
end Go.Proofs.Qxb6602654a.fnMatchSetFirstItem
