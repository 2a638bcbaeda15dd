/-
  DERIVED. A proof of 'Rows.FnHasShapeLiteralShapeIsEqualitySaid': the shell as the tool wrote it, its hole filled.
-/
import Derived.Test.Qxb6002680aRows
import Derived.WalkKit
import Derived.ProofKit
import Derived.OpenShut
import Derived.ShutString
import Derived.WalkSpells
import Derived.Test.Qxb6002680aShape
namespace Go.Proofs.Qxb6002680a.fnHasShapeLiteralShapeIsEquality
open Go.ChangeShapes Go.WideShapes Go.ChangeAt Go.RowKit
open Go.ChangeMaps (open_string shut_string)
set_option linter.unusedVariables false      -- a walk need not use every 'w<i>' (that an integer argument fits its kind)

theorem own : ownKnob Try.prog.godebug = none := by kernel_rfl

/-! ### The program's own bound on lengths: it answers a bool and only computes. -/
theorem bound (s p : ByteArray) (w : World) (hs : s.size ≤ maxLen) (hp : p.size ≤ maxLen) :
    Calls Try.prog 9 #[.string s, .string p] w fun e w' => ∃ b : Bool, e = .returned (.bool b) ∧ w' = w := by
  unfold maxLen at hs hp
  go_enter Try.func9, Try.ntmps9
  go_wp2
  all_goals
    go_ret
    exact ⟨_, rfl, rfl⟩

theorem grown_drewN (w : World) (n : Nat) : Grown w (w.drewN n) := Grown.refl w

/-! ### The plain law: a shape with no 'd' fits that one string. -/
theorem bytes_ext {a b : ByteArray} (hl : a.size = b.size) (h : ∀ j (h1 : j < a.size) (h2 : j < b.size), a[j] = b[j]) : a = b := by
  cases a with | mk a => cases b with | mk b =>
  congr 1
  exact Array.ext hl (fun i h1 h2 => h i h1 h2)
theorem toList_inj {a b : ByteArray} (h : a.toList = b.toList) : a = b := by
  rw [ByteArray.toList_eq, ByteArray.toList_eq] at h
  cases a; cases b
  simp at h
  rw [h]
theorem fit1_same {a b : UInt8} (hb : ¬ b.toNat = 100) : fit1 a b = true ↔ a = b := by
  unfold fit1
  rw [if_neg hb]
  simp [UInt8.toNat_inj]
theorem lit_eq {s p : ByteArray} {r : Bool} (hn : ∀ j (h : j < p.size), ¬ p[j].toNat = 100) (hr : r = true ↔ s.size = p.size ∧ Fits s p s.size) : (r == (s.toList == p.toList)) = true := by
  have key : r = true ↔ s.toList = p.toList := by
    rw [hr]
    constructor
    · rintro ⟨hl, hf⟩
      rw [bytes_ext hl (fun j h1 h2 => (fit1_same (hn j h2)).1 (hf j h1 h2 h1))]
    · intro h
      have := toList_inj h
      subst this
      exact ⟨rfl, fun j h1 h2 _ => (fit1_same (hn j h2)).2 rfl⟩
  by_cases h : s.toList = p.toList
  · rw [key.2 h, h]; simp
  · have hf : r = false := by
      cases r
      · rfl
      · exact absurd (key.1 rfl) h
    rw [hf]; simpa using h


/-! ### STEP 1: THE WALK: the Go text returns true. 'Grown w w'': the world has at most new blocks (Derived/RowKit3.lean). Part the cases AHEAD of 'go_enter' where a test parts the walk; take each callee by a contract of your own. -/
theorem walk (a0 : ByteArray) (a1 : ByteArray) (w0 : a0.size ≤ maxLen) (w1 : a1.size ≤ maxLen) (w : World) :
    Calls Try.prog 3 #[.string a0, .string a1] w fun e w' => e = .returned (.bool true) ∧ Grown w w' := by
  have hs := w0
  unfold maxLen at w0 w1
  go_enter Try.func3, Try.ntmps3
  go_wp2_with fail
  refine (bound a0 a1 _ (by unfold maxLen; exact w0) (by unfold maxLen; exact w1)).mono ?_
  rintro e w' ⟨b, rfl, rfl⟩
  cases b
  · go_wp2
    go_ret
    exact ⟨rfl, Grown.refl _⟩
  · by_cases g0 : (524288 : Int) < a0.size
    · go_wp2
      go_ret
      exact ⟨rfl, Grown.refl _⟩
    by_cases g1 : (524288 : Int) < a1.size
    · go_wp2
      go_ret
      exact ⟨rfl, Grown.refl _⟩
    go_wp2
    go_loop [5] (fun i => ∃ k : Nat, k ≤ a1.size ∧ i = .int .i64 k ∧ ∀ j (h : j < a1.size), j < k → ¬ a1[j].toNat = 100) (fun i => a1.size - (intOf i).toNat)
    case atStart => exact ⟨0, Nat.zero_le _, rfl, fun j _ hj => absurd hj (Nat.not_lt_zero _)⟩
    case round =>
      obtain ⟨k, hk, rfl, hno⟩ := hrel
      have HN : Hid (∀ j (h : j < a1.size), j < k → ¬ a1[j].toNat = 100) := hno
      clear hno
      by_cases hlt : k < a1.size
      · by_cases hd : ((a1[k].toNat : Int) == 100) = true
        · go_wp2
          go_ret
          exact ⟨rfl, Grown.refl _⟩
        · have hd1 : ((a1[k].toNat : Int) == 100) = false := by simpa using hd
          clear hd
          go_wp2
          go_round
          case rel =>
            refine ⟨k + 1, by omega, by go_num, fun j h hj => ?_⟩
            by_cases e : j = k
            · subst e; have := of_decide_eq_false hd1; omega
            · exact HN.out j h (by omega)
          case measure => simp [intOf]; omega
      · go_wp2_with fail
        refine (zzshape_any a0 a1 _ hs).mono ?_
        rintro e w1 ⟨r, rfl, hr, n, rfl⟩
        have HR : Hid (r = true ↔ a0.size = a1.size ∧ Fits a0 a1 a0.size) := hr
        clear hr
        go_wp2_with fail
        go_ret
        exact ⟨congrArg (fun b => Ending.returned (Value.bool b)) (lit_eq (fun j h => HN.out j h (by omega)) HR.out), grown_drewN _ _⟩

/-! ### THE ROW's STEP: WRITTEN OUT: LEAVE IT -/
set_option maxRecDepth 100000 in
theorem lifted (os : Os) (started : os.Started) (H : Type) (enc : TypeId × Value → H) :
    ReturnsInHanded {} Try.checked os 3 .any (Rows.fnHasShapeLiteralShapeIsEqualitySpec.pre6 enc Try.prog Try.f3 Rows.fnHasShapeLiteralShapeIsEqualityRow.domain false) (Rows.fnHasShapeLiteralShapeIsEqualitySpec.post enc Try.prog Try.f3 false true false false) := by
  refine returnsInHanded_of_change (C := Try.checked) own started (by kernel_rfl) Try.func3
    (ChangeSpec.witness6 (enc := enc) (C := Try.checked) false ⟨#[], #[.string ByteArray.empty, .string ByteArray.empty], []⟩ 8 (by kernel_rfl) (by kernel_rfl) (by kernel_rfl) (by kernel_rfl)) ?_
  intro W base args ds gs before hval0 hW hcnd _
  have hval : ∀ (j : Nat) t v, Try.f3.params[j]? = some t → args[j]? = some v → Value.okWide Try.prog W .any base t v := hval0
  have hW' := hW
  obtain ⟨p, q, hA0, hV, rfl, hfz, hnd⟩ := hW
  have hA : DataW.TrodAll enc Try.prog W 0 (fun _ => true) true Try.f3.params.toList args.toList ds p := hA0
  rw [Try.params3] at hA hval
  obtain ⟨v0, vs0, d0, ds0, p0, q0, hargs, rfl, rfl, h0, r0⟩ := trodAll_cons hA
  obtain ⟨v1, vs1, d1, ds1, p1, q1, rfl, rfl, rfl, h1, r1⟩ := trodAll_cons r0
  obtain ⟨rfl, rfl, rfl⟩ := trodAll_nil r1
  obtain rfl : args = #[v0, v1] := by cases args; simp_all
  obtain ⟨rfl, rfl⟩ := trodVars_none hV
  obtain ⟨a0, rfl, rfl, rfl, w0⟩ := open_string Try.underlying9 (hval 0 9 v0 rfl rfl) h0
  obtain ⟨a1, rfl, rfl, rfl, w1⟩ := open_string Try.underlying9 (hval 1 9 v1 rfl rfl) h1
  clear hA0 hval0
  simp only [List.append_nil] at hW'
  refine (walk a0 a1 w0 w1 W).mono fun e W' ⟨he, hg⟩ => ?_
  subst he
  exact ⟨_, rfl, post_of_same (pa := []) (pv := []) hW' (fun _ _ _ => (trodAll_cons_mk (shut_bool Try.underlying4 _) trodAll_mk0)) (fun sp _ => (trodAll_cons_mk (shut_string Try.underlying9 w0) (trodAll_cons_mk (shut_string Try.underlying9 w1) trodAll_mk0))) (fun _ _ => rfl) rfl
    (hg.frame _) hg.2.1 (ok_one (by kernel_rfl) rfl (okWide_bool_mk Try.underlying4 _))⟩

theorem over : Rows.fnHasShapeLiteralShapeIsEqualityRow.holds Try.pinned (OpenSpec.ofChange Rows.fnHasShapeLiteralShapeIsEqualitySpec) :=
  OpenClaim.holds_of_wide 3 Try.f3 rfl rfl rfl rfl rfl rfl rfl ⟨rfl, rfl, rfl, rfl, rfl⟩ rfl rfl rfl rfl rfl (by kernel_rfl) Try.func3 (by kernel_rfl)
    (of_decide_eq_true (by kernel_rfl)) (by unfold Func.isWrapper; first | (rw [if_pos (by decide +kernel)]; kernel_rfl) | (rw [if_neg (by decide +kernel)]; exact ⟨rfl, rfl⟩))
    (fun os started H enc _ => lifted os started H enc)

/-- ████ THE STATEMENT ████ -/
theorem proved : Rows.FnHasShapeLiteralShapeIsEqualitySaid :=
  over
#print axioms proved
end Go.Proofs.Qxb6002680a.fnHasShapeLiteralShapeIsEquality
