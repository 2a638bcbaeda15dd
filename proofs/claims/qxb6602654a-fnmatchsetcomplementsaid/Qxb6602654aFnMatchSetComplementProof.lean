/-
  DERIVED. A proof of 'Rows.FnMatchSetComplementSaid': the shell as the tool wrote it, its hole filled.
-/
import Derived.Test.Qxb6602654aRows
import Derived.WalkKit
import Derived.ProofKit
import Derived.OpenShut
import Derived.ShutString
import Derived.WalkSpells
import Derived.Test.Qxb6602654aSet
namespace Go.Proofs.Qxb6602654a.fnMatchSetComplement
open Go.ChangeShapes Go.WideShapes Go.ChangeAt Go.RowKit
open Go.ChangeMaps (open_string shut_string)
set_option linter.unusedVariables false      -- a walk need not use every 'w<i>' (that an integer argument fits its kind)

theorem own : ownKnob Try.prog.godebug = none := by kernel_rfl

/-! ### The program's own bound on lengths: it answers a bool and only computes. -/
theorem bound (c : Int) (s : ByteArray) (w : World) (hs : s.size ≤ maxLen) :
    Calls Try.prog 10 #[.int .u8 c, .string s] w fun e w' => ∃ b : Bool, e = .returned (.bool b) ∧ w' = w := by
  unfold maxLen at hs
  go_enter Try.func10, Try.ntmps10
  go_wp2
  all_goals
    go_ret
    exact ⟨_, rfl, rfl⟩

/-! ### The plain law -/
theorem bytes_of {a b : ByteArray} (h : a.data.toList = b.data.toList) : a = b := by
  cases a with | mk a => cases b with | mk b =>
  exact congrArg ByteArray.mk (Array.toList_inj.1 h)
theorem inner_list (s : ByteArray) : (inner s).data.toList = (s.data.toList.drop 1).take (s.size - 1 - 1) := by
  unfold inner; rw [Lib.extract_data]
theorem inner_wrap (p B : ByteArray) (x : UInt8) (l : List UInt8) (hp : p.data.toList = x :: l) : (inner (p ++ B ++ ⟨#[93]⟩)).data.toList = l ++ B.data.toList := by
  rw [inner_list]
  have e : (p ++ B ++ ⟨#[93]⟩ : ByteArray).data.toList = x :: (l ++ B.data.toList ++ [93]) := by simp [hp]
  have hn : (p ++ B ++ ⟨#[93]⟩ : ByteArray).size = (x :: (l ++ B.data.toList ++ [93])).length := by rw [← e]; rfl
  rw [e, hn]
  simp only [List.drop_succ_cons, List.drop_zero, List.length_cons, List.length_append, List.length_nil]
  rw [List.take_append_of_le_length (by simp only [List.length_append]; omega), List.take_of_length_le (by simp only [List.length_append]; omega)]
theorem body_not (m : Int → Bool) (c : Int) (l : List UInt8) (h : ∀ x, l.head? = some x → ¬ x.toNat = 94) : Scan.body m c l = Scan.scan m c l := by
  cases l with
  | nil => rfl
  | cons x t => show (if x.toNat = 94 then _ else _) = _; rw [if_neg (h x rfl)]
theorem body_hat (m : Int → Bool) (c : Int) (x : UInt8) (t : List UInt8) (h : x.toNat = 94) : Scan.body m c (x :: t) = !Scan.scan m c t := by
  show (if x.toNat = 94 then _ else _) = _; rw [if_pos h]
theorem list_cons (B : ByteArray) (h : 0 < B.size) : B.data.toList = B[0] :: B.data.toList.drop 1 := by
  have := drop_cons B 0 h
  simpa using this
theorem head_get (B : ByteArray) (h : 0 < B.size) : B.data.toList.head? = some B[0] := by rw [list_cons B h]; rfl
theorem tail_list (B : ByteArray) : (B.extract 1 B.size).data.toList = B.data.toList.drop 1 := by
  rw [Lib.extract_data, List.take_of_length_le (by simp)]

theorem wrap_size (p B : ByteArray) : (p ++ B ++ ⟨#[93]⟩ : ByteArray).size = p.size + B.size + 1 := by
  rw [ByteArray.size_append, ByteArray.size_append]; rfl
theorem size1 : (⟨#[91]⟩ : ByteArray).size = 1 := rfl
theorem size2 : (⟨#[91, 94]⟩ : ByteArray).size = 2 := rfl

theorem z2 (c : Int) (s : ByteArray) (hs : s.size ≤ 65536) (w : World) : Calls Try.prog 11 #[.int .u8 c, .string (⟨#[91]⟩ ++ inner s ++ ⟨#[93]⟩)] w fun e w' => e = .returned (.bool (Scan.body (mcB c) c (inner s).data.toList)) ∧ w' = w := by
  have hi : (inner s).size ≤ 65536 := by unfold inner; simp; omega
  have h := zzset_any c (⟨#[91]⟩ ++ inner s ++ ⟨#[93]⟩) w (by rw [wrap_size, size1]; omega) (by rw [wrap_size, size1]; omega)
  rw [inner_wrap ⟨#[91]⟩ (inner s) 91 [] rfl] at h
  exact h
theorem z3 (c : Int) (s : ByteArray) (hs : s.size ≤ 65536) (hn : ∀ x, (inner s).data.toList.head? = some x → ¬ x.toNat = 94) (w : World) : Calls Try.prog 11 #[.int .u8 c, .string (⟨#[91, 94]⟩ ++ inner s ++ ⟨#[93]⟩)] w fun e w' => e = .returned (.bool (!Scan.body (mcB c) c (inner s).data.toList)) ∧ w' = w := by
  have hi : (inner s).size ≤ 65536 := by unfold inner; simp; omega
  have h := zzset_any c (⟨#[91, 94]⟩ ++ inner s ++ ⟨#[93]⟩) w (by rw [wrap_size, size2]; omega) (by rw [wrap_size, size2]; omega)
  rw [inner_wrap ⟨#[91, 94]⟩ (inner s) 91 [94] rfl, List.singleton_append, body_hat _ _ _ _ rfl] at h
  rw [body_not _ _ _ hn]
  exact h
theorem z4 (c : Int) (s : ByteArray) (hs : s.size ≤ 65536) (h0 : 0 < (inner s).size) (h94 : (inner s)[0].toNat = 94) (hn : ∀ x, ((inner s).data.toList.drop 1).head? = some x → ¬ x.toNat = 94) (w : World) : Calls Try.prog 11 #[.int .u8 c, .string (⟨#[91]⟩ ++ (inner s).extract 1 (inner s).size ++ ⟨#[93]⟩)] w fun e w' => e = .returned (.bool (!Scan.body (mcB c) c (inner s).data.toList)) ∧ w' = w := by
  have hi : (inner s).size ≤ 65536 := by unfold inner; simp; omega
  have h := zzset_any c (⟨#[91]⟩ ++ (inner s).extract 1 (inner s).size ++ ⟨#[93]⟩) w (by rw [wrap_size, size1, ByteArray.size_extract]; omega) (by rw [wrap_size, size1]; omega)
  rw [inner_wrap ⟨#[91]⟩ _ 91 [] rfl, List.nil_append, tail_list, body_not _ _ _ hn] at h
  rw [list_cons (inner s) h0, body_hat _ _ _ _ h94, Bool.not_not]
  exact h
theorem inner_size (s : ByteArray) : (inner s).size = s.size - 1 - 1 := by unfold inner; simp
theorem inner_pos (s : ByteArray) (h : 0 < s.size - 1 - 1) : 0 < (inner s).size := by rw [inner_size]; exact h
theorem head_empty (s : ByteArray) (h : s.size - 1 - 1 = 0) : ∀ x, (inner s).data.toList.head? = some x → ¬ x.toNat = 94 := by
  intro x hx
  have : (inner s).data.toList = [] := List.length_eq_zero_iff.1 (by have := inner_size s; have e : (inner s).data.toList.length = (inner s).size := rfl; omega)
  rw [this] at hx
  exact absurd hx (by simp)
theorem head_other (s : ByteArray) (h : 0 < s.size - 1 - 1) (hd : (((s.size - 1 - 1 : Nat) : Int) == 0) = true ∨ ((((s.extract 1 (s.size - 1))[0]'(by simp; omega)).toNat : Int) != 94) = true) : ∀ x, (inner s).data.toList.head? = some x → ¬ x.toNat = 94 := by
  intro x hx
  rw [head_get (inner s) (inner_pos s h)] at hx
  have e : (inner s)[0]'(inner_pos s h) = x := by simpa using hx
  have hd' : ((((inner s)[0]'(inner_pos s h)).toNat : Int) != 94) = true := by
    rcases hd with hd | hd
    · have hd2 : ((s.size - 1 - 1 : Nat) : Int) = _ := beq_iff_eq.1 hd
      omega
    · exact hd
  rw [e] at hd'
  intro e2
  rw [e2] at hd'
  exact absurd hd' (by decide)
theorem of_bne {x : Nat} (h : ((x : Int) != 94) = false) : x = 94 := by simp at h; omega
theorem head_hat (s : ByteArray) (h : 0 < s.size - 1 - 1) (hd : (((s.size - 1 - 1 : Nat) : Int) == 0) = false ∧ ((((s.extract 1 (s.size - 1))[0]'(by simp; omega)).toNat : Int) != 94) = false) : ((inner s)[0]'(inner_pos s h)).toNat = 94 := by
  exact of_bne hd.2
theorem tail_none (s : ByteArray) (h : ((s.size - 1 - 1 : Nat) : Int) = 1) : ∀ x, ((inner s).data.toList.drop 1).head? = some x → ¬ x.toNat = 94 := by
  intro x hx
  have : (inner s).data.toList.drop 1 = [] := List.drop_of_length_le (by have := inner_size s; have e : (inner s).data.toList.length = (inner s).size := rfl; omega)
  rw [this] at hx
  exact absurd hx (by simp)
theorem tail_other (s : ByteArray) (h : 1 < ((s.size - 1 - 1 : Nat) : Int)) (hd : (((s.size - 1 - 1 : Nat) : Int) == 1) = true ∨ ((((s.extract 1 (s.size - 1))[1]'(by simp; omega)).toNat : Int) != 94) = true) : ∀ x, ((inner s).data.toList.drop 1).head? = some x → ¬ x.toNat = 94 := by
  intro x hx
  have h1 : 1 < (inner s).size := by have := inner_size s; omega
  rw [drop_cons (inner s) 1 h1] at hx
  have e : (inner s)[1] = x := by simpa using hx
  have hd' : (((inner s)[1].toNat : Int) != 94) = true := by
    rcases hd with hd | hd
    · have hd2 : ((s.size - 1 - 1 : Nat) : Int) = _ := beq_iff_eq.1 hd
      omega
    · exact hd
  rw [e] at hd'
  intro e2
  rw [e2] at hd'
  exact absurd hd' (by decide)


/-! ### STEP 1: THE WALK: the Go text returns true. 'Grown w w'': the world has at most new blocks (Derived/RowKit3.lean). Part the cases AHEAD of 'go_enter' where a test parts the walk; take each callee by a contract of your own. -/
set_option maxRecDepth 100000 in
set_option maxHeartbeats 4000000 in
theorem walk (a0 : Int) (a1 : ByteArray) (w0 : (Lit.int .u8 a0).wf = true) (w1 : a1.size ≤ maxLen) (w : World) :
    Calls Try.prog 5 #[.int .u8 a0, .string a1] w fun e w' => e = .returned (.bool true) ∧ Grown w w' := by
  unfold maxLen at w1
  go_enter Try.func5, Try.ntmps5
  go_wp2_with fail
  refine (bound a0 a1 _ (by unfold maxLen; exact w1)).mono ?_
  rintro e w' ⟨b, rfl, rfl⟩
  cases b
  · go_wp2
    go_ret
    exact ⟨rfl, Grown.refl _⟩
  · by_cases g0 : (65536 : Int) < a1.size
    · go_wp2
      go_ret
      exact ⟨rfl, Grown.refl _⟩
    by_cases g1 : (a1.size : Int) < 2
    · go_wp2
      go_ret
      exact ⟨rfl, Grown.refl _⟩
    have hs : a1.size ≤ 65536 := by omega
    have Z1 : Hid (∀ w, Calls Try.prog 11 #[.int .u8 a0, .string a1] w fun e w' => e = .returned (.bool (Scan.body (mcB a0) a0 (inner a1).data.toList)) ∧ w' = w) := fun w => zzset_any a0 a1 w (by omega) (by omega)
    have Z2 : Hid (∀ w, Calls Try.prog 11 #[.int .u8 a0, .string (⟨#[91]⟩ ++ inner a1 ++ ⟨#[93]⟩)] w fun e w' => e = .returned (.bool (Scan.body (mcB a0) a0 (inner a1).data.toList)) ∧ w' = w) := z2 a0 a1 hs
    have Z3 : Hid (∀ w, (∀ x, (inner a1).data.toList.head? = some x → ¬ x.toNat = 94) → Calls Try.prog 11 #[.int .u8 a0, .string (⟨#[91, 94]⟩ ++ inner a1 ++ ⟨#[93]⟩)] w fun e w' => e = .returned (.bool (!Scan.body (mcB a0) a0 (inner a1).data.toList)) ∧ w' = w) := fun w hn => z3 a0 a1 hs hn w
    have Z4 : Hid (∀ w (h0 : 0 < (inner a1).size), (inner a1)[0].toNat = 94 → (∀ x, ((inner a1).data.toList.drop 1).head? = some x → ¬ x.toNat = 94) → Calls Try.prog 11 #[.int .u8 a0, .string (⟨#[91]⟩ ++ (inner a1).extract 1 (inner a1).size ++ ⟨#[93]⟩)] w fun e w' => e = .returned (.bool (!Scan.body (mcB a0) a0 (inner a1).data.toList)) ∧ w' = w) := fun w h0 h94 hn => z4 a0 a1 hs h0 h94 hn w
    generalize Scan.body (mcB a0) a0 (inner a1).data.toList = g at *
    go_wp2_with fail
    refine (Z1.out _).mono ?_
    rintro e w2 ⟨rfl, rfl⟩
    go_wp2_with fail
    refine (Z2.out _).mono ?_
    rintro e w3 ⟨rfl, rfl⟩
    go_wp2_with fail
    · have h0 : a1.size - 1 - 1 = 0 := by assumption
      refine (Z3.out _ (head_empty a1 h0)).mono ?_
      rintro e w4 ⟨rfl, rfl⟩
      go_wp2_with fail
      go_ret
      exact ⟨congrArg (fun b => Ending.returned (Value.bool b)) (by cases g <;> rfl), Grown.refl _⟩
    · have h0 : 0 < a1.size - 1 - 1 := by assumption
      have hd : (((a1.size - 1 - 1 : Nat) : Int) == 0) = true ∨ ((((a1.extract 1 (a1.size - 1))[0]'(by simp; omega)).toNat : Int) != 94) = true := by assumption
      refine (Z3.out _ (head_other a1 h0 hd)).mono ?_
      rintro e w4 ⟨rfl, rfl⟩
      go_wp2_with fail
      go_ret
      exact ⟨congrArg (fun b => Ending.returned (Value.bool b)) (by cases g <;> rfl), Grown.refl _⟩
    · have h0 : 0 < a1.size - 1 - 1 := by assumption
      have hd : (((a1.size - 1 - 1 : Nat) : Int) == 0) = false ∧ ((((a1.extract 1 (a1.size - 1))[0]'(by simp; omega)).toNat : Int) != 94) = false := by assumption
      have h1 : ((a1.size - 1 - 1 : Nat) : Int) = 1 := by assumption
      have hz := Z4.out w3 (inner_pos a1 h0) (head_hat a1 h0 hd) (tail_none a1 h1)
      rw [inner_size] at hz
      refine hz.mono ?_
      rintro e w4 ⟨rfl, rfl⟩
      clear hz
      go_wp2_with fail
      go_ret
      exact ⟨congrArg (fun b => Ending.returned (Value.bool b)) (by cases g <;> rfl), Grown.refl _⟩
    · have h0 : 0 < a1.size - 1 - 1 := by assumption
      have hd : (((a1.size - 1 - 1 : Nat) : Int) == 0) = false ∧ ((((a1.extract 1 (a1.size - 1))[0]'(by simp; omega)).toNat : Int) != 94) = false := by assumption
      have h1 : 1 < ((a1.size - 1 - 1 : Nat) : Int) := by assumption
      have hd1 : (((a1.size - 1 - 1 : Nat) : Int) == 1) = true ∨ ((((a1.extract 1 (a1.size - 1))[1]'(by simp; omega)).toNat : Int) != 94) = true := by assumption
      have hz := Z4.out w3 (inner_pos a1 h0) (head_hat a1 h0 hd) (tail_other a1 h1 hd1)
      rw [inner_size] at hz
      refine hz.mono ?_
      rintro e w4 ⟨rfl, rfl⟩
      clear hz
      go_wp2_with fail
      go_ret
      exact ⟨congrArg (fun b => Ending.returned (Value.bool b)) (by cases g <;> rfl), Grown.refl _⟩
    · go_ret
      exact ⟨rfl, Grown.refl _⟩

/-! ### THE ROW's STEP: WRITTEN OUT: LEAVE IT -/
set_option maxRecDepth 100000 in
theorem lifted (os : Os) (started : os.Started) (H : Type) (enc : TypeId × Value → H) :
    ReturnsInHanded {} Try.checked os 5 .any (Rows.fnMatchSetComplementSpec.pre6 enc Try.prog Try.f5 Rows.fnMatchSetComplementRow.domain false) (Rows.fnMatchSetComplementSpec.post enc Try.prog Try.f5 false true false false) := by
  refine returnsInHanded_of_change (C := Try.checked) own started (by kernel_rfl) Try.func5
    (ChangeSpec.witness6 (enc := enc) (C := Try.checked) false ⟨#[], #[.int .u8 0, .string ByteArray.empty], []⟩ 8 (by kernel_rfl) (by kernel_rfl) (by kernel_rfl) (by kernel_rfl)) ?_
  intro W base args ds gs before hval0 hW hcnd _
  have hval : ∀ (j : Nat) t v, Try.f5.params[j]? = some t → args[j]? = some v → Value.okWide Try.prog W .any base t v := hval0
  have hW' := hW
  obtain ⟨p, q, hA0, hV, rfl, hfz, hnd⟩ := hW
  have hA : DataW.TrodAll enc Try.prog W 0 (fun _ => true) true Try.f5.params.toList args.toList ds p := hA0
  rw [Try.params5] at hA hval
  obtain ⟨v0, vs0, d0, ds0, p0, q0, hargs, rfl, rfl, h0, r0⟩ := trodAll_cons hA
  obtain ⟨v1, vs1, d1, ds1, p1, q1, rfl, rfl, rfl, h1, r1⟩ := trodAll_cons r0
  obtain ⟨rfl, rfl, rfl⟩ := trodAll_nil r1
  obtain rfl : args = #[v0, v1] := by cases args; simp_all
  obtain ⟨rfl, rfl⟩ := trodVars_none hV
  obtain ⟨a0, rfl, rfl, rfl, w0⟩ := open_int Try.underlying5 (hval 0 5 v0 rfl rfl) h0
  obtain ⟨a1, rfl, rfl, rfl, w1⟩ := open_string Try.underlying9 (hval 1 9 v1 rfl rfl) h1
  clear hA0 hval0
  simp only [List.append_nil] at hW'
  refine (walk a0 a1 w0 w1 W).mono fun e W' ⟨he, hg⟩ => ?_
  subst he
  exact ⟨_, rfl, post_of_same (pa := []) (pv := []) hW' (fun _ _ _ => (trodAll_cons_mk (shut_bool Try.underlying4 _) trodAll_mk0)) (fun sp _ => (trodAll_cons_mk (shut_int Try.underlying5 w0) (trodAll_cons_mk (shut_string Try.underlying9 w1) trodAll_mk0))) (fun _ _ => rfl) rfl
    (hg.frame _) hg.2.1 (ok_one (by kernel_rfl) rfl (okWide_bool_mk Try.underlying4 _))⟩

theorem over : Rows.fnMatchSetComplementRow.holds Try.pinned (OpenSpec.ofChange Rows.fnMatchSetComplementSpec) :=
  OpenClaim.holds_of_wide 5 Try.f5 rfl rfl rfl rfl rfl rfl rfl ⟨rfl, rfl, rfl, rfl, rfl⟩ rfl rfl rfl rfl rfl (by kernel_rfl) Try.func5 (by kernel_rfl)
    (of_decide_eq_true (by kernel_rfl)) (by unfold Func.isWrapper; first | (rw [if_pos (by decide +kernel)]; kernel_rfl) | (rw [if_neg (by decide +kernel)]; exact ⟨rfl, rfl⟩))
    (fun os started H enc _ => lifted os started H enc)

/-- ████ THE STATEMENT ████ -/
theorem proved : Rows.FnMatchSetComplementSaid :=
  over
#print axioms proved
end Go.Proofs.Qxb6602654a.fnMatchSetComplement
