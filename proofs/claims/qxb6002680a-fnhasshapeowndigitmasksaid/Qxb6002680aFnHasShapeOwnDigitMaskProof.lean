/-
  DERIVED. A proof of 'Rows.FnHasShapeOwnDigitMaskSaid': the shell as the tool wrote it, its hole filled.
-/
import Derived.Test.Qxb6002680aRows
import Derived.WalkKit
import Derived.ProofKit
import Derived.OpenShut
import Derived.ShutString
import Derived.WalkSpells
import Derived.Deep.OwnRows
import Derived.Laws.IdiomStrings
import Derived.Test.Qxb6002680aShape
namespace Go.Proofs.Qxb6002680a.fnHasShapeOwnDigitMask
open Go.ChangeShapes Go.WideShapes Go.ChangeAt Go.RowKit
open Go.ChangeMaps (open_string shut_string)
set_option linter.unusedVariables false      -- a walk need not use every 'w<i>' (that an integer argument fits its kind)

theorem own : ownKnob Try.prog.godebug = none := by kernel_rfl

/-! ### The program's own bound on lengths: it answers a bool and only computes. -/
theorem bound (s : ByteArray) (w : World) (hs : s.size ≤ maxLen) :
    Calls Try.prog 11 #[.string s] w fun e w' => ∃ b : Bool, e = .returned (.bool b) ∧ w' = w := by
  unfold maxLen at hs
  go_enter Try.func11, Try.ntmps11
  go_wp2
  all_goals
    go_ret
    exact ⟨_, rfl, rfl⟩

theorem info5 : (Try.prog.info? 5).map (fun i => (i.zero, i.size, i.bytes)) = some (some (.int .u8 0), 1, 1) := by kernel_rfl

def maskB (c : UInt8) : UInt8 := if 48 ≤ c.toNat ∧ c.toNat ≤ 57 then 100 else c
/-- What the mask's cell j holds when k bytes have been masked. -/
def cellAt (s : ByteArray) (k j : Nat) : Value := if j < k then .int .u8 ((maskB (s.data.toList.getD j 0)).toNat : Int) else .int .u8 0
/-- Is there a letter 'd' among the first k bytes? -/
def anyD (s : ByteArray) (k : Nat) : Bool := (s.data.toList.take k).any fun c => c.toNat == 100
theorem getD_byte (s : ByteArray) (k : Nat) (h : k < s.size) : s.data.toList.getD k 0 = s[k] := by
  have h' : k < s.data.toList.length := by simpa using h
  rw [List.getD_eq_getElem?_getD, List.getElem?_eq_getElem h']
  rfl
theorem take_snoc (s : ByteArray) (k : Nat) (h : k < s.size) : s.data.toList.take (k + 1) = s.data.toList.take k ++ [s[k]] := by
  rw [List.take_succ_eq_append_getElem (by simpa using h)]; rfl
theorem anyD_succ (s : ByteArray) (k : Nat) (h : k < s.size) : anyD s (k + 1) = (anyD s k || (s[k].toNat == 100)) := by
  unfold anyD
  rw [take_snoc s k h]
  simp
/-- The state of the loop: the row and the frame. -/
def MaskRel (s : ByteArray) (w : World) (k : Nat) (wr : World) : Prop := wr.rowIs w.heap.size 5 s.size (cellAt s k) ∧ Grown w wr
theorem MaskRel.start (s : ByteArray) (w : World) : MaskRel s w 0 (w.alloc (.cells (madeCells #[.int .u8 0] s.size) 5)) :=
  ⟨(World.rowIs_made w (.int .u8 0) s.size 5).congr (fun i _ => by simp [cellAt]), (Grown.refl w).alloc _ _⟩
theorem MaskRel.step {s : ByteArray} {w wr : World} {k : Nat} (h : MaskRel s w k wr) (hk : k < s.size) {n : Int} (hn : n = ((maskB s[k]).toNat : Int)) : MaskRel s w (k + 1) (wr.setCell ⟨w.heap.size, k, none⟩ (.int .u8 n)) := by
  refine ⟨(h.1.set k (.int .u8 n)).congr (fun i _ => ?_), h.2.setCell (Nat.le_refl _) _⟩
  show (if i = k then Value.int .u8 n else cellAt s k i) = cellAt s (k + 1) i
  unfold cellAt
  by_cases e : i = k
  · subst e
    rw [if_pos rfl, if_pos (by omega), getD_byte s i hk, hn]
  · rw [if_neg e]
    by_cases e2 : i < k
    · rw [if_pos e2, if_pos (by omega)]
    · rw [if_neg e2, if_neg (by omega)]
theorem any_same {a b : Bool} {c : UInt8} (h : a = (b || (c.toNat == 100))) (hc : ¬ (c.toNat : Int) = 100) : Value.bool b = Value.bool a := by
  have : (c.toNat == 100) = false := by simp; omega
  rw [h, this, Bool.or_false]
theorem any_yes {a b : Bool} {c : UInt8} (h : a = (b || (c.toNat == 100))) (hc : ((c.toNat : Int) == 100) = true) : Value.bool true = Value.bool a := by
  have : (c.toNat == 100) = true := by have := of_decide_eq_true hc; exact beq_iff_eq.2 (by omega)
  rw [h, this, Bool.or_true]
theorem grown_drewN {w w' : World} (h : Grown w w') (n : Nat) : Grown w (w'.drewN n) := h
def maskOf (s : ByteArray) : ByteArray := ⟨(s.data.toList.map maskB).toArray⟩
theorem maskOf_size (s : ByteArray) : (maskOf s).size = s.size := by
  show (s.data.toList.map maskB).toArray.size = s.data.size
  rw [List.size_toArray, List.length_map, Array.length_toList]
theorem maskOf_get (s : ByteArray) (j : Nat) (h : j < s.size) (h' : j < (maskOf s).size) : (maskOf s)[j] = maskB s[j] := by
  have e : (maskOf s)[j] = (maskOf s).data[j]'h' := rfl
  rw [e]
  simp [maskOf]
  rfl
theorem MaskRel.convert {s : ByteArray} {w wr : World} {k : Nat} (h : MaskRel s w k wr) (hk : k = s.size) : (convert 24 9 (.slice (some ⟨w.heap.size, 0, none⟩) s.size s.size)).run Try.prog wr = .ok (.string (maskOf s)) wr := by
  have hl : (s.data.toList.map maskB).length = s.size := by simp
  have := run_convert_bytes_back (P := Try.prog) wr 24 9 5 ⟨w.heap.size, 0, none⟩ s.size (s.data.toList.map maskB) Try.underlying24 Try.underlying5 Try.underlying9 (fun j hj => by
    rw [add_plain, Nat.zero_add, h.1.cell (by omega)]
    unfold cellAt
    rw [if_pos (by omega), getD_byte s j (by omega)]
    simp
    rfl)
  rw [hl] at this
  exact this
theorem mask_law {s : ByteArray} {r : Bool} {k : Nat} (hk : k = s.size) (hr : r = true ↔ s.size = (maskOf s).size ∧ Fits s (maskOf s) s.size) : (r == !anyD s k) = true := by
  have hd : anyD s k = true ↔ ∃ j, ∃ h : j < s.size, s[j].toNat = 100 := by
    unfold anyD
    rw [List.take_of_length_le (by simp; omega), List.any_eq_true]
    constructor
    · rintro ⟨c, hc, hx⟩
      obtain ⟨j, hj, rfl⟩ := List.getElem_of_mem hc
      exact ⟨j, by simpa using hj, by simp at hx; exact hx⟩
    · rintro ⟨j, hj, hx⟩
      exact ⟨s[j], List.getElem_mem (l := s.data.toList) (by simpa using hj), by simpa using hx⟩
  have hf : (s.size = (maskOf s).size ∧ Fits s (maskOf s) s.size) ↔ ¬ ∃ j, ∃ h : j < s.size, s[j].toNat = 100 := by
    constructor
    · rintro ⟨_, hf⟩ ⟨j, hj, hx⟩
      have h' : j < (maskOf s).size := by rw [maskOf_size]; exact hj
      have := hf j hj h' hj
      rw [maskOf_get s j hj h'] at this
      unfold maskB at this
      rw [if_neg (by omega)] at this
      unfold fit1 at this
      rw [if_pos hx] at this
      have := of_decide_eq_true this
      omega
    · intro hn
      refine ⟨(maskOf_size s).symm, fun j hj h' _ => ?_⟩
      rw [maskOf_get s j hj h']
      unfold maskB
      by_cases hx : 48 ≤ s[j].toNat ∧ s[j].toNat ≤ 57
      · rw [if_pos hx]
        unfold fit1
        rw [if_pos (by decide)]
        exact decide_eq_true hx
      · rw [if_neg hx]
        unfold fit1
        rw [if_neg (fun e => hn ⟨j, hj, e⟩)]
        exact decide_eq_true rfl
  rw [hf, ← hd] at hr
  cases hb : anyD s k
  · have : r = true := hr.2 (by rw [hb]; exact Bool.false_ne_true)
    rw [this]; rfl
  · have : r = false := by
      cases r
      · rfl
      · exact absurd hb (hr.1 rfl)
    rw [this]; rfl
theorem mask_digit {c : UInt8} (h1 : (48 : Int) ≤ c.toNat) (h2 : (c.toNat : Int) ≤ 57) : (100 : Int) = ((maskB c).toNat : Int) := by
  unfold maskB; rw [if_pos ⟨by omega, by omega⟩]; rfl
theorem mask_lo {c : UInt8} (h1 : (c.toNat : Int) < 48) : (c.toNat : Int) = ((maskB c).toNat : Int) := by
  unfold maskB; rw [if_neg (by omega)]
theorem mask_hi {c : UInt8} (h1 : 57 < (c.toNat : Int)) : (c.toNat : Int) = ((maskB c).toNat : Int) := by
  unfold maskB; rw [if_neg (by omega)]


/-! ### STEP 1: THE WALK: the Go text returns true. 'Grown w w'': the world has at most new blocks (Derived/RowKit3.lean). Part the cases AHEAD of 'go_enter' where a test parts the walk; take each callee by a contract of your own. -/
theorem walk (a0 : ByteArray) (w0 : a0.size ≤ maxLen) (w : World) :
    Calls Try.prog 4 #[.string a0] w fun e w' => e = .returned (.bool true) ∧ Grown w w' := by
  have hs := w0
  unfold maxLen at w0
  go_enter Try.func4, Try.ntmps4
  go_wp2_with fail
  refine (bound a0 _ (by unfold maxLen; exact w0)).mono ?_
  rintro e w' ⟨b, rfl, rfl⟩
  cases b
  · go_wp2
    go_ret
    exact ⟨rfl, Grown.refl _⟩
  · by_cases g0 : (65536 : Int) < a0.size
    · go_wp2
      go_ret
      exact ⟨rfl, Grown.refl _⟩
    have hmk := run_make_row' (P := Try.prog) 24 5 (.int .u8 0) 1 Try.underlying24 info5 rfl .i64 .i64 a0.size (by omega) (by omega)
    go_wp2
    have hstart := MaskRel.start a0 w'
    generalize hw0 : w'.alloc (.cells (madeCells #[.int .u8 0] a0.size) 5) = W0 at hstart ⊢
    have HS : Hid (MaskRel a0 w' 0 W0) := hstart
    clear hstart hw0 hmk
    go_loopw [4, 5] (fun d i wr => ∃ k : Nat, k ≤ a0.size ∧ i = .int .i64 k ∧ d = .bool (anyD a0 k) ∧ MaskRel a0 w' k wr) (fun _ i _ => a0.size - (intOf i).toNat)
    case atStart => exact ⟨0, Nat.zero_le _, rfl, rfl, HS.out⟩
    case round =>
      obtain ⟨k, hk, rfl, rfl, hm⟩ := hrel
      by_cases hlt : k < a0.size
      · have hfz : wr.frozen? ⟨w'.heap.size, k, none⟩ = false := hm.1.frozen k
        have hcl : wr.cell? ⟨w'.heap.size, k, none⟩ = some (cellAt a0 k k) := hm.1.cell hlt
        have HM : Hid (MaskRel a0 w' k wr) := hm
        clear hm
        have HD : Hid (anyD a0 (k + 1) = (anyD a0 k || (a0[k].toNat == 100))) := anyD_succ a0 k hlt
        by_cases h1 : (48 : Int) ≤ a0[k].toNat
        · by_cases h2 : (a0[k].toNat : Int) ≤ 57
          · go_wp2
            go_roundw
            case rel => exact ⟨k + 1, by omega, by go_num, any_same HD.out (by omega), HM.out.step hlt (mask_digit h1 h2)⟩
            case measure => simp [intOf]; omega
          · have h2' : 57 < (a0[k].toNat : Int) := by omega
            clear h2
            by_cases hd : ((a0[k].toNat : Int) == 100) = true
            · go_wp2
              go_roundw
              case rel => exact ⟨k + 1, by omega, by go_num, any_yes HD.out hd, HM.out.step hlt (mask_hi h2')⟩
              case measure => simp [intOf]; omega
            · have hd' : ((a0[k].toNat : Int) == 100) = false := by simpa using hd
              clear hd
              go_wp2
              go_roundw
              case rel => exact ⟨k + 1, by omega, by go_num, any_same HD.out (of_decide_eq_false hd'), HM.out.step hlt (mask_hi h2')⟩
              case measure => simp [intOf]; omega
        · have h1' : (a0[k].toNat : Int) < 48 := by omega
          clear h1
          go_wp2
          go_roundw
          case rel => exact ⟨k + 1, by omega, by go_num, any_same HD.out (by omega), HM.out.step hlt (mask_lo h1')⟩
          case measure => simp [intOf]; omega
      · have hcv := hm.convert (show k = a0.size by omega)
        have HM : Hid (MaskRel a0 w' k wr) := hm
        clear hm
        go_wp2_with fail
        refine (zzshape_any a0 (maskOf a0) _ hs).mono ?_
        rintro e w1 ⟨r, rfl, hr, n, rfl⟩
        have HR : Hid (r = true ↔ a0.size = (maskOf a0).size ∧ Fits a0 (maskOf a0) a0.size) := hr
        clear hr hcv
        go_wp2_with fail
        go_ret
        exact ⟨congrArg (fun b => Ending.returned (Value.bool b)) (mask_law (by omega) HR.out), grown_drewN HM.out.2 _⟩

/-! ### THE ROW's STEP: WRITTEN OUT: LEAVE IT -/
set_option maxRecDepth 100000 in
theorem lifted (os : Os) (started : os.Started) (H : Type) (enc : TypeId × Value → H) :
    ReturnsInHanded {} Try.checked os 4 .any (Rows.fnHasShapeOwnDigitMaskSpec.pre6 enc Try.prog Try.f4 Rows.fnHasShapeOwnDigitMaskRow.domain false) (Rows.fnHasShapeOwnDigitMaskSpec.post enc Try.prog Try.f4 false true false false) := by
  refine returnsInHanded_of_change (C := Try.checked) own started (by kernel_rfl) Try.func4
    (ChangeSpec.witness6 (enc := enc) (C := Try.checked) false ⟨#[], #[.string ByteArray.empty], []⟩ 8 (by kernel_rfl) (by kernel_rfl) (by kernel_rfl) (by kernel_rfl)) ?_
  intro W base args ds gs before hval0 hW hcnd _
  have hval : ∀ (j : Nat) t v, Try.f4.params[j]? = some t → args[j]? = some v → Value.okWide Try.prog W .any base t v := hval0
  have hW' := hW
  obtain ⟨p, q, hA0, hV, rfl, hfz, hnd⟩ := hW
  have hA : DataW.TrodAll enc Try.prog W 0 (fun _ => true) true Try.f4.params.toList args.toList ds p := hA0
  rw [Try.params4] at hA hval
  obtain ⟨v0, vs0, d0, ds0, p0, q0, hargs, rfl, rfl, h0, r0⟩ := trodAll_cons hA
  obtain ⟨rfl, rfl, rfl⟩ := trodAll_nil r0
  obtain rfl : args = #[v0] := by cases args; simp_all
  obtain ⟨rfl, rfl⟩ := trodVars_none hV
  obtain ⟨a0, rfl, rfl, rfl, w0⟩ := open_string Try.underlying9 (hval 0 9 v0 rfl rfl) h0
  clear hA0 hval0
  simp only [List.append_nil] at hW'
  refine (walk a0 w0 W).mono fun e W' ⟨he, hg⟩ => ?_
  subst he
  exact ⟨_, rfl, post_of_same (pa := []) (pv := []) hW' (fun _ _ _ => (trodAll_cons_mk (shut_bool Try.underlying4 _) trodAll_mk0)) (fun sp _ => (trodAll_cons_mk (shut_string Try.underlying9 w0) trodAll_mk0)) (fun _ _ => rfl) rfl
    (hg.frame _) hg.2.1 (ok_one (by kernel_rfl) rfl (okWide_bool_mk Try.underlying4 _))⟩

theorem over : Rows.fnHasShapeOwnDigitMaskRow.holds Try.pinned (OpenSpec.ofChange Rows.fnHasShapeOwnDigitMaskSpec) :=
  OpenClaim.holds_of_wide 4 Try.f4 rfl rfl rfl rfl rfl rfl rfl ⟨rfl, rfl, rfl, rfl, rfl⟩ rfl rfl rfl rfl rfl (by kernel_rfl) Try.func4 (by kernel_rfl)
    (of_decide_eq_true (by kernel_rfl)) (by unfold Func.isWrapper; first | (rw [if_pos (by decide +kernel)]; kernel_rfl) | (rw [if_neg (by decide +kernel)]; exact ⟨rfl, rfl⟩))
    (fun os started H enc _ => lifted os started H enc)

/-- ████ THE STATEMENT ████ -/
theorem proved : Rows.FnHasShapeOwnDigitMaskSaid :=
  over
#print axioms proved
end Go.Proofs.Qxb6002680a.fnHasShapeOwnDigitMask
