/-
  DERIVED. The walk of lawItoaPad.
-/
import Derived.Test.Qxb6002680aRows
import Derived.Test.Qxb6002680aDigits
import Derived.WalkKit
import Derived.ProofKit
import Derived.WalkSpells
import Derived.Deep.OwnRows
import Derived.Laws.IdiomStrings
namespace Go.Proofs.Qxb6002680a
open Go.ChangeShapes Go.WideShapes Go.ChangeAt Go.RowKit

theorem info5' : (Try.prog.info? 5).map (fun i => (i.zero, i.size, i.bytes)) = some (some (.int .u8 0), 1, 1) := by kernel_rfl

/-- What cell j holds when the cells from k on are written. -/
def padCell (n v k j : Nat) : Value := if k ≤ j then .int .u8 (((Dig.pad n v).getD j 0).toNat : Int) else .int .u8 0
/-- The state of the loop: the row and the frame. -/
def PadRel (n v : Nat) (w : World) (k : Nat) (wr : World) : Prop := wr.rowIs w.heap.size 5 n (padCell n v k) ∧ Grown w wr
def padStr (n v : Nat) : ByteArray := ⟨(Dig.pad n v).toArray⟩

/-- Byte j of the digits, from the left: the digit of 10^(n-1-j). -/
theorem pad_get (n v j : Nat) (h : j < n) : (Dig.pad n v).getD j 0 = UInt8.ofNat (48 + v / 10 ^ (n - 1 - j) % 10) := by
  induction n generalizing v with
  | zero => omega
  | succ n ih =>
    rw [Dig.pad, List.getD_eq_getElem?_getD]
    by_cases e : j = n
    · subst e
      rw [List.getElem?_append_right (by rw [Dig.pad_length]; omega), Dig.pad_length]
      simp
    · rw [List.getElem?_append_left (by rw [Dig.pad_length]; omega), ← List.getD_eq_getElem?_getD, ih (v / 10) (by omega), Nat.div_div_eq_div_mul]
      have e2 : n + 1 - 1 - j = (n - 1 - j) + 1 := by omega
      rw [e2, Nat.pow_succ, Nat.mul_comm]

theorem PadRel.start (n v : Nat) (w : World) : PadRel n v w n (w.alloc (.cells (madeCells #[.int .u8 0] n) 5)) :=
  ⟨(World.rowIs_made w (.int .u8 0) n 5).congr (fun i hi => by unfold padCell; rw [if_neg (by omega)]), (Grown.refl w).alloc _ _⟩
theorem PadRel.step {n v : Nat} {w wr : World} {k : Nat} (h : PadRel n v w (k + 1) wr) (hk : k < n) {x : Int} (hx : x = 48 + ((v / 10 ^ (n - 1 - k) % 10 : Nat) : Int)) : PadRel n v w k (wr.setCell ⟨w.heap.size, k, none⟩ (.int .u8 x)) := by
  refine ⟨(h.1.set k (.int .u8 x)).congr (fun i hi => ?_), h.2.setCell (Nat.le_refl _) _⟩
  show (if i = k then Value.int .u8 x else padCell n v (k + 1) i) = padCell n v k i
  unfold padCell
  by_cases e : i = k
  · subst e
    rw [if_pos rfl, if_pos (Nat.le_refl _), pad_get n v i hi, Dig.toNat_digit, hx]
    rw [Int.natCast_add]; rfl
  · rw [if_neg e]
    by_cases e2 : k ≤ i
    · rw [if_pos e2, if_pos (by omega)]
    · rw [if_neg e2, if_neg (by omega)]
theorem PadRel.convert {n v : Nat} {w wr : World} (h : PadRel n v w 0 wr) : (convert 24 9 (.slice (some ⟨w.heap.size, 0, none⟩) n n)).run Try.prog wr = .ok (.string (padStr n v)) wr := by
  have hl : (Dig.pad n v).length = n := Dig.pad_length n v
  have := run_convert_bytes_back (P := Try.prog) wr 24 9 5 ⟨w.heap.size, 0, none⟩ n (Dig.pad n v) Try.underlying24 Try.underlying5 Try.underlying9 (fun j hj => by
    rw [add_plain, Nat.zero_add, h.1.cell (by omega)]
    unfold padCell
    rw [if_pos (Nat.zero_le _), List.getD_eq_getElem?_getD, List.getElem?_eq_getElem hj]
    rfl)
  rw [hl] at this
  exact this
theorem div_step (v n k : Nat) (hk : k < n) : v / 10 ^ (n - 1 - k) / 10 = v / 10 ^ (n - k) := by
  rw [Nat.div_div_eq_div_mul, ← Nat.pow_succ]
  congr 2
  omega

def PadAns (n v : Nat) (w : World) (e : Ending) (w' : World) : Prop := e = .returned (.string (padStr n v)) ∧ Grown w w'

set_option maxHeartbeats 1000000 in
theorem pad_any (v n : Nat) (w : World) (hv : v < 1000000000) (hn : n ≤ 9) :
    Calls Try.prog 17 #[.int .i64 v, .int .i64 n] w fun e w' => PadAns n v w e w' := by
  have hmk := run_make_row' (P := Try.prog) 24 5 (.int .u8 0) 1 Try.underlying24 info5' rfl .i64 .i64 n (by omega) (by omega)
  go_enter Try.func17, Try.ntmps17
  go_wp2
  have hstart := PadRel.start n v w
  generalize hw0 : w.alloc (.cells (madeCells #[.int .u8 0] n) 5) = W0 at hstart ⊢
  have HS : Hid (PadRel n v w n W0) := hstart
  clear hstart hw0 hmk
  go_loopw [0, 6] (fun d i wr => ∃ k : Nat, k ≤ n ∧ i = .int .i64 ((k : Int) - 1) ∧ d = .int .i64 ((v / 10 ^ (n - k) : Nat) : Int) ∧ PadRel n v w k wr) (fun _ i _ => (intOf i + 1).toNat)
  case atStart => exact ⟨n, Nat.le_refl _, rfl, by simp, HS.out⟩
  case round =>
    obtain ⟨k, hk, rfl, rfl, hm⟩ := hrel
    cases k with
    | zero =>
      have hcv := hm.convert
      have HM : Hid (PadRel n v w 0 wr) := hm
      clear hm
      go_wp2
      go_ret
      exact ⟨rfl, HM.out.2⟩
    | succ k =>
      have e1 : ((k + 1 : Nat) : Int) - 1 = (k : Int) := by omega
      have e2 : n - (k + 1) = n - 1 - k := by omega
      rw [e1, e2]
      have hfz : wr.frozen? ⟨w.heap.size, k, none⟩ = false := hm.1.frozen k
      have hcl : wr.cell? ⟨w.heap.size, k, none⟩ = some (padCell n v (k + 1) k) := hm.1.cell (by omega)
      have HM : Hid (∀ x : Int, x = 48 + ((v / 10 ^ (n - 1 - k) % 10 : Nat) : Int) → PadRel n v w k (wr.setCell ⟨w.heap.size, k, none⟩ (.int .u8 x))) := fun x hx => hm.step (by omega) hx
      have HD : Hid (v / 10 ^ (n - 1 - k) / 10 = v / 10 ^ (n - k)) := div_step v n k (by omega)
      have hx : v / 10 ^ (n - 1 - k) ≤ 1000000000 := Nat.le_trans (Nat.div_le_self _ _) (by omega)
      clear hm e1 e2
      generalize v / 10 ^ (n - 1 - k) = x at *
      go_wp2
      go_roundw
      case rel => exact ⟨k, by omega, rfl, by rw [← HD.out]; rfl, HM.out _ (by omega)⟩
      case measure => simp [intOf]
end Go.Proofs.Qxb6002680a
