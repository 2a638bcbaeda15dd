/-
  DERIVED. The walk of b1SetOf: '[' + prefix + rest + ']' built byte by byte in a buffer that has room for all of it.
-/
import Derived.Test.Qxb6602654aRows
import Derived.WalkKit
import Derived.ProofKit
import Derived.WalkSpells
import Derived.Deep.OwnRows
import Derived.Deep.AppendSrc
import Derived.Lib.JoinLaws
import Derived.Lib.LazyBuf
import Derived.Laws.IdiomStrings
namespace Go.Proofs.Qxb6602654a
open Go.ChangeShapes Go.WideShapes Go.ChangeAt Go.RowKit

theorem info5 : (Try.prog.info? 5).map (fun i => (i.zero, i.size, i.bytes)) = some (some (.int .u8 0), 1, 1) := by kernel_rfl

def byteV (c : UInt8) : Value := .int .u8 (c.toNat : Int)
/-- Cell j of a buffer that bears the bytes xs. -/
def bufAt (xs : List UInt8) (j : Nat) : Value := if j < xs.length then byteV (xs.getD j 0) else .int .u8 0
/-- The buffer, made first of all: its row, and the frame. -/
def BufIs (w0 W : World) (cap : Nat) (xs : List UInt8) : Prop := W.rowIs w0.heap.size 5 cap (bufAt xs) ∧ Grown w0 W

theorem BufIs.start (w0 : World) (cap : Nat) : BufIs w0 (w0.alloc (.cells (madeCells #[.int .u8 0] cap) 5)) cap [] :=
  ⟨(World.rowIs_made w0 (.int .u8 0) cap 5).congr (fun i _ => by simp [bufAt]), (Grown.refl w0).alloc _ _⟩
theorem BufIs.alloc {w0 W : World} {cap : Nat} {xs : List UInt8} (h : BufIs w0 W cap xs) (c : Array Value) (t : TypeId) : BufIs w0 (W.alloc (.cells c t)) cap xs :=
  ⟨h.1.alloc _, h.2.alloc _ _⟩
theorem grown_setCells {w0 : World} {b : Nat} (hb : w0.heap.size ≤ b) : ∀ (vs : List Value) (o : Nat) (W : World), Grown w0 W → Grown w0 (W.setCells b o vs)
  | [], _, _, h => h
  | v :: r, o, W, h => grown_setCells hb r (o + 1) _ (h.setCell (by exact hb) v)
theorem BufIs.append {w0 W : World} {cap : Nat} {xs : List UInt8} (h : BufIs w0 W cap xs) (ys : List UInt8) : BufIs w0 (W.setCells w0.heap.size xs.length (ys.map byteV)) cap (xs ++ ys) := by
  refine ⟨(rowIs_setCells (ys.map byteV) xs.length W _ h.1).congr (fun j _ => ?_), grown_setCells (Nat.le_refl _) _ _ _ h.2⟩
  unfold bufAt
  rw [List.length_map, List.length_append]
  by_cases h1 : j < xs.length
  · rw [if_neg (by omega), if_pos h1, if_pos (by omega), List.getD_eq_getElem?_getD, List.getD_eq_getElem?_getD, List.getElem?_append_left h1]
  · by_cases h2 : j < xs.length + ys.length
    · rw [if_pos (by omega), if_pos h2, List.getD_eq_getElem?_getD, List.getElem?_append_right (by omega), List.getElem?_map, List.getElem?_eq_getElem (by omega)]
      rfl
    · rw [if_neg (by omega), if_neg h1, if_neg h2]
theorem BufIs.room {w0 W : World} {cap : Nat} {xs : List UInt8} (h : BufIs w0 W cap xs) (n : Nat) (hn : xs.length + n ≤ cap) : (∀ j, j < n → (W.cell? ⟨w0.heap.size, 0 + xs.length + j, none⟩).isSome = true) ∧ (∀ j, j < n → W.frozen? ⟨w0.heap.size, 0 + xs.length + j, none⟩ = false) :=
  ⟨fun j hj => by rw [h.1.cell (by omega)]; rfl, fun j _ => h.1.frozen _⟩
theorem BufIs.convert {w0 W : World} {cap : Nat} {xs : List UInt8} (h : BufIs w0 W cap xs) (n : Nat) (hn : n = xs.length) (hc : xs.length ≤ cap) : (convert 28 9 (.slice (some ⟨w0.heap.size, 0, none⟩) n cap)).run Try.prog W = .ok (.string ⟨xs.toArray⟩) W := by
  subst hn
  exact run_convert_bytes_back (P := Try.prog) W 28 9 5 ⟨w0.heap.size, 0, none⟩ cap xs Try.underlying28 Try.underlying5 Try.underlying9 (fun j hj => by
    rw [add_plain, Nat.zero_add, h.1.cell (by omega)]
    unfold bufAt byteV
    rw [if_pos hj, List.getD_eq_getElem?_getD, List.getElem?_eq_getElem hj]
    rfl)

/-- What a prefix yields wherever memory has at most grown. -/
def Pre (w : World) (pv : Value) (n : Nat) (pre : List UInt8) : Prop := pre.length = n ∧ ∀ W, Grown w W → Src Try.prog 1 28 pv n (pre.map byteV) W
/-- The set that is built. -/
def wrapS (pre : List UInt8) (rest : ByteArray) : ByteArray := ⟨(91 :: (pre ++ rest.data.toList ++ [93])).toArray⟩
def SetAns (pre : List UInt8) (rest : ByteArray) (w : World) (e : Ending) (w' : World) : Prop := e = .returned (.string (wrapS pre rest)) ∧ Grown w w'

/-- One append that has room, as a law for the walk: behind it some world in which the buffer bears the new bytes too. -/
theorem step_room {w0 W : World} {ops : Array Oper} {rest : List Oper} {o : Oper} {a : Act} {Q : Exit → Act → World → Prop}
    (hg : o.guard = none) (s x : Operand) (tx : TypeId) (hop : o.op = Op.call { callee := Callee.builtin Builtin.append, args := #[s, x], argTypes := #[28, tx] })
    (cap sLen n m : Nat) (xs ys : List UInt8) (hl : xs.length = sLen) (hy : ys.length = n) (hm : sLen + n = m)
    (hs : a.eval s = .slice (some ⟨w0.heap.size, 0, none⟩) sLen cap) (xv : Value) (hx : a.eval x = xv)
    (hB : BufIs w0 W cap xs) (hsrc : Src Try.prog 1 tx xv n (ys.map byteV) W) (hroom : sLen + n ≤ cap)
    (hK : ∀ W', BufIs w0 W' cap (xs ++ ys) → wpList Try.prog ops Q rest (a.put o.dst (.slice (some ⟨w0.heap.size, 0, none⟩) m cap)) W') :
    wpList Try.prog ops Q (o :: rest) a W := by
  subst hl hm hy
  have hr := hB.room (ys.map byteV).length (by rw [List.length_map]; exact hroom)
  refine wpList_append_room1 W hg s x 28 tx hop 5 (.int .u8 0) 1 Try.underlying28 info5 w0.heap.size 0 xs.length cap hs xv hx ys.length (ys.map byteV) hsrc hroom hr.1 hr.2 ?_
  rw [Nat.zero_add]
  exact hK _ (hB.append ys)
theorem src_one (W : World) (c : UInt8) (v : Int) (hv : v = (c.toNat : Int)) (g : Nat) (hg : g = W.heap.size) : Src Try.prog 1 28 (.slice (some ⟨g, 0, none⟩) 1 1) 1 ([c].map byteV) (W.alloc (.cells #[.int .u8 v] 5)) := by
  subst hg hv
  refine Src.ofSlice _ Try.underlying28 ⟨W.heap.size, 0, none⟩ 1 1 _ rfl (fun j u hj => ?_) (fun u hu => ?_)
  · match j, hj with
    | 0, hj => simp at hj; subst hj; simp [Addr.add, byteV]
    | j + 1, hj => simp at hj
  · simp at hu; subst hu; rfl

set_option maxHeartbeats 1000000 in
theorem setof_any (a : Option Addr) (n c : Nat) (pre : List UInt8) (rest : ByteArray) (w : World) (hp : Pre w (.slice a n c) n pre) (hn : n ≤ 3) (hr : rest.size ≤ 65536) :
    Calls Try.prog 13 #[.slice a n c, .string rest] w fun e w' => SetAns pre rest w e w' := by
  have hmk := run_make_room (P := Try.prog) 28 5 (.int .u8 0) 1 Try.underlying28 info5 rfl .i64 .i64 (n + rest.size + 2) (by omega) (by omega)
  have ec : ((n + rest.size + 2 : Nat) : Int) = (n : Int) + rest.size + 2 := by omega
  rw [ec] at hmk
  have HP : Hid (Pre w (.slice a n c) n pre) := hp
  have HL : Hid (pre.length = n) := hp.1
  have HL3 : Hid (([91] ++ pre ++ rest.data.toList : List UInt8).length = 1 + n + rest.size) := (by
    have e : rest.data.toList.length = rest.size := rfl
    have e2 := hp.1
    simp only [List.length_append, List.length_cons, List.length_nil]
    omega : ([91] ++ pre ++ rest.data.toList : List UInt8).length = 1 + n + rest.size)
  have HL4 : Hid (([91] ++ pre ++ rest.data.toList ++ [93] : List UInt8).length = 1 + n + rest.size + 1) := (by
    rw [List.length_append, HL3.out]; rfl : ([91] ++ pre ++ rest.data.toList ++ [93] : List UInt8).length = 1 + n + rest.size + 1)
  have HL5 : Hid (([91] ++ pre ++ rest.data.toList ++ [93] : List UInt8).length ≤ n + rest.size + 2) := (by
    rw [HL4.out]; omega : ([91] ++ pre ++ rest.data.toList ++ [93] : List UInt8).length ≤ n + rest.size + 2)
  clear hp ec
  go_enter Try.func13, Try.ntmps13
  go_wp2_with (first
    | (at_builtin; refine step_room (w0 := w) rfl _ _ 28 rfl (n + rest.size + 2) (1 + n + rest.size) 1 (1 + n + rest.size + 1) ([91] ++ pre ++ rest.data.toList) [93] HL3.out rfl rfl rfl _ rfl (HB3.out.alloc _ _) (src_one W3 93 93 rfl _ rfl) ?r4 ?_; (case r4 => omega); intro W4 hB4; have hcv := hB4.convert (1 + n + rest.size + 1) HL4.out.symm HL5.out; have HB4 : Hid (BufIs w W4 (n + rest.size + 2) ([91] ++ pre ++ rest.data.toList ++ [93])) := hB4; clear hB4)
    | (at_builtin; refine step_room (w0 := w) rfl _ _ 9 rfl (n + rest.size + 2) (1 + n) rest.size (1 + n + rest.size) ([91] ++ pre) rest.data.toList ?l3 rfl rfl rfl _ rfl HB2.out (Src.ofString W2 Try.underlying9 rest) ?r3 ?_; (case l3 => simp only [List.length_append, List.length_cons, List.length_nil, HL.out]); (case r3 => omega); intro W3 hB3; have HB3 : Hid (BufIs w W3 (n + rest.size + 2) ([91] ++ pre ++ rest.data.toList)) := hB3; clear hB3)
    | (at_builtin; refine step_room (w0 := w) rfl _ _ 28 rfl (n + rest.size + 2) 1 n (1 + n) [91] pre rfl HL.out rfl rfl _ rfl HB1.out (HP.out.2 W1 HB1.out.2) ?r2 ?_; (case r2 => omega); intro W2 hB2; have HB2 : Hid (BufIs w W2 (n + rest.size + 2) ([91] ++ pre)) := hB2; clear hB2)
    | (at_builtin; refine step_room (w0 := w) rfl _ _ 28 rfl (n + rest.size + 2) 0 1 1 [] [91] rfl rfl rfl rfl _ rfl ((BufIs.start w _).alloc _ _) (src_one _ 91 91 rfl _ ?g1) ?r1 ?_; (case g1 => simp); (case r1 => omega); intro W1 hB1; have HB1 : Hid (BufIs w W1 (n + rest.size + 2) [91]) := hB1; clear hB1 hmk))
  go_ret
  exact ⟨congrArg (fun l : List UInt8 => Ending.returned (.string ⟨l.toArray⟩)) (by simp), HB4.out.2⟩

/-! ### Prefixes at the calls -/
theorem grown_cell {w W : World} (h : Grown w W) {b o : Nat} {v : Value} (hc : w.cell? ⟨b, o, none⟩ = some v) : W.cell? ⟨b, o, none⟩ = some v := by
  have hb : b < w.heap.size := World.block_lt_of_cell? w ⟨b, o, none⟩ hc
  have hk := h.1.2.2 b hb
  simp only [World.cell?] at hc ⊢
  cases h1 : w.heap[b]? with
  | none => rw [h1] at hc; exact absurd hc (by simp)
  | some ob =>
    rw [h1] at hc hk
    cases ob with
    | cells c t fr =>
      cases h2 : W.heap[b]? with
      | none => rw [h2] at hk; exact absurd hk (by simp)
      | some ob' =>
        rw [h2] at hk
        cases ob' with
        | cells c' t' fr' =>
          have := hk.2.2.2 o (fun f => f)
          simp at hc ⊢
          rw [this]
          exact hc
        | _ => exact absurd hk (by simp)
    | _ => exact absurd hc (by simp)
def u8 (x : Int) : UInt8 := UInt8.ofNat x.toNat
theorem u8_val {x : Int} (h0 : 0 ≤ x) (h1 : x ≤ 255) : ((u8 x).toNat : Int) = x := by
  unfold u8
  rw [UInt8.toNat_ofNat']
  omega
theorem pre_nil (w : World) : Pre w (.slice none 0 0) 0 [] := ⟨rfl, fun W _ => Src.ofNil W Try.underlying28 0⟩
theorem pre_cells (w : World) (g n : Nat) (pre : List UInt8) (hl : pre.length = n) (hc : ∀ j (h : j < pre.length), w.cell? ⟨g, j, none⟩ = some (byteV pre[j])) : Pre w (.slice (some ⟨g, 0, none⟩) n n) n pre := by
  refine ⟨hl, fun W hW => Src.ofSlice W Try.underlying28 ⟨g, 0, none⟩ n n _ (by rw [List.length_map]; omega) (fun j u hj => ?_) (fun u hu => ?_)⟩
  · rw [add_plain, Nat.zero_add]
    obtain ⟨h1, h2⟩ := List.getElem?_eq_some_iff.1 hj
    rw [List.length_map] at h1
    rw [grown_cell hW (hc j h1), ← h2, List.getElem_map]
  · obtain ⟨_, _, rfl⟩ := List.mem_map.1 hu
    rfl
theorem cell_new (w : World) (cs : Array Value) (j : Nat) (h : j < cs.size) : (w.alloc (.cells cs 5)).cell? ⟨w.heap.size, j, none⟩ = some cs[j] := by
  have e : (w.alloc (.cells cs 5)).heap[w.heap.size]? = some (.cells cs 5) := heap_alloc_new w _
  simp only [World.cell?, e]
  simp [h]
theorem pre1 (w : World) (x : Int) (h0 : 0 ≤ x) (h1 : x ≤ 255) : Pre (w.alloc (.cells #[.int .u8 x] 5)) (.slice (some ⟨w.heap.size, 0, none⟩) 1 1) 1 [u8 x] :=
  pre_cells _ _ 1 _ rfl (fun j h => by
    match j, h with
    | 0, _ => rw [cell_new w _ 0 (by simp)]; unfold byteV; simp [u8_val h0 h1])
theorem pre2 (w : World) (x : Int) (h0 : 0 ≤ x) (h1 : x ≤ 255) : Pre (w.alloc (.cells #[.int .u8 37, .int .u8 x] 5)) (.slice (some ⟨w.heap.size, 0, none⟩) 2 2) 2 [37, u8 x] :=
  pre_cells _ _ 2 _ rfl (fun j h => by
    match j, h with
    | 0, _ => rw [cell_new w _ 0 (by simp)]; rfl
    | 1, _ => rw [cell_new w _ 1 (by simp)]; unfold byteV; simp [u8_val h0 h1])
theorem pre3 (w : World) (x y : Int) (h0 : 0 ≤ x) (h1 : x ≤ 255) (k0 : 0 ≤ y) (k1 : y ≤ 255) : Pre (w.alloc (.cells #[.int .u8 x, .int .u8 45, .int .u8 y] 5)) (.slice (some ⟨w.heap.size, 0, none⟩) 3 3) 3 [u8 x, 45, u8 y] :=
  pre_cells _ _ 3 _ rfl (fun j h => by
    match j, h with
    | 0, _ => rw [cell_new w _ 0 (by simp)]; unfold byteV; simp [u8_val h0 h1]
    | 1, _ => rw [cell_new w _ 1 (by simp)]; rfl
    | 2, _ => rw [cell_new w _ 2 (by simp)]; unfold byteV; simp [u8_val k0 k1])
end Go.Proofs.Qxb6602654a
