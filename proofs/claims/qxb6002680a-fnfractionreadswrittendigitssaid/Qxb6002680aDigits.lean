/-
  DERIVED. Plain mathematics on decimal digits in lists of bytes: no Go in sight.
-/
import Derived.Lib.Strings
namespace Go.Proofs.Qxb6002680a.Dig

def isDig (c : UInt8) : Bool := decide (48 ≤ c.toNat) && decide (c.toNat ≤ 57)
/-- How many digits a list begins with. -/
def run (l : List UInt8) : Nat := (l.takeWhile isDig).length
/-- The number that digits write. -/
def val (l : List UInt8) : Nat := l.foldl (fun n c => n * 10 + (c.toNat - 48)) 0

theorem run_le (l : List UInt8) : run l ≤ l.length := by
  unfold run
  induction l with
  | nil => simp
  | cons c l ih =>
    rw [List.takeWhile_cons]
    split
    · simp only [List.length_cons]; omega
    · simp

theorem lt_run_iff (l : List UInt8) (k : Nat) (hk : k < l.length) (hr : k ≤ run l) : k < run l ↔ isDig l[k] = true := by
  induction l generalizing k with
  | nil => simp at hk
  | cons c l ih =>
    unfold run at hr ⊢
    rw [List.takeWhile_cons] at hr ⊢
    cases k with
    | zero =>
      simp only [List.getElem_cons_zero]
      split <;> simp_all
    | succ k =>
      split at hr
      · rename_i hc
        rw [if_pos hc]
        simp only [List.length_cons, List.getElem_cons_succ] at hr ⊢
        have := ih k (by simpa using hk) (by unfold run; omega)
        unfold run at this
        rw [← this]
        omega
      · simp at hr

theorem run_dig (l : List UInt8) (k : Nat) (hk : k < l.length) (hr : k < run l) : isDig l[k] = true :=
  (lt_run_iff l k hk (by omega)).1 hr

theorem val_snoc (l : List UInt8) (c : UInt8) : val (l ++ [c]) = val l * 10 + (c.toNat - 48) := by
  unfold val; rw [List.foldl_append]; rfl

theorem val_take_succ (l : List UInt8) (k : Nat) (hk : k < l.length) : val (l.take (k + 1)) = val (l.take k) * 10 + (l[k].toNat - 48) := by
  rw [List.take_succ_eq_append_getElem hk, val_snoc]

theorem isDig_bd {c : UInt8} (h : isDig c = true) : 48 ≤ c.toNat ∧ c.toNat ≤ 57 := by
  unfold isDig at h
  simp only [Bool.and_eq_true, decide_eq_true_eq] at h
  exact h

theorem val_lt (l : List UInt8) (k : Nat) (hr : k ≤ run l) : val (l.take k) < 10 ^ k := by
  induction k with
  | zero => simp [val]
  | succ k ih =>
    have hl := run_le l
    have hk : k < l.length := by omega
    rw [val_take_succ l k hk]
    have hd := isDig_bd (run_dig l k hk (by omega))
    have := ih (by omega)
    rw [Nat.pow_succ]
    omega

theorem pow_le9 {k : Nat} (h : k ≤ 9) : 10 ^ k ≤ 1000000000 := by
  have : 10 ^ k ≤ 10 ^ 9 := Nat.pow_le_pow_right (by omega) h
  omega

theorem pow_split {k : Nat} (h : k ≤ 9) : 10 ^ k * 10 ^ (9 - k) = 1000000000 := by
  rw [← Nat.pow_add, Nat.add_sub_cancel' h]

/-- The digits of v, k of them, leading zeros too. -/
def pad : Nat → Nat → List UInt8
  | 0, _ => []
  | k + 1, v => pad k (v / 10) ++ [UInt8.ofNat (48 + v % 10)]

theorem pad_length (k v : Nat) : (pad k v).length = k := by
  induction k generalizing v with
  | zero => rfl
  | succ k ih => simp [pad, ih]

theorem toNat_digit (v : Nat) : (UInt8.ofNat (48 + v % 10)).toNat = 48 + v % 10 := by
  have : v % 10 < 10 := Nat.mod_lt _ (by omega)
  rw [UInt8.toNat_ofNat']
  exact Nat.mod_eq_of_lt (by omega)

theorem pad_dig (k v : Nat) : ∀ c ∈ pad k v, isDig c = true := by
  induction k generalizing v with
  | zero => intro c hc; simp [pad] at hc
  | succ k ih =>
    intro c hc
    rw [pad, List.mem_append] at hc
    rcases hc with hc | hc
    · exact ih _ c hc
    · simp only [List.mem_singleton] at hc
      subst hc
      have := toNat_digit v
      have hm : v % 10 < 10 := Nat.mod_lt _ (by omega)
      unfold isDig
      rw [this]
      simp only [Bool.and_eq_true, decide_eq_true_eq]
      omega

theorem pad_val (k v : Nat) (h : v < 10 ^ k) : val (pad k v) = v := by
  induction k generalizing v with
  | zero => simp at h; subst h; rfl
  | succ k ih =>
    rw [pad, val_snoc, ih (v / 10) (by rw [Nat.pow_succ] at h; omega), toNat_digit]
    omega

theorem run_all (l : List UInt8) (h : ∀ c ∈ l, isDig c = true) (t : List UInt8) (ht : ∀ c, t.head? = some c → isDig c = false) : run (l ++ t) = l.length := by
  induction l with
  | nil =>
    unfold run
    cases t with
    | nil => rfl
    | cons c t =>
      have := ht c rfl
      simp [this]
  | cons c l ih =>
    have hc := h c (by simp)
    have := ih (fun c hc => h c (by simp [hc]))
    unfold run at this ⊢
    rw [List.cons_append, List.takeWhile_cons, if_pos hc]
    simp only [List.length_cons]
    rw [this]
end Go.Proofs.Qxb6002680a.Dig
