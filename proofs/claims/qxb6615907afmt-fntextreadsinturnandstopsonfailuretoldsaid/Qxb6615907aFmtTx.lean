import Derived.Lib.VarintDec
namespace Go.Proofs.Qxb6615907aFmt

/-! ### PLAIN: what text() reads at o: the text, the offset after it, whether it failed. No Go in sight. -/
def tx (l : List UInt8) (o : Nat) : List UInt8 × Nat × Bool :=
  if (Lib.uvarintDec (l.drop o)).2 ≤ 0 then ([], o, true)
  else if l.length < o + (Lib.uvarintDec (l.drop o)).2.toNat + (Lib.uvarintDec (l.drop o)).1 then ([], o + (Lib.uvarintDec (l.drop o)).2.toNat, true)
  else ((l.drop (o + (Lib.uvarintDec (l.drop o)).2.toNat)).take (Lib.uvarintDec (l.drop o)).1, o + (Lib.uvarintDec (l.drop o)).2.toNat + (Lib.uvarintDec (l.drop o)).1, false)

theorem uvarintFrom_le : ∀ (l : List UInt8) (i acc : Nat), 0 < (Lib.uvarintFrom i acc l).2 → i < (Lib.uvarintFrom i acc l).2.toNat ∧ (Lib.uvarintFrom i acc l).2.toNat ≤ i + l.length
  | [], i, acc, h => by simp [Lib.uvarintFrom] at h
  | b :: r, i, acc, h => by
    unfold Lib.uvarintFrom at h ⊢
    split
    · rename_i e; rw [if_pos e] at h; simp at h; omega
    · rename_i e
      rw [if_neg e] at h
      split
      · rename_i e2
        rw [if_pos e2] at h
        split
        · rename_i e3; rw [if_pos e3] at h; simp at h; omega
        · (simp <;> omega)
      · rename_i e2
        rw [if_neg e2] at h
        have := uvarintFrom_le r (i + 1) _ h
        simp
        omega

theorem uvarintDec_le (l : List UInt8) (h : 0 < (Lib.uvarintDec l).2) : (Lib.uvarintDec l).2.toNat ≤ l.length := by
  have := uvarintFrom_le l 0 0 h
  unfold Lib.uvarintDec at *
  omega

theorem tx_le (l : List UInt8) (o : Nat) (ho : o ≤ l.length) : o ≤ (tx l o).2.1 ∧ (tx l o).2.1 ≤ l.length := by
  unfold tx
  split
  · exact ⟨Nat.le_refl _, ho⟩
  · rename_i h
    have h1 := uvarintDec_le (l.drop o) (by omega)
    rw [List.length_drop] at h1
    split
    · simp; omega
    · simp; omega

/-- The byte at place j. -/
def bt (b : List UInt8) (j : Nat) : Nat := (b.getD j 0).toNat
theorem bt_lt (b : List UInt8) (j : Nat) : bt b j < 256 := (b.getD j 0).toNat_lt

/-- What the seven bits of each byte spell, the least first. -/
def vl : List UInt8 → Nat
  | [] => 0
  | b :: r => b.toNat % 128 + 128 * vl r

theorem vl_drop_le : ∀ (l : List UInt8) (s : Nat), vl (l.drop s) ≤ vl l
  | [], s => by simp
  | b :: r, 0 => Nat.le_refl _
  | b :: r, s + 1 => by
    have := vl_drop_le r s
    simp only [List.drop_succ_cons, vl]
    omega

theorem vl_step (l : List UInt8) (s : Nat) (hs : s < l.length) : vl (l.drop s) = bt l s % 128 + 128 * vl (l.drop (s + 1)) := by
  rw [List.drop_eq_getElem_cons hs]
  simp [vl, bt, List.getD, List.getElem?_eq_getElem hs]

theorem from_good : ∀ (m i acc : Nat) (b : List UInt8), m < b.length → (∀ j, j < m → 128 ≤ bt b j) → bt b m < 128 → i + m ≤ 9 → ¬ (i + m = 9 ∧ 1 < bt b m) →
    Lib.uvarintFrom i acc b = (acc + vl (b.take (m + 1)) * 2 ^ (7 * i), ((i + m + 1 : Nat) : Int))
  | 0, i, acc, b :: r, _, _, hb, h9, hne => by
    have hb' : b.toNat < 128 := hb
    have hne' : ¬ (i = 9 ∧ 1 < b.toNat) := hne
    have e1 : b.toNat % 128 = b.toNat := Nat.mod_eq_of_lt hb'
    simp only [Lib.uvarintFrom, List.take_succ_cons, List.take_zero, vl, Nat.mul_zero, Nat.add_zero]
    rw [if_neg (by omega), if_pos hb', if_neg hne', e1]
    simp
  | m + 1, i, acc, b :: r, hlen, hall, hb, h9, hne => by
    have h0 : 128 ≤ b.toNat := hall 0 (by omega)
    have ih := from_good m (i + 1) (acc + b.toNat % 128 * 2 ^ (7 * i)) r (by simpa using hlen) (fun j hj => hall (j + 1) (by omega)) hb (by omega) (fun h => hne ⟨by omega, h.2⟩)
    simp only [Lib.uvarintFrom, List.take_succ_cons, vl]
    rw [if_neg (by omega), if_neg (by omega), ih]
    have e2 : (2 : Nat) ^ (7 * (i + 1)) = 128 * 2 ^ (7 * i) := by
      rw [show 7 * (i + 1) = 7 + 7 * i by omega, Nat.pow_add]
    refine Prod.ext ?_ ?_
    · show acc + b.toNat % 128 * 2 ^ (7 * i) + vl (r.take (m + 1)) * 2 ^ (7 * (i + 1)) = acc + (b.toNat % 128 + 128 * vl (r.take (m + 1))) * 2 ^ (7 * i)
      rw [e2, Nat.add_mul, Nat.add_assoc]
      congr 2
      rw [Nat.mul_comm 128 (vl (r.take (m + 1))), Nat.mul_assoc]
    · show ((i + 1 + m + 1 : Nat) : Int) = ((i + (m + 1) + 1 : Nat) : Int)
      congr 1
      omega

theorem from_nine : ∀ (m i acc : Nat) (b : List UInt8), m < b.length → (∀ j, j < m → 128 ≤ bt b j) → bt b m < 128 → i + m = 9 → 1 < bt b m → (Lib.uvarintFrom i acc b).2 ≤ 0
  | 0, i, acc, b :: r, _, _, hb, h9, hne => by
    have hb' : b.toNat < 128 := hb
    have hne' : 1 < b.toNat := hne
    simp only [Lib.uvarintFrom]
    rw [if_neg (by omega), if_pos hb', if_pos ⟨by omega, hne'⟩]
    simp only
    omega
  | m + 1, i, acc, b :: r, hlen, hall, hb, h9, hne => by
    have h0 : 128 ≤ b.toNat := hall 0 (by omega)
    have ih := from_nine m (i + 1) (acc + b.toNat % 128 * 2 ^ (7 * i)) r (by simpa using hlen) (fun j hj => hall (j + 1) (by omega)) hb (by omega) hne
    simp only [Lib.uvarintFrom]
    rw [if_neg (by omega), if_neg (by omega)]
    exact ih

theorem from_none : ∀ (b : List UInt8) (i acc : Nat), i ≤ 10 → (∀ j, j < b.length → i + j < 10 → 128 ≤ bt b j) → (Lib.uvarintFrom i acc b).2 ≤ 0
  | [], i, acc, _, _ => by simp [Lib.uvarintFrom]
  | b :: r, i, acc, hi, hall => by
    unfold Lib.uvarintFrom
    split
    · simp only; omega
    · have h0 : 128 ≤ b.toNat := hall 0 (by simp) (by omega)
      rw [if_neg (by omega)]
      exact from_none r (i + 1) _ (by omega) (fun j hj h => hall (j + 1) (by simpa using hj) (by omega))

theorem dec_good (b : List UInt8) (m : Nat) (hm : m < b.length) (hall : ∀ j, j < m → 128 ≤ bt b j) (hb : bt b m < 128) (h9 : m ≤ 9) (hne : ¬ (m = 9 ∧ 1 < bt b m)) : Lib.uvarintDec b = (vl (b.take (m + 1)), ((m + 1 : Nat) : Int)) := by
  have := from_good m 0 0 b hm hall hb (by omega) (by omega)
  unfold Lib.uvarintDec
  rw [this]
  simp
theorem dec_nine (b : List UInt8) (hm : 9 < b.length) (hall : ∀ j, j < 9 → 128 ≤ bt b j) (hb : bt b 9 < 128) (h1 : 1 < bt b 9) : (Lib.uvarintDec b).2 ≤ 0 := from_nine 9 0 0 b hm hall hb rfl h1
theorem dec_none (b : List UInt8) (hall : ∀ j, j < b.length → j < 10 → 128 ≤ bt b j) : (Lib.uvarintDec b).2 ≤ 0 := from_none b 0 0 (by omega) (fun j hj h => hall j hj (by omega))

/-! ### tx, way by way -/
theorem tx_bad (l : List UInt8) (o : Nat) (h : (Lib.uvarintDec (l.drop o)).2 ≤ 0) : tx l o = ([], o, true) := by
  unfold tx
  rw [if_pos h]
theorem tx_big (l : List UInt8) (o m v : Nat) (h : Lib.uvarintDec (l.drop o) = (v, ((m + 1 : Nat) : Int))) (hb : l.length < o + (m + 1) + v) : tx l o = ([], o + (m + 1), true) := by
  unfold tx
  rw [h, if_neg (by simp only; omega)]
  simp only [Int.toNat_natCast]
  rw [if_pos hb]
theorem tx_ok (l : List UInt8) (o m v : Nat) (h : Lib.uvarintDec (l.drop o) = (v, ((m + 1 : Nat) : Int))) (hb : o + (m + 1) + v ≤ l.length) : tx l o = ((l.drop (o + (m + 1))).take v, o + (m + 1) + v, false) := by
  unfold tx
  rw [h, if_neg (by simp only; omega)]
  simp only [Int.toNat_natCast]
  rw [if_neg (by omega)]

end Go.Proofs.Qxb6615907aFmt
