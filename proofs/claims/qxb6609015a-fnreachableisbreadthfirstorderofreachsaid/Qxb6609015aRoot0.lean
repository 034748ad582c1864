import Derived.Test.Qxb6609015aGraph
namespace Go.Proofs.Qxb6609015a
open Go.RowKit Go.Maps

theorem info5 : (Try.prog.info? 5).map (fun i => (i.zero, i.size, i.bytes)) = some (some (.int .u8 0), 1, 1) := by kernel_rfl
theorem info3 : (Try.prog.info? 3).map (fun i => (i.zero, i.size, i.bytes)) = some (some (.int .i64 0), 1, 8) := by kernel_rfl

/-- make([]byte, n). -/
theorem make32 (w : World) (n : Nat) (hn : n ≤ 1048577) (z : Int) (hz : z = (n : Int)) : ∃ w', (Instr.makeSlice 32 (.int .i64 z) (.int .i64 z)).run Try.prog w = .ok (.slice (some ⟨w.heap.size, 0, none⟩) n n) w' ∧
    w'.ownsRow w.heap.size 5 1 (.slice (some ⟨w.heap.size, 0, none⟩) n n) n (List.replicate n (.int .u8 0)) ∧ w.grownBy w' none := by
  obtain ⟨i, hi, hzz⟩ := Option.map_eq_some_iff.1 info5
  simp only [Prod.mk.injEq] at hzz
  subst hz
  obtain ⟨w', h1, h2, h3⟩ := run_make_full (P := Try.prog) w w.heap.size 32 5 i (.int .u8 0) 1 Try.underlying32 hi hzz.1 hzz.2.1 .i64 .i64 n (by rw [hzz.2.2]; omega) (by unfold maxLen; omega) (Nat.le_refl _)
  rw [show (Value.int .u8 0).cells = #[.int .u8 0] from rfl, toList_madeCells_one, Nat.mul_one] at h2
  exact ⟨w', h1, h2, h3⟩

/-- make([]int, n). -/
theorem make31 (w : World) (base n : Nat) (hb : base ≤ w.heap.size) (hn : n ≤ 2097153) (z : Int) (hz : z = (n : Int)) : ∃ w', (Instr.makeSlice 31 (.int .i64 z) (.int .i64 z)).run Try.prog w = .ok (.slice (some ⟨w.heap.size, 0, none⟩) n n) w' ∧
    w'.ownsRow base 3 1 (.slice (some ⟨w.heap.size, 0, none⟩) n n) n (List.replicate n (.int .i64 0)) ∧ w.grownBy w' none := by
  obtain ⟨i, hi, hzz⟩ := Option.map_eq_some_iff.1 info3
  simp only [Prod.mk.injEq] at hzz
  subst hz
  obtain ⟨w', h1, h2, h3⟩ := run_make_full (P := Try.prog) w base 31 3 i (.int .i64 0) 1 Try.underlying31 hi hzz.1 hzz.2.1 .i64 .i64 n (by rw [hzz.2.2]; omega) (by unfold maxLen; omega) hb
  rw [show (Value.int .i64 0).cells = #[.int .i64 0] from rfl, toList_madeCells_one, Nat.mul_one] at h2
  exact ⟨w', h1, h2, h3⟩

/-- The fresh name: n times 'r'. -/
def rootOf (n : Nat) : ByteArray := ⟨(List.replicate n (114 : UInt8)).toArray⟩
theorem rootOf_size (n : Nat) : (rootOf n).size = n := by
  show (List.replicate n (114 : UInt8)).toArray.size = n
  simp

theorem conv32 (w : World) (g n c : Nat) (h : ∀ j, j < n → w.cell? ⟨g, j, none⟩ = some (.int .u8 114)) : (convert 32 9 (.slice (some ⟨g, 0, none⟩) n c)).run Try.prog w = .ok (.string (rootOf n)) w := by
  have := run_convert_bytes_back (P := Try.prog) w 32 9 5 ⟨g, 0, none⟩ c (List.replicate n (114 : UInt8)) Try.underlying32 Try.underlying5 Try.underlying9 (fun j hj => by
    rw [Go.WideShapes.add_plain, h (0 + j) (by simp at hj; omega)]
    simp)
  rw [List.length_replicate] at this
  exact this

theorem row_below {W W' : World} {base n : Nat} {e : TypeId} {v : Value} {xs : List Value} (h : W.ownsRow base e 1 v n xs) (hb : Below W.heap.size W W') : W'.ownsRow base e 1 v n xs :=
  h.kept (row := some W.heap.size) ⟨hb.os, hb.tape, hb.output, hb.size, fun i hi _ => hb.block i hi⟩ (by
    cases hv : v.ownBlock with
    | none => exact .inl rfl
    | some g => exact .inr (fun e => by have := (h.lt g hv).2; simp at e; omega))

theorem strs_of_row {w : World} {base : Nat} {v : Value} {l : List ByteArray} (h : w.ownsRow base 9 1 v l.length (l.map Value.string)) (hl : l.length ≤ maxLen) (hs : ∀ x ∈ l, x.size ≤ maxLen) :
    ∃ a cap B, v = .slice a l.length cap ∧ Strs w a l.length cap B 0 (fun j => l.getD j ByteArray.empty) := by
  rcases h.2 with ⟨rfl, h0⟩ | ⟨g, cap, cur, rfl, hb, hg, hn, hc, hcs, htake⟩
  · rw [h0]
    exact ⟨none, 0, 0, rfl, Nat.zero_le _, fun h => by omega, fun j hj => by omega⟩
  · refine ⟨_, cap, g, rfl, hl, fun _ => ⟨rfl, ?_⟩, fun j hj => ?_⟩
    · exact (h.lt g rfl).2
    · have hc := h.cellAt j (by omega)
      rw [Nat.zero_add, hc]
      refine ⟨by simp [hj], ?_⟩
      have : l.getD j ByteArray.empty = l[j] := by simp [hj]
      show (l.getD j ByteArray.empty).size ≤ maxLen
      rw [this]
      exact hs _ (List.getElem_mem hj)

theorem Lsts.below {w w' : World} {a : Option Addr} {len cap B O : Nat} {A : Nat → Option Addr} {N C Bi Oi : Nat → Nat} {S : Nat → Nat → ByteArray} (h : Lsts w a len cap B O A N C Bi Oi S) (hb : Below w.heap.size w w') : Lsts w' a len cap B O A N C Bi Oi S :=
  ⟨h.1, fun h0 => ⟨(h.2.1 h0).1, Nat.lt_of_lt_of_le (h.2.1 h0).2 hb.size⟩, fun j hj => ⟨(hb.cell (h.2.1 (by omega)).2).trans (h.2.2 j hj).1, (h.2.2 j hj).2.below hb⟩⟩

theorem pick_lt {w : World} {len0 len1 : Nat} {s : Nat → ByteArray} {a1 : Option Addr} {cap1 B1 O1 : Nat} {A : Nat → Option Addr} {N C Bi Oi : Nat → Nat} {S : Nat → Nat → ByteArray}
    (h1 : Lsts w a1 len1 cap1 B1 O1 A N C Bi Oi S) {t : ByteArray} (ht : 0 < (succL s len0 len1 N S t).length) : pickN s len0 len1 Bi t < w.heap.size := by
  unfold succL at ht
  unfold pickN
  cases hl : lIdx s len0 len1 t with
  | none => rw [hl] at ht; simp at ht
  | some i =>
    rw [hl] at ht
    exact ((h1.2.2 i (lIdx_lt hl).1).2.2.1 (by simpa [rowL] using ht)).2

end Go.Proofs.Qxb6609015a
