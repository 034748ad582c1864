import Derived.Test.Qxb6615907aFmtModel
import Derived.Laws.CopyOwn
import Derived.Deep.OwnRows
namespace Go.Proofs.Qxb6615907aFmt
open Go.RowKit Go.Extern.Stop Go.Stop Go.Extern

theorem info5 : (Tryf.prog.info? 5).map (fun i => (i.zero, i.size, i.bytes)) = some (some (.int .u8 0), 1, 1) := by kernel_rfl
theorem size5 : (Tryf.prog.info? 5).map (·.size) = some 1 := by kernel_rfl

theorem bytes5 (a : Option Addr) (len cap : Nat) (o : Int) (w : World) (h : len ≤ maxLen) :
    Calls Tryf.prog 5 #[.slice a len cap, .int .i64 o] w fun e w' => e = .returned (.bool (decide (len ≤ 1048576))) ∧ w = w' := by
  unfold maxLen at h
  by_cases h1 : len ≤ 1048576
  · go_enter Tryf.func5, Tryf.ntmps5
    go_wp2
    go_ret
    exact ⟨by simp [h1], rfl⟩
  · go_enter Tryf.func5, Tryf.ntmps5
    go_wp2
    go_ret
    exact ⟨by simp [h1], rfl⟩

theorem bytes11 (a : Option Addr) (len cap : Nat) (o : Int) (w : World) (h : len ≤ maxLen) :
    Calls Tryf.prog 11 #[.slice a len cap, .int .i64 o] w fun e w' => e = .returned (.bool (decide (len ≤ 1048576))) ∧ w = w' := by
  unfold maxLen at h
  by_cases h1 : len ≤ 1048576
  · go_enter Tryf.func11, Tryf.ntmps11
    go_wp2
    go_ret
    exact ⟨by simp [h1], rfl⟩
  · go_enter Tryf.func11, Tryf.ntmps11
    go_wp2
    go_ret
    exact ⟨by simp [h1], rfl⟩

theorem text7 (db : Nat) (w : World) (s : ByteArray) (R : World → Prop)
    (hc : Calls Tryf.prog 12 #[.pointer (some ⟨db, 0, none⟩)] w fun e w' => e = .returned (.string s) ∧ R w') :
    Calls Tryf.prog 7 #[.pointer (some ⟨db, 0, none⟩)] w fun e w' => e = .returned (.string s) ∧ R w' := by
  have HC := hidOf hc
  clear hc
  go_enter Tryf.func7, Tryf.ntmps7
  go_wp2_with fail
  refine (Hid.out HC).mono ?_
  rintro e w2 ⟨rfl, h2⟩
  have H2 := hidOf h2
  clear h2
  go_wp2
  go_ret
  exact ⟨rfl, H2.out⟩

theorem failed_is (db : Nat) (f : Bool) (er : Value) (w : World) (h : w.cell? ⟨db, 2, none⟩ = some er) (hf : ErrIs f er) :
    Calls Tryf.prog 9 #[.pointer (some ⟨db, 0, none⟩)] w fun e w' => e = .returned (.bool f) ∧ w = w' := by
  rcases hf with ⟨rfl, a, rfl⟩ | ⟨rfl, rfl⟩
  · exact failed_yes db a w h
  · exact failed_no db w h

theorem dec_new (w : World) (dv : Option Addr) (n c : Nat) (o : Int) : Dec (w.alloc (.cells #[.slice dv n c, .int .i64 o, .nilIface] 34)) w.heap.size (.slice dv n c) o .nilIface := by
  refine ⟨?_, ?_, ?_, ?_, ?_⟩
  · exact (World.cell?_alloc_at (w := w) _ _ _ _ rfl).trans rfl
  · exact (World.cell?_alloc_at (w := w) _ _ _ _ rfl).trans rfl
  · exact (World.cell?_alloc_at (w := w) _ _ _ _ rfl).trans rfl
  · go_simp
  · go_simp

/-- THE COPY OF THE DATA: a new row that holds its bytes. -/
theorem copyin (w : World) (x : Addr) (cap : Nat) (l : List UInt8) (hc : ∀ j (hj : j < l.length), w.cell? (x.add j) = some (.int .u8 (l[j]).toNat)) :
    ∃ W2, (∀ ty, (Builtin.copy_ #[22, 22] ty #[.slice (some ⟨w.heap.size, 0, none⟩) l.length l.length, .slice (some x) l.length cap]).run Tryf.prog (w.alloc (.cells (madeCells #[.int .u8 0] l.length) 5)) = .ok (.int .i64 (l.length : Int)) W2) ∧
      Bytes W2 w.heap.size 0 l ∧ Below w.heap.size w W2 ∧ W2.heap.size = w.heap.size + 1 := by
  have hB1 : Below w.heap.size w (w.alloc (.cells (madeCells #[.int .u8 0] l.length) 5)) := (Below.refl _ w).alloc (Nat.le_refl _) _
  rcases Nat.eq_zero_or_pos l.length with h0 | h0
  · refine ⟨w.alloc (.cells (madeCells #[.int .u8 0] l.length) 5), fun ty => ?_, fun j hj => by omega, hB1, by simp⟩
    rw [run_copy_none (P := Tryf.prog) _ 22 22 ty 5 _ _ _ _ _ _ Tryf.underlying22 size5 (by rw [h0]; rfl), h0]
    rfl
  · have hcs : (l.map fun u => Value.int .u8 (u.toNat : Int)).length = Nat.min l.length l.length := by simp
    have hsz : (madeCells #[.int .u8 0] l.length).size = l.length := by simp [madeCells]
    have hg : (w.alloc (.cells (madeCells #[.int .u8 0] l.length) 5)).heap[w.heap.size]? = some (.cells (madeCells #[.int .u8 0] l.length) 5 (0, 0)) := (MapKept.heap_alloc w _).1
    have hrun := fun ty => run_copy_row (P := Tryf.prog) (w.alloc (.cells (madeCells #[.int .u8 0] l.length) 5)) 22 22 ty 5 w.heap.size 0 l.length l.length x l.length cap (madeCells #[.int .u8 0] l.length) 5 (l.map fun u => Value.int .u8 (u.toNat : Int)) Tryf.underlying22 size5 hg hcs
      (fun j v hj => by
        have hj' : j < l.length := by have := (List.getElem?_eq_some_iff.1 hj).1; simpa using this
        have hlt : (x.add j).block < w.heap.size := block_lt_of_cell (hc j hj')
        rw [hB1.cell hlt, hc j hj']
        simp [List.getElem?_eq_getElem hj'] at hj
        rw [← hj])
      (by rw [hsz]; simp) (fun v hv => by obtain ⟨u, _, rfl⟩ := List.mem_map.1 hv; rfl)
    have hrow : ((madeCells #[.int .u8 0] l.length).toList.take 0 ++ (l.map fun u => Value.int .u8 (u.toNat : Int)) ++ (madeCells #[.int .u8 0] l.length).toList.drop (0 + (l.map fun u => Value.int .u8 (u.toNat : Int)).length)).toArray = (l.map fun u => Value.int .u8 (u.toNat : Int)).toArray := by
      have : (madeCells #[.int .u8 0] l.length).toList.drop (0 + (l.map fun u => Value.int .u8 (u.toNat : Int)).length) = [] := List.drop_eq_nil_of_le (by simp [hsz])
      rw [this]
      simp
    rw [hrow] at hrun
    refine ⟨(w.alloc (.cells (madeCells #[.int .u8 0] l.length) 5)).setRow w.heap.size (l.map fun u => Value.int .u8 (u.toNat : Int)).toArray, fun ty => (hrun ty).trans (by rw [List.length_map]; rfl), fun j hj => ?_, below_setRow hB1 (Nat.le_refl _) _, by simp [World.setRow]⟩
    have hh := setRow_heap (w.alloc (.cells (madeCells #[.int .u8 0] l.length) 5)) w.heap.size (madeCells #[.int .u8 0] l.length) (l.map fun u => Value.int .u8 (u.toNat : Int)).toArray 5 (0, 0) hg
    unfold World.cell?
    simp only [hh]
    simp [List.getElem?_eq_getElem hj]

/-- READING THE BYTES FROM o ONWARD AT OFFSET 0 IS READING AT o, the offset shifted. -/
theorem tx_shift (l : List UInt8) (o : Nat) (ho : o ≤ l.length) : (tx (l.drop o) 0).1 = (tx l o).1 ∧ o + (tx (l.drop o) 0).2.1 = (tx l o).2.1 ∧ (tx (l.drop o) 0).2.2 = (tx l o).2.2 := by
  unfold tx
  rw [List.drop_zero, List.length_drop]
  split
  · exact ⟨rfl, rfl, rfl⟩
  · rename_i h
    by_cases hb : l.length < o + (Lib.uvarintDec (l.drop o)).2.toNat + (Lib.uvarintDec (l.drop o)).1
    · rw [if_pos hb, if_pos (by omega)]
      exact ⟨rfl, by simp, rfl⟩
    · rw [if_neg hb, if_neg (by omega)]
      refine ⟨?_, ?_, rfl⟩
      · show List.take _ (List.drop (0 + _) (List.drop o l)) = _
        rw [List.drop_drop, Nat.zero_add]
      · exact (by omega : o + (0 + (Lib.uvarintDec (l.drop o)).2.toNat + (Lib.uvarintDec (l.drop o)).1) = o + (Lib.uvarintDec (l.drop o)).2.toNat + (Lib.uvarintDec (l.drop o)).1)

end Go.Proofs.Qxb6615907aFmt
