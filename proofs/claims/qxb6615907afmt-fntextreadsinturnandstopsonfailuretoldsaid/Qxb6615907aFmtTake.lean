import Derived.Test.Qxb6615907aFmtDec
namespace Go.Proofs.Qxb6615907aFmt
open Go.RowKit Go.Extern.Stop Go.Stop Go.Extern

set_option maxHeartbeats 400000 in
theorem take_in (db g so n o v : Nat) (w : World) (hn : n ≤ 1048576) (ho : o < n) (hv : o + v ≤ n)
    (h0 : w.cell? ⟨db, 0, none⟩ = some (.slice (some ⟨g, so, none⟩) n n)) (h1 : w.cell? ⟨db, 1, none⟩ = some (.int .i64 (o : Int))) (h2 : w.cell? ⟨db, 2, none⟩ = some .nilIface) (f1 : w.frozen? ⟨db, 1, none⟩ = false) :
    Calls Tryf.prog 13 #[.pointer (some ⟨db, 0, none⟩), .int .i64 (v : Int)] w fun e w' => e = .returned (.slice (some ⟨g, so + o, none⟩) v (n - o)) ∧ ∃ q, w' = (w.drewN q).setCell ⟨db, 1, none⟩ (.int .i64 ((o + v : Nat) : Int)) := by
  have hb := block_lt_of_cell h0
  go_enter Tryf.func13, Tryf.ntmps13
  go_wp2_with fail
  go_quiet (fail)
  go_wp2_with fail
  go_quiet (fail)
  go_wp2
  go_ret
  rw [show ((o + v : Nat) : Int) = (o : Int) + (v : Int) by omega]
  refine ⟨?_, _, rfl⟩
  show Ending.returned (.slice (some ⟨g, so + o, none⟩) (o + v - o) (n - o)) = _
  rw [Nat.add_sub_cancel_left]

set_option maxHeartbeats 400000 in
theorem take_end (db g so n : Nat) (w : World) (hn : n ≤ 1048576)
    (h0 : w.cell? ⟨db, 0, none⟩ = some (.slice (some ⟨g, so, none⟩) n n)) (h1 : w.cell? ⟨db, 1, none⟩ = some (.int .i64 (n : Int))) (h2 : w.cell? ⟨db, 2, none⟩ = some .nilIface) (f1 : w.frozen? ⟨db, 1, none⟩ = false) :
    Calls Tryf.prog 13 #[.pointer (some ⟨db, 0, none⟩), .int .i64 0] w fun e w' => e = .returned (.slice (some ⟨g, so, none⟩) 0 0) ∧ ∃ q, w' = (w.drewN q).setCell ⟨db, 1, none⟩ (.int .i64 (n : Int)) := by
  have hb := block_lt_of_cell h0
  go_enter Tryf.func13, Tryf.ntmps13
  go_wp2_with fail
  go_quiet (fail)
  go_wp2_with fail
  go_quiet (fail)
  go_wp2
  go_ret
  exact ⟨rfl, _, rfl⟩

/-! ### count -/
theorem below_dalloc (w : World) (q : Nat) (o : Obj) : Below w.heap.size w ((w.drewN q).alloc o) := ⟨rfl, rfl, rfl, by simp, fun k hk => Below.heap_alloc (w.drewN q) _ _ hk⟩
theorem new_cell (w : World) (q : Nat) (c : Array Value) (t : TypeId) (i : Nat) : ((w.drewN q).alloc (.cells c t)).cell? ⟨w.heap.size, i, none⟩ = c[i]? := World.cell?_alloc_at (w := w.drewN q) c t w.heap.size i rfl
theorem below_err {w w1 : World} {q : Nat} {o : Obj} (h : Below ((w.drewN q).alloc o).heap.size ((w.drewN q).alloc o) w1) : Below w.heap.size w w1 := (below_dalloc w q o).trans (h.mono (below_dalloc w q o).size)

set_option maxHeartbeats 400000 in
/-- No varint stands there: the error is set. -/
theorem count_bad (F : Interp) (db g so n o r1 : Nat) (r2 : Int) (w : World) (hF : F.answers w.tape) (ho : o < n) (hr : r2 ≤ 0)
    (HU : Hid (∀ q, Calls Tryf.prog 16 #[.slice (some ⟨g, so + o, none⟩) (n - o) (n - o)] (w.drewN q) fun e w'' => e = .returned (.tuple #[.int .u64 (r1 : Int), .int .i64 r2]) ∧ ∃ m, w'' = w.drewN m))
    (h0 : w.cell? ⟨db, 0, none⟩ = some (.slice (some ⟨g, so, none⟩) n n)) (h1 : w.cell? ⟨db, 1, none⟩ = some (.int .i64 (o : Int))) (h2 : w.cell? ⟨db, 2, none⟩ = some .nilIface) (f2 : w.frozen? ⟨db, 2, none⟩ = false) :
    Calls Tryf.prog 14 #[.pointer (some ⟨db, 0, none⟩), .int .i64 1] w fun e w' => e = .returned (.int .i64 0) ∧ ∃ a w1, Below w.heap.size w w1 ∧ w' = w1.setCell ⟨db, 2, none⟩ (.iface 46 (.pointer (some a))) := by
  have hb := block_lt_of_cell h0
  go_enter Tryf.func14, Tryf.ntmps14
  go_wp2_with fail
  go_quiet ((go_at_call 16; exact (Hid.out HU) _))
  go_wp2_with fail
  refine (errB F (o : Int) w.heap.size _ ?_ (new_cell _ _ _ _ _)).mono ?_
  · exact hF
  rintro e w1 ⟨rfl, hb1⟩
  have B1 := below_err hb1
  have k2 : w1.cell? ⟨db, 2, none⟩ = some .nilIface := (B1.cell hb).trans h2
  have fz : w1.frozen? ⟨db, 2, none⟩ = false := (B1.frozen hb).trans f2
  have HB := hidOf B1
  clear hb1 B1
  go_wp2
  go_ret
  exact ⟨rfl, _, w1, HB.out, rfl⟩

set_option maxHeartbeats 400000 in
/-- .. at the data's end, or in data without a byte. -/
theorem count_end (F : Interp) (db g so n : Nat) (w : World) (hF : F.answers w.tape)
    (h0 : w.cell? ⟨db, 0, none⟩ = some (.slice (some ⟨g, so, none⟩) n n)) (h1 : w.cell? ⟨db, 1, none⟩ = some (.int .i64 (n : Int))) (h2 : w.cell? ⟨db, 2, none⟩ = some .nilIface) (f2 : w.frozen? ⟨db, 2, none⟩ = false) :
    Calls Tryf.prog 14 #[.pointer (some ⟨db, 0, none⟩), .int .i64 1] w fun e w' => e = .returned (.int .i64 0) ∧ ∃ a w1, Below w.heap.size w w1 ∧ w' = w1.setCell ⟨db, 2, none⟩ (.iface 46 (.pointer (some a))) := by
  have hb := block_lt_of_cell h0
  go_enter Tryf.func14, Tryf.ntmps14
  go_wp2_with fail
  go_quiet ((go_at_call 16; exact Calls.quiet_of_same (Tryf.binary_Uvarint_empty _ _ _)))
  go_wp2_with fail
  refine (errB F (n : Int) w.heap.size _ ?_ (new_cell _ _ _ _ _)).mono ?_
  · exact hF
  rintro e w1 ⟨rfl, hb1⟩
  have B1 := below_err hb1
  have k2 : w1.cell? ⟨db, 2, none⟩ = some .nilIface := (B1.cell hb).trans h2
  have fz : w1.frozen? ⟨db, 2, none⟩ = false := (B1.frozen hb).trans f2
  have HB := hidOf B1
  clear hb1 B1
  go_wp2
  go_ret
  exact ⟨rfl, _, w1, HB.out, rfl⟩

set_option maxHeartbeats 400000 in
theorem count_nil (F : Interp) (db : Nat) (w : World) (hF : F.answers w.tape)
    (h0 : w.cell? ⟨db, 0, none⟩ = some (.slice none 0 0)) (h1 : w.cell? ⟨db, 1, none⟩ = some (.int .i64 0)) (h2 : w.cell? ⟨db, 2, none⟩ = some .nilIface) (f2 : w.frozen? ⟨db, 2, none⟩ = false) :
    Calls Tryf.prog 14 #[.pointer (some ⟨db, 0, none⟩), .int .i64 1] w fun e w' => e = .returned (.int .i64 0) ∧ ∃ a w1, Below w.heap.size w w1 ∧ w' = w1.setCell ⟨db, 2, none⟩ (.iface 46 (.pointer (some a))) := by
  have hb := block_lt_of_cell h0
  go_enter Tryf.func14, Tryf.ntmps14
  go_wp2_with fail
  go_quiet ((go_at_call 16; exact Calls.quiet_of_same (Tryf.binary_Uvarint_empty _ _ _)))
  go_wp2_with fail
  refine (errB F 0 w.heap.size _ ?_ (new_cell _ _ _ _ _)).mono ?_
  · exact hF
  rintro e w1 ⟨rfl, hb1⟩
  have B1 := below_err hb1
  have k2 : w1.cell? ⟨db, 2, none⟩ = some .nilIface := (B1.cell hb).trans h2
  have fz : w1.frozen? ⟨db, 2, none⟩ = false := (B1.frozen hb).trans f2
  have HB := hidOf B1
  clear hb1 B1
  go_wp2
  go_ret
  exact ⟨rfl, _, w1, HB.out, rfl⟩

theorem new_cell2 (w : World) (q1 q2 : Nat) (a : Addr) (v : Value) (c : Array Value) (t : TypeId) (i : Nat) : ((((w.drewN q1).setCell a v).drewN q2).alloc (.cells c t)).cell? ⟨w.heap.size, i, none⟩ = c[i]? :=
  World.cell?_alloc_at (w := ((w.drewN q1).setCell a v).drewN q2) c t w.heap.size i (by simp [World.setCell])
theorem below_dalloc2 (w : World) (q1 q2 : Nat) (a : Addr) (v : Value) (o : Obj) : Below w.heap.size (w.setCell a v) ((((w.drewN q1).setCell a v).drewN q2).alloc o) :=
  ⟨rfl, rfl, rfl, by simp [World.setCell], fun k hk => Below.heap_alloc (((w.drewN q1).setCell a v).drewN q2) _ _ (by simpa [World.setCell] using hk)⟩
theorem below_err2 {w w1 : World} {q1 q2 : Nat} {a : Addr} {v : Value} {o : Obj} (h : Below ((((w.drewN q1).setCell a v).drewN q2).alloc o).heap.size ((((w.drewN q1).setCell a v).drewN q2).alloc o) w1) : Below w.heap.size (w.setCell a v) w1 :=
  (below_dalloc2 w q1 q2 a v o).trans (h.mono (by simp [World.setCell]))

set_option maxHeartbeats 400000 in
/-- A count that the bytes left cannot hold. -/
theorem count_big (F : Interp) (db g so n o r1 r2 : Nat) (w : World) (hF : F.answers w.tape) (hn : n ≤ 1048576) (ho : o < n) (hr : 0 < r2) (hr2 : o + r2 ≤ n) (hbig : n - (o + r2) < r1) (h64 : r1 < 18446744073709551616)
    (HU : Hid (∀ q, Calls Tryf.prog 16 #[.slice (some ⟨g, so + o, none⟩) (n - o) (n - o)] (w.drewN q) fun e w'' => e = .returned (.tuple #[.int .u64 (r1 : Int), .int .i64 (r2 : Int)]) ∧ ∃ m, w'' = w.drewN m))
    (h0 : w.cell? ⟨db, 0, none⟩ = some (.slice (some ⟨g, so, none⟩) n n)) (h1 : w.cell? ⟨db, 1, none⟩ = some (.int .i64 (o : Int))) (h2 : w.cell? ⟨db, 2, none⟩ = some .nilIface) (f1 : w.frozen? ⟨db, 1, none⟩ = false) (f2 : w.frozen? ⟨db, 2, none⟩ = false) :
    Calls Tryf.prog 14 #[.pointer (some ⟨db, 0, none⟩), .int .i64 1] w fun e w' => e = .returned (.int .i64 0) ∧ ∃ a w1, Below w.heap.size (w.setCell ⟨db, 1, none⟩ (.int .i64 ((o + r2 : Nat) : Int))) w1 ∧ w' = w1.setCell ⟨db, 2, none⟩ (.iface 46 (.pointer (some a))) := by
  have hb := block_lt_of_cell h0
  have e1 : ((o + r2 : Nat) : Int) = (o : Int) + (r2 : Int) := by omega
  rw [e1]
  clear e1
  have hbig' : ((n : Int) - ((o : Int) + (r2 : Int))) < (r1 : Int) := by omega
  go_enter Tryf.func14, Tryf.ntmps14
  go_wp2_with fail
  go_quiet ((go_at_call 16; exact (Hid.out HU) _))
  go_wp2_with fail
  go_quiet (fail)
  go_wp2_with fail
  refine (errC F (r1 : Int) (o : Int) ((n : Int) - ((o : Int) + (r2 : Int))) w.heap.size _ ?_ (new_cell2 _ _ _ _ _ _ _ _) (new_cell2 _ _ _ _ _ _ _ _) (new_cell2 _ _ _ _ _ _ _ _)).mono ?_
  · exact hF
  rintro e w1 ⟨rfl, hb1⟩
  have B1 := below_err2 hb1
  have k2 : w1.cell? ⟨db, 2, none⟩ = some .nilIface := (B1.cell hb).trans ((World.cell?_setCell_other w _ _ _ (by simp)).trans h2)
  have fz : w1.frozen? ⟨db, 2, none⟩ = false := (B1.frozen hb).trans (by simpa using f2)
  have HB := hidOf B1
  clear hb1 B1
  go_wp2
  go_ret
  exact ⟨rfl, _, w1, HB.out, rfl⟩

set_option maxHeartbeats 400000 in
/-- A count that fits. -/
theorem count_ok (db g so n o r1 r2 : Nat) (w : World) (hn : n ≤ 1048576) (ho : o < n) (hr : 0 < r2) (hr2 : o + r2 ≤ n) (hfit : o + r2 + r1 ≤ n)
    (HU : Hid (∀ q, Calls Tryf.prog 16 #[.slice (some ⟨g, so + o, none⟩) (n - o) (n - o)] (w.drewN q) fun e w'' => e = .returned (.tuple #[.int .u64 (r1 : Int), .int .i64 (r2 : Int)]) ∧ ∃ m, w'' = w.drewN m))
    (h0 : w.cell? ⟨db, 0, none⟩ = some (.slice (some ⟨g, so, none⟩) n n)) (h1 : w.cell? ⟨db, 1, none⟩ = some (.int .i64 (o : Int))) (h2 : w.cell? ⟨db, 2, none⟩ = some .nilIface) (f1 : w.frozen? ⟨db, 1, none⟩ = false) :
    Calls Tryf.prog 14 #[.pointer (some ⟨db, 0, none⟩), .int .i64 1] w fun e w' => e = .returned (.int .i64 (r1 : Int)) ∧ ∃ q1 q2, w' = ((w.drewN q1).setCell ⟨db, 1, none⟩ (.int .i64 ((o + r2 : Nat) : Int))).drewN q2 := by
  have hb := block_lt_of_cell h0
  have e1 : ((o + r2 : Nat) : Int) = (o : Int) + (r2 : Int) := by omega
  rw [e1]
  clear e1
  have hfit' : ¬ ((n : Int) - ((o : Int) + (r2 : Int))) < (r1 : Int) := by omega
  go_enter Tryf.func14, Tryf.ntmps14
  go_wp2_with fail
  go_quiet ((go_at_call 16; exact (Hid.out HU) _))
  go_wp2_with fail
  go_quiet (fail)
  go_wp2
  go_ret
  exact ⟨rfl, _, _, rfl⟩

end Go.Proofs.Qxb6615907aFmt
