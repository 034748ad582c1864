import Derived.Test.Qxb6615907aFmtErr
namespace Go.Proofs.Qxb6615907aFmt
open Go.RowKit Go.Extern.Stop Go.Stop Go.Extern

/-! ### worlds -/
theorem grown_setCell (w : World) (a : Addr) (v : Value) : w.grownBy (w.setCell a v) (some a.block) :=
  ⟨rfl, rfl, rfl, by simp [World.setCell], fun i _ h => Below.heap_setCell w a v i (fun e => h (by rw [e]))⟩
theorem grown_drewN (w : World) (n : Nat) (row : Option Nat) : w.grownBy (w.drewN n) row := ⟨rfl, rfl, rfl, Nat.le_refl _, fun _ _ _ => rfl⟩
theorem grown_below {w w' : World} (h : Below w.heap.size w w') (row : Option Nat) : w.grownBy w' row := ⟨h.os, h.tape, h.output, h.size, fun i hi _ => h.block i hi⟩

/-- THE DECODER IN MEMORY: block db holds its three cells. -/
def Dec (W : World) (db : Nat) (dv : Value) (o : Int) (er : Value) : Prop :=
  W.cell? ⟨db, 0, none⟩ = some dv ∧ W.cell? ⟨db, 1, none⟩ = some (.int .i64 o) ∧ W.cell? ⟨db, 2, none⟩ = some er ∧ W.frozen? ⟨db, 1, none⟩ = false ∧ W.frozen? ⟨db, 2, none⟩ = false

/-- A SLICE OF BYTES WHOSE BYTES ARE l (its capacity its length, or nothing in it). -/
def Buf (W : World) (v : Value) (l : List UInt8) : Prop :=
  (∃ ao c, v = .slice ao 0 c ∧ l = []) ∨ ∃ g so c, v = .slice (some ⟨g, so, none⟩) l.length c ∧ 0 < l.length ∧ ∀ j (hj : j < l.length), W.cell? ⟨g, so + j, none⟩ = some (.int .u8 (l[j]).toNat)

theorem new_any (dv : Option Addr) (n c : Nat) (o : Int) (w : World) :
    Calls Tryf.prog 6 #[.slice dv n c, .int .i64 o] w fun e w' => e = .returned (.pointer (some ⟨w.heap.size, 0, none⟩)) ∧ w' = w.alloc (.cells #[.slice dv n c, .int .i64 o, .nilIface] 34) := by
  go_enter Tryf.func6, Tryf.ntmps6
  go_wp2
  go_ret
  exact ⟨rfl, rfl⟩

theorem off_any (db : Nat) (o : Int) (w : World) (h : w.cell? ⟨db, 1, none⟩ = some (.int .i64 o)) :
    Calls Tryf.prog 8 #[.pointer (some ⟨db, 0, none⟩)] w fun e w' => e = .returned (.int .i64 o) ∧ w = w' := by
  go_enter Tryf.func8, Tryf.ntmps8
  go_wp2
  go_ret
  exact ⟨rfl, rfl⟩

theorem failed_no (db : Nat) (w : World) (h : w.cell? ⟨db, 2, none⟩ = some .nilIface) :
    Calls Tryf.prog 9 #[.pointer (some ⟨db, 0, none⟩)] w fun e w' => e = .returned (.bool false) ∧ w = w' := by
  go_enter Tryf.func9, Tryf.ntmps9
  go_wp2
  go_ret
  exact ⟨rfl, rfl⟩

theorem failed_yes (db : Nat) (a : Addr) (w : World) (h : w.cell? ⟨db, 2, none⟩ = some (.iface 46 (.pointer (some a)))) :
    Calls Tryf.prog 9 #[.pointer (some ⟨db, 0, none⟩)] w fun e w' => e = .returned (.bool true) ∧ w = w' := by
  go_enter Tryf.func9, Tryf.ntmps9
  go_wp2
  go_ret
  exact ⟨rfl, rfl⟩

theorem take_err (db : Nat) (n : Int) (a : Addr) (w : World) (h : w.cell? ⟨db, 2, none⟩ = some (.iface 46 (.pointer (some a)))) :
    Calls Tryf.prog 13 #[.pointer (some ⟨db, 0, none⟩), .int .i64 n] w fun e w' => e = .returned (.slice none 0 0) ∧ w = w' := by
  go_enter Tryf.func13, Tryf.ntmps13
  go_wp2
  go_ret
  exact ⟨rfl, rfl⟩

theorem count_err (db : Nat) (n : Int) (a : Addr) (w : World) (h : w.cell? ⟨db, 2, none⟩ = some (.iface 46 (.pointer (some a)))) :
    Calls Tryf.prog 14 #[.pointer (some ⟨db, 0, none⟩), .int .i64 n] w fun e w' => e = .returned (.int .i64 0) ∧ w = w' := by
  go_enter Tryf.func14, Tryf.ntmps14
  go_wp2
  go_ret
  exact ⟨rfl, rfl⟩

end Go.Proofs.Qxb6615907aFmt
