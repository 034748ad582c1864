import Derived.Test.Qxb6615907aFmtRows
import Derived.Test.Qxb6615907aFmtFacts
import Derived.Test.Qxb6615907aFmtShelf
import Derived.WalkKit
import Derived.WalkSpells
import Derived.WalkLawsBesides
import Derived.Maps.OwnSet
import Derived.Deep.QuietTactic
import Derived.BigQuiet
import Derived.Laws.IdiomStrings
namespace Go.Proofs.Qxb6615907aFmt
open Go.RowKit Go.Extern.Stop Go.Stop Go.Extern

theorem hidOf {p : Prop} (h : p) : Hid p := h

/-! ### fmt.Errorf at the three formats: a new error that is not nil; nothing old turns -/
set_option maxHeartbeats 400000 in
theorem errA (F : Interp) (x y z : Int) (g : Nat) (w : World) (hF : F.answers w.tape) (h0 : w.cell? ⟨g, 0, none⟩ = some (.iface 3 (.int .i64 x))) (h1 : w.cell? ⟨g, 1, none⟩ = some (.iface 3 (.int .i64 y))) (h2 : w.cell? ⟨g, 2, none⟩ = some (.iface 3 (.int .i64 z))) :
    Calls Tryf.prog 15 #[.string ⟨#[116, 114, 117, 110, 99, 97, 116, 101, 100, 32, 97, 116, 32, 98, 121, 116, 101, 32, 37, 100, 58, 32, 37, 100, 32, 98, 121, 116, 101, 115, 32, 119, 97, 110, 116, 101, 100, 44, 32, 37, 100, 32, 108, 101, 102, 116]⟩, .slice (some ⟨g, 0, none⟩) 3 3] w fun e w' => e = .returned (.iface 46 (.pointer (some ⟨w.heap.size, 0, none⟩))) ∧ Below w.heap.size w w' := by
  have hF' := answers_open hF
  go_enter Tryf.func15, Tryf.ntmps15
  go_wp2
  go_ret
  exact ⟨rfl, ((Below.refl _ w).alloc (Nat.le_refl _) _).drew⟩

set_option maxHeartbeats 400000 in
theorem errB (F : Interp) (x : Int) (g : Nat) (w : World) (hF : F.answers w.tape) (h0 : w.cell? ⟨g, 0, none⟩ = some (.iface 3 (.int .i64 x))) :
    Calls Tryf.prog 15 #[.string ⟨#[116, 114, 117, 110, 99, 97, 116, 101, 100, 32, 111, 114, 32, 111, 118, 101, 114, 102, 108, 111, 119, 105, 110, 103, 32, 99, 111, 117, 110, 116, 32, 97, 116, 32, 98, 121, 116, 101, 32, 37, 100]⟩, .slice (some ⟨g, 0, none⟩) 1 1] w fun e w' => e = .returned (.iface 46 (.pointer (some ⟨w.heap.size, 0, none⟩))) ∧ Below w.heap.size w w' := by
  have hF' := answers_open hF
  go_enter Tryf.func15, Tryf.ntmps15
  go_wp2
  go_ret
  exact ⟨rfl, ((Below.refl _ w).alloc (Nat.le_refl _) _).drew⟩

set_option maxHeartbeats 400000 in
theorem errC (F : Interp) (x y z : Int) (g : Nat) (w : World) (hF : F.answers w.tape) (h0 : w.cell? ⟨g, 0, none⟩ = some (.iface 36 (.int .u64 x))) (h1 : w.cell? ⟨g, 1, none⟩ = some (.iface 3 (.int .i64 y))) (h2 : w.cell? ⟨g, 2, none⟩ = some (.iface 3 (.int .i64 z))) :
    Calls Tryf.prog 15 #[.string ⟨#[99, 111, 117, 110, 116, 32, 37, 100, 32, 97, 116, 32, 98, 121, 116, 101, 32, 37, 100, 32, 105, 115, 32, 109, 111, 114, 101, 32, 116, 104, 97, 110, 32, 116, 104, 101, 32, 37, 100, 32, 98, 121, 116, 101, 115, 32, 108, 101, 102, 116, 32, 99, 97, 110, 32, 104, 111, 108, 100]⟩, .slice (some ⟨g, 0, none⟩) 3 3] w fun e w' => e = .returned (.iface 46 (.pointer (some ⟨w.heap.size, 0, none⟩))) ∧ Below w.heap.size w w' := by
  have hF' := answers_open hF
  go_enter Tryf.func15, Tryf.ntmps15
  go_wp2
  go_ret
  exact ⟨rfl, ((Below.refl _ w).alloc (Nat.le_refl _) _).drew⟩

end Go.Proofs.Qxb6615907aFmt
