import Derived.Test.Qxb6615907aFmtSame
import Derived.Test.Qxb6615907aFmtCards
import Derived.ProofKit
import Derived.ChangeOld
import Derived.OpenShut
import Derived.Below
import Derived.Stop.JoinedAt
import Derived.Stop.JoinedTold
import Derived.SevenToldRow
namespace Go.Proofs.Qxb6615907aFmt
open Go.ChangeShapes Go.WideShapes Go.ChangeAt Go.RowKit
open Go.Extern.Stop Go.Stop Go.Extern

theorem own : ownKnob Tryf.prog.godebug = none := by kernel_rfl
theorem laidOut : laidOutB Tryf.prog = true := by kernel_rfl
theorem laidOut' : laidOutB Tryf.pinned.checked.prog = true := by kernel_rfl
theorem stops : Tryf.pinned.checked.prog.stops = ["fmt.errorf"] := by kernel_rfl
theorem stopKnobs : Tryf.pinned.checked.prog.stopKnobs = [] := by kernel_rfl
theorem quiet (os : Os) : Stop.quiet Tryf.pinned.checked.prog os := by
  intro k hk
  rw [stopKnobs] at hk
  cases hk

theorem byte_of {n : Int} (h : (Lit.int .u8 n).wf = true) : ((UInt8.ofNat n.toNat).toNat : Int) = n := by
  simp [Lit.wf, IntKind.min, IntKind.max, IntKind.signed, IntKind.bits] at h
  have : (UInt8.ofNat n.toNat).toNat = n.toNat := by
    simp
    omega
  rw [this]
  omega

theorem isBytes_of {H : Type} {enc : TypeId × Value → H} {W : World} {base : Nat} {sp : Nat → Bool} {held : Bool} {a : Option Addr} {len cap : Nat} {d : DataW H} {ps : List MemPlace}
    (h : DataW.Trod enc Tryf.prog W base sp held 22 (.slice a len cap) d ps) (hsp : sp = fun _ => true) : ∃ l, IsBytes W a len cap l := by
  subst hsp
  obtain ⟨fuel, hf⟩ := h
  rcases open_ints Tryf.underlying22 Tryf.underlying5 (by kernel_rfl) hf with ⟨hcs, _⟩ | ⟨x, n, c, zs, hcs, _, hl, hm, hz, _, hcell, hwz⟩
  · simp [Value.cells] at hcs
    obtain ⟨rfl, rfl, rfl⟩ := hcs
    exact ⟨[], Nat.zero_le _, rfl, .inl ⟨rfl, rfl, rfl⟩⟩
  · simp [Value.cells] at hcs
    obtain ⟨rfl, rfl, rfl⟩ := hcs
    have hz' : zs.length = cap := by simpa using hz
    refine ⟨(zs.take len).map fun n => UInt8.ofNat n.toNat, by omega, by simp; omega, .inr ⟨x, rfl, fun j hj => ?_⟩⟩
    have hj' : j < zs.length := by simp at hj; omega
    rw [hcell j hj']
    have hb := byte_of (hwz (zs[j]'hj') (List.getElem_mem hj'))
    simp only [List.getElem_map, List.getElem_take]
    rw [hb]
    simp [List.getD, List.getElem?_eq_getElem hj']

end Go.Proofs.Qxb6615907aFmt
