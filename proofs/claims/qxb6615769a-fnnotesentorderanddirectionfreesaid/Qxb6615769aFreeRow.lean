import Derived.Test.Qxb6615769aFree
import Derived.Test.Qxb6615769aFree0
import Derived.Test.Qxb6615769aOpen
namespace Go.Proofs.Qxb6615769a
open Go.ChangeShapes Go.WideShapes Go.ChangeAt Go.RowKit
open Go.ChangeMaps (open_string shut_string)

theorem own8 : ownKnob Try.prog.godebug = none := by kernel_rfl

theorem free_all (a0 : Option Addr) (len0 cap0 : Nat) (X Y : Nat → Int) (a1 : Option Addr) (len1 cap1 : Nat) (F : Nat → Bool) (w : World) (w0 : IsPairs w a0 len0 cap0 X Y) (w1 : IsBools w a1 len1 cap1 F) :
    Calls Try.prog 8 #[.slice a0 len0 cap0, .slice a1 len1 cap1] w fun e w' => e = .returned (.bool true) ∧ Below w.heap.size w w' := by
  obtain ⟨hl, rfl | ⟨b, off, rfl, hb, hx, hy, hw⟩⟩ := w0
  · exact free_zero a0 cap0 a1 len1 cap1 w w1.1
  · obtain ⟨hfl, rfl | ⟨fb, foff, rfl, hfb, hf⟩⟩ := w1
    · exact free_walk b off len0 cap0 X Y a1 0 cap1 0 0 F w hl hfl hx hy hw hb (fun h => absurd h (Nat.lt_irrefl _)) (fun i h => absurd h (Nat.not_lt_zero _)) (fun h => absurd h (Nat.lt_irrefl _))
    · exact free_walk b off len0 cap0 X Y _ len1 cap1 fb foff F w hl hfl hx hy hw hb (fun _ => rfl) hf (fun _ => hfb)

set_option maxRecDepth 100000 in
theorem free_lifted (os : Os) (started : os.Started) (H : Type) (enc : TypeId × Value → H) :
    ReturnsInHanded {} Try.checked os 8 .any (Rows.fnNoteSentOrderAndDirectionFreeSpec.pre6 enc Try.prog Try.f8 Rows.fnNoteSentOrderAndDirectionFreeRow.domain false) (Rows.fnNoteSentOrderAndDirectionFreeSpec.post enc Try.prog Try.f8 false true false false) := by
  refine returnsInHanded_of_change (C := Try.checked) own8 started (by kernel_rfl) Try.func8
    (ChangeSpec.witness6 (enc := enc) (C := Try.checked) false ⟨#[], #[.slice none 0 0, .slice none 0 0], []⟩ 8 (by kernel_rfl) (by kernel_rfl) (by kernel_rfl) (by kernel_rfl)) ?_
  intro W base args ds gs before hval0 hW hcnd _
  have hval : ∀ (j : Nat) t v, Try.f8.params[j]? = some t → args[j]? = some v → Value.okWide Try.prog W .any base t v := hval0
  have hW' := hW
  obtain ⟨p, q, hA0, hV, rfl, hfz, hnd⟩ := hW
  have hA : DataW.TrodAll enc Try.prog W 0 (fun _ => true) true Try.f8.params.toList args.toList ds p := hA0
  rw [Try.params8] at hA hval
  obtain ⟨v0, vs0, d0, ds0, p0, q0, hargs, rfl, rfl, h0, r0⟩ := trodAll_cons hA
  obtain ⟨v1, vs1, d1, ds1, p1, q1, rfl, rfl, rfl, h1, r1⟩ := trodAll_cons r0
  obtain ⟨rfl, rfl, rfl⟩ := trodAll_nil r1
  obtain rfl : args = #[v0, v1] := by cases args; simp_all
  obtain ⟨rfl, rfl⟩ := trodVars_none hV
  obtain ⟨a0, len0, cap0, rfl⟩ := okWide_slice Try.underlying26 (hval 0 26 v0 rfl rfl)
  have k0 := h0
  have lt0 : ∀ x ∈ p0, x.block < W.heap.size := by obtain ⟨m, hm⟩ := k0; exact DataW.trod_lt m _ _ _ hm
  obtain ⟨X, Y, w0⟩ := isPairs_of h0
  obtain ⟨a1, len1, cap1, rfl⟩ := okWide_slice Try.underlying35 (hval 1 35 v1 rfl rfl)
  have k1 := h1
  have lt1 : ∀ x ∈ p1, x.block < W.heap.size := by obtain ⟨m, hm⟩ := k1; exact DataW.trod_lt m _ _ _ hm
  obtain ⟨F, w1⟩ := isBools_of h1
  clear hA0 hval0
  refine (free_all a0 len0 cap0 X Y a1 len1 cap1 F W w0 w1).mono fun e W' ⟨he, bel⟩ => ?_
  subst he
  exact ⟨_, rfl, _, _, _, [], _, [], hW', trodAll_mk1 (shut_bool Try.underlying4 _), (trodAll_cons_mk (Below.trod laidOut (by kernel_rfl) (of_decide_eq_true (by kernel_rfl)) k0 bel lt0) (trodAll_cons_mk (Below.trod laidOut (by kernel_rfl) (of_decide_eq_true (by kernel_rfl)) k1 bel lt1) trodAll_mk0)), rfl, bel.frame _, fun h => by cases h⟩

theorem free_over : Rows.fnNoteSentOrderAndDirectionFreeRow.holds Try.pinned (OpenSpec.ofChange Rows.fnNoteSentOrderAndDirectionFreeSpec) :=
  OpenClaim.holds_of_wide 8 Try.f8 rfl rfl rfl rfl rfl rfl rfl ⟨rfl, rfl, rfl, rfl, rfl⟩ rfl rfl rfl rfl rfl (by kernel_rfl) Try.func8 (by kernel_rfl)
    (of_decide_eq_true (by kernel_rfl)) (by unfold Func.isWrapper; first | (rw [if_pos (by decide +kernel)]; kernel_rfl) | (rw [if_neg (by decide +kernel)]; exact ⟨rfl, rfl⟩))
    (fun os started H enc _ => free_lifted os started H enc)

theorem noteSentFree : Rows.FnNoteSentOrderAndDirectionFreeSaid := free_over
end Go.Proofs.Qxb6615769a
