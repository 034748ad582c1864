import Derived.Test.Qxb6615769aRun
namespace Go.Proofs.Qxb6615769a
open Go.RowKit Go.Maps Go.WideMaps

set_option maxHeartbeats 1000000 in
theorem first_walk (b off len cap : Nat) (X Y : Nat → Int) (w : World) (hl : len ≤ maxLen)
    (hx : ∀ i, i < len → w.cell? ⟨b, off + i * 2, none⟩ = some (.int .i64 (X i))) (hy : ∀ i, i < len → w.cell? ⟨b, off + i * 2 + 1, none⟩ = some (.int .i64 (Y i)))
    (hw : ∀ i, i < len → wf64 (X i) ∧ wf64 (Y i)) (hb : b < w.heap.size) :
    Calls Try.prog 6 #[.slice (some ⟨b, off, none⟩) len cap] w fun e w' => e = .returned (.bool true) ∧ Below w.heap.size w w' := by
  have hl' := hl
  unfold maxLen at hl'
  have hmm := @run_makeMap Try.prog
  by_cases h0 : len ≤ 1048576
  · have hd : decide (len ≤ 1048576) = true := by simpa using h0
    by_cases h1 : len ≤ 4096
    · go_enter Try.func6, Try.ntmps6
      go_wp2_with (first | (go_at_call 14; refine (bytes14 _ _ _ _ hl).mono ?_; rintro e w' ⟨rfl, rfl⟩) | (go_at_call 11; refine (new_any _ _ _).mono ?_; rintro e w1 ⟨rfl, hc12, hc14, hg1, hs1⟩))
      have hown0 : w1.ownsMap Try.prog 22 (plainElem Try.prog 4) w.heap.size 0 (setK X Y 0) := (World.ownsMap_made w _ _ _).kept hg1 (by simp)
      have hbel0 : Below w.heap.size w w1 := ((Below.refl _ w).alloc (Nat.le_refl _) _).grown hg1 (by simp) (by simp)
      have hrun0 : Run w1 (w.heap.size + 1) w.heap.size 0 none (setK X Y 0) := ⟨hown0, by simpa using hc12, by simpa using hc14⟩
      have HR := hidOf hrun0
      have HB := hidOf hbel0
      have HX := hidOf hx
      have HY := hidOf hy
      have HW := hidOf hw
      clear hc12 hc14 hg1 hs1 hmm hown0 hbel0 hrun0 hx hy hw
      go_loopw [4] (fun i wr => ∃ k : Nat, k ≤ len ∧ i = .int .i64 k ∧ Run wr (w.heap.size + 1) w.heap.size k none (setK X Y k) ∧ Below w.heap.size w wr) (fun i _ => len - (intOf i).toNat)
      case atStart => exact ⟨0, Nat.zero_le _, rfl, HR.out, HB.out⟩
      case round =>
        clear HR HB
        obtain ⟨k, hk, rfl, hrun, hbel⟩ := hrel
        by_cases hlt : k < len
        · have cx : wr.cell? ⟨b, off + k * 2, none⟩ = some (.int .i64 (X k)) := (hbel.cell hb).trans (HX.out k hlt)
          have cy : wr.cell? ⟨b, off + k * 2 + 1, none⟩ = some (.int .i64 (Y k)) := (hbel.cell hb).trans (HY.out k hlt)
          have HR := hidOf hrun
          have HB := hidOf hbel
          clear hrun hbel
          obtain ⟨wo, rfl⟩ : ∃ wo : World, wo = wr := ⟨_, rfl⟩
          go_wp2
          go_loopw [7, 8] (fun s j wq => ∃ t : Nat, t ≤ k ∧ j = .int .i64 t ∧ s = .bool false ∧ seenB X Y t (X k) (Y k) = false ∧ Run wq (w.heap.size + 1) w.heap.size k none (setK X Y k) ∧ Below w.heap.size w wq) (fun _ j _ => k - (intOf j).toNat)
          case atStart => exact ⟨0, Nat.zero_le _, rfl, rfl, rfl, HR.out, HB.out⟩
          case round =>
            clear HR HB cx cy
            obtain ⟨t, ht, rfl, rfl, hse, hrun, hbel⟩ := hrel
            have HE := hidOf hse
            have HR := hidOf hrun
            have HB := hidOf hbel
            clear hse hrun
            by_cases htk : t < k
            · have cxt : wr.cell? ⟨b, off + t * 2, none⟩ = some (.int .i64 (X t)) := (hbel.cell hb).trans (HX.out t (by omega))
              have cyt : wr.cell? ⟨b, off + t * 2 + 1, none⟩ = some (.int .i64 (Y t)) := (hbel.cell hb).trans (HY.out t (by omega))
              clear hbel
              have htl : t < len := by omega
              cases hsm : sameB (X t) (Y t) (X k) (Y k)
              · have HM := hidOf hsm
                clear hsm
                go_wp2_with fail
                go_quiet ((go_at_call 10; exact same_quiet_at (Hid.out HM) _ _))
                go_wp2
                go_roundw
                case rel =>
                  refine ⟨t + 1, by omega, by go_num, rfl, ?_, HR.out.drewN _, ?_⟩
                  · rw [seenB_succ, HE.out, HM.out]; rfl
                  · exact ⟨HB.out.os, HB.out.tape, HB.out.output, HB.out.size, HB.out.block⟩
                case measure => simp [intOf]; omega
              · have HM := hidOf (seenB_mono X Y htk hsm)
                have HM2 := hidOf hsm
                clear hsm
                go_wp2_with fail
                go_quiet ((go_at_call 10; exact same_quiet_at (Hid.out HM2) _ _))
                go_wp2_with fail
                refine (Run.kind (HR.out.drewN nq) HW.out (Nat.le_of_lt hlt) (HW.out k hlt).1 (HW.out k hlt).2 (look_none _ (HW.out k hlt).1 (HW.out k hlt).2) (HM.out) (kindN_ft)).mono ?_
                rintro e w2 ⟨rfl, g2⟩
                have HG2 := hidOf g2
                clear g2
                go_wp2_with fail
                refine (Run.kind ((HR.out.drewN nq).grown HG2.out (by simp) (by simp)) HW.out (Nat.le_of_lt hlt) (HW.out k hlt).2 (HW.out k hlt).1 (look_none _ (HW.out k hlt).2 (HW.out k hlt).1) ((seenB_comm _ _ _ _ _).trans (HM.out)) (kindN_ft)).mono ?_
                rintro e w3 ⟨rfl, g3⟩
                have HG3 := hidOf g3
                clear g3
                go_wp2_with fail
                refine (Run.note (((HR.out.drewN nq).grown HG2.out (by simp) (by simp)).grown HG3.out (by simp) (by simp)) (by omega) HW.out hlt (by omega)).mono ?_
                rintro e w4 ⟨rfl, r4, g4⟩
                have HR4 := hidOf r4
                have HG4 := hidOf g4
                clear r4 g4
                go_wp2
                go_roundw
                case rel =>
                  refine ⟨k + 1, by omega, by go_num, HR4.out, ?_⟩
                  have B0 : Below w.heap.size w (wr.drewN nq) := ⟨HB.out.os, HB.out.tape, HB.out.output, HB.out.size, HB.out.block⟩
                  have B2 := B0.grown HG2.out B0.size (by simp)
                  have B3 := B2.grown HG3.out B2.size (by simp)
                  exact B3.grown HG4.out B3.size (by simp)
                case measure => simp [intOf]; omega
            · clear hbel
              have etk : t = k := by omega
              rw [etk] at HE
              rw [etk]
              clear ht htk etk
              go_wp2_with fail
              refine (Run.kind (HR.out) HW.out (Nat.le_of_lt hlt) (HW.out k hlt).1 (HW.out k hlt).2 (look_none _ (HW.out k hlt).1 (HW.out k hlt).2) (HE.out) (kindN_ff)).mono ?_
              rintro e w2 ⟨rfl, g2⟩
              have HG2 := hidOf g2
              clear g2
              go_wp2_with fail
              refine (Run.kind ((HR.out).grown HG2.out (by simp) (by simp)) HW.out (Nat.le_of_lt hlt) (HW.out k hlt).2 (HW.out k hlt).1 (look_none _ (HW.out k hlt).2 (HW.out k hlt).1) ((seenB_comm _ _ _ _ _).trans (HE.out)) (kindN_ff)).mono ?_
              rintro e w3 ⟨rfl, g3⟩
              have HG3 := hidOf g3
              clear g3
              go_wp2_with fail
              refine (Run.note (((HR.out).grown HG2.out (by simp) (by simp)).grown HG3.out (by simp) (by simp)) (by omega) HW.out hlt (by omega)).mono ?_
              rintro e w4 ⟨rfl, r4, g4⟩
              have HR4 := hidOf r4
              have HG4 := hidOf g4
              clear r4 g4
              go_wp2
              go_roundw
              case rel =>
                refine ⟨k + 1, by omega, by go_num, HR4.out, ?_⟩
                have B0 : Below w.heap.size w (wr) := ⟨HB.out.os, HB.out.tape, HB.out.output, HB.out.size, HB.out.block⟩
                have B2 := B0.grown HG2.out B0.size (by simp)
                have B3 := B2.grown HG3.out B2.size (by simp)
                exact B3.grown HG4.out B3.size (by simp)
              case measure => simp [intOf]; omega
        · go_wp2
          go_ret
          exact ⟨rfl, hbel⟩
    · go_enter Try.func6, Try.ntmps6
      go_wp2_with (first | (go_at_call 14; refine (bytes14 _ _ _ _ hl).mono ?_; rintro e w' ⟨rfl, rfl⟩))
      go_ret
      exact ⟨rfl, Below.refl _ _⟩
  · have hd : decide (len ≤ 1048576) = false := by simpa using h0
    go_enter Try.func6, Try.ntmps6
    go_wp2_with (first | (go_at_call 14; refine (bytes14 _ _ _ _ hl).mono ?_; rintro e w' ⟨rfl, rfl⟩))
    go_ret
    exact ⟨rfl, Below.refl _ _⟩

set_option maxHeartbeats 400000 in
/-- .. OF NO SEND AT ALL (a nil slice among these). -/
theorem first_zero (a : Option Addr) (cap : Nat) (w : World) :
    Calls Try.prog 6 #[.slice a 0 cap] w fun e w' => e = .returned (.bool true) ∧ Below w.heap.size w w' := by
  have hmm := @run_makeMap Try.prog
  go_enter Try.func6, Try.ntmps6
  go_wp2_with (first | (go_at_call 14; refine (bytes14 _ 0 _ _ (Nat.zero_le _)).mono ?_; rintro e w' ⟨rfl, rfl⟩) | (go_at_call 11; refine (new_any _ _ _).mono ?_; rintro e w1 ⟨rfl, hc12, hc14, hg1, hs1⟩))
  have hbel0 : Below w.heap.size w w1 := ((Below.refl _ w).alloc (Nat.le_refl _) _).grown hg1 (by simp) (by simp)
  have HB := hidOf hbel0
  clear hc12 hc14 hg1 hs1 hmm hbel0
  go_loop [4] (fun i => i = .int .i64 0) (fun _ => 0)
  case atStart => rfl
  case round =>
    subst hrel
    go_wp2
    go_ret
    exact ⟨rfl, HB.out⟩

end Go.Proofs.Qxb6615769a
