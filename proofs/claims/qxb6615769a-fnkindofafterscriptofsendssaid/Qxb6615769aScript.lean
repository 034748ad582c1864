import Derived.Test.Qxb6615769aDel
namespace Go.Proofs.Qxb6615769a
open Go.RowKit Go.Maps Go.WideMaps

set_option maxRecDepth 100000 in
set_option maxHeartbeats 1000000 in
theorem script_walk (b off len cap : Nat) (X Y : Nat → Int) (m : Option Nat) (dn : Nat) (p q : Int) (x : Bool) (w : World) (hl : len ≤ maxLen)
    (hx : ∀ i, i < len → w.cell? ⟨b, off + i * 2, none⟩ = some (.int .i64 (X i))) (hy : ∀ i, i < len → w.cell? ⟨b, off + i * 2 + 1, none⟩ = some (.int .i64 (Y i)))
    (hw : ∀ i, i < len → wf64 (X i) ∧ wf64 (Y i)) (hb : b < w.heap.size) (wp : wf64 p) (wq : wf64 q) (hdel : IsDel w m dn p q x) :
    Calls Try.prog 5 #[.slice (some ⟨b, off, none⟩) len cap, .map m, .int .i64 p, .int .i64 q] w fun e w' => e = .returned (.bool true) ∧ Below w.heap.size w w' := by
  have hl' := hl
  unfold maxLen at hl'
  have hmm := @run_makeMap Try.prog
  have hlen := (hdel w (Below.refl _ _)).1
  have HX := hidOf hx
  have HY := hidOf hy
  have HW := hidOf hw
  have HP := hidOf wp
  have HQ := hidOf wq
  have HD := hidOf hdel
  clear hx hy hw wp wq hdel
  by_cases h1 : len ≤ 65536
  · by_cases h2 : dn ≤ 65536
    · by_cases h3 : len * 16 + dn * 17 ≤ 1048576
      · go_enter Try.func5, Try.ntmps5
        go_wp2_with fail
        refine (new_any _ _ _).mono ?_
        rintro e w1 ⟨rfl, hc12, hc14, hg1, hs1⟩
        have hown0 : w1.ownsMap Try.prog 22 (plainElem Try.prog 4) w.heap.size 0 (setK X Y 0) := (World.ownsMap_made w _ _ _).kept hg1 (by simp)
        have hbel0 : Below w.heap.size w w1 := ((Below.refl _ w).alloc (Nat.le_refl _) _).grown hg1 (by simp) (by simp)
        have hrun0 : Run w1 (w.heap.size + 1) w.heap.size 0 m (setK X Y 0) := ⟨hown0, by simpa using hc12, by simpa using hc14⟩
        have HR := hidOf hrun0
        have HB := hidOf hbel0
        clear hc12 hc14 hg1 hs1 hmm hown0 hbel0 hrun0 hlen
        go_wp2
        go_loopw [10] (fun i wr => ∃ k : Nat, k ≤ len ∧ i = .int .i64 k ∧ Run wr (w.heap.size + 1) w.heap.size k m (setK X Y k) ∧ Below w.heap.size w wr) (fun i _ => len - (intOf i).toNat)
        case atStart => exact ⟨0, Nat.zero_le _, rfl, HR.out, HB.out⟩
        case round =>
          clear HR HB
          obtain ⟨k, hk, rfl, hrun, hbel⟩ := hrel
          by_cases hlt : k < len
          · have cx : wr.cell? ⟨b, off + k * 2, none⟩ = some (.int .i64 (X k)) := (hbel.cell hb).trans (HX.out k hlt)
            have cy : wr.cell? ⟨b, off + k * 2 + 1, none⟩ = some (.int .i64 (Y k)) := (hbel.cell hb).trans (HY.out k hlt)
            have hrun' : Run wr.drew (w.heap.size + 1) w.heap.size k m (setK X Y k) := hrun
            have HN := hidOf (hrun'.note (by omega) HW.out hlt (by omega))
            have HB := hidOf hbel
            clear hrun hrun' hbel
            go_wp2_with fail
            go_region_with (go_at_call 12; refine (Hid.out HN).mono ?_; rintro e w2 ⟨rfl, n1, n2⟩)
            all_goals
              have HN1 := hidOf n1
              have HN2 := hidOf n2
              clear n1 n2
              go_wp2
              go_roundw
              case rel =>
                exact ⟨k + 1, by omega, by go_num, HN1.out, HB.out.drew.grown HN2.out HB.out.size (by simp)⟩
              case measure => simp [intOf] <;> omega
          · have ek : k = len := by omega
            rw [ek] at hrun
            have HR := hidOf hrun
            have HB := hidOf hbel
            have EK := hidOf ek
            have hlook := (HD.out wr hbel).2
            have hge : ¬ (k : Int) < (len : Int) := by omega
            clear hrun hbel ek hlt hk
            cases x
            · go_wp2
              clear hge hlook
              go_loopw [11, 12] (fun s j wq => ∃ t : Nat, t ≤ len ∧ j = .int .i64 t ∧ s = .int .u8 1 ∧ seenB X Y t p q = false ∧ Run wq (w.heap.size + 1) w.heap.size len m (setK X Y len) ∧ Below w.heap.size w wq) (fun _ j _ => len - (intOf j).toNat)
              case atStart => exact ⟨0, Nat.zero_le _, rfl, rfl, rfl, HR.out, HB.out⟩
              case round =>
                clear HR HB EK
                obtain ⟨t, ht, rfl, rfl, hse, hrun, hbel⟩ := hrel
                have HE := hidOf hse
                have HR := hidOf hrun
                have HB := hidOf hbel
                clear hse hrun
                by_cases htk : t < len
                · have cxt : wr.cell? ⟨b, off + t * 2, none⟩ = some (.int .i64 (X t)) := (hbel.cell hb).trans (HX.out t htk)
                  have cyt : wr.cell? ⟨b, off + t * 2 + 1, none⟩ = some (.int .i64 (Y t)) := (hbel.cell hb).trans (HY.out t htk)
                  clear hbel
                  cases hsm : sameB (X t) (Y t) p q
                  · have HM := hidOf hsm
                    clear hsm
                    go_wp2_with fail
                    go_quiet ((go_at_call 10; exact same_quiet_at (Hid.out HM) _ _))
                    go_wp2
                    go_roundw
                    case rel =>
                      refine ⟨t + 1, by omega, by go_num, rfl, ?_, HR.out.drewN _, ?_⟩
                      · rw [seenB_succ, HE.out, HM.out]; rfl
                      · exact ⟨HB.out.os, HB.out.tape, HB.out.output, HB.out.size, HB.out.block⟩
                    case measure => simp [intOf] <;> omega
                  · have HM := hidOf (seenB_mono X Y htk hsm)
                    have HM2 := hidOf hsm
                    clear hsm
                    go_wp2_with fail
                    go_quiet ((go_at_call 10; exact same_quiet_at (Hid.out HM2) _ _))
                    have hB2 : Below w.heap.size w (wr.drewN nq) := ⟨HB.out.os, HB.out.tape, HB.out.output, HB.out.size, HB.out.block⟩
                    have HB2 := hidOf hB2
                    clear hB2
                    go_wp2_with fail
                    refine (Run.kind (HR.out.drewN nq) HW.out (Nat.le_refl _) HP.out HQ.out (HD.out _ HB2.out).2 HM.out kindN_ft).mono ?_
                    rintro e w2 ⟨rfl, g2⟩
                    have HG2 := hidOf g2
                    clear g2
                    go_wp2
                    go_ret
                    exact ⟨rfl, HB2.out.grown HG2.out HB2.out.size (by simp)⟩
                · have etk : t = len := by omega
                  rw [etk] at HE
                  have hge : ¬ (t : Int) < (len : Int) := by omega
                  clear hbel ht htk etk
                  go_wp2_with fail
                  refine (Run.kind HR.out HW.out (Nat.le_refl _) HP.out HQ.out (HD.out _ HB.out).2 HE.out kindN_ff).mono ?_
                  rintro e w2 ⟨rfl, g2⟩
                  have HG2 := hidOf g2
                  clear g2
                  go_wp2
                  go_ret
                  exact ⟨rfl, HB.out.grown HG2.out HB.out.size (by simp)⟩
            · go_wp2_with fail
              refine (Run.kind HR.out HW.out (Nat.le_refl _) HP.out HQ.out (HD.out _ HB.out).2 rfl (kindN_t _)).mono ?_
              rintro e w2 ⟨rfl, g2⟩
              have HG2 := hidOf g2
              clear g2
              go_wp2
              go_ret
              exact ⟨rfl, HB.out.grown HG2.out HB.out.size (by simp)⟩
      · go_enter Try.func5, Try.ntmps5
        go_wp2
        go_ret
        exact ⟨rfl, Below.refl _ _⟩
    · go_enter Try.func5, Try.ntmps5
      go_wp2
      go_ret
      exact ⟨rfl, Below.refl _ _⟩
  · go_enter Try.func5, Try.ntmps5
    go_wp2
    go_ret
    exact ⟨rfl, Below.refl _ _⟩

set_option maxRecDepth 100000 in
set_option maxHeartbeats 400000 in
/-- .. OF NO SEND AT ALL (a nil slice among these). -/
theorem script_zero (a : Option Addr) (cap : Nat) (m : Option Nat) (dn : Nat) (p q : Int) (x : Bool) (w : World) (wp : wf64 p) (wq : wf64 q) (hdel : IsDel w m dn p q x) :
    Calls Try.prog 5 #[.slice a 0 cap, .map m, .int .i64 p, .int .i64 q] w fun e w' => e = .returned (.bool true) ∧ Below w.heap.size w w' := by
  have hmm := @run_makeMap Try.prog
  have hlen := (hdel w (Below.refl _ _)).1
  have HP := hidOf wp
  have HQ := hidOf wq
  have HD := hidOf hdel
  clear wp wq hdel
  have HW : Hid (∀ i, i < 0 → wf64 ((fun _ => 0 : Nat → Int) i) ∧ wf64 ((fun _ => 0 : Nat → Int) i)) := hidOf (fun i h => absurd h (Nat.not_lt_zero i))
  by_cases h2 : dn ≤ 65536
  · by_cases h3 : dn * 17 ≤ 1048576
    · go_enter Try.func5, Try.ntmps5
      go_wp2_with fail
      refine (new_any _ _ _).mono ?_
      rintro e w1 ⟨rfl, hc12, hc14, hg1, hs1⟩
      have hbel0 : Below w.heap.size w w1 := ((Below.refl _ w).alloc (Nat.le_refl _) _).grown hg1 (by simp) (by simp)
      have hrun0 : Run w1 (w.heap.size + 1) w.heap.size 0 m (setK (fun _ => 0) (fun _ => 0) 0) := ⟨(World.ownsMap_made w _ _ _).kept hg1 (by simp), by simpa using hc12, by simpa using hc14⟩
      have HR := hidOf hrun0
      have HB := hidOf hbel0
      have hlook := (HD.out w1 hbel0).2
      clear hc12 hc14 hg1 hs1 hmm hbel0 hrun0 hlen
      go_wp2
      go_loop [10] (fun i => i = .int .i64 0) (fun _ => 0)
      case atStart => rfl
      case round =>
        subst hrel
        cases x
        · go_wp2
          clear hlook
          go_loop [11, 12] (fun s j => j = .int .i64 0 ∧ s = .int .u8 1) (fun _ _ => 0)
          case atStart => exact ⟨rfl, rfl⟩
          case round =>
            obtain ⟨rfl, rfl⟩ := hrel
            go_wp2_with fail
            refine (Run.kind HR.out HW.out (Nat.le_refl _) HP.out HQ.out (HD.out _ HB.out).2 rfl kindN_ff).mono ?_
            rintro e w2 ⟨rfl, g2⟩
            have HG2 := hidOf g2
            clear g2
            go_wp2
            go_ret
            exact ⟨rfl, HB.out.grown HG2.out HB.out.size (by simp)⟩
        · go_wp2_with fail
          refine (Run.kind HR.out HW.out (Nat.le_refl _) HP.out HQ.out (HD.out _ HB.out).2 rfl (kindN_t _)).mono ?_
          rintro e w2 ⟨rfl, g2⟩
          have HG2 := hidOf g2
          clear g2
          go_wp2
          go_ret
          exact ⟨rfl, HB.out.grown HG2.out HB.out.size (by simp)⟩
    · go_enter Try.func5, Try.ntmps5
      go_wp2
      go_ret
      exact ⟨rfl, Below.refl _ _⟩
  · go_enter Try.func5, Try.ntmps5
    go_wp2
    go_ret
    exact ⟨rfl, Below.refl _ _⟩

end Go.Proofs.Qxb6615769a
