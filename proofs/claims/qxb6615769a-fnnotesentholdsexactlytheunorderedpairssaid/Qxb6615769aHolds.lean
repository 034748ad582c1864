import Derived.Test.Qxb6615769aPlain
import Derived.Maps.Ext
namespace Go.Proofs.Qxb6615769a
open Go.RowKit Go.Maps Go.WideMaps

set_option maxHeartbeats 1000000 in
theorem holds_walk (b off len cap : Nat) (X Y : Nat → Int) (w : World) (hl : len ≤ maxLen)
    (hx : ∀ i, i < len → w.cell? ⟨b, off + i * 2, none⟩ = some (.int .i64 (X i))) (hy : ∀ i, i < len → w.cell? ⟨b, off + i * 2 + 1, none⟩ = some (.int .i64 (Y i)))
    (hw : ∀ i, i < len → wf64 (X i) ∧ wf64 (Y i)) (hb : b < w.heap.size) :
    Calls Try.prog 7 #[.slice (some ⟨b, off, none⟩) len cap] w fun e w' => e = .returned (.bool true) ∧ Below w.heap.size w w' := by
  have hl' := hl
  unfold maxLen at hl'
  have hmm := @run_makeMap Try.prog
  by_cases h0 : len ≤ 1048576
  · have hd : decide (len ≤ 1048576) = true := by simpa using h0
    by_cases h1 : len ≤ 4096
    · go_enter Try.func7, Try.ntmps7
      go_wp2_with (first | (go_at_call 15; refine (bytes15 _ _ _ _ hl).mono ?_; rintro e w' ⟨rfl, rfl⟩) | (go_at_call 11; refine (new_any _ _ _).mono ?_; rintro e w1 ⟨rfl, hc12, hc14, hg1, hs1⟩))
      have hown0 : w1.ownsMap Try.prog 22 (plainElem Try.prog 4) w.heap.size 0 (setK X Y 0) := (World.ownsMap_made w _ _ _).kept hg1 (by simp)
      have hbel0 : Below w.heap.size w w1 := ((Below.refl _ w).alloc (Nat.le_refl _) _).grown hg1 (by simp) (by simp)
      have hc0 : w1.cell? ⟨w.heap.size + 1, 12, none⟩ = some (.map (some w.heap.size)) := by simpa using hc12
      clear hc12 hc14 hg1 hs1 hmm
      go_loopw [4] (fun i wr => ∃ k : Nat, k ≤ len ∧ i = .int .i64 k ∧ wr.ownsMap Try.prog 22 (plainElem Try.prog 4) w.heap.size k (setK X Y k) ∧ Below w.heap.size w wr ∧ wr.cell? ⟨w.heap.size + 1, 12, none⟩ = some (.map (some w.heap.size))) (fun i _ => len - (intOf i).toNat)
      case atStart => exact ⟨0, Nat.zero_le _, rfl, hown0, hbel0, hc0⟩
      case round =>
        clear hown0 hbel0 hc0
        obtain ⟨k, hk, rfl, hown, hbel, hc⟩ := hrel
        by_cases hlt : k < len
        · have cx : wr.cell? ⟨b, off + k * 2, none⟩ = some (.int .i64 (X k)) := (hbel.cell hb).trans (hx k hlt)
          have cy : wr.cell? ⟨b, off + k * 2 + 1, none⟩ = some (.int .i64 (Y k)) := (hbel.cell hb).trans (hy k hlt)
          have HN := hidOf (note_any (w.heap.size + 1) w.heap.size k (setK X Y k) (X k) (Y k) wr.drew hc hown (by unfold maxLen; omega) (wf_min (hw k hlt).1 (hw k hlt).2) (wf_max (hw k hlt).1 (hw k hlt).2))
          have HB := hidOf hbel
          have HC := hidOf hc
          clear hbel hown hc hx hy hw
          go_wp2_with fail
          go_region_with (go_at_call 12; refine (Hid.out HN).mono ?_; rintro e w2 ⟨rfl, n1, n2⟩)
          all_goals
            go_wp2
            go_roundw
            case rel =>
              refine ⟨k + 1, by omega, by go_num, ?_, HB.out.drew.grown n2 HB.out.size (by simp), n2.cell HC.out (by simp)⟩
              rw [setK_succ]
              exact n1
            case measure => simp [intOf]; omega
        · obtain rfl : k = len := by omega
          have HO := hidOf hown
          have HB := hidOf hbel
          clear hown hbel
          go_wp2_with (first | (go_at_call 16; refine (ex_any _ _ _ hc).mono ?_; rintro e w' ⟨rfl, rfl⟩))
          clear hc
          go_loopw [6, 7] (fun d i wq => ∃ m : Nat, m ≤ k ∧ i = .int .i64 m ∧ d = .int .i64 (Maps.size (setK X Y m)) ∧ wq.ownsMap Try.prog 22 (plainElem Try.prog 4) w.heap.size k (setK X Y k) ∧ Below w.heap.size w wq) (fun _ i _ => k - (intOf i).toNat)
          case atStart => exact ⟨0, Nat.zero_le _, rfl, rfl, HO.out, HB.out⟩
          case round =>
            obtain ⟨m, hm, rfl, rfl, ho, hbl⟩ := hrel
            have hsz := size_setK_le X Y m
            by_cases hlt2 : m < k
            · have cx : wr.cell? ⟨b, off + m * 2, none⟩ = some (.int .i64 (X m)) := (hbl.cell hb).trans (hx m hlt2)
              have cy : wr.cell? ⟨b, off + m * 2 + 1, none⟩ = some (.int .i64 (Y m)) := (hbl.cell hb).trans (hy m hlt2)
              have hlk := lookK ho hw (Nat.le_refl k) (hw m hlt2).1 (hw m hlt2).2
              rw [seenB_mono X Y hlt2 (sameB_self (X m) (Y m))] at hlk
              have HS := hidOf (size_setK X Y hw hlt2)
              have HO2 := hidOf ho
              have HB2 := hidOf hbl
              have HX := hidOf hx
              have HY := hidOf hy
              clear ho hbl hx hy hw HO HB
              have hlk1 : Y m < X m → (Instr.lookup 27 (.map (some w.heap.size)) (.agg #[.int .i64 (Y m), .int .i64 (X m)]) false).run Try.prog wr = .ok (.bool true) wr := fun h => by rw [show min (X m) (Y m) = Y m by omega, show max (X m) (Y m) = X m by omega] at hlk; exact hlk
              have hlk2 : ¬ Y m < X m → (Instr.lookup 27 (.map (some w.heap.size)) (.agg #[.int .i64 (X m), .int .i64 (Y m)]) false).run Try.prog wr = .ok (.bool true) wr := fun h => by rw [show min (X m) (Y m) = X m by omega, show max (X m) (Y m) = Y m by omega] at hlk; exact hlk
              clear hlk
              obtain ⟨wo, rfl⟩ : ∃ wo : World, wo = wr := ⟨_, rfl⟩
              by_cases hyx : Y m < X m
              all_goals
                first | (have hlk := hlk1 hyx) | (have hlk := hlk2 hyx)
                clear hlk1 hlk2
                go_wp2
                go_loopw [10, 11] (fun f j wq => ∃ t : Nat, t ≤ m ∧ j = .int .i64 t ∧ f = .bool true ∧ seenB X Y t (X m) (Y m) = false ∧ wq.ownsMap Try.prog 22 (plainElem Try.prog 4) w.heap.size k (setK X Y k) ∧ Below w.heap.size w wq) (fun _ j _ => m - (intOf j).toNat)
                case atStart => exact ⟨0, Nat.zero_le _, rfl, rfl, rfl, HO2.out, HB2.out⟩
                case round =>
                  obtain ⟨t, ht, rfl, rfl, hse, ho3, hb3⟩ := hrel
                  have HE := hidOf hse
                  have HO3 := hidOf ho3
                  have HB3 := hidOf hb3
                  have cxm : wr.cell? ⟨b, off + m * 2, none⟩ = some (.int .i64 (X m)) := (hb3.cell hb).trans (HX.out m hlt2)
                  have cym : wr.cell? ⟨b, off + m * 2 + 1, none⟩ = some (.int .i64 (Y m)) := (hb3.cell hb).trans (HY.out m hlt2)
                  clear hse ho3 hlk cx cy
                  by_cases htm : t < m
                  · have cxt : wr.cell? ⟨b, off + t * 2, none⟩ = some (.int .i64 (X t)) := (hb3.cell hb).trans (HX.out t (by omega))
                    have cyt : wr.cell? ⟨b, off + t * 2 + 1, none⟩ = some (.int .i64 (Y t)) := (hb3.cell hb).trans (HY.out t (by omega))
                    clear hb3
                    have htk : t < k := by omega
                    cases hsm : sameB (X t) (Y t) (X m) (Y m)
                    · have HM := hidOf hsm
                      clear hsm
                      go_wp2_with fail
                      go_quiet ((go_at_call 10; exact same_quiet_at (Hid.out HM) _ _))
                      go_wp2
                      go_roundw
                      case rel =>
                        refine ⟨t + 1, by omega, by go_num, rfl, ?_, HO3.out, ?_⟩
                        · rw [seenB_succ, HE.out, HM.out]; rfl
                        · exact ⟨HB3.out.os, HB3.out.tape, HB3.out.output, HB3.out.size, HB3.out.block⟩
                      case measure => simp [intOf]; omega
                    · have HM := hidOf (seenB_mono X Y htm hsm)
                      have HM2 := hidOf hsm
                      clear hsm
                      go_wp2_with fail
                      go_quiet ((go_at_call 10; exact same_quiet_at (Hid.out HM2) _ _))
                      go_wp2
                      go_roundw
                      case rel =>
                        refine ⟨m + 1, by omega, by go_num, ?_, HO3.out, ?_⟩
                        · rw [HS.out, HM.out]; rfl
                        · exact ⟨HB3.out.os, HB3.out.tape, HB3.out.output, HB3.out.size, HB3.out.block⟩
                      case measure => simp [intOf]; omega
                  · clear hb3
                    obtain rfl : t = m := by omega
                    go_wp2
                    go_roundw
                    case rel =>
                      refine ⟨t + 1, by omega, by go_num, ?_, HO3.out, HB3.out⟩
                      rw [HS.out, HE.out]; go_num
                    case measure => simp [intOf]; omega
            · obtain rfl : m = k := by omega
              go_wp2_with (first | (at_len; refine wpList_len_own _ rfl _ 27 rfl 22 4 Try.underlying27 _ w.heap.size m _ rfl ho ?_))
              go_ret
              exact ⟨by simp, hbl⟩
    · go_enter Try.func7, Try.ntmps7
      go_wp2_with (first | (go_at_call 15; refine (bytes15 _ _ _ _ hl).mono ?_; rintro e w' ⟨rfl, rfl⟩))
      go_ret
      exact ⟨rfl, Below.refl _ _⟩
  · have hd : decide (len ≤ 1048576) = false := by simpa using h0
    go_enter Try.func7, Try.ntmps7
    go_wp2_with (first | (go_at_call 15; refine (bytes15 _ _ _ _ hl).mono ?_; rintro e w' ⟨rfl, rfl⟩))
    go_ret
    exact ⟨rfl, Below.refl _ _⟩

set_option maxHeartbeats 400000 in
/-- .. OF NO SEND AT ALL (a nil slice among these). -/
theorem holds_zero (a : Option Addr) (cap : Nat) (w : World) :
    Calls Try.prog 7 #[.slice a 0 cap] w fun e w' => e = .returned (.bool true) ∧ Below w.heap.size w w' := by
  have hmm := @run_makeMap Try.prog
  go_enter Try.func7, Try.ntmps7
  go_wp2_with (first | (go_at_call 15; refine (bytes15 _ 0 _ _ (Nat.zero_le _)).mono ?_; rintro e w' ⟨rfl, rfl⟩) | (go_at_call 11; refine (new_any _ _ _).mono ?_; rintro e w1 ⟨rfl, hc12, hc14, hg1, hs1⟩))
  have hown0 : w1.ownsMap Try.prog 22 (plainElem (H := Unit) Try.prog 4) w.heap.size 0 (.map []) := (World.ownsMap_made w _ _ _).kept hg1 (by simp)
  have hbel0 : Below w.heap.size w w1 := ((Below.refl _ w).alloc (Nat.le_refl _) _).grown hg1 (by simp) (by simp)
  have hc0 : w1.cell? ⟨w.heap.size + 1, 12, none⟩ = some (.map (some w.heap.size)) := by simpa using hc12
  have HO := hidOf hown0
  have HB := hidOf hbel0
  clear hc12 hc14 hg1 hs1 hmm hown0 hbel0
  go_loop [4] (fun i => i = .int .i64 0) (fun _ => 0)
  case atStart => rfl
  case round =>
    subst hrel
    go_wp2_with (first | (go_at_call 16; refine (ex_any _ _ _ hc0).mono ?_; rintro e w' ⟨rfl, rfl⟩))
    go_loop [6, 7] (fun d i => i = .int .i64 0 ∧ d = .int .i64 0) (fun _ _ => 0)
    case atStart => exact ⟨rfl, rfl⟩
    case round =>
      obtain ⟨rfl, rfl⟩ := hrel
      have ho := HO.out
      go_wp2_with (first | (at_len; refine wpList_len_own _ rfl _ 27 rfl 22 4 Try.underlying27 _ w.heap.size 0 _ rfl ho ?_))
      go_ret
      exact ⟨by simp [Maps.size], HB.out⟩

end Go.Proofs.Qxb6615769a
