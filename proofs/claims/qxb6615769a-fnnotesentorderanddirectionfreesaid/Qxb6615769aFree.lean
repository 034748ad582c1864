import Derived.Test.Qxb6615769aPlain2
namespace Go.Proofs.Qxb6615769a
open Go.RowKit Go.Maps Go.WideMaps

set_option maxRecDepth 100000 in
set_option maxHeartbeats 2000000 in
theorem free_walk (b off len cap : Nat) (X Y : Nat → Int) (fa : Option Addr) (flen fcap fb foff : Nat) (F : Nat → Bool) (w : World) (hl : len ≤ maxLen) (hfl : flen ≤ maxLen)
    (hx : ∀ i, i < len → w.cell? ⟨b, off + i * 2, none⟩ = some (.int .i64 (X i))) (hy : ∀ i, i < len → w.cell? ⟨b, off + i * 2 + 1, none⟩ = some (.int .i64 (Y i)))
    (hw : ∀ i, i < len → wf64 (X i) ∧ wf64 (Y i)) (hb : b < w.heap.size) (hfa : 0 < flen → fa = some ⟨fb, foff, none⟩) (hf : ∀ i, i < flen → w.cell? ⟨fb, foff + i, none⟩ = some (.bool (F i))) (hfb : 0 < flen → fb < w.heap.size) :
    Calls Try.prog 8 #[.slice (some ⟨b, off, none⟩) len cap, .slice fa flen fcap] w fun e w' => e = .returned (.bool true) ∧ Below w.heap.size w w' := by
  have hl' := hl
  have hfl' := hfl
  unfold maxLen at hl' hfl'
  have hmm := @run_makeMap Try.prog
  by_cases h0 : len + flen ≤ 1048576
  · have hd : decide (len + flen ≤ 1048576) = true := by simpa using h0
    by_cases h1 : len ≤ 4096
    · by_cases h2 : flen ≤ 4096
      · have HX := hidOf hx
        have HY := hidOf hy
        have HW := hidOf hw
        have HF := hidOf hf
        have HFA := hidOf hfa
        have HFB := hidOf hfb
        clear hx hy hw hf hfa hfb
        go_enter Try.func8, Try.ntmps8
        go_wp2_with (first | (go_at_call 17; refine (bytes17 _ _ _ _ _ _ _ hl hfl).mono ?_; rintro e w' ⟨rfl, rfl⟩))
        refine (new_any _ _ _).mono ?_
        rintro e w1 ⟨rfl, hc12, hc14, hg1, hs1⟩
        have hC : w.heap.size + 1 < w1.heap.size := by rw [hs1]; simp
        have hrun1 : Run w1 (w.heap.size + 1) w.heap.size 0 none (setK X Y 0) := ⟨(World.ownsMap_made w _ _ _).kept hg1 (by simp), by simpa using hc12, by simpa using hc14⟩
        have hbel1 : Below w.heap.size w w1 := ((Below.refl _ w).alloc (Nat.le_refl _) _).grown hg1 (by simp) (by simp)
        have HR1 := hidOf hrun1
        have HB1 := hidOf hbel1
        clear hc12 hc14 hg1 hs1 hrun1 hbel1
        go_wp2_with fail
        refine (new_any _ _ _).mono ?_
        rintro e w2 ⟨rfl, hc12, hc14, hg2, hs2⟩
        have hrb : Run w2 (w1.heap.size + 1) w1.heap.size 0 none (setK (fun j => X (len - 1 - j)) (fun j => Y (len - 1 - j)) 0) := ⟨(World.ownsMap_made w1 _ _ _).kept hg2 (by simp), by simpa using hc12, by simpa using hc14⟩
        have hra : Run w2 (w.heap.size + 1) w.heap.size 0 none (setK X Y 0) := (HR1.out.grown (World.grownBy_alloc _ _ none) (by simp) (by simp)).grown hg2 (by simp) (by simp)
        have hbel2 : Below w.heap.size w w2 := (HB1.out.alloc HB1.out.size _).grown hg2 (by simp; omega) (by simp)
        have HRA := hidOf hra
        have HRB := hidOf hrb
        have HB := hidOf hbel2
        clear hc12 hc14 hg2 hs2 hra hrb hbel2 HR1 HB1 hmm
        go_wp2
        go_loopw [7] (fun i wr => ∃ k : Nat, k ≤ len ∧ i = .int .i64 k ∧ Run wr (w.heap.size + 1) w.heap.size k none (setK X Y k) ∧ Run wr (w1.heap.size + 1) w1.heap.size 0 none (setK (fun j => X (len - 1 - j)) (fun j => Y (len - 1 - j)) 0) ∧ Below w.heap.size w wr) (fun i _ => len - (intOf i).toNat)
        case atStart => exact ⟨0, Nat.zero_le _, rfl, HRA.out, HRB.out, HB.out⟩
        case round =>
          clear HRA HRB HB
          obtain ⟨k, hk, rfl, hra, hrb, hbel⟩ := hrel
          by_cases hlt : k < len
          · have cx : wr.cell? ⟨b, off + k * 2, none⟩ = some (.int .i64 (X k)) := (hbel.cell hb).trans (HX.out k hlt)
            have cy : wr.cell? ⟨b, off + k * 2 + 1, none⟩ = some (.int .i64 (Y k)) := (hbel.cell hb).trans (HY.out k hlt)
            have hra' : Run wr.drew (w.heap.size + 1) w.heap.size k none (setK X Y k) := hra
            have HN := hidOf (hra'.noteAt (n := len) (by omega) (HW.out k hlt).1 (HW.out k hlt).2 rfl hlt (by omega))
            have HRB := hidOf hrb
            have HB := hidOf hbel
            clear hra hra' hrb hbel
            go_wp2_with fail
            go_region_with (go_at_call 12; refine (Hid.out HN).mono ?_; rintro e w3 ⟨rfl, n1, n2⟩)
            all_goals
              have HN1 := hidOf n1
              have HN2 := hidOf n2
              clear n1 n2
              go_wp2
              go_roundw
              case rel =>
                exact ⟨k + 1, by omega, by go_num, HN1.out, Run.grown (W := wr.drew) HRB.out HN2.out (by simp; omega) (by simp; omega), HB.out.drew.grown HN2.out HB.out.size (by simp)⟩
              case measure => simp [intOf] <;> omega
          · have ek : k = len := by omega
            rw [ek] at hra
            clear hlt
            have HRA := hidOf hra
            have HRB := hidOf hrb
            have HB := hidOf hbel
            have EK := hidOf ek
            clear hra hrb hbel ek hk
            have hge : ¬ (k : Int) < (len : Int) := by rw [EK.out]; omega
            go_wp2
            clear hge
            go_loopw [8] (fun i wq => ∃ k : Nat, k ≤ len ∧ i = .int .i64 ((k : Int) - 1) ∧ Run wq (w.heap.size + 1) w.heap.size len none (setK X Y len) ∧ Run wq (w1.heap.size + 1) w1.heap.size (len - k) none (setK (fun j => X (len - 1 - j)) (fun j => Y (len - 1 - j)) (len - k)) ∧ Below w.heap.size w wq) (fun i _ => (intOf i + 1).toNat)
            case atStart => exact ⟨len, Nat.le_refl _, rfl, HRA.out, by rw [Nat.sub_self]; exact HRB.out, HB.out⟩
            case round =>
              clear HRA HRB HB EK
              obtain ⟨k2, hk2, hi, hra, hrb, hbel⟩ := hrel
              rcases Nat.eq_zero_or_pos k2 with hz | hz
              · rw [hz] at hi hrb
                rw [Nat.sub_zero] at hrb
                rw [setK_rev X Y len (hra.1.canon keyed) (hrb.1.canon keyed)] at hrb
                rw [show (((0 : Nat) : Int) - 1) = -1 from rfl] at hi
                subst hi
                have HRA := hidOf hra
                have HRB := hidOf hrb
                have HB := hidOf hbel
                clear hz hk2 hra hrb hbel k2
                go_wp2_with fail
                refine (ex_any _ _ _ HRA.out.2.1).mono ?_
                rintro e w' ⟨rfl, rfl⟩
                go_wp2_with fail
                refine (ex_any _ _ _ HRB.out.2.1).mono ?_
                rintro e w' ⟨rfl, rfl⟩
                go_wp2
                go_loopw [11, 12] (fun d i wq => ∃ m : Nat, m ≤ len ∧ i = .int .i64 m ∧ d = .int .i64 (Maps.size (setK X Y m)) ∧ Run wq (w.heap.size + 1) w.heap.size len none (setK X Y len) ∧ Run wq (w1.heap.size + 1) w1.heap.size len none (setK X Y len) ∧ Below w.heap.size w wq) (fun _ i _ => len - (intOf i).toNat)
                case atStart => exact ⟨0, Nat.zero_le _, rfl, rfl, HRA.out, HRB.out, HB.out⟩
                case round =>
                  clear HRA HRB HB
                  obtain ⟨m, hm, rfl, rfl, hra, hrb, hbl⟩ := hrel
                  have hsz := size_setK_le X Y m
                  by_cases hlt2 : m < len
                  · have cx : wr.cell? ⟨b, off + m * 2, none⟩ = some (.int .i64 (X m)) := (hbl.cell hb).trans (HX.out m hlt2)
                    have cy : wr.cell? ⟨b, off + m * 2 + 1, none⟩ = some (.int .i64 (Y m)) := (hbl.cell hb).trans (HY.out m hlt2)
                    have hsb := seenB_mono X Y hlt2 (sameB_self (X m) (Y m))
                    have hlka : ∀ o : Obj, (Instr.lookup 27 (.map (some w.heap.size)) (.agg #[.int .i64 (min (X m) (Y m)), .int .i64 (max (X m) (Y m))]) false).run Try.prog (wr.alloc o) = .ok (.bool true) (wr.alloc o) := fun o => by
                      have := lookK (hra.1.alloc o) HW.out (Nat.le_refl len) (HW.out m hlt2).1 (HW.out m hlt2).2
                      rw [hsb] at this
                      exact this
                    have hlkb : ∀ o : Obj, (Instr.lookup 27 (.map (some w1.heap.size)) (.agg #[.int .i64 (min (X m) (Y m)), .int .i64 (max (X m) (Y m))]) false).run Try.prog (wr.alloc o) = .ok (.bool true) (wr.alloc o) := fun o => by
                      have := lookK (hrb.1.alloc o) HW.out (Nat.le_refl len) (HW.out m hlt2).1 (HW.out m hlt2).2
                      rw [hsb] at this
                      exact this
                    have HS := hidOf (size_setK X Y HW.out hlt2)
                    have HRA2 := hidOf hra
                    have HRB2 := hidOf hrb
                    have HB2 := hidOf hbl
                    clear hra hrb hbl hsb
                    obtain ⟨wo, rfl⟩ : ∃ wo : World, wo = wr := ⟨_, rfl⟩
                    have hk1 : Y m < X m → min (X m) (Y m) = Y m ∧ max (X m) (Y m) = X m := fun h => ⟨by omega, by omega⟩
                    have hk2 : ¬ Y m < X m → min (X m) (Y m) = X m ∧ max (X m) (Y m) = Y m := fun h => ⟨by omega, by omega⟩
                    by_cases hyx : Y m < X m
                    all_goals
                      first | rw [(hk1 hyx).1, (hk1 hyx).2] at hlka hlkb | rw [(hk2 hyx).1, (hk2 hyx).2] at hlka hlkb
                      clear hk1 hk2
                      go_wp2
                      clear hlka hlkb cx cy
                      go_loopw [16, 17] (fun f j wq => ∃ t : Nat, t ≤ m ∧ j = .int .i64 t ∧ f = .bool true ∧ seenB X Y t (X m) (Y m) = false ∧ Run wq (w.heap.size + 1) w.heap.size len none (setK X Y len) ∧ Run wq (w1.heap.size + 1) w1.heap.size len none (setK X Y len) ∧ Below w.heap.size w wq) (fun _ j _ => m - (intOf j).toNat)
                      case atStart => exact ⟨0, Nat.zero_le _, rfl, rfl, rfl, HRA2.out.grown (World.grownBy_alloc _ _ none) (by simp) (by simp), HRB2.out.grown (World.grownBy_alloc _ _ none) (by simp) (by simp), HB2.out.alloc HB2.out.size _⟩
                      case round =>
                        clear HRA2 HRB2 HB2
                        obtain ⟨t, ht, rfl, rfl, hse, hra3, hrb3, hb3⟩ := hrel
                        have HE := hidOf hse
                        have HRA3 := hidOf hra3
                        have HRB3 := hidOf hrb3
                        have HB3 := hidOf hb3
                        have cxm : wr.cell? ⟨b, off + m * 2, none⟩ = some (.int .i64 (X m)) := (hb3.cell hb).trans (HX.out m hlt2)
                        have cym : wr.cell? ⟨b, off + m * 2 + 1, none⟩ = some (.int .i64 (Y m)) := (hb3.cell hb).trans (HY.out m hlt2)
                        clear hse hra3 hrb3
                        by_cases htm : t < m
                        · have cxt : wr.cell? ⟨b, off + t * 2, none⟩ = some (.int .i64 (X t)) := (hb3.cell hb).trans (HX.out t (by omega))
                          have cyt : wr.cell? ⟨b, off + t * 2 + 1, none⟩ = some (.int .i64 (Y t)) := (hb3.cell hb).trans (HY.out t (by omega))
                          clear hb3
                          have htk : t < len := by omega
                          cases hsm : sameB (X t) (Y t) (X m) (Y m)
                          · have HM := hidOf hsm
                            clear hsm
                            go_wp2_with fail
                            go_quiet ((go_at_call 10; exact same_quiet_at (Hid.out HM) _ _))
                            go_wp2
                            go_roundw
                            case rel =>
                              refine ⟨t + 1, by omega, by go_num, rfl, ?_, HRA3.out.drewN _, HRB3.out.drewN _, ?_⟩
                              · rw [seenB_succ, HE.out, HM.out]; rfl
                              · exact ⟨HB3.out.os, HB3.out.tape, HB3.out.output, HB3.out.size, HB3.out.block⟩
                            case measure => simp [intOf] <;> omega
                          · have HM := hidOf (seenB_mono X Y htm hsm)
                            have HM2 := hidOf hsm
                            clear hsm
                            go_wp2_with fail
                            go_quiet ((go_at_call 10; exact same_quiet_at (Hid.out HM2) _ _))
                            go_wp2
                            go_roundw
                            case rel =>
                              refine ⟨m + 1, by omega, by go_num, ?_, HRA3.out.drewN _, HRB3.out.drewN _, ?_⟩
                              · rw [HS.out, HM.out]; rfl
                              · exact ⟨HB3.out.os, HB3.out.tape, HB3.out.output, HB3.out.size, HB3.out.block⟩
                            case measure => simp [intOf] <;> omega
                        · clear hb3
                          obtain rfl : t = m := by omega
                          go_wp2
                          go_roundw
                          case rel =>
                            refine ⟨t + 1, by omega, by go_num, ?_, HRA3.out, HRB3.out, HB3.out⟩
                            rw [HS.out, HE.out]; go_num
                          case measure => simp [intOf] <;> omega
                  · obtain rfl : m = len := by omega
                    have hlena := hra.1.len Try.underlying27 3
                    have hlenb := hrb.1.len Try.underlying27 3
                    have HB3 := hidOf hbl
                    clear hra hrb hbl
                    go_wp2
                    go_ret
                    exact ⟨by simp, HB3.out⟩
              · obtain ⟨j, rfl⟩ : ∃ j, k2 = j + 1 := ⟨k2 - 1, by omega⟩
                rw [show (((j + 1 : Nat) : Int) - 1) = (j : Int) by omega] at hi
                subst hi
                clear hz
                have hjl : j < len := by omega
                have cx : wr.cell? ⟨b, off + j * 2, none⟩ = some (.int .i64 (X j)) := (hbel.cell hb).trans (HX.out j hjl)
                have cy : wr.cell? ⟨b, off + j * 2 + 1, none⟩ = some (.int .i64 (Y j)) := (hbel.cell hb).trans (HY.out j hjl)
                have hrb' : Run wr.drew (w1.heap.size + 1) w1.heap.size (len - (j + 1)) none (setK (fun j => X (len - 1 - j)) (fun j => Y (len - 1 - j)) (len - (j + 1))) := hrb
                have hu : uk (X j) (Y j) = uk ((fun j => X (len - 1 - j)) (len - (j + 1))) ((fun j => Y (len - 1 - j)) (len - (j + 1))) := by
                  show _ = uk (X (len - 1 - (len - (j + 1)))) (Y (len - 1 - (len - (j + 1))))
                  rw [show len - 1 - (len - (j + 1)) = j by omega]
                have HN1 := hidOf (hrb'.noteAt (n := len) (by omega) (HW.out j hjl).1 (HW.out j hjl).2 hu (by omega) (by omega))
                have HN2 := hidOf (hrb'.noteAt (n := len) (by omega) (HW.out j hjl).2 (HW.out j hjl).1 ((uk_comm _ _).trans hu) (by omega) (by omega))
                have HRA := hidOf hra
                have HB := hidOf hbel
                clear hra hrb hrb' hu
                by_cases hjf : j < flen
                · have hfb := HFB.out (by omega)
                  have cf0 : wr.cell? ⟨fb, foff + j, none⟩ = some (.bool (F j)) := (hbel.cell hfb).trans (HF.out j hjf)
                  have hidx : ∀ W : World, (Instr.indexAt 35 (.slice fa flen fcap) (.int .i64 (j : Int))).run Try.prog W = .ok (.pointer (some ⟨fb, foff + j, none⟩)) W := by
                    intro W
                    rw [HFA.out (by omega)]
                    go_simp
                  clear hbel hfb
                  cases hF : F j
                  · rw [hF] at cf0
                    have HN := HN1
                    clear HN1 HN2 hF
                    go_wp2_with fail
                    go_region_with (go_at_call 12; refine (Hid.out HN).mono ?_; rintro e w3 ⟨rfl, n1, n2⟩)
                    all_goals
                      have HN1 := hidOf n1
                      have HN2 := hidOf n2
                      clear n1 n2
                      go_wp2
                      go_roundw
                      case rel =>
                        refine ⟨j, by omega, rfl, Run.grown (W := wr.drew) HRA.out HN2.out (by simp; omega) (by simp; omega), ?_, HB.out.drew.grown HN2.out HB.out.size (by simp; omega)⟩
                        have e1 : len - (j + 1) + 1 = len - j := by omega
                        have h1 := HN1.out
                        rw [e1] at h1
                        exact h1
                      case measure => simp [intOf] <;> omega
                  · rw [hF] at cf0
                    have HN := HN2
                    clear HN1 HN2 hF
                    go_wp2_with fail
                    go_region_with (go_at_call 12; refine (Hid.out HN).mono ?_; rintro e w3 ⟨rfl, n1, n2⟩)
                    all_goals
                      have HN1 := hidOf n1
                      have HN2 := hidOf n2
                      clear n1 n2
                      go_wp2
                      go_roundw
                      case rel =>
                        refine ⟨j, by omega, rfl, Run.grown (W := wr.drew) HRA.out HN2.out (by simp; omega) (by simp; omega), ?_, HB.out.drew.grown HN2.out HB.out.size (by simp; omega)⟩
                        have e1 : len - (j + 1) + 1 = len - j := by omega
                        have h1 := HN1.out
                        rw [e1] at h1
                        exact h1
                      case measure => simp [intOf] <;> omega
                · clear hbel
                  have hjf' : ¬ (j : Int) < (flen : Int) := by omega
                  have HN := HN1
                  clear HN1 HN2
                  go_wp2_with fail
                  go_region_with (go_at_call 12; refine (Hid.out HN).mono ?_; rintro e w3 ⟨rfl, n1, n2⟩)
                  all_goals
                    have HN1 := hidOf n1
                    have HN2 := hidOf n2
                    clear n1 n2
                    go_wp2
                    go_roundw
                    case rel =>
                      refine ⟨j, by omega, rfl, Run.grown (W := wr.drew) HRA.out HN2.out (by simp; omega) (by simp; omega), ?_, HB.out.drew.grown HN2.out HB.out.size (by simp; omega)⟩
                      have e1 : len - (j + 1) + 1 = len - j := by omega
                      have h1 := HN1.out
                      rw [e1] at h1
                      exact h1
                    case measure => simp [intOf] <;> omega
      · go_enter Try.func8, Try.ntmps8
        go_wp2_with (first | (go_at_call 17; refine (bytes17 _ _ _ _ _ _ _ hl hfl).mono ?_; rintro e w' ⟨rfl, rfl⟩))
        go_ret
        exact ⟨rfl, Below.refl _ _⟩
    · go_enter Try.func8, Try.ntmps8
      go_wp2_with (first | (go_at_call 17; refine (bytes17 _ _ _ _ _ _ _ hl hfl).mono ?_; rintro e w' ⟨rfl, rfl⟩))
      go_ret
      exact ⟨rfl, Below.refl _ _⟩
  · have hd : decide (len + flen ≤ 1048576) = false := by simpa using h0
    go_enter Try.func8, Try.ntmps8
    go_wp2_with (first | (go_at_call 17; refine (bytes17 _ _ _ _ _ _ _ hl hfl).mono ?_; rintro e w' ⟨rfl, rfl⟩))
    go_ret
    exact ⟨rfl, Below.refl _ _⟩

end Go.Proofs.Qxb6615769a
