import Derived.Test.Qxb6615907aFmtSame
namespace Go.Proofs.Qxb6615907aFmt
open Go.RowKit Go.Extern.Stop Go.Stop Go.Extern

set_option maxRecDepth 100000 in
set_option maxHeartbeats 1000000 in
theorem turn_walk (F : Interp) (x : Addr) (cap : Nat) (l : List UInt8) (off : Int) (w : World) (hF : F.answers w.tape) (hm : l.length ≤ maxLen) (hc : ∀ j (hj : j < l.length), w.cell? (x.add j) = some (.int .u8 (l[j]).toNat)) :
    Calls Tryf.prog 4 #[.slice (some x) l.length cap, .int .i64 off] w fun e w' => e = .returned (.bool true) ∧ Below w.heap.size w w' := by
  have hm' := hm
  unfold maxLen at hm'
  by_cases h0 : l.length ≤ 1048576
  · have hd : decide (l.length ≤ 1048576) = true := by simpa using h0
    by_cases h1 : off < 0
    · clear hc
      go_enter Tryf.func4, Tryf.ntmps4
      go_wp2_with (first | (go_at_call 11; refine (bytes11 _ _ _ _ _ hm).mono ?_; rintro e w' ⟨rfl, rfl⟩))
      go_ret
      exact ⟨rfl, Below.refl _ _⟩
    · by_cases h2 : (l.length : Int) < off
      · clear hc
        go_enter Tryf.func4, Tryf.ntmps4
        go_wp2_with (first | (go_at_call 11; refine (bytes11 _ _ _ _ _ hm).mono ?_; rintro e w' ⟨rfl, rfl⟩))
        go_ret
        exact ⟨rfl, Below.refl _ _⟩
      · obtain ⟨o, rfl⟩ : ∃ o : Nat, off = (o : Int) := ⟨off.toNat, by omega⟩
        have ho : o ≤ l.length := by omega
        obtain ⟨W2, hcp, hB2, hbel2, hs2⟩ := copyin w x cap l hc
        have hmk := run_make_row' (P := Tryf.prog) 22 5 (.int .u8 0) 1 Tryf.underlying22 info5 rfl .i64 .i64 l.length (by omega) (by omega) w
        have hneq := run_neq_slice_nil_any (P := Tryf.prog) w 22 5 (some x) l.length cap 0 0 Tryf.underlying22
        obtain ⟨S, hS⟩ : ∃ S : ByteArray, S = ⟨(tx l o).1.toArray⟩ := ⟨_, rfl⟩
        obtain ⟨O, hO⟩ : ∃ O, O = (tx l o).2.1 := ⟨_, rfl⟩
        obtain ⟨f, hf⟩ : ∃ f, f = (tx l o).2.2 := ⟨_, rfl⟩
        have hOb := tx_le l o ho
        rw [← hO] at hOb
        have hO1 := hOb.1
        have hO2 := hOb.2
        have HB2 := hidOf hB2
        have HL2 := hidOf hbel2
        have HS2 := hidOf hs2
        have HS := hidOf hS
        have HO := hidOf hO
        have Hf := hidOf hf
        clear hc hB2 hbel2 hs2 hS hO hf hOb
        go_enter Tryf.func4, Tryf.ntmps4
        go_wp2_with (first | (go_at_call 11; refine (bytes11 _ _ _ _ _ hm).mono ?_; rintro e w' ⟨rfl, rfl⟩))
        clear hcp hmk hneq hm hm' h1 h2
        refine (new_any _ _ _ _ _).mono ?_
        rintro e w3 ⟨rfl, hw3⟩
        have d3 : Dec w3 W2.heap.size (.slice (some ⟨w.heap.size, 0, none⟩) l.length l.length) (o : Int) .nilIface := by rw [hw3]; exact dec_new _ _ _ _ _
        have g3 : W2.grownBy w3 none := by rw [hw3]; exact World.grownBy_alloc _ _ _
        have HD3 := hidOf d3
        have HG3 := hidOf g3
        clear d3 g3 hw3
        go_wp2_with fail
        refine (dtext F W2.heap.size w.heap.size 0 o l w3 (by rw [HG3.out.tape, HL2.out.tape]; exact hF) h0 ho HD3.out (HB2.out.grown HG3.out (by simp)) (by have h := HS2.out; omega) HS.out HO.out Hf.out).mono ?_
        rintro e w4 ⟨rfl, er, he, d4, g4⟩
        have HE := hidOf he
        have HD4 := hidOf d4
        have HG4 := hidOf g4
        clear he d4 g4
        go_wp2_with fail
        refine (off_any _ _ _ HD4.out.2.1).mono ?_
        rintro e w' ⟨rfl, rfl⟩
        go_wp2_with fail
        refine (failed_is _ f er _ HD4.out.2.2.1 HE.out).mono ?_
        rintro e w' ⟨rfl, rfl⟩
        cases f
        · have hernil : er = .nilIface := by rcases HE.out with ⟨h, _⟩ | ⟨_, h⟩; cases h; exact h
          have hd4 : Dec w4 W2.heap.size (.slice (some ⟨w.heap.size, 0, none⟩) l.length l.length) (O : Int) .nilIface := by rw [← hernil]; exact HD4.out
          have HDN := hidOf hd4
          clear hernil hd4
          obtain ⟨S2, hS2⟩ : ∃ S : ByteArray, S = ⟨(tx l O).1.toArray⟩ := ⟨_, rfl⟩
          obtain ⟨O2, hO2'⟩ : ∃ P, P = (tx l O).2.1 := ⟨_, rfl⟩
          obtain ⟨f2, hf2⟩ : ∃ f, f = (tx l O).2.2 := ⟨_, rfl⟩
          have HSS := hidOf hS2
          have HOO := hidOf hO2'
          have HFF := hidOf hf2
          clear hS2 hO2' hf2
          go_wp2_with fail
          refine (dtext F W2.heap.size w.heap.size 0 O l w4 (by rw [HG4.out.tape, HG3.out.tape, HL2.out.tape]; exact hF) h0 hO2 HDN.out ((HB2.out.grown HG3.out (by simp)).grown HG4.out (by simp; have h := HS2.out; omega)) (by have h := HS2.out; omega) HSS.out HOO.out HFF.out).mono ?_
          rintro e w5 ⟨rfl, er2, he2, d5, g5⟩
          have HE2 := hidOf he2
          have HD5 := hidOf d5
          have HG5 := hidOf g5
          clear he2 d5 g5
          go_wp2_with fail
          refine (off_any _ _ _ HD5.out.2.1).mono ?_
          rintro e w' ⟨rfl, rfl⟩
          go_wp2_with fail
          refine (failed_is _ f2 er2 _ HD5.out.2.2.1 HE2.out).mono ?_
          rintro e w' ⟨rfl, rfl⟩
          go_wp2_with fail
          have hBw : Bytes w5 w.heap.size 0 l := (((HB2.out.grown HG3.out (by simp)).grown HG4.out (by simp; have h := HS2.out; omega)).grown HG5.out (by simp; have h := HS2.out; omega))
          have HBW := hidOf hBw
          clear hBw
          refine (model_tx w.heap.size 0 o l w5 h0 ho HBW.out HS.out HO.out Hf.out).mono ?_
          rintro e w' ⟨rfl, rfl⟩
          go_wp2_with fail
          refine (model_tx w.heap.size 0 O l w5 h0 hO2 HBW.out HSS.out HOO.out HFF.out).mono ?_
          rintro e w' ⟨rfl, rfl⟩
          go_wp2
          go_ret
          refine ⟨by simp, ?_⟩
          have b3 := HL2.out.grown HG3.out HL2.out.size (by simp)
          have b4 := b3.grown HG4.out b3.size (by simp; have h := HS2.out; omega)
          exact b4.grown HG5.out b4.size (by simp; have h := HS2.out; omega)
        · obtain ⟨a, hera⟩ : ∃ a, er = .iface 46 (.pointer (some a)) := by rcases HE.out with ⟨_, h⟩ | ⟨h, _⟩; exact h; cases h
          have hd4 : Dec w4 W2.heap.size (.slice (some ⟨w.heap.size, 0, none⟩) l.length l.length) (O : Int) (.iface 46 (.pointer (some a))) := by rw [← hera]; exact HD4.out
          have HDN := hidOf hd4
          clear hera hd4
          go_wp2_with fail
          refine (text7 W2.heap.size w4 ⟨#[]⟩ (fun w' => w4 = w') (text12_err _ _ _ a w4 HDN.out)).mono ?_
          rintro e w' ⟨rfl, rfl⟩
          go_wp2_with fail
          refine (off_any _ _ _ HDN.out.2.1).mono ?_
          rintro e w' ⟨rfl, rfl⟩
          go_wp2_with fail
          refine (failed_yes _ a _ HDN.out.2.2.1).mono ?_
          rintro e w' ⟨rfl, rfl⟩
          go_wp2_with fail
          have hBw : Bytes w4 w.heap.size 0 l := ((HB2.out.grown HG3.out (by simp)).grown HG4.out (by simp; have h := HS2.out; omega))
          refine (model_tx w.heap.size 0 o l w4 h0 ho hBw HS.out HO.out Hf.out).mono ?_
          rintro e w' ⟨rfl, rfl⟩
          clear hBw
          go_wp2
          go_ret
          refine ⟨by simp, ?_⟩
          have b3 := HL2.out.grown HG3.out HL2.out.size (by simp)
          exact b3.grown HG4.out b3.size (by simp; have h := HS2.out; omega)
  · have hd : decide (l.length ≤ 1048576) = false := by simpa using h0
    clear hc
    go_enter Tryf.func4, Tryf.ntmps4
    go_wp2_with (first | (go_at_call 11; refine (bytes11 _ _ _ _ _ hm).mono ?_; rintro e w' ⟨rfl, rfl⟩))
    go_ret
    exact ⟨rfl, Below.refl _ _⟩

set_option maxRecDepth 100000 in
set_option maxHeartbeats 1000000 in
theorem turn_nil (F : Interp) (off : Int) (w : World) (hF : F.answers w.tape) :
    Calls Tryf.prog 4 #[.slice none 0 0, .int .i64 off] w fun e w' => e = .returned (.bool true) ∧ Below w.heap.size w w' := by
  by_cases h1 : off < 0
  · go_enter Tryf.func4, Tryf.ntmps4
    go_wp2_with (first | (go_at_call 11; refine (bytes11 _ 0 _ _ _ (Nat.zero_le _)).mono ?_; rintro e w' ⟨rfl, rfl⟩))
    go_ret
    exact ⟨rfl, Below.refl _ _⟩
  · by_cases h2 : 0 < off
    · go_enter Tryf.func4, Tryf.ntmps4
      go_wp2_with (first | (go_at_call 11; refine (bytes11 _ 0 _ _ _ (Nat.zero_le _)).mono ?_; rintro e w' ⟨rfl, rfl⟩))
      go_ret
      exact ⟨rfl, Below.refl _ _⟩
    · obtain rfl : off = 0 := by omega
      have hneq := run_neq_slice_nil_any (P := Tryf.prog) w 22 5 none 0 0 0 0 Tryf.underlying22
      go_enter Tryf.func4, Tryf.ntmps4
      go_wp2_with (first | (go_at_call 11; refine (bytes11 _ 0 _ _ _ (Nat.zero_le _)).mono ?_; rintro e w' ⟨rfl, rfl⟩))
      clear hneq
      refine (new_any _ _ _ _ _).mono ?_
      rintro e w3 ⟨rfl, hw3⟩
      have d3 : Dec w3 w.heap.size (.slice none 0 0) 0 .nilIface := by rw [hw3]; exact dec_new _ _ _ _ _
      have g3 : w.grownBy w3 none := by rw [hw3]; exact World.grownBy_alloc _ _ _
      have HD3 := hidOf d3
      have HG3 := hidOf g3
      clear d3 g3 hw3
      go_wp2_with fail
      refine (dtext_nil F w.heap.size w3 (by rw [HG3.out.tape]; exact hF) HD3.out).mono ?_
      rintro e w4 ⟨rfl, er, he, d4, g4⟩
      obtain ⟨a, hera⟩ : ∃ a, er = .iface 46 (.pointer (some a)) := by rcases he with ⟨_, h⟩ | ⟨h, _⟩; exact h; cases h
      rw [hera] at d4
      have HDN := hidOf d4
      have HG4 := hidOf g4
      clear he d4 g4 hera
      go_wp2_with fail
      refine (off_any _ _ _ HDN.out.2.1).mono ?_
      rintro e w' ⟨rfl, rfl⟩
      go_wp2_with fail
      refine (failed_yes _ a _ HDN.out.2.2.1).mono ?_
      rintro e w' ⟨rfl, rfl⟩
      go_wp2_with fail
      refine (text7 w.heap.size w4 ⟨#[]⟩ (fun w' => w4 = w') (text12_err _ _ _ a w4 HDN.out)).mono ?_
      rintro e w' ⟨rfl, rfl⟩
      go_wp2_with fail
      refine (off_any _ _ _ HDN.out.2.1).mono ?_
      rintro e w' ⟨rfl, rfl⟩
      go_wp2_with fail
      refine (failed_yes _ a _ HDN.out.2.2.1).mono ?_
      rintro e w' ⟨rfl, rfl⟩
      go_wp2_with fail
      refine (model_nil w4).mono ?_
      rintro e w' ⟨rfl, rfl⟩
      go_wp2
      go_ret
      refine ⟨by simp, ?_⟩
      have b3 := (Below.refl w.heap.size w).grown HG3.out (Nat.le_refl _) (by simp)
      exact b3.grown HG4.out b3.size (by simp)

theorem turn_all (F : Interp) (a0 : Option Addr) (len0 cap0 : Nat) (l : List UInt8) (a1 : Int) (w : World) (hF : F.answers w.tape) (w0 : IsBytes w a0 len0 cap0 l) :
    Calls Tryf.prog 4 #[.slice a0 len0 cap0, .int .i64 a1] w fun e w' => e = .returned (.bool true) ∧ Below w.heap.size w w' := by
  obtain ⟨hm, rfl, ⟨rfl, h0, rfl⟩ | ⟨x, rfl, hc⟩⟩ := w0
  · rw [h0]
    exact turn_nil F a1 w hF
  · exact turn_walk F x cap0 l a1 w hF hm hc

end Go.Proofs.Qxb6615907aFmt
