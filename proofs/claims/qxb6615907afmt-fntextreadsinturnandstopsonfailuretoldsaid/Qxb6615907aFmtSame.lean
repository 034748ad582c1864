import Derived.Test.Qxb6615907aFmtParts
namespace Go.Proofs.Qxb6615907aFmt
open Go.RowKit Go.Extern.Stop Go.Stop Go.Extern

/-- A text read by a decoder, in the walk's words: S, O, f are what the wire format says. -/
theorem dtext (F : Interp) (db g so o : Nat) (l : List UInt8) (w : World) (hF : F.answers w.tape) (hn : l.length ≤ 1048576) (ho : o ≤ l.length)
    (hd : Dec w db (.slice (some ⟨g, so, none⟩) l.length l.length) (o : Int) .nilIface) (hB : Bytes w g so l) (hne : g ≠ db) {S : ByteArray} {O : Nat} {f : Bool} (hS : S = ⟨(tx l o).1.toArray⟩) (hO : O = (tx l o).2.1) (hf : f = (tx l o).2.2) :
    Calls Tryf.prog 7 #[.pointer (some ⟨db, 0, none⟩)] w fun e w' => e = .returned (.string S) ∧ ∃ er, ErrIs f er ∧ Dec w' db (.slice (some ⟨g, so, none⟩) l.length l.length) (O : Int) er ∧ w.grownBy w' (some db) := by
  subst hS hO hf
  exact text7 db w _ _ (text12 F db g so o l w hF hn ho hd hB (fun _ => hne))

theorem dtext2 (F : Interp) (db g so n : Nat) (l : List UInt8) (w : World) (hF : F.answers w.tape) (hl : l.length = n) (hn : n ≤ 1048576)
    (hd : Dec w db (.slice (some ⟨g, so, none⟩) n n) 0 .nilIface) (hB : Bytes w g so l) (hne : g ≠ db) {S : ByteArray} {O : Nat} {f : Bool} (hS : S = ⟨(tx l 0).1.toArray⟩) (hO : O = (tx l 0).2.1) (hf : f = (tx l 0).2.2) :
    Calls Tryf.prog 7 #[.pointer (some ⟨db, 0, none⟩)] w fun e w' => e = .returned (.string S) ∧ ∃ er, ErrIs f er ∧ Dec w' db (.slice (some ⟨g, so, none⟩) n n) (O : Int) er ∧ w.grownBy w' (some db) := by
  subst hl
  exact dtext F db g so 0 l w hF hn (Nat.zero_le _) hd hB hne hS hO hf

theorem model_tx (g so o : Nat) (l : List UInt8) (w : World) (hn : l.length ≤ 1048576) (ho : o ≤ l.length) (hB : Bytes w g so l) {S : ByteArray} {O : Nat} {f : Bool} (hS : S = ⟨(tx l o).1.toArray⟩) (hO : O = (tx l o).2.1) (hf : f = (tx l o).2.2) :
    Calls Tryf.prog 10 #[.slice (some ⟨g, so, none⟩) l.length l.length, .int .i64 (o : Int)] w fun e w' => e = .returned (.tuple #[.string S, .int .i64 (O : Int), .bool f]) ∧ w = w' := by
  subst hS hO hf
  by_cases hlt : o < l.length
  · have e1 : o + (l.length - o) = l.length := by omega
    have h := model_core g so o (l.length - o) (l.drop o) w (by omega) (by omega) List.length_drop (hB.drop o)
    rw [e1] at h
    refine h.mono ?_
    rintro e w' ⟨s, o', f, rfl, hr, rfl⟩
    rw [res_tx ho hr]
    exact ⟨rfl, rfl⟩
  · obtain rfl : o = l.length := by omega
    have e2 : tx l l.length = ([], l.length, true) := by
      unfold tx
      rw [List.drop_length]
      rfl
    rw [e2]
    exact model_end _ g so l.length w rfl

set_option maxRecDepth 100000 in
set_option maxHeartbeats 1000000 in
theorem same_walk (F : Interp) (x : Addr) (cap : Nat) (l : List UInt8) (off : Int) (w : World) (hF : F.answers w.tape) (hm : l.length ≤ maxLen) (hc : ∀ j (hj : j < l.length), w.cell? (x.add j) = some (.int .u8 (l[j]).toNat)) :
    Calls Tryf.prog 3 #[.slice (some x) l.length cap, .int .i64 off] w fun e w' => e = .returned (.bool true) ∧ Below w.heap.size w w' := by
  have hm' := hm
  unfold maxLen at hm'
  by_cases h0 : l.length ≤ 1048576
  · have hd : decide (l.length ≤ 1048576) = true := by simpa using h0
    by_cases h1 : off < 0
    · clear hc
      go_enter Tryf.func3, Tryf.ntmps3
      go_wp2_with (first | (go_at_call 5; refine (bytes5 _ _ _ _ _ hm).mono ?_; rintro e w' ⟨rfl, rfl⟩))
      go_ret
      exact ⟨rfl, Below.refl _ _⟩
    · by_cases h2 : (l.length : Int) < off
      · clear hc
        go_enter Tryf.func3, Tryf.ntmps3
        go_wp2_with (first | (go_at_call 5; refine (bytes5 _ _ _ _ _ hm).mono ?_; rintro e w' ⟨rfl, rfl⟩))
        go_ret
        exact ⟨rfl, Below.refl _ _⟩
      · obtain ⟨o, rfl⟩ : ∃ o : Nat, off = (o : Int) := ⟨off.toNat, by omega⟩
        have ho : o ≤ l.length := by omega
        obtain ⟨W2, hcp, hB2, hbel2, hs2⟩ := copyin w x cap l hc
        have hmk := run_make_row' (P := Tryf.prog) 22 5 (.int .u8 0) 1 Tryf.underlying22 info5 rfl .i64 .i64 l.length (by omega) (by omega) w
        have hneq := run_neq_slice_nil_any (P := Tryf.prog) w 22 5 (some x) l.length cap 0 0 Tryf.underlying22
        obtain ⟨S, hS⟩ : ∃ S : ByteArray, S = ⟨(tx l o).1.toArray⟩ := ⟨_, rfl⟩
        obtain ⟨O, hO⟩ : ∃ O, O = (tx l o).2.1 := ⟨_, rfl⟩
        obtain ⟨f, hf⟩ : ∃ f, f = (tx l o).2.2 := ⟨_, rfl⟩
        have hOb := tx_le l o ho
        rw [← hO] at hOb
        have hO1 := hOb.1
        have hO2 := hOb.2
        have HB2 := hidOf hB2
        have HL2 := hidOf hbel2
        have HS2 := hidOf hs2
        have HS := hidOf hS
        have HO := hidOf hO
        have Hf := hidOf hf
        clear hc hB2 hbel2 hs2 hS hO hf hOb
        go_enter Tryf.func3, Tryf.ntmps3
        go_wp2_with (first | (go_at_call 5; refine (bytes5 _ _ _ _ _ hm).mono ?_; rintro e w' ⟨rfl, rfl⟩))
        clear hcp hmk hneq hm hm' h1 h2
        refine (new_any _ _ _ _ _).mono ?_
        rintro e w3 ⟨rfl, hw3⟩
        have d3 : Dec w3 W2.heap.size (.slice (some ⟨w.heap.size, 0, none⟩) l.length l.length) (o : Int) .nilIface := by rw [hw3]; exact dec_new _ _ _ _ _
        have g3 : W2.grownBy w3 none := by rw [hw3]; exact World.grownBy_alloc _ _ _
        have HD3 := hidOf d3
        have HG3 := hidOf g3
        clear d3 g3 hw3
        go_wp2_with fail
        refine (dtext F W2.heap.size w.heap.size 0 o l w3 (by rw [HG3.out.tape, HL2.out.tape]; exact hF) h0 ho HD3.out (HB2.out.grown HG3.out (by simp)) (by have h := HS2.out; omega) HS.out HO.out Hf.out).mono ?_
        rintro e w4 ⟨rfl, er, he, d4, g4⟩
        have HE := hidOf he
        have HD4 := hidOf d4
        have HG4 := hidOf g4
        clear he d4 g4
        go_wp2_with fail
        refine (off_any _ _ _ HD4.out.2.1).mono ?_
        rintro e w' ⟨rfl, rfl⟩
        go_wp2_with fail
        refine (failed_is _ f er _ HD4.out.2.2.1 HE.out).mono ?_
        rintro e w' ⟨rfl, rfl⟩
        by_cases hlt : o < l.length
        · go_wp2_with fail
          refine (new_any _ _ _ _ _).mono ?_
          rintro e w5 ⟨rfl, hw5⟩
          have d5 : Dec w5 w4.heap.size (.slice (some ⟨w.heap.size, o, none⟩) (l.length - o) (l.length - o)) 0 .nilIface := by rw [hw5]; exact dec_new _ _ _ _ _
          have g5 : w4.grownBy w5 none := by rw [hw5]; exact World.grownBy_alloc _ _ _
          have HD5 := hidOf d5
          have HG5 := hidOf g5
          clear d5 g5 hw5
          go_wp2_with fail
          refine (dtext2 F w4.heap.size w.heap.size o (l.length - o) (l.drop o) w5 (by rw [HG5.out.tape, HG4.out.tape, HG3.out.tape, HL2.out.tape]; exact hF) List.length_drop (by omega) HD5.out (by have h := ((HB2.out.grown HG3.out (by simp)).grown HG4.out (by simp; have h := HS2.out; omega)).grown HG5.out (by simp); have h2 := h.drop o; rwa [Nat.zero_add] at h2) (by have := HL2.out.size; have := HG3.out.size; have := HG4.out.size; have h := HS2.out; omega) (HS.out.trans (by rw [(tx_shift l o ho).1])) rfl (Hf.out.trans (tx_shift l o ho).2.2.symm)).mono ?_
          rintro e w6 ⟨rfl, er2, he2, d6, g6⟩
          obtain ⟨P2, hP2⟩ : ∃ P2, P2 = (tx (l.drop o) 0).2.1 := ⟨_, rfl⟩
          rw [← hP2] at d6
          have hPe : o + P2 = O := by rw [hP2, HO.out]; exact (tx_shift l o ho).2.1
          have hq : ((P2 : Int) == (O : Int) - (o : Int)) = true := by simp; omega
          have HE2 := hidOf he2
          have HD6 := hidOf d6
          have HG6 := hidOf g6
          clear he2 d6 g6 hP2 hPe
          go_wp2_with fail
          refine (off_any _ _ _ HD6.out.2.1).mono ?_
          rintro e w' ⟨rfl, rfl⟩
          go_wp2_with fail
          refine (failed_is _ f er2 _ HD6.out.2.2.1 HE2.out).mono ?_
          rintro e w' ⟨rfl, rfl⟩
          go_wp2_with fail
          have hBw : Bytes w6 w.heap.size 0 l := ((((HB2.out.grown HG3.out (by simp)).grown HG4.out (by simp; have h := HS2.out; omega)).grown HG5.out (by simp)).grown HG6.out (by simp; have := HL2.out.size; have := HG3.out.size; have := HG4.out.size; have h := HS2.out; omega))
          refine (model_tx w.heap.size 0 o l w6 h0 ho hBw HS.out HO.out Hf.out).mono ?_
          rintro e w' ⟨rfl, rfl⟩
          clear hBw
          go_wp2
          go_ret
          refine ⟨by simp, ?_⟩
          have b3 := HL2.out.grown HG3.out HL2.out.size (by simp)
          have b4 := b3.grown HG4.out b3.size (by simp; have h := HS2.out; omega)
          have b5 := b4.grown HG5.out b4.size (by simp)
          exact b5.grown HG6.out b5.size (by simp; exact b4.size)
        · obtain rfl : o = l.length := by omega
          go_wp2_with fail
          refine (new_any _ _ _ _ _).mono ?_
          rintro e w5 ⟨rfl, hw5⟩
          have d5 : Dec w5 w4.heap.size (.slice (some ⟨w.heap.size, 0, none⟩) 0 0) 0 .nilIface := by rw [hw5]; exact dec_new _ _ _ _ _
          have g5 : w4.grownBy w5 none := by rw [hw5]; exact World.grownBy_alloc _ _ _
          have HD5 := hidOf d5
          have HG5 := hidOf g5
          clear d5 g5 hw5
          go_wp2_with fail
          refine (dtext2 F w4.heap.size w.heap.size 0 0 (l.drop l.length) w5 (by rw [HG5.out.tape, HG4.out.tape, HG3.out.tape, HL2.out.tape]; exact hF) (by rw [List.drop_length]; rfl) (by omega) HD5.out (fun j hj => by rw [List.drop_length] at hj; exact absurd hj (Nat.not_lt_zero j)) (by have := HL2.out.size; have := HG3.out.size; have := HG4.out.size; have h := HS2.out; omega) (HS.out.trans (by rw [(tx_shift l l.length (Nat.le_refl _)).1])) rfl (Hf.out.trans (tx_shift l l.length (Nat.le_refl _)).2.2.symm)).mono ?_
          rintro e w6 ⟨rfl, er2, he2, d6, g6⟩
          obtain ⟨P2, hP2⟩ : ∃ P2, P2 = (tx (l.drop l.length) 0).2.1 := ⟨_, rfl⟩
          rw [← hP2] at d6
          have hPe : l.length + P2 = O := by rw [hP2, HO.out]; exact (tx_shift l l.length (Nat.le_refl _)).2.1
          have hq : ((P2 : Int) == (O : Int) - (l.length : Int)) = true := by simp; omega
          have HE2 := hidOf he2
          have HD6 := hidOf d6
          have HG6 := hidOf g6
          clear he2 d6 g6 hP2 hPe
          go_wp2_with fail
          refine (off_any _ _ _ HD6.out.2.1).mono ?_
          rintro e w' ⟨rfl, rfl⟩
          go_wp2_with fail
          refine (failed_is _ f er2 _ HD6.out.2.2.1 HE2.out).mono ?_
          rintro e w' ⟨rfl, rfl⟩
          go_wp2_with fail
          have hBw : Bytes w6 w.heap.size 0 l := ((((HB2.out.grown HG3.out (by simp)).grown HG4.out (by simp; have h := HS2.out; omega)).grown HG5.out (by simp)).grown HG6.out (by simp; have := HL2.out.size; have := HG3.out.size; have := HG4.out.size; have h := HS2.out; omega))
          refine (model_tx w.heap.size 0 l.length l w6 h0 (Nat.le_refl _) hBw HS.out HO.out Hf.out).mono ?_
          rintro e w' ⟨rfl, rfl⟩
          clear hBw
          go_wp2
          go_ret
          refine ⟨by simp, ?_⟩
          have b3 := HL2.out.grown HG3.out HL2.out.size (by simp)
          have b4 := b3.grown HG4.out b3.size (by simp; have h := HS2.out; omega)
          have b5 := b4.grown HG5.out b4.size (by simp)
          exact b5.grown HG6.out b5.size (by simp; exact b4.size)
  · have hd : decide (l.length ≤ 1048576) = false := by simpa using h0
    clear hc
    go_enter Tryf.func3, Tryf.ntmps3
    go_wp2_with (first | (go_at_call 5; refine (bytes5 _ _ _ _ _ hm).mono ?_; rintro e w' ⟨rfl, rfl⟩))
    go_ret
    exact ⟨rfl, Below.refl _ _⟩

theorem tx_nil : tx [] 0 = ([], 0, true) := rfl

theorem dtext_nil (F : Interp) (db : Nat) (w : World) (hF : F.answers w.tape) (hd : Dec w db (.slice none 0 0) 0 .nilIface) :
    Calls Tryf.prog 7 #[.pointer (some ⟨db, 0, none⟩)] w fun e w' => e = .returned (.string ⟨#[]⟩) ∧ ∃ er, ErrIs true er ∧ Dec w' db (.slice none 0 0) 0 er ∧ w.grownBy w' (some db) :=
  text7 db w _ _ (text12_nil F db w hF hd)

set_option maxRecDepth 100000 in
set_option maxHeartbeats 1000000 in
theorem same_nil (F : Interp) (off : Int) (w : World) (hF : F.answers w.tape) :
    Calls Tryf.prog 3 #[.slice none 0 0, .int .i64 off] w fun e w' => e = .returned (.bool true) ∧ Below w.heap.size w w' := by
  by_cases h1 : off < 0
  · go_enter Tryf.func3, Tryf.ntmps3
    go_wp2_with (first | (go_at_call 5; refine (bytes5 _ 0 _ _ _ (Nat.zero_le _)).mono ?_; rintro e w' ⟨rfl, rfl⟩))
    go_ret
    exact ⟨rfl, Below.refl _ _⟩
  · by_cases h2 : 0 < off
    · go_enter Tryf.func3, Tryf.ntmps3
      go_wp2_with (first | (go_at_call 5; refine (bytes5 _ 0 _ _ _ (Nat.zero_le _)).mono ?_; rintro e w' ⟨rfl, rfl⟩))
      go_ret
      exact ⟨rfl, Below.refl _ _⟩
    · obtain rfl : off = 0 := by omega
      have hneq := run_neq_slice_nil_any (P := Tryf.prog) w 22 5 none 0 0 0 0 Tryf.underlying22
      go_enter Tryf.func3, Tryf.ntmps3
      go_wp2_with (first | (go_at_call 5; refine (bytes5 _ 0 _ _ _ (Nat.zero_le _)).mono ?_; rintro e w' ⟨rfl, rfl⟩))
      clear hneq
      refine (new_any _ _ _ _ _).mono ?_
      rintro e w3 ⟨rfl, hw3⟩
      have d3 : Dec w3 w.heap.size (.slice none 0 0) 0 .nilIface := by rw [hw3]; exact dec_new _ _ _ _ _
      have g3 : w.grownBy w3 none := by rw [hw3]; exact World.grownBy_alloc _ _ _
      have HD3 := hidOf d3
      have HG3 := hidOf g3
      clear d3 g3 hw3
      go_wp2_with fail
      refine (dtext_nil F w.heap.size w3 (by rw [HG3.out.tape]; exact hF) HD3.out).mono ?_
      rintro e w4 ⟨rfl, er, he, d4, g4⟩
      have HE := hidOf he
      have HD4 := hidOf d4
      have HG4 := hidOf g4
      clear he d4 g4
      go_wp2_with fail
      refine (off_any _ _ _ HD4.out.2.1).mono ?_
      rintro e w' ⟨rfl, rfl⟩
      go_wp2_with fail
      refine (failed_is _ true er _ HD4.out.2.2.1 HE.out).mono ?_
      rintro e w' ⟨rfl, rfl⟩
      go_wp2_with fail
      refine (new_any _ _ _ _ _).mono ?_
      rintro e w5 ⟨rfl, hw5⟩
      have d5 : Dec w5 w4.heap.size (.slice none 0 0) 0 .nilIface := by rw [hw5]; exact dec_new _ _ _ _ _
      have g5 : w4.grownBy w5 none := by rw [hw5]; exact World.grownBy_alloc _ _ _
      have HD5 := hidOf d5
      have HG5 := hidOf g5
      clear d5 g5 hw5
      go_wp2_with fail
      refine (dtext_nil F w4.heap.size w5 (by rw [HG5.out.tape, HG4.out.tape, HG3.out.tape]; exact hF) HD5.out).mono ?_
      rintro e w6 ⟨rfl, er2, he2, d6, g6⟩
      have HE2 := hidOf he2
      have HD6 := hidOf d6
      have HG6 := hidOf g6
      clear he2 d6 g6
      go_wp2_with fail
      refine (off_any _ _ _ HD6.out.2.1).mono ?_
      rintro e w' ⟨rfl, rfl⟩
      go_wp2_with fail
      refine (failed_is _ true er2 _ HD6.out.2.2.1 HE2.out).mono ?_
      rintro e w' ⟨rfl, rfl⟩
      go_wp2_with fail
      refine (model_nil w6).mono ?_
      rintro e w' ⟨rfl, rfl⟩
      go_wp2
      go_ret
      refine ⟨by simp, ?_⟩
      have b3 := (Below.refl w.heap.size w).grown HG3.out (Nat.le_refl _) (by simp)
      have b4 := b3.grown HG4.out b3.size (by simp)
      have b5 := b4.grown HG5.out b4.size (by simp)
      exact b5.grown HG6.out b5.size (by simp; exact b4.size)

/-- WHAT THE WALK IS TOLD OF A '[]byte' THAT CAME IN: nil; or it leads to the bytes l. -/
def IsBytes (w : World) (a : Option Addr) (len cap : Nat) (l : List UInt8) : Prop :=
  len ≤ maxLen ∧ l.length = len ∧ ((a = none ∧ len = 0 ∧ cap = 0) ∨ ∃ x, a = some x ∧ ∀ j (hj : j < l.length), w.cell? (x.add j) = some (.int .u8 (l[j]).toNat))

theorem same_all (F : Interp) (a0 : Option Addr) (len0 cap0 : Nat) (l : List UInt8) (a1 : Int) (w : World) (hF : F.answers w.tape) (w0 : IsBytes w a0 len0 cap0 l) :
    Calls Tryf.prog 3 #[.slice a0 len0 cap0, .int .i64 a1] w fun e w' => e = .returned (.bool true) ∧ Below w.heap.size w w' := by
  obtain ⟨hm, rfl, ⟨rfl, h0, rfl⟩ | ⟨x, rfl, hc⟩⟩ := w0
  · rw [h0]
    exact same_nil F a1 w hF
  · exact same_walk F x cap0 l a1 w hF hm hc

end Go.Proofs.Qxb6615907aFmt
