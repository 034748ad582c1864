import Derived.Test.Qxb6615907aFmtTake
import Derived.Test.Qxb6615907aFmtTx
namespace Go.Proofs.Qxb6615907aFmt
open Go.RowKit Go.Extern.Stop Go.Stop Go.Extern

def ErrIs (b : Bool) (er : Value) : Prop := (b = true ∧ ∃ a, er = .iface 46 (.pointer (some a))) ∨ (b = false ∧ er = .nilIface)

theorem conv_zero (w : World) (p : Option Addr) (c : Nat) : (convert 22 9 (.slice p 0 c)).run Tryf.prog w = .ok (.string ⟨#[]⟩) w := by
  rw [run_convert_bytes_string w 22 9 5 _ 0 c Tryf.underlying22 Tryf.underlying5 Tryf.underlying9]
  cases p <;> simp [Conv.bytesToString, loadCells]
  all_goals rfl

/-- THE BYTES OF A SLICE: l from place so on in block g. -/
def Bytes (W : World) (g so : Nat) (l : List UInt8) : Prop := ∀ j (hj : j < l.length), W.cell? ⟨g, so + j, none⟩ = some (.int .u8 (l[j]).toNat)

theorem Bytes.grown {W W' : World} {g so : Nat} {l : List UInt8} {row : Option Nat} (h : Bytes W g so l) (hg : W.grownBy W' row) (hne : some g ≠ row) : Bytes W' g so l := fun j hj => hg.cell (h j hj) hne

theorem Bytes.drop {W : World} {g so : Nat} {l : List UInt8} (h : Bytes W g so l) (o : Nat) : Bytes W g (so + o) (l.drop o) := by
  intro j hj
  rw [List.length_drop] at hj
  rw [Nat.add_assoc, h (o + j) (by omega)]
  simp

theorem Bytes.take {W : World} {g so : Nat} {l : List UInt8} (h : Bytes W g so l) (n : Nat) : Bytes W g so (l.take n) := by
  intro j hj
  rw [List.length_take] at hj
  rw [h j (by omega)]
  simp

theorem conv_bytes (w : World) (g so c n : Nat) (l : List UInt8) (hl : l.length = n) (h : Bytes w g so l) : (convert 22 9 (.slice (some ⟨g, so, none⟩) n c)).run Tryf.prog w = .ok (.string ⟨l.toArray⟩) w := by
  subst hl
  exact run_convert_bytes_back w 22 9 5 ⟨g, so, none⟩ c l Tryf.underlying22 Tryf.underlying5 Tryf.underlying9 (fun j hj => by rw [Go.WideShapes.add_plain]; exact h j hj)

theorem dec_grown {W W' : World} {db : Nat} {dv er : Value} {o : Int} {row : Option Nat} (h : Dec W db dv o er) (hg : W.grownBy W' row) (hne : row ≠ some db) : Dec W' db dv o er := by
  obtain ⟨h0, h1, h2, h3, h4⟩ := h
  have hb := block_lt_of_cell h0
  have e : W'.heap[db]? = W.heap[db]? := hg.block db hb (fun e => hne e.symm)
  exact ⟨(World.cell?_of_block (w := W) e).trans h0, (World.cell?_of_block (w := W) e).trans h1, (World.cell?_of_block (w := W) e).trans h2, (World.frozen?_of_block (w := W) e).trans h3, (World.frozen?_of_block (w := W) e).trans h4⟩

theorem dec_off {W : World} {db : Nat} {dv er : Value} {o : Int} (h : Dec W db dv o er) (o' : Int) : Dec (W.setCell ⟨db, 1, none⟩ (.int .i64 o')) db dv o' er := by
  obtain ⟨h0, h1, h2, h3, h4⟩ := h
  exact ⟨(World.cell?_setCell_other W _ _ _ (by simp)).trans h0, World.cell?_setCell_same W _ _ h1, (World.cell?_setCell_other W _ _ _ (by simp)).trans h2, by simpa using h3, by simpa using h4⟩

theorem dec_err {W : World} {db : Nat} {dv er : Value} {o : Int} (h : Dec W db dv o er) (er' : Value) : Dec (W.setCell ⟨db, 2, none⟩ er') db dv o er' := by
  obtain ⟨h0, h1, h2, h3, h4⟩ := h
  exact ⟨(World.cell?_setCell_other W _ _ _ (by simp)).trans h0, (World.cell?_setCell_other W _ _ _ (by simp)).trans h1, World.cell?_setCell_same W _ _ h2, by simpa using h3, by simpa using h4⟩

set_option maxHeartbeats 400000 in
theorem text_of (db : Nat) (v : Int) (w : World) (T : World → Prop) (R : ByteArray → World → Prop)
    (hc : Calls Tryf.prog 14 #[.pointer (some ⟨db, 0, none⟩), .int .i64 1] w fun e w' => e = .returned (.int .i64 v) ∧ T w')
    (ht : ∀ w2, T w2 → Calls Tryf.prog 13 #[.pointer (some ⟨db, 0, none⟩), .int .i64 v] w2 fun e w' => ∃ p n c s, e = .returned (.slice p n c) ∧ (convert 22 9 (.slice p n c)).run Tryf.prog w' = .ok (.string s) w' ∧ R s w') :
    Calls Tryf.prog 12 #[.pointer (some ⟨db, 0, none⟩)] w fun e w' => ∃ s, e = .returned (.string s) ∧ R s w' := by
  have HC := hidOf hc
  have HT := hidOf ht
  clear hc ht
  go_enter Tryf.func12, Tryf.ntmps12
  go_wp2_with fail
  refine (Hid.out HC).mono ?_
  rintro e w2 ⟨rfl, h2⟩
  have H2 := hidOf h2
  clear h2
  go_wp2_with fail
  refine (HT.out w2 H2.out).mono ?_
  rintro e w3 ⟨p, n, c, s, rfl, hcv, hR⟩
  have HR := hidOf hR
  clear hR
  go_wp2
  go_ret
  exact ⟨s, rfl, HR.out⟩

theorem text_fails (db : Nat) (w : World) (R : World → Prop)
    (hc : Calls Tryf.prog 14 #[.pointer (some ⟨db, 0, none⟩), .int .i64 1] w fun e w' => e = .returned (.int .i64 0) ∧ ∃ a, w'.cell? ⟨db, 2, none⟩ = some (.iface 46 (.pointer (some a))) ∧ R w') :
    Calls Tryf.prog 12 #[.pointer (some ⟨db, 0, none⟩)] w fun e w' => e = .returned (.string ⟨#[]⟩) ∧ R w' := by
  refine (text_of db 0 w _ (fun s w' => s = ⟨#[]⟩ ∧ R w') hc ?_).mono ?_
  · rintro w2 ⟨a, h2, hR⟩
    refine (take_err db 0 a w2 h2).mono ?_
    rintro e w3 ⟨rfl, rfl⟩
    exact ⟨none, 0, 0, ⟨#[]⟩, rfl, conv_zero _ _ _, rfl, hR⟩
  · rintro e w' ⟨s, rfl, rfl, hR⟩
    exact ⟨rfl, hR⟩

theorem text12 (F : Interp) (db g so o : Nat) (l : List UInt8) (w : World) (hF : F.answers w.tape) (hn : l.length ≤ 1048576) (ho : o ≤ l.length)
    (hd : Dec w db (.slice (some ⟨g, so, none⟩) l.length l.length) (o : Int) .nilIface) (hB : Bytes w g so l) (hne : 0 < l.length → g ≠ db) :
    Calls Tryf.prog 12 #[.pointer (some ⟨db, 0, none⟩)] w fun e w' => e = .returned (.string ⟨(tx l o).1.toArray⟩) ∧ ∃ er, ErrIs (tx l o).2.2 er ∧ Dec w' db (.slice (some ⟨g, so, none⟩) l.length l.length) (((tx l o).2.1 : Nat) : Int) er ∧ w.grownBy w' (some db) := by
  obtain ⟨h0, h1, h2, f1, f2⟩ := hd
  have hd : Dec w db (.slice (some ⟨g, so, none⟩) l.length l.length) (o : Int) .nilIface := ⟨h0, h1, h2, f1, f2⟩
  have hb := block_lt_of_cell h0
  by_cases hlt : o < l.length
  · have hdrop : (l.drop o).length = l.length - o := List.length_drop
    have HU : ∀ q, Calls Tryf.prog 16 #[.slice (some ⟨g, so + o, none⟩) (l.length - o) (l.length - o)] (w.drewN q) fun e w'' => e = .returned (.tuple #[.int .u64 ((Lib.uvarintDec (l.drop o)).1 : Int), .int .i64 (Lib.uvarintDec (l.drop o)).2]) ∧ ∃ m, w'' = w.drewN m := fun q =>
      Calls.quiet_of_same (Tryf.binary_Uvarint g (so + o) (l.length - o) (l.length - o) (l.drop o) (w.drewN q) hdrop (hB.drop o))
    have hle := uvarintDec_le (l.drop o)
    have h64 := Lib.uvarintDec_lt (l.drop o)
    rw [hdrop] at hle
    unfold tx
    generalize Lib.uvarintDec (l.drop o) = r at HU hle h64 ⊢
    obtain ⟨r1, r2⟩ := r
    simp only at HU hle h64 ⊢
    by_cases hr : r2 ≤ 0
    · rw [if_pos hr]
      refine (text_fails db w (fun w' => ∃ er, ErrIs true er ∧ Dec w' db (.slice (some ⟨g, so, none⟩) l.length l.length) (o : Int) er ∧ w.grownBy w' (some db)) ?_).mono ?_
      · refine (count_bad F db g so l.length o r1 r2 w hF hlt hr (hidOf HU) h0 h1 h2 f2).mono ?_
        rintro e w' ⟨rfl, a, w1, hB1, rfl⟩
        have hg1 := grown_below hB1 (some db)
        have d1 : Dec w1 db (.slice (some ⟨g, so, none⟩) l.length l.length) (o : Int) .nilIface := dec_grown hd (grown_below hB1 none) (by simp)
        have d2 := dec_err d1 (.iface 46 (.pointer (some a)))
        exact ⟨rfl, a, d2.2.2.1, _, .inl ⟨rfl, a, rfl⟩, d2, hg1.trans (grown_setCell w1 ⟨db, 2, none⟩ _)⟩
      · rintro e w' ⟨rfl, hR⟩
        exact ⟨rfl, hR⟩
    · rw [if_neg hr]
      have hr0 : 0 < r2 := by omega
      have hle' := hle hr0
      obtain ⟨k, rfl⟩ : ∃ k : Nat, r2 = (k : Int) := ⟨r2.toNat, by omega⟩
      simp only [Int.toNat_natCast] at hle' ⊢
      by_cases hbig : l.length < o + k + r1
      · rw [if_pos hbig]
        refine (text_fails db w (fun w' => ∃ er, ErrIs true er ∧ Dec w' db (.slice (some ⟨g, so, none⟩) l.length l.length) ((o + k : Nat) : Int) er ∧ w.grownBy w' (some db)) ?_).mono ?_
        · refine (count_big F db g so l.length o r1 k w hF hn hlt (by omega) (by omega) (by omega) h64 (hidOf HU) h0 h1 h2 f1 f2).mono ?_
          rintro e w' ⟨rfl, a, w1, hB1, rfl⟩
          have hs : (w.setCell ⟨db, 1, none⟩ (.int .i64 ((o + k : Nat) : Int))).heap.size = w.heap.size := by simp [World.setCell]
          rw [← hs] at hB1
          have d0 := dec_off hd ((o + k : Nat) : Int)
          have d1 := dec_grown d0 (grown_below hB1 none) (by simp)
          have d2 := dec_err d1 (.iface 46 (.pointer (some a)))
          exact ⟨rfl, a, d2.2.2.1, _, .inl ⟨rfl, a, rfl⟩, d2, ((grown_setCell w ⟨db, 1, none⟩ _).trans (grown_below hB1 (some db))).trans (grown_setCell w1 ⟨db, 2, none⟩ _)⟩
        · rintro e w' ⟨rfl, hR⟩
          exact ⟨rfl, hR⟩
      · rw [if_neg hbig]
        refine (text_of db (r1 : Int) w _ (fun s w' => s = ⟨((l.drop (o + k)).take r1).toArray⟩ ∧ ∃ er, ErrIs false er ∧ Dec w' db (.slice (some ⟨g, so, none⟩) l.length l.length) ((o + k + r1 : Nat) : Int) er ∧ w.grownBy w' (some db)) (count_ok db g so l.length o r1 k w hn hlt (by omega) (by omega) (by omega) (hidOf HU) h0 h1 h2 f1) ?_).mono ?_
        · rintro w2 ⟨q1, q2, rfl⟩
          have g2 : w.grownBy (((w.drewN q1).setCell ⟨db, 1, none⟩ (.int .i64 ((o + k : Nat) : Int))).drewN q2) (some db) := ((grown_drewN w q1 _).trans (grown_setCell (w.drewN q1) ⟨db, 1, none⟩ _)).trans (grown_drewN _ q2 _)
          have d2 : Dec (((w.drewN q1).setCell ⟨db, 1, none⟩ (.int .i64 ((o + k : Nat) : Int))).drewN q2) db (.slice (some ⟨g, so, none⟩) l.length l.length) ((o + k : Nat) : Int) .nilIface :=
            dec_grown (dec_off (dec_grown hd (grown_drewN w q1 none) (by simp)) ((o + k : Nat) : Int)) (grown_drewN _ q2 none) (by simp)
          generalize ((w.drewN q1).setCell ⟨db, 1, none⟩ (.int .i64 ((o + k : Nat) : Int))).drewN q2 = w2 at g2 d2 ⊢
          have hgd : g ≠ db := hne (by omega)
          by_cases hin : o + k < l.length
          · refine (take_in db g so l.length (o + k) r1 w2 hn hin (by omega) d2.1 d2.2.1 d2.2.2.1 d2.2.2.2.1).mono ?_
            rintro e w' ⟨rfl, q, rfl⟩
            have g3 : w2.grownBy ((w2.drewN q).setCell ⟨db, 1, none⟩ (.int .i64 ((o + k + r1 : Nat) : Int))) (some db) := (grown_drewN w2 q _).trans (grown_setCell (w2.drewN q) ⟨db, 1, none⟩ _)
            have g4 := g2.trans g3
            refine ⟨_, _, _, _, rfl, conv_bytes _ _ _ _ _ ((l.drop (o + k)).take r1) (by rw [List.length_take, List.length_drop]; omega) ((((hB.grown g4 (by simp; exact hgd)).drop (o + k))).take r1), rfl, .nilIface, .inr ⟨rfl, rfl⟩, ?_, g4⟩
            exact dec_off (dec_grown d2 (grown_drewN w2 q none) (by simp)) _
          · have e1 : o + k = l.length := by omega
            have e2 : r1 = 0 := by omega
            subst e2
            rw [e1] at d2
            refine (take_end db g so l.length w2 hn d2.1 d2.2.1 d2.2.2.1 d2.2.2.2.1).mono ?_
            rintro e w' ⟨rfl, q, rfl⟩
            have g3 : w2.grownBy ((w2.drewN q).setCell ⟨db, 1, none⟩ (.int .i64 (l.length : Int))) (some db) := (grown_drewN w2 q _).trans (grown_setCell (w2.drewN q) ⟨db, 1, none⟩ _)
            refine ⟨_, _, _, _, rfl, conv_zero _ _ _, by simp, .nilIface, .inr ⟨rfl, rfl⟩, ?_, g2.trans g3⟩
            rw [Nat.add_zero, e1]
            exact dec_off (dec_grown d2 (grown_drewN w2 q none) (by simp)) _
        · rintro e w' ⟨s, rfl, rfl, hR⟩
          exact ⟨rfl, hR⟩
  · have e1 : o = l.length := by omega
    subst e1
    have e2 : tx l l.length = ([], l.length, true) := by
      unfold tx
      rw [List.drop_length]
      rfl
    rw [e2]
    refine (text_fails db w (fun w' => ∃ er, ErrIs true er ∧ Dec w' db (.slice (some ⟨g, so, none⟩) l.length l.length) (l.length : Int) er ∧ w.grownBy w' (some db)) ?_).mono ?_
    · refine (count_end F db g so l.length w hF h0 h1 h2 f2).mono ?_
      rintro e w' ⟨rfl, a, w1, hB1, rfl⟩
      have hg1 := grown_below hB1 (some db)
      have d1 : Dec w1 db (.slice (some ⟨g, so, none⟩) l.length l.length) (l.length : Int) .nilIface := dec_grown hd (grown_below hB1 none) (by simp)
      have d2 := dec_err d1 (.iface 46 (.pointer (some a)))
      exact ⟨rfl, a, d2.2.2.1, _, .inl ⟨rfl, a, rfl⟩, d2, hg1.trans (grown_setCell w1 ⟨db, 2, none⟩ _)⟩
    · rintro e w' ⟨rfl, hR⟩
      exact ⟨rfl, hR⟩

/-- .. of nil data. -/
theorem text12_nil (F : Interp) (db : Nat) (w : World) (hF : F.answers w.tape) (hd : Dec w db (.slice none 0 0) 0 .nilIface) :
    Calls Tryf.prog 12 #[.pointer (some ⟨db, 0, none⟩)] w fun e w' => e = .returned (.string ⟨(tx [] 0).1.toArray⟩) ∧ ∃ er, ErrIs (tx [] 0).2.2 er ∧ Dec w' db (.slice none 0 0) (((tx [] 0).2.1 : Nat) : Int) er ∧ w.grownBy w' (some db) := by
  obtain ⟨h0, h1, h2, f1, f2⟩ := hd
  have hd : Dec w db (.slice none 0 0) 0 .nilIface := ⟨h0, h1, h2, f1, f2⟩
  refine (text_fails db w (fun w' => ∃ er, ErrIs true er ∧ Dec w' db (.slice none 0 0) 0 er ∧ w.grownBy w' (some db)) ?_).mono ?_
  · refine (count_nil F db w hF h0 h1 h2 f2).mono ?_
    rintro e w' ⟨rfl, a, w1, hB1, rfl⟩
    have hg1 := grown_below hB1 (some db)
    have d1 : Dec w1 db (.slice none 0 0) 0 .nilIface := dec_grown hd (grown_below hB1 none) (by simp)
    have d2 := dec_err d1 (.iface 46 (.pointer (some a)))
    exact ⟨rfl, a, d2.2.2.1, _, .inl ⟨rfl, a, rfl⟩, d2, hg1.trans (grown_setCell w1 ⟨db, 2, none⟩ _)⟩
  · rintro e w' ⟨rfl, hR⟩
    exact ⟨rfl, hR⟩

/-- .. by a decoder that has failed. -/
theorem text12_err (db : Nat) (dv : Value) (o : Int) (a : Addr) (w : World) (hd : Dec w db dv o (.iface 46 (.pointer (some a)))) :
    Calls Tryf.prog 12 #[.pointer (some ⟨db, 0, none⟩)] w fun e w' => e = .returned (.string ⟨#[]⟩) ∧ w = w' := by
  refine text_fails db w (fun w' => w = w') ?_
  refine (count_err db 1 a w hd.2.2.1).mono ?_
  rintro e w' ⟨rfl, rfl⟩
  exact ⟨rfl, a, hd.2.2.1, rfl⟩

end Go.Proofs.Qxb6615907aFmt
