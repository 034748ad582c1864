import Derived.Test.Qxb6615907aFmtText
import Derived.Lib.VarintBits
namespace Go.Proofs.Qxb6615907aFmt
open Go.RowKit Go.Extern.Stop Go.Stop Go.Extern

theorem model_end (p : Option Addr) (g so n : Nat) (w : World) (hp : p = some ⟨g, so, none⟩) :
    Calls Tryf.prog 10 #[.slice p n n, .int .i64 (n : Int)] w fun e w' => e = .returned (.tuple #[.string ⟨#[]⟩, .int .i64 (n : Int), .bool true]) ∧ w = w' := by
  subst hp
  go_enter Tryf.func10, Tryf.ntmps10
  go_wp2
  go_loop [9, 10] (fun e i => e = .int .i64 (-1) ∧ i = .int .i64 0) (fun _ _ => 0)
  case atStart => exact ⟨rfl, rfl⟩
  case round =>
    obtain ⟨rfl, rfl⟩ := hrel
    go_wp2
    go_ret3
    exact ⟨rfl, rfl⟩

theorem model_nil (w : World) :
    Calls Tryf.prog 10 #[.slice none 0 0, .int .i64 0] w fun e w' => e = .returned (.tuple #[.string ⟨#[]⟩, .int .i64 0, .bool true]) ∧ w = w' := by
  go_enter Tryf.func10, Tryf.ntmps10
  go_wp2
  go_loop [9, 10] (fun e i => e = .int .i64 (-1) ∧ i = .int .i64 0) (fun _ _ => 0)
  case atStart => exact ⟨rfl, rfl⟩
  case round =>
    obtain ⟨rfl, rfl⟩ := hrel
    go_wp2
    go_ret3
    exact ⟨rfl, rfl⟩

theorem bt_cell {W : World} {g so : Nat} {b : List UInt8} (h : Bytes W g so b) {j : Nat} (hj : j < b.length) : W.cell? ⟨g, so + j, none⟩ = some (.int .u8 ((bt b j : Nat) : Int)) := by
  rw [h j hj]
  simp [bt, List.getD, List.getElem?_eq_getElem hj]

theorem or7 (V y : Nat) (hy : y < 256) (h : y % 128 + 128 * V < 18446744073709551616) : bits .or .u64 ((V : Int) * 128) (IntKind.u64.wrap (bits .and .u8 (y : Int) 127)) = ((y % 128 + 128 * V : Nat) : Int) := by
  have e1 : bits .and .u8 (y : Int) 127 = (y : Int) % 128 := u8_and127 (y : Int) (by omega) (by omega)
  have e2 : IntKind.u64.wrap ((y : Int) % 128) = (y : Int) % 128 := u64_wrap_id _ (by omega) (by omega)
  have e3 := bits_join .u64 64 (by decide) wraps_u64 7 ((V : Int) * 128) ((y : Int) % 128) (by omega) (by omega) (by omega) (by omega) (by omega) (by omega)
  rw [e1, e2, e3]
  omega

/-- WHAT THE MODEL ANSWERS of the bytes b that stand at o: the text, the offset after it, whether it failed. -/
def Res (b : List UInt8) (o : Nat) (s : List UInt8) (o' : Nat) (f : Bool) : Prop :=
  ((Lib.uvarintDec b).2 ≤ 0 ∧ s = [] ∧ o' = o ∧ f = true) ∨
  (∃ k v, Lib.uvarintDec b = (v, ((k + 1 : Nat) : Int)) ∧ b.length < k + 1 + v ∧ s = [] ∧ o' = o + (k + 1) ∧ f = true) ∨
  (∃ k v, Lib.uvarintDec b = (v, ((k + 1 : Nat) : Int)) ∧ k + 1 + v ≤ b.length ∧ s = (b.drop (k + 1)).take v ∧ o' = o + (k + 1) + v ∧ f = false)

theorem res_tx {l : List UInt8} {o : Nat} {s : List UInt8} {o' : Nat} {f : Bool} (ho : o ≤ l.length) (h : Res (l.drop o) o s o' f) : tx l o = (s, o', f) := by
  have hl : (l.drop o).length = l.length - o := List.length_drop
  rcases h with ⟨h, rfl, rfl, rfl⟩ | ⟨k, v, h, hb, rfl, rfl, rfl⟩ | ⟨k, v, h, hb, rfl, rfl, rfl⟩
  · exact tx_bad l o' h
  · exact tx_big l o k v h (by omega)
  · rw [tx_ok l o k v h (by omega), List.drop_drop]

def Ans (b : List UInt8) (o : Nat) (w w' : World) (e : Ending) : Prop := ∃ s o' f, e = .returned (.tuple #[.string ⟨s.toArray⟩, .int .i64 ((o' : Nat) : Int), .bool f]) ∧ Res b o s o' f ∧ w = w'

theorem fin_mk {b : List UInt8} {o : Nat} {e : Ending} {w w' : World} (s : List UInt8) (o' : Nat) (f : Bool) (he : e = .returned (.tuple #[.string ⟨s.toArray⟩, .int .i64 ((o' : Nat) : Int), .bool f])) (h : Res b o s o' f) (hw : w = w') :
    Ans b o w w' e := ⟨s, o', f, he, h, hw⟩

set_option maxRecDepth 100000 in
set_option maxHeartbeats 1000000 in
theorem model_core (g so o m : Nat) (b : List UInt8) (w : World) (hn : o + m ≤ 1048576) (hm0 : 0 < m) (hbl : b.length = m) (hB : Bytes w g (so + o) b) :
    Calls Tryf.prog 10 #[.slice (some ⟨g, so, none⟩) (o + m) (o + m), .int .i64 (o : Int)] w fun e w' => Ans b o w w' e := by
  have HC : Hid (∀ j, j < m → w.cell? ⟨g, so + o + j, none⟩ = some (.int .u8 ((bt b j : Nat) : Int))) := hidOf (fun j hj => bt_cell hB (by omega))
  have HB := hidOf hB
  have HBL := hidOf hbl
  clear hbl hB
  by_cases h10 : 10 < m
  all_goals
    go_enter Tryf.func10, Tryf.ntmps10
    go_wp2
    go_loop [9, 10] (fun e i => ∃ k : Nat, k ≤ m ∧ k ≤ 10 ∧ i = .int .i64 k ∧ e = .int .i64 (-1) ∧ ∀ j, j < k → 128 ≤ bt b j) (fun _ i => 10 - (intOf i).toNat)
    case atStart => exact ⟨0, Nat.zero_le _, Nat.zero_le _, rfl, rfl, fun j hj => absurd hj (Nat.not_lt_zero j)⟩
    case round =>
      obtain ⟨k, hkm, hk10, rfl, rfl, hall⟩ := hrel
      have HA := hidOf hall
      clear hall
      by_cases hlt : k < m ∧ k < 10
      · obtain ⟨hlt1, hlt2⟩ := hlt
        obtain ⟨x, hxe⟩ : ∃ x, x = bt b k := ⟨_, rfl⟩
        have hc := HC.out k hlt1
        have hbk := bt_lt b k
        rw [← hxe] at hc hbk
        have HX := hidOf hxe
        clear hxe
        by_cases hb : x < 128
        · by_cases hbad : k = 9 ∧ 1 < x
          · obtain ⟨h9, hx1⟩ := hbad
            subst h9
            go_wp2
            go_ret3
            exact fin_mk [] o true rfl (Or.inl ⟨dec_nine b (by rw [HBL.out]; omega) HA.out (by rw [← HX.out]; exact hb) (by rw [← HX.out]; exact hx1), rfl, rfl, rfl⟩) rfl
          · have hbl : b.length = m := HBL.out
            have hdec : Lib.uvarintDec b = (vl (b.take (k + 1)), ((k + 1 : Nat) : Int)) := dec_good b k (by omega) HA.out (by rw [← HX.out]; exact hb) (by omega) (by rw [← HX.out]; exact hbad)
            have h64 : vl (b.take (k + 1)) < 18446744073709551616 := by have := Lib.uvarintDec_lt b; rw [hdec] at this; exact this
            have HD := hidOf hdec
            have H64 := hidOf h64
            clear hdec h64 hbl
            by_cases h9 : k = 9
            · have h9' : ((k : Int) == 9) = true := by rw [h9]; rfl
              have hc9 : w.cell? ⟨g, so + o + 9, none⟩ = some (.int .u8 (x : Int)) := by rw [h9] at hc; exact hc
              have hx1 : x ≤ 1 := by omega
              have h9m : 9 < m := by omega
              clear h9 hbad
              go_wp2
              go_loop [11, 12] (fun v i => ∃ t V : Nat, t ≤ k + 1 ∧ i = .int .i64 ((t : Int) - 1) ∧ V = vl ((b.take (k + 1)).drop t) ∧ v = .int .u64 (V : Int)) (fun _ i => (intOf i + 1).toNat)
              case atStart => exact ⟨k + 1, 0, Nat.le_refl _, by go_num, by rw [List.drop_eq_nil_of_le (by rw [List.length_take]; omega)]; rfl, rfl⟩
              case round =>
                obtain ⟨t, V, ht, hi, hV, rfl⟩ := hrel
                rcases Nat.eq_zero_or_pos t with hz | hz
                · rw [hz, List.drop_zero] at hV
                  rw [hz] at hi
                  rw [show (((0 : Nat) : Int) - 1) = -1 from rfl] at hi
                  subst hi
                  have hV64 : V < 18446744073709551616 := by rw [hV]; exact H64.out
                  have HV := hidOf hV
                  clear hV hz ht t
                  by_cases hbig : m < k + 1 + V
                  · go_wp2
                    go_ret3
                    refine fin_mk [] (o + (k + 1)) true ?_ (Or.inr (Or.inl ⟨k, V, by rw [HV.out]; exact HD.out, by rw [HBL.out]; exact hbig, rfl, rfl, rfl⟩)) rfl
                    rw [show ((o + (k + 1) : Nat) : Int) = (o : Int) + ((k : Int) + 1) by omega]
                    rfl
                  · by_cases hend : m = k + 1
                    · obtain rfl : V = 0 := by omega
                      have hcv := fun (p : Option Addr) (c : Nat) => conv_zero w p c
                      subst hend
                      go_wp2
                      go_ret3
                      refine fin_mk [] (o + (k + 1) + 0) false ?_ (Or.inr (Or.inr ⟨k, 0, by rw [HV.out]; exact HD.out, by rw [HBL.out]; omega, by simp, rfl, rfl⟩)) rfl
                      rw [show ((o + (k + 1) + 0 : Nat) : Int) = (o : Int) + ((k : Int) + 1) by omega]
                      rfl
                    · have hcv := conv_bytes w g (so + o + (k + 1)) (m - (k + 1)) V ((b.drop (k + 1)).take V) (by rw [List.length_take, List.length_drop, HBL.out]; omega) ((HB.out.drop (k + 1)).take V)
                      go_wp2
                      go_ret3
                      refine fin_mk ((b.drop (k + 1)).take V) (o + (k + 1) + V) false ?_ (Or.inr (Or.inr ⟨k, V, by rw [HV.out]; exact HD.out, by rw [HBL.out]; omega, rfl, rfl, rfl⟩)) rfl
                      rw [show ((o + (k + 1) + V : Nat) : Int) = (o : Int) + ((k : Int) + 1) + (V : Int) by omega]
                      rfl
                · obtain ⟨q, rfl⟩ : ∃ q, t = q + 1 := ⟨t - 1, by omega⟩
                  rw [show (((q + 1 : Nat) : Int) - 1) = (q : Int) by omega] at hi
                  subst hi
                  have hqm : q < m := by omega
                  have hqk : q < (b.take (k + 1)).length := by rw [List.length_take, HBL.out]; omega
                  have hstep := vl_step (b.take (k + 1)) q hqk
                  have hle := vl_drop_le (b.take (k + 1)) q
                  have hbq : bt (b.take (k + 1)) q = bt b q := by
                    unfold bt
                    rw [List.getD_eq_getElem?_getD, List.getD_eq_getElem?_getD, List.getElem?_take_of_lt (by omega)]
                  rw [hbq, ← hV] at hstep
                  have hcq := HC.out q hqm
                  obtain ⟨y, hye⟩ : ∃ y, y = bt b q := ⟨_, rfl⟩
                  have hy := bt_lt b q
                  rw [← hye] at hcq hy hstep
                  have hov : y % 128 + 128 * V < 18446744073709551616 := by rw [← hstep]; exact Nat.lt_of_le_of_lt hle H64.out
                  have HSt := hidOf hstep
                  clear hstep hle hbq hye hV hz
                  go_wp2
                  go_round
                  case rel =>
                    refine ⟨q, y % 128 + 128 * V, by omega, rfl, HSt.out.symm, ?_⟩
                    rw [or7 V y hy hov]
                  case measure => simp [intOf] <;> omega
            · have h9' : ((k : Int) == 9) = false := by simp; omega
              clear h9 hbad
              go_wp2
              go_loop [11, 12] (fun v i => ∃ t V : Nat, t ≤ k + 1 ∧ i = .int .i64 ((t : Int) - 1) ∧ V = vl ((b.take (k + 1)).drop t) ∧ v = .int .u64 (V : Int)) (fun _ i => (intOf i + 1).toNat)
              case atStart => exact ⟨k + 1, 0, Nat.le_refl _, by go_num, by rw [List.drop_eq_nil_of_le (by rw [List.length_take]; omega)]; rfl, rfl⟩
              case round =>
                obtain ⟨t, V, ht, hi, hV, rfl⟩ := hrel
                rcases Nat.eq_zero_or_pos t with hz | hz
                · rw [hz, List.drop_zero] at hV
                  rw [hz] at hi
                  rw [show (((0 : Nat) : Int) - 1) = -1 from rfl] at hi
                  subst hi
                  have hV64 : V < 18446744073709551616 := by rw [hV]; exact H64.out
                  have HV := hidOf hV
                  clear hV hz ht t
                  by_cases hbig : m < k + 1 + V
                  · go_wp2
                    go_ret3
                    refine fin_mk [] (o + (k + 1)) true ?_ (Or.inr (Or.inl ⟨k, V, by rw [HV.out]; exact HD.out, by rw [HBL.out]; exact hbig, rfl, rfl, rfl⟩)) rfl
                    rw [show ((o + (k + 1) : Nat) : Int) = (o : Int) + ((k : Int) + 1) by omega]
                    rfl
                  · by_cases hend : m = k + 1
                    · obtain rfl : V = 0 := by omega
                      have hcv := fun (p : Option Addr) (c : Nat) => conv_zero w p c
                      subst hend
                      go_wp2
                      go_ret3
                      refine fin_mk [] (o + (k + 1) + 0) false ?_ (Or.inr (Or.inr ⟨k, 0, by rw [HV.out]; exact HD.out, by rw [HBL.out]; omega, by simp, rfl, rfl⟩)) rfl
                      rw [show ((o + (k + 1) + 0 : Nat) : Int) = (o : Int) + ((k : Int) + 1) by omega]
                      rfl
                    · have hcv := conv_bytes w g (so + o + (k + 1)) (m - (k + 1)) V ((b.drop (k + 1)).take V) (by rw [List.length_take, List.length_drop, HBL.out]; omega) ((HB.out.drop (k + 1)).take V)
                      go_wp2
                      go_ret3
                      refine fin_mk ((b.drop (k + 1)).take V) (o + (k + 1) + V) false ?_ (Or.inr (Or.inr ⟨k, V, by rw [HV.out]; exact HD.out, by rw [HBL.out]; omega, rfl, rfl, rfl⟩)) rfl
                      rw [show ((o + (k + 1) + V : Nat) : Int) = (o : Int) + ((k : Int) + 1) + (V : Int) by omega]
                      rfl
                · obtain ⟨q, rfl⟩ : ∃ q, t = q + 1 := ⟨t - 1, by omega⟩
                  rw [show (((q + 1 : Nat) : Int) - 1) = (q : Int) by omega] at hi
                  subst hi
                  have hqm : q < m := by omega
                  have hqk : q < (b.take (k + 1)).length := by rw [List.length_take, HBL.out]; omega
                  have hstep := vl_step (b.take (k + 1)) q hqk
                  have hle := vl_drop_le (b.take (k + 1)) q
                  have hbq : bt (b.take (k + 1)) q = bt b q := by
                    unfold bt
                    rw [List.getD_eq_getElem?_getD, List.getD_eq_getElem?_getD, List.getElem?_take_of_lt (by omega)]
                  rw [hbq, ← hV] at hstep
                  have hcq := HC.out q hqm
                  obtain ⟨y, hye⟩ : ∃ y, y = bt b q := ⟨_, rfl⟩
                  have hy := bt_lt b q
                  rw [← hye] at hcq hy hstep
                  have hov : y % 128 + 128 * V < 18446744073709551616 := by rw [← hstep]; exact Nat.lt_of_le_of_lt hle H64.out
                  have HSt := hidOf hstep
                  clear hstep hle hbq hye hV hz
                  go_wp2
                  go_round
                  case rel =>
                    refine ⟨q, y % 128 + 128 * V, by omega, rfl, HSt.out.symm, ?_⟩
                    rw [or7 V y hy hov]
                  case measure => simp [intOf] <;> omega
        · go_wp2
          go_round
          case rel =>
            refine ⟨k + 1, by omega, by omega, by go_num, rfl, fun j hj => ?_⟩
            rcases Nat.lt_succ_iff_lt_or_eq.1 hj with h | rfl
            · exact HA.out j h
            · rw [← HX.out]; omega
          case measure => simp [intOf] <;> omega
      · go_wp2
        go_ret3
        exact fin_mk [] o true rfl (Or.inl ⟨dec_none b (fun j hj h => HA.out j (by rw [HBL.out] at hj; omega)), rfl, rfl, rfl⟩) rfl

end Go.Proofs.Qxb6615907aFmt
