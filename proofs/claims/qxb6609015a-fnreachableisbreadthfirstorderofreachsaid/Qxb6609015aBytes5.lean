import Derived.Test.Qxb6609015aIn
namespace Go.Proofs.Qxb6609015a
open Go.RowKit

/-- How many strings the first k lists hold. -/
def cnt (N : Nat → Nat) : Nat → Nat
  | 0 => 0
  | k + 1 => cnt N k + N k

/-- WHAT zzBytes ASKS: every length is at most 1<<20, and so is the number of all the lists' strings. -/
def Small (len0 : Nat) (s : Nat → ByteArray) (len1 : Nat) (N : Nat → Nat) (S : Nat → Nat → ByteArray) (nm : ByteArray) : Prop :=
  len0 ≤ 1048576 ∧ (∀ i, i < len0 → (s i).size ≤ 1048576) ∧ len1 ≤ 1048576 ∧ (∀ i, i < len1 → N i ≤ 1048576 ∧ ∀ j, j < N i → (S i j).size ≤ 1048576) ∧ nm.size ≤ 1048576 ∧ cnt N len1 ≤ 1048576

def BoolRet (p : Prop) (w w' : World) (e : Ending) : Prop := ∃ x : Bool, e = .returned (.bool x) ∧ (x = true → p) ∧ w = w'
theorem no_ret {p : Prop} {w w' : World} {e : Ending} (he : e = .returned (.bool false)) (hw : w = w') : BoolRet p w w' e := ⟨false, he, (fun h => by cases h), hw⟩
theorem yes_ret {p : Prop} {w w' : World} {e : Ending} (he : e = .returned (.bool true)) (hp : p) (hw : w = w') : BoolRet p w w' e := ⟨true, he, fun _ => hp, hw⟩

set_option maxRecDepth 100000 in
set_option maxHeartbeats 1000000 in
theorem bytes5 (a0 : Option Addr) (len0 cap0 B0 O0 : Nat) (s : Nat → ByteArray) (a1 : Option Addr) (len1 cap1 B1 O1 : Nat) (A : Nat → Option Addr) (N C Bi Oi : Nat → Nat) (S : Nat → Nat → ByteArray) (nm : ByteArray) (w : World)
    (h0 : Strs w a0 len0 cap0 B0 O0 s) (h1 : Lsts w a1 len1 cap1 B1 O1 A N C Bi Oi S) (hnm : nm.size ≤ maxLen) :
    Calls Try.prog 5 #[.slice a0 len0 cap0, .slice a1 len1 cap1, .string nm] w fun e w' => BoolRet (Small len0 s len1 N S nm) w w' e := by
  have hm0 := h0.1
  have hm1 := h1.1
  unfold maxLen at hm0 hm1 hnm
  have H0 := hidOf h0
  have H1 := hidOf h1
  clear h0 h1
  by_cases g0 : len0 ≤ 1048576
  · go_enter Try.func5, Try.ntmps5
    go_wp2
    go_loop [7, 8] (fun v i => ∃ (z : Int) (k : Nat), k ≤ len0 ∧ i = .int .i64 k ∧ v = .int .i64 z ∧ 0 ≤ z ∧ z ≤ 1048576 ∧ ∀ j, j < k → (s j).size ≤ 1048576) (fun _ i => len0 - (intOf i).toNat)
    case atStart => exact ⟨_, 0, Nat.zero_le _, rfl, rfl, by omega, by omega, fun j hj => absurd hj (Nat.not_lt_zero j)⟩
    case round =>
      obtain ⟨z, k, hk, rfl, rfl, hz0, hz1, hall⟩ := hrel
      have HA := hidOf hall
      clear hall
      by_cases hlt : k < len0
      · have hix := H0.out.idx hlt
        have hc := (H0.out.2.2 k hlt).1
        have hcs := (H0.out.2.2 k hlt).2
        unfold maxLen at hcs
        by_cases hsz : (s k).size ≤ 1048576
        · by_cases hzz : z + ((s k).size : Int) ≤ 1048576
          · go_wp2
            go_round
            case rel =>
              refine ⟨z + ((s k).size : Int), k + 1, by omega, by go_num, rfl, by omega, hzz, fun j hj => ?_⟩
              rcases Nat.lt_succ_iff_lt_or_eq.1 hj with h | rfl
              · exact HA.out j h
              · exact hsz
            case measure => simp [intOf] <;> omega
          · go_wp2
            go_ret
            exact no_ret rfl rfl
        · go_wp2
          go_ret
          exact no_ret rfl rfl
      · have ek : len0 ≤ k := by omega
        clear hlt
        by_cases g1 : len1 ≤ 1048576
        · by_cases g2 : z + (len1 : Int) ≤ 1048576
          · go_wp2
            go_loop [7, 9] (fun v i => ∃ (z : Int) (q : Nat), q ≤ len1 ∧ i = .int .i64 q ∧ v = .int .i64 z ∧ (cnt N q : Int) ≤ z ∧ z ≤ 1048576 ∧ ∀ j, j < q → N j ≤ 1048576 ∧ ∀ t, t < N j → (S j t).size ≤ 1048576) (fun _ i => len1 - (intOf i).toNat)
            case atStart => exact ⟨_, 0, Nat.zero_le _, rfl, rfl, by simp only [cnt]; omega, g2, fun j hj => absurd hj (Nat.not_lt_zero j)⟩
            case round =>
              clear hz0 hz1 g2
              obtain ⟨z, q, hq, rfl, rfl, hz0, hz1, hall⟩ := hrel
              have HL := hidOf hall
              clear hall
              by_cases hlt : q < len1
              · have hix := H1.out.idx hlt
                have hc := (H1.out.2.2 q hlt).1
                have HK := hidOf (H1.out.2.2 q hlt).2
                have hcs := HK.out.1
                unfold maxLen at hcs
                have hcnt : cnt N (q + 1) = cnt N q + N q := rfl
                have HCN := hidOf hcnt
                clear hcnt
                by_cases hsz : N q ≤ 1048576
                · by_cases hzz : z + (N q : Int) ≤ 1048576
                  · go_wp2
                    go_loop [7, 10] (fun v i => ∃ (y : Int) (t : Nat), t ≤ N q ∧ i = .int .i64 t ∧ v = .int .i64 y ∧ z + (N q : Int) ≤ y ∧ y ≤ 1048576 ∧ ∀ j, j < t → (S q j).size ≤ 1048576) (fun _ i => N q - (intOf i).toNat)
                    case atStart => exact ⟨_, 0, Nat.zero_le _, rfl, rfl, Int.le_refl _, hzz, fun j hj => absurd hj (Nat.not_lt_zero j)⟩
                    case round =>
                      obtain ⟨y, t, ht, rfl, rfl, hy0, hy1, hall⟩ := hrel
                      have HT := hidOf hall
                      clear hall
                      by_cases htl : t < N q
                      · have hix2 := HK.out.idx htl
                        have hc2 := (HK.out.2.2 t htl).1
                        have hcs2 := (HK.out.2.2 t htl).2
                        unfold maxLen at hcs2
                        by_cases hsz2 : (S q t).size ≤ 1048576
                        · by_cases hzz2 : y + ((S q t).size : Int) ≤ 1048576
                          · go_wp2
                            go_round
                            case rel =>
                              refine ⟨y + ((S q t).size : Int), t + 1, by omega, by go_num, rfl, by omega, hzz2, fun j hj => ?_⟩
                              rcases Nat.lt_succ_iff_lt_or_eq.1 hj with h | rfl
                              · exact HT.out j h
                              · exact hsz2
                            case measure => simp [intOf] <;> omega
                          · go_wp2
                            go_ret
                            exact no_ret rfl rfl
                        · go_wp2
                          go_ret
                          exact no_ret rfl rfl
                      · go_wp2
                        go_round
                        case rel =>
                          refine ⟨y, q + 1, by omega, by go_num, rfl, by rw [HCN.out]; omega, hy1, fun j hj => ?_⟩
                          rcases Nat.lt_succ_iff_lt_or_eq.1 hj with h | rfl
                          · exact HL.out j h
                          · exact ⟨hsz, fun i hi => HT.out i (by omega)⟩
                        case measure => simp [intOf] <;> omega
                  · go_wp2
                    go_ret
                    exact no_ret rfl rfl
                · go_wp2
                  go_ret
                  exact no_ret rfl rfl
              · have eq : q = len1 := by omega
                have EQ := hidOf eq
                clear eq
                have hge : ¬ (q : Int) < (len1 : Int) := by omega
                by_cases hn1 : nm.size ≤ 1048576
                · by_cases hn2 : z + (nm.size : Int) ≤ 1048576
                  · go_wp2
                    go_ret
                    refine yes_ret rfl ⟨g0, fun i hi => HA.out i (by omega), g1, ?_, hn1, ?_⟩ rfl
                    · have h := HL.out; rw [EQ.out] at h; exact h
                    · have h : (cnt N q : Int) ≤ z := hz0
                      rw [EQ.out] at h
                      omega
                  · go_wp2
                    go_ret
                    exact no_ret rfl rfl
                · go_wp2
                  go_ret
                  exact no_ret rfl rfl
          · go_wp2
            go_ret
            exact no_ret rfl rfl
        · go_wp2
          go_ret
          exact no_ret rfl rfl
  · go_enter Try.func5, Try.ntmps5
    go_wp2
    go_ret
    exact no_ret rfl rfl

end Go.Proofs.Qxb6609015a
