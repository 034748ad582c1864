import Derived.Test.Qxb6609015aBytes5
namespace Go.Proofs.Qxb6609015a
open Go.RowKit

/-- L is as great as every length in sight. -/
def LongRet (len0 : Nat) (s : Nat → ByteArray) (len1 : Nat) (N : Nat → Nat) (S : Nat → Nat → ByteArray) (nm : ByteArray) (w w' : World) (e : Ending) : Prop :=
  ∃ L : Nat, e = .returned (.int .i64 L) ∧ L ≤ 1048576 ∧ nm.size ≤ L ∧ (∀ i, i < len0 → (s i).size ≤ L) ∧ (∀ i j, i < len1 → j < N i → (S i j).size ≤ L) ∧ w = w'

set_option maxRecDepth 100000 in
set_option maxHeartbeats 1000000 in
theorem longest (a0 : Option Addr) (len0 cap0 B0 O0 : Nat) (s : Nat → ByteArray) (a1 : Option Addr) (len1 cap1 B1 O1 : Nat) (A : Nat → Option Addr) (N C Bi Oi : Nat → Nat) (S : Nat → Nat → ByteArray) (nm : ByteArray) (w : World)
    (h0 : Strs w a0 len0 cap0 B0 O0 s) (h1 : Lsts w a1 len1 cap1 B1 O1 A N C Bi Oi S) (hsm : Small len0 s len1 N S nm) :
    Calls Try.prog 10 #[.slice a0 len0 cap0, .slice a1 len1 cap1, .string nm] w fun e w' => LongRet len0 s len1 N S nm w w' e := by
  have hnm := hsm.2.2.2.2.1
  have hl0 := hsm.1
  have hl1 := hsm.2.2.1
  have HS := hidOf hsm
  have H0 := hidOf h0
  have H1 := hidOf h1
  clear h0 h1 hsm
  go_enter Try.func10, Try.ntmps10
  go_wp2
  go_loop [7, 8] (fun v i => ∃ (L k : Nat), k ≤ len0 ∧ i = .int .i64 k ∧ v = .int .i64 L ∧ L ≤ 1048576 ∧ nm.size ≤ L ∧ ∀ j, j < k → (s j).size ≤ L) (fun _ i => len0 - (intOf i).toNat)
  case atStart => exact ⟨nm.size, 0, Nat.zero_le _, rfl, rfl, hnm, Nat.le_refl _, fun j hj => absurd hj (Nat.not_lt_zero j)⟩
  case round =>
    obtain ⟨L, k, hk, rfl, rfl, hL, hLn, hall⟩ := hrel
    have HA := hidOf hall
    clear hall
    by_cases hlt : k < len0
    · have hix := H0.out.idx hlt
      have hc := (H0.out.2.2 k hlt).1
      have hcs := HS.out.2.1 k hlt
      by_cases hgt : L < (s k).size
      · go_wp2
        go_round
        case rel =>
          refine ⟨(s k).size, k + 1, by omega, by go_num, rfl, hcs, by omega, fun j hj => ?_⟩
          rcases Nat.lt_succ_iff_lt_or_eq.1 hj with h | rfl
          · have := HA.out j h
            omega
          · exact Nat.le_refl _
        case measure => simp [intOf] <;> omega
      · go_wp2
        go_round
        case rel =>
          refine ⟨L, k + 1, by omega, by go_num, rfl, hL, hLn, fun j hj => ?_⟩
          rcases Nat.lt_succ_iff_lt_or_eq.1 hj with h | rfl
          · exact HA.out j h
          · omega
        case measure => simp [intOf] <;> omega
    · have ek : len0 ≤ k := by omega
      clear hlt
      have HK := hidOf (show ∀ j, j < len0 → (s j).size ≤ L from fun j hj => HA.out j (by omega))
      clear HA
      go_wp2
      have HL0 := hidOf (And.intro hL (And.intro hLn HK.out))
      clear hL hLn HK
      go_loop [7, 9] (fun v i => ∃ (L q : Nat), q ≤ len1 ∧ i = .int .i64 q ∧ v = .int .i64 L ∧ L ≤ 1048576 ∧ nm.size ≤ L ∧ (∀ j, j < len0 → (s j).size ≤ L) ∧ ∀ j t, j < q → t < N j → (S j t).size ≤ L) (fun _ i => len1 - (intOf i).toNat)
      case atStart => exact ⟨L, 0, Nat.zero_le _, rfl, rfl, HL0.out.1, HL0.out.2.1, HL0.out.2.2, fun j t hj => absurd hj (Nat.not_lt_zero j)⟩
      case round =>
        clear HL0
        obtain ⟨L, q, hq, rfl, rfl, hL, hLn, hks, hall⟩ := hrel
        have HA := hidOf hall
        have HK := hidOf hks
        clear hall hks
        by_cases hlt : q < len1
        · have hix := H1.out.idx hlt
          have hc := (H1.out.2.2 q hlt).1
          have HR := hidOf (H1.out.2.2 q hlt).2
          have hcs := (HS.out.2.2.2.1 q hlt).1
          have HL0 := hidOf (And.intro hL (And.intro hLn (And.intro HK.out HA.out)))
          clear hL hLn HK HA
          go_wp2
          go_loop [7, 10] (fun v i => ∃ (L r : Nat), r ≤ N q ∧ i = .int .i64 r ∧ v = .int .i64 L ∧ L ≤ 1048576 ∧ nm.size ≤ L ∧ (∀ j, j < len0 → (s j).size ≤ L) ∧ (∀ j t, j < q → t < N j → (S j t).size ≤ L) ∧ ∀ t, t < r → (S q t).size ≤ L) (fun _ i => N q - (intOf i).toNat)
          case atStart => exact ⟨L, 0, Nat.zero_le _, rfl, rfl, HL0.out.1, HL0.out.2.1, HL0.out.2.2.1, HL0.out.2.2.2, fun j hj => absurd hj (Nat.not_lt_zero j)⟩
          case round =>
            clear HL0
            obtain ⟨L, r, hr, rfl, rfl, hL, hLn, hks, hall, hrow⟩ := hrel
            have HA := hidOf hall
            have HK := hidOf hks
            have HW := hidOf hrow
            clear hall hks hrow
            by_cases hlr : r < N q
            · have hix2 := HR.out.idx hlr
              have hc2 := (HR.out.2.2 r hlr).1
              have hcs2 := (HS.out.2.2.2.1 q hlt).2 r hlr
              by_cases hgt : L < (S q r).size
              · go_wp2
                go_round
                case rel =>
                  refine ⟨(S q r).size, r + 1, by omega, by go_num, rfl, hcs2, by omega, fun j hj => ?_, fun j t hj ht => ?_, fun t ht => ?_⟩
                  · have := HK.out j hj
                    omega
                  · have := HA.out j t hj ht
                    omega
                  · rcases Nat.lt_succ_iff_lt_or_eq.1 ht with h | rfl
                    · have := HW.out t h
                      omega
                    · exact Nat.le_refl _
                case measure => simp [intOf] <;> omega
              · go_wp2
                go_round
                case rel =>
                  refine ⟨L, r + 1, by omega, by go_num, rfl, hL, hLn, HK.out, HA.out, fun t ht => ?_⟩
                  rcases Nat.lt_succ_iff_lt_or_eq.1 ht with h | rfl
                  · exact HW.out t h
                  · omega
                case measure => simp [intOf] <;> omega
            · go_wp2
              go_round
              case rel =>
                refine ⟨L, q + 1, by omega, by go_num, rfl, hL, hLn, HK.out, fun j t hj ht => ?_⟩
                rcases Nat.lt_succ_iff_lt_or_eq.1 hj with h | rfl
                · exact HA.out j t h ht
                · exact HW.out t (by omega)
              case measure => simp [intOf] <;> omega
        · go_wp2
          go_ret
          exact ⟨L, rfl, hL, hLn, HK.out, fun i j hi hj => HA.out i j (by omega) hj, rfl⟩

end Go.Proofs.Qxb6609015a
