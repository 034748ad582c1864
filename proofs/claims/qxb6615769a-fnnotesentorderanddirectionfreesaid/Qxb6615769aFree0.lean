import Derived.Test.Qxb6615769aPlain2
namespace Go.Proofs.Qxb6615769a
open Go.RowKit Go.Maps Go.WideMaps

set_option maxRecDepth 100000 in
set_option maxHeartbeats 400000 in
/-- THE LAW OF NO SEND AT ALL (a nil slice among these). -/
theorem free_zero (a : Option Addr) (cap : Nat) (fa : Option Addr) (flen fcap : Nat) (w : World) (hfl : flen ≤ maxLen) :
    Calls Try.prog 8 #[.slice a 0 cap, .slice fa flen fcap] w fun e w' => e = .returned (.bool true) ∧ Below w.heap.size w w' := by
  have hfl' := hfl
  unfold maxLen at hfl'
  have hmm := @run_makeMap Try.prog
  have hb17 := bytes17 a 0 cap fa flen fcap w (Nat.zero_le _) hfl
  rw [Nat.zero_add] at hb17
  have H17 := hidOf hb17
  clear hb17
  by_cases h0 : flen ≤ 1048576
  · have hd : decide (flen ≤ 1048576) = true := by simpa using h0
    by_cases h2 : flen ≤ 4096
    · go_enter Try.func8, Try.ntmps8
      go_wp2_with (first | (go_at_call 17; refine (Hid.out H17).mono ?_; rintro e w' ⟨rfl, rfl⟩))
      refine (new_any _ _ _).mono ?_
      rintro e w1 ⟨rfl, hc12, hc14, hg1, hs1⟩
      have hC : w.heap.size + 1 < w1.heap.size := by rw [hs1]; simp
      have hrun1 : Run w1 (w.heap.size + 1) w.heap.size 0 none (.map []) := ⟨(World.ownsMap_made w _ _ _).kept hg1 (by simp), by simpa using hc12, by simpa using hc14⟩
      have hbel1 : Below w.heap.size w w1 := ((Below.refl _ w).alloc (Nat.le_refl _) _).grown hg1 (by simp) (by simp)
      have HR1 := hidOf hrun1
      have HB1 := hidOf hbel1
      clear hc12 hc14 hg1 hs1 hrun1 hbel1
      go_wp2_with fail
      refine (new_any _ _ _).mono ?_
      rintro e w2 ⟨rfl, hc12, hc14, hg2, hs2⟩
      have hrb : Run w2 (w1.heap.size + 1) w1.heap.size 0 none (.map []) := ⟨(World.ownsMap_made w1 _ _ _).kept hg2 (by simp), by simpa using hc12, by simpa using hc14⟩
      have hra : Run w2 (w.heap.size + 1) w.heap.size 0 none (.map []) := (HR1.out.grown (World.grownBy_alloc _ _ none) (by simp) (by simp)).grown hg2 (by simp) (by simp)
      have hbel2 : Below w.heap.size w w2 := (HB1.out.alloc HB1.out.size _).grown hg2 (by simp; omega) (by simp)
      have HRA := hidOf hra
      have HRB := hidOf hrb
      have HB := hidOf hbel2
      clear hc12 hc14 hg2 hs2 hra hrb hbel2 HR1 HB1 hmm
      go_wp2
      go_loop [7] (fun i => i = .int .i64 0) (fun _ => 0)
      case atStart => rfl
      case round =>
        subst hrel
        go_wp2
        go_loop [8] (fun i => i = .int .i64 (-1)) (fun _ => 0)
        case atStart => rfl
        case round =>
          subst hrel
          go_wp2_with fail
          refine (ex_any _ _ _ HRA.out.2.1).mono ?_
          rintro e w' ⟨rfl, rfl⟩
          go_wp2_with fail
          refine (ex_any _ _ _ HRB.out.2.1).mono ?_
          rintro e w' ⟨rfl, rfl⟩
          go_wp2
          go_loop [11, 12] (fun d i => i = .int .i64 0 ∧ d = .int .i64 0) (fun _ _ => 0)
          case atStart => exact ⟨rfl, rfl⟩
          case round =>
            obtain ⟨rfl, rfl⟩ := hrel
            have hlena := HRA.out.1.len Try.underlying27 3
            have hlenb := HRB.out.1.len Try.underlying27 3
            have es : Maps.size (DataW.map (H := Unit) []) = 0 := rfl
            rw [es] at hlena hlenb
            go_wp2
            go_ret
            exact ⟨by simp, HB.out⟩
    · go_enter Try.func8, Try.ntmps8
      go_wp2_with (first | (go_at_call 17; refine (Hid.out H17).mono ?_; rintro e w' ⟨rfl, rfl⟩))
      go_ret
      exact ⟨rfl, Below.refl _ _⟩
  · have hd : decide (flen ≤ 1048576) = false := by simpa using h0
    go_enter Try.func8, Try.ntmps8
    go_wp2_with (first | (go_at_call 17; refine (Hid.out H17).mono ?_; rintro e w' ⟨rfl, rfl⟩))
    go_ret
    exact ⟨rfl, Below.refl _ _⟩

end Go.Proofs.Qxb6615769a
