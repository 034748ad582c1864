import Derived.Test.Qxb6609015aRows
import Derived.WalkKit
import Derived.WalkSpells
import Derived.WalkLawsBesides
import Derived.Maps.OwnSet
import Derived.Deep.QuietTactic
import Derived.BigQuiet
namespace Go.Proofs.Qxb6609015a
open Go.RowKit

theorem hidOf {p : Prop} (h : p) : Hid p := h

/-- Some number comes back; the world is as it was. -/
def IntRet (w w' : World) (e : Ending) : Prop := ∃ y : Int, e = .returned (.int .i64 y) ∧ w = w'

/-- A '[]string' THAT LIES IN MEMORY: its address counts only where it holds something. -/
def Strs (w : World) (a : Option Addr) (len _cap B O : Nat) (s : Nat → ByteArray) : Prop :=
  len ≤ maxLen ∧ (0 < len → a = some ⟨B, O, none⟩ ∧ B < w.heap.size) ∧ ∀ j, j < len → w.cell? ⟨B, O + j, none⟩ = some (.string (s j)) ∧ (s j).size ≤ maxLen

theorem Strs.idx {w : World} {a : Option Addr} {len cap B O : Nat} {s : Nat → ByteArray} (h : Strs w a len cap B O s) {j : Nat} (hj : j < len) (W : World) :
    (Instr.indexAt 22 (.slice a len cap) (.int .i64 (j : Int))).run Try.prog W = .ok (.pointer (some ⟨B, O + j, none⟩)) W := by
  rw [(h.2.1 (by omega)).1]
  go_simp

theorem Strs.below {w w' : World} {a : Option Addr} {len cap B O : Nat} {s : Nat → ByteArray} (h : Strs w a len cap B O s) (hb : Below w.heap.size w w') : Strs w' a len cap B O s :=
  ⟨h.1, fun h0 => ⟨(h.2.1 h0).1, Nat.lt_of_lt_of_le (h.2.1 h0).2 hb.size⟩, fun j hj => ⟨(hb.cell (h.2.1 (by omega)).2).trans (h.2.2 j hj).1, (h.2.2 j hj).2⟩⟩

/-- A '[][]string' THAT LIES IN MEMORY. -/
def Lsts (w : World) (a : Option Addr) (len _cap B O : Nat) (A : Nat → Option Addr) (N C Bi Oi : Nat → Nat) (S : Nat → Nat → ByteArray) : Prop :=
  len ≤ maxLen ∧ (0 < len → a = some ⟨B, O, none⟩ ∧ B < w.heap.size) ∧ ∀ j, j < len → w.cell? ⟨B, O + j, none⟩ = some (.slice (A j) (N j) (C j)) ∧ Strs w (A j) (N j) (C j) (Bi j) (Oi j) (S j)

theorem Lsts.idx {w : World} {a : Option Addr} {len cap B O : Nat} {A : Nat → Option Addr} {N C Bi Oi : Nat → Nat} {S : Nat → Nat → ByteArray} (h : Lsts w a len cap B O A N C Bi Oi S) {j : Nat} (hj : j < len) (W : World) :
    (Instr.indexAt 23 (.slice a len cap) (.int .i64 (j : Int))).run Try.prog W = .ok (.pointer (some ⟨B, O + j, none⟩)) W := by
  rw [(h.2.1 (by omega)).1]
  go_simp

set_option maxHeartbeats 400000 in
theorem add_strs (u : Int) (a : Option Addr) (len cap B O : Nat) (s : Nat → ByteArray) (w : World) (hs : Strs w a len cap B O s) :
    Calls Try.prog 11 #[.int .i64 u, .slice a len cap] w fun e w' => IntRet w w' e := by
  have hm := hs.1
  unfold maxLen at hm
  have HS := hidOf hs
  clear hs
  go_enter Try.func11, Try.ntmps11
  go_wp2
  · go_ret
    exact ⟨_, rfl, rfl⟩
  · go_ret
    exact ⟨_, rfl, rfl⟩
  · go_loop [0, 5] (fun v i => ∃ (y : Int) (k : Nat), k ≤ len ∧ i = .int .i64 k ∧ v = .int .i64 y) (fun _ i => len - (intOf i).toNat)
    case atStart => exact ⟨_, 0, Nat.zero_le _, rfl, rfl⟩
    case round =>
      obtain ⟨y, k, hk, rfl, rfl⟩ := hrel
      by_cases hlt : k < len
      · have hix := HS.out.idx hlt
        have hc := (HS.out.2.2 k hlt).1
        go_wp2
        · go_ret
          exact ⟨_, rfl, rfl⟩
        · go_round
          case rel => exact ⟨_, k + 1, by omega, by go_num, rfl⟩
          case measure => simp [intOf] <;> omega
      · go_wp2
        go_ret
        exact ⟨_, rfl, rfl⟩

set_option maxHeartbeats 400000 in
theorem add_lists (u : Int) (a : Option Addr) (len cap B O : Nat) (A : Nat → Option Addr) (N C Bi Oi : Nat → Nat) (S : Nat → Nat → ByteArray) (w : World) (hs : Lsts w a len cap B O A N C Bi Oi S) :
    Calls Try.prog 12 #[.int .i64 u, .slice a len cap] w fun e w' => IntRet w w' e := by
  have hm := hs.1
  unfold maxLen at hm
  have HS := hidOf hs
  clear hs
  go_enter Try.func12, Try.ntmps12
  go_wp2
  · go_ret
    exact ⟨_, rfl, rfl⟩
  · go_ret
    exact ⟨_, rfl, rfl⟩
  · go_loop [0, 5] (fun v i => ∃ (y : Int) (k : Nat), k ≤ len ∧ i = .int .i64 k ∧ v = .int .i64 y) (fun _ i => len - (intOf i).toNat)
    case atStart => exact ⟨_, 0, Nat.zero_le _, rfl, rfl⟩
    case round =>
      obtain ⟨y, k, hk, rfl, rfl⟩ := hrel
      by_cases hlt : k < len
      · have hix := HS.out.idx hlt
        have hc := (HS.out.2.2 k hlt).1
        have HK := hidOf (HS.out.2.2 k hlt).2
        go_wp2_with (go_at_call 11; refine (add_strs _ _ _ _ _ _ _ _ HK.out).mono ?_; rintro e w' ⟨y2, rfl, rfl⟩)
        · go_ret
          exact ⟨_, rfl, rfl⟩
        · go_round
          case rel => exact ⟨_, k + 1, by omega, by go_num, rfl⟩
          case measure => simp [intOf] <;> omega
      · go_wp2
        go_ret
        exact ⟨_, rfl, rfl⟩

set_option maxHeartbeats 400000 in
theorem graph_bytes (a0 : Option Addr) (len0 cap0 B0 O0 : Nat) (s : Nat → ByteArray) (a1 : Option Addr) (len1 cap1 B1 O1 : Nat) (A : Nat → Option Addr) (N C Bi Oi : Nat → Nat) (S : Nat → Nat → ByteArray) (nm : ByteArray) (w : World)
    (h0 : Strs w a0 len0 cap0 B0 O0 s) (h1 : Lsts w a1 len1 cap1 B1 O1 A N C Bi Oi S) :
    Calls Try.prog 6 #[.slice a0 len0 cap0, .slice a1 len1 cap1, .string nm] w fun e w' => IntRet w w' e := by
  have H0 := hidOf h0
  have H1 := hidOf h1
  clear h0 h1
  go_enter Try.func6, Try.ntmps6
  go_wp2_with fail
  refine (add_strs _ _ _ _ _ _ _ _ H0.out).mono ?_
  rintro e w' ⟨y, rfl, rfl⟩
  go_wp2_with fail
  refine (add_lists _ _ _ _ _ _ _ _ _ _ _ _ _ H1.out).mono ?_
  rintro e w' ⟨y2, rfl, rfl⟩
  go_wp2
  go_ret
  exact ⟨_, rfl, rfl⟩

end Go.Proofs.Qxb6609015a
