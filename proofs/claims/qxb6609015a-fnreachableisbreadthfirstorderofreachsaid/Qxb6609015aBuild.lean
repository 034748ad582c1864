import Derived.Test.Qxb6609015aBytes5
import Derived.StringKeys
namespace Go.Proofs.Qxb6609015a
open Go.RowKit Go.Maps

/-! ### maps keyed by strings; elements held as they are -/
theorem keyed9 : Keyed Try.prog 9 := string_keyed Try.underlying9
def heldR (v : Value) : Option (DataW Value × List MemPlace) := some (.held v, [])
def ky (s : ByteArray) : Lit := .string s.data.toList
theorem ky_key (s : ByteArray) : WideAt.IsKeyLit (ky s) := trivial
theorem ky_inj {s t : ByteArray} (h : ky s = ky t) : s = t := by
  unfold ky at h
  have h1 : s.data.toList = t.data.toList := by simpa using h
  exact ByteArray.ext (Array.toList_inj.1 h1)
theorem keyOf_ky {s : ByteArray} (h : s.size ≤ maxLen) : keyOf Try.prog 9 (.string s) = some (ky s) := WideMaps.keyOf_string_mk Try.underlying9 h
theorem zero22 (w : World) : (zeroValue 22).run Try.prog w = .ok (.slice none 0 0) w := by kernel_rfl
theorem zero4 (w : World) : (zeroValue 4).run Try.prog w = .ok (.bool false) w := by kernel_rfl
theorem zero3 (w : World) : (zeroValue 3).run Try.prog w = .ok (.int .i64 0) w := by kernel_rfl
theorem make26 (n : Int) (w : World) : (Instr.makeMap 26 (some (.int .i64 n))).run Try.prog w = .ok (.map (some w.heap.size)) (w.alloc (.map #[] 0)) := by
  simp [Instr.makeMap, run_underlying Try.underlying26]
  rfl
theorem make29 (n : Int) (w : World) : (Instr.makeMap 29 (some (.int .i64 n))).run Try.prog w = .ok (.map (some w.heap.size)) (w.alloc (.map #[] 0)) := by
  simp [Instr.makeMap, run_underlying Try.underlying29]
  rfl

/-- The map after the first k keys. -/
def bD (s : Nat → ByteArray) (v : Nat → Value) : Nat → DataW Value
  | 0 => .map []
  | k + 1 => (bD s v k).put (ky (s k)) (.held (v k))

theorem bD_isMap (s : Nat → ByteArray) (v : Nat → Value) : ∀ k, IsMap (bD s v k)
  | 0 => isMap_empty
  | k + 1 => (bD_isMap s v k).put _ _

/-- Which key of the first k wins at t: the last that is t. -/
def gIdx (s : Nat → ByteArray) (t : ByteArray) : Nat → Option Nat
  | 0 => none
  | k + 1 => if s k = t then some k else gIdx s t k

theorem gIdx_lt (s : Nat → ByteArray) (t : ByteArray) : ∀ {k i : Nat}, gIdx s t k = some i → i < k ∧ s i = t
  | 0, i, h => by cases h
  | k + 1, i, h => by
    unfold gIdx at h
    split at h
    · rename_i e; cases h; exact ⟨Nat.lt_succ_self _, e⟩
    · have := gIdx_lt s t h; exact ⟨Nat.lt_succ_of_lt this.1, this.2⟩

/-- The value at t: that key's, or nil. -/
def gv (s : Nat → ByteArray) (v : Nat → Value) (n : Nat) (t : ByteArray) : Value := match gIdx s t n with | some i => v i | none => .slice none 0 0

theorem at_bD (s : Nat → ByteArray) (v : Nat → Value) (t : ByteArray) : ∀ k, (bD s v k).atKey (ky t) (.held (.slice none 0 0)) = .held (gv s v k t)
  | 0 => rfl
  | k + 1 => by
    have ih := at_bD s v t k
    unfold bD gv gIdx
    by_cases e : s k = t
    · rw [if_pos e, e, atKey_put_same (bD_isMap s v k) (ky_key _)]
    · rw [if_neg e, atKey_put_other (fun h => e (ky_inj h).symm), ih]
      rfl

/-- What stands at key i: the list beside it, or nil. -/
def vals (len1 : Nat) (A : Nat → Option Addr) (N C : Nat → Nat) (i : Nat) : Value := if i < len1 then .slice (A i) (N i) (C i) else .slice none 0 0

set_option maxHeartbeats 1000000 in
theorem build (a0 : Option Addr) (len0 cap0 B0 O0 : Nat) (s : Nat → ByteArray) (a1 : Option Addr) (len1 cap1 B1 O1 : Nat) (A : Nat → Option Addr) (N C Bi Oi : Nat → Nat) (S : Nat → Nat → ByteArray) (w : World)
    (h0 : Strs w a0 len0 cap0 B0 O0 s) (h1 : Lsts w a1 len1 cap1 B1 O1 A N C Bi Oi S) (hsm : len0 ≤ 1048576) :
    Calls Try.prog 7 #[.slice a0 len0 cap0, .slice a1 len1 cap1] w fun e w' => e = .returned (.map (some w.heap.size)) ∧ w'.ownsMap Try.prog 9 heldR w.heap.size len0 (bD s (vals len1 A N C) len0) ∧ Below w.heap.size w w' := by
  have hm1 := h1.1
  unfold maxLen at hm1
  have H0 := hidOf h0
  have H1 := hidOf h1
  clear h0 h1
  have hmk := make26 (len0 : Int) w
  go_enter Try.func7, Try.ntmps7
  go_wp2
  clear hmk
  go_loopw [6] (fun i wr => ∃ k : Nat, k ≤ len0 ∧ i = .int .i64 k ∧ wr.ownsMap Try.prog 9 heldR w.heap.size k (bD s (vals len1 A N C) k) ∧ Below w.heap.size w wr) (fun i _ => len0 - (intOf i).toNat)
  case atStart => exact ⟨0, Nat.zero_le _, rfl, World.ownsMap_made w _ _ _, (Below.refl _ w).alloc (Nat.le_refl _) _⟩
  case round =>
    obtain ⟨k, hk, rfl, hown, hbel⟩ := hrel
    by_cases hlt : k < len0
    · have hix := H0.out.idx hlt
      have hB0 := (H0.out.2.1 (by omega)).2
      have hc : wr.cell? ⟨B0, O0 + k, none⟩ = some (.string (s k)) := (hbel.cell hB0).trans (H0.out.2.2 k hlt).1
      have hkey := keyOf_ky (H0.out.2.2 k hlt).2
      have HB := hidOf hbel
      by_cases hl1 : k < len1
      · have hix1 := H1.out.idx hl1
        have hB1 := (H1.out.2.1 (by omega)).2
        have hc1 : wr.cell? ⟨B1, O1 + k, none⟩ = some (.slice (A k) (N k) (C k)) := (hbel.cell hB1).trans (H1.out.2.2 k hl1).1
        clear hbel
        go_wp2_with (first | (at_mapUpdate; refine wpList_mapUpdate_own _ rfl _ _ _ 26 rfl 9 22 keyed9 Try.underlying26 _ w.heap.size k _ rfl hown (by unfold maxLen; omega) _ _ _ rfl rfl hkey (.held (.slice (A k) (N k) (C k))) [] rfl ?_; intro w1 hown1 hgrow1) | go_in)
        go_roundw
        case rel =>
          refine ⟨k + 1, by omega, by go_num, ?_, HB.out.grown hgrow1 HB.out.size (by simp)⟩
          have e : bD s (vals len1 A N C) (k + 1) = (bD s (vals len1 A N C) k).put (ky (s k)) (.held (.slice (A k) (N k) (C k))) := by
            show (bD s (vals len1 A N C) k).put (ky (s k)) (.held (vals len1 A N C k)) = _
            rw [vals, if_pos hl1]
          rw [e]
          exact hown1
        case measure => simp [intOf] <;> omega
      · clear hbel
        go_wp2_with (first | (at_mapUpdate; refine wpList_mapUpdate_own _ rfl _ _ _ 26 rfl 9 22 keyed9 Try.underlying26 _ w.heap.size k _ rfl hown (by unfold maxLen; omega) _ _ _ rfl rfl hkey (.held (.slice none 0 0)) [] rfl ?_; intro w1 hown1 hgrow1) | go_in)
        go_roundw
        case rel =>
          refine ⟨k + 1, by omega, by go_num, ?_, HB.out.grown hgrow1 HB.out.size (by simp)⟩
          have e : bD s (vals len1 A N C) (k + 1) = (bD s (vals len1 A N C) k).put (ky (s k)) (.held (.slice none 0 0)) := by
            show (bD s (vals len1 A N C) k).put (ky (s k)) (.held (vals len1 A N C k)) = _
            rw [vals, if_neg (by omega)]
          rw [e]
          exact hown1
        case measure => simp [intOf] <;> omega
    · obtain rfl : k = len0 := by omega
      go_wp2
      go_ret
      exact ⟨rfl, hown, hbel⟩

end Go.Proofs.Qxb6609015a
