import Derived.Test.Qxb6615769aRows
import Derived.WalkKit
import Derived.WalkSpells
import Derived.WalkLawsBesides
import Derived.Maps.OwnSet
import Derived.WideKeyPair
import Derived.DeepKeys4
import Derived.Deep.QuietTactic
import Derived.BigQuiet
import Derived.Deep.RegionWith
namespace Go.Proofs.Qxb6615769a
open Go.RowKit Go.Maps Go.WideMaps

/-! ### closed facts of the dump -/
theorem laidOut : laidOutB Try.prog = true := by kernel_rfl
theorem cells22 : Try.prog.cellsOf 22 = 2 := by kernel_rfl
theorem cells3 : Try.prog.cellsOf 3 = 1 := by kernel_rfl
theorem row22 : (22 : TypeId) < Try.prog.types.size := of_decide_eq_true (by kernel_rfl)
theorem arr22 : ArrKey Try.prog 22 3 2 := ⟨Try.underlying22, by kernel_rfl, cells3, cells22⟩
theorem wide22 : (match Try.prog.underlying 22 with | some (.array _ _) | some (.struct _) => true | _ => false) = true := by rw [Try.underlying22]
theorem law22 : KeyLaw Try.prog 22 := deep_law_laid laidOut (m := 2) (by omega) row22 (by kernel_rfl) wide22
theorem keyed : Keyed Try.prog 22 := Keyed.of_law law22
theorem zero4 (w : World) : (zeroValue 4).run Try.prog w = .ok (.bool false) w := by kernel_rfl
theorem typesSize : ∃ m, Try.prog.types.size = m + 1 := ⟨Try.prog.types.size - 1, by have h : 22 < Try.prog.types.size := row22; omega⟩

/-- The key of a pair, as the reader tells it. -/
def kk (a b : Int) : Lit := .string (keyBytes [.int .i64 a, .int .i64 b])
def wf64 (a : Int) : Prop := (Lit.int .i64 a).wf = true
theorem keyOf_kk {a b : Int} (wa : wf64 a) (wb : wf64 b) : keyOf Try.prog 22 (.agg #[.int .i64 a, .int .i64 b]) = some (kk a b) :=
  keyOf_pair arr22 Try.underlying3 typesSize wa wb

def sameB (a b c d : Int) : Bool := (a == c && b == d) || (a == d && b == c)

set_option maxHeartbeats 400000 in
theorem same_any (a b c d : Int) (w : World) :
    Calls Try.prog 10 #[.int .i64 a, .int .i64 b, .int .i64 c, .int .i64 d] w fun e w' => e = .returned (.bool (sameB a b c d)) ∧ w = w' := by
  unfold sameB
  go_enter Try.func10, Try.ntmps10
  go_wp2
  all_goals
    go_ret
    exact ⟨by first | (simp [*]; done) | (simp [*]; omega), rfl⟩

set_option maxHeartbeats 400000 in
theorem unordered_any (a b : Int) (w : World) :
    Calls Try.prog 18 #[.int .i64 a, .int .i64 b] w fun e w' => e = .returned (.agg #[.int .i64 (min a b), .int .i64 (max a b)]) ∧ w' = w.alloc (.cells #[.int .i64 (min a b), .int .i64 (max a b)] 22) := by
  by_cases h1 : b < a
  · have e1 : min a b = b := by omega
    have e2 : max a b = a := by omega
    rw [e1, e2]
    clear e1 e2
    have h2 : ¬ a < b := by omega
    go_enter Try.func18, Try.ntmps18
    go_wp2
    exact bodyPost_ret (v := .agg #[.int .i64 b, .int .i64 a]) (by simp [results, Try.results18, go_sem]) rfl ⟨rfl, rfl⟩
  · have e1 : min a b = a := by omega
    have e2 : max a b = b := by omega
    rw [e1, e2]
    clear e1 e2
    by_cases h2 : a < b
    · go_enter Try.func18, Try.ntmps18
      go_wp2
      exact bodyPost_ret (v := .agg #[.int .i64 a, .int .i64 b]) (by simp [results, Try.results18, go_sem]) rfl ⟨rfl, rfl⟩
    · obtain rfl : a = b := by omega
      clear h1 h2
      go_enter Try.func18, Try.ntmps18
      go_wp2
      exact bodyPost_ret (v := .agg #[.int .i64 a, .int .i64 a]) (by simp [results, Try.results18, go_sem]) rfl ⟨rfl, rfl⟩

set_option maxHeartbeats 400000 in
theorem new_any (m1 m2 : Option Nat) (w : World) :
    Calls Try.prog 11 #[.map m1, .map m2] w fun e w' => e = .returned (.pointer (some ⟨w.heap.size, 0, none⟩)) ∧ w'.cell? ⟨w.heap.size, 12, none⟩ = some (.map m1) ∧ w'.cell? ⟨w.heap.size, 14, none⟩ = some (.map m2) ∧ w.grownBy w' none ∧ w'.heap.size = w.heap.size + 1 := by
  go_enter Try.func11, Try.ntmps11
  go_wp2
  go_ret
  exact ⟨rfl, by go_simp, by go_simp, World.grownBy_alloc _ _ _, by simp⟩

set_option maxHeartbeats 400000 in
theorem note19 (rb b n : Nat) (D : DataW Unit) (a c : Int) (w : World) (c0 : w.cell? ⟨rb, 12, none⟩ = some (.map (some b))) (hown : w.ownsMap Try.prog 22 (plainElem Try.prog 4) b n D) (hn : n < maxLen)
    (wa : wf64 (min a c)) (wc : wf64 (max a c)) :
    Calls Try.prog 19 #[.pointer (some ⟨rb, 0, none⟩), .agg #[.int .i64 a, .int .i64 c, .int .i64 0, .int .i64 0, .int .i64 0, .float .f64 0, .bool false, .int .u8 0, .bool false, .bool false]] w fun e w' => e = .returned (.tuple #[]) ∧ w'.ownsMap Try.prog 22 (plainElem Try.prog 4) b (n + 1) (D.put (kk (min a c) (max a c)) (.lit (.bool true))) ∧ w.grownBy w' (some b) := by
  have hlt : rb < w.heap.size := block_lt_of_cell c0
  obtain ⟨w1, hrun, hown1, hg⟩ := ((hown.alloc (.cells #[.int .i64 a, .int .i64 c, .int .i64 0, .int .i64 0, .int .i64 0, .float .f64 0, .bool false, .int .u8 0, .bool false, .bool false] 50)).alloc (.cells #[.int .i64 (min a c), .int .i64 (max a c)] 22)).drew.update keyed Try.underlying27 hn (keyOf_kk wa wc) (plainElem_bool Try.underlying4 true)
  have hg' : w.grownBy w1 (some b) := ((World.grownBy_alloc w (.cells #[.int .i64 a, .int .i64 c, .int .i64 0, .int .i64 0, .int .i64 0, .float .f64 0, .bool false, .int .u8 0, .bool false, .bool false] 50) (some b)).trans (World.grownBy_alloc _ (.cells #[.int .i64 (min a c), .int .i64 (max a c)] 22) (some b))).trans ⟨hg.os, hg.tape, hg.output, hg.size, hg.block⟩
  have H : Hid (w1.ownsMap Try.prog 22 (plainElem Try.prog 4) b (n + 1) (D.put (kk (min a c) (max a c)) (.lit (.bool true))) ∧ w.grownBy w1 (some b)) := ⟨hown1, hg'⟩
  clear hown1 hg hg' hown wa wc hn
  go_enter Try.func19, Try.ntmps19
  go_wp2
  go_region_with (go_at_call 18; refine (unordered_any _ _ _).mono ?_; rintro e w' ⟨rfl, rfl⟩)
  all_goals
    go_end0
    exact ⟨rfl, H.out⟩

theorem ex_any (rb : Nat) (v : Option Nat) (w : World) (c0 : w.cell? ⟨rb, 12, none⟩ = some (.map v)) :
    Calls Try.prog 16 #[.pointer (some ⟨rb, 0, none⟩)] w fun e w' => e = .returned (.map v) ∧ w = w' := by
  go_enter Try.func16, Try.ntmps16
  go_wp2
  go_ret
  exact ⟨rfl, rfl⟩

theorem plainElem_bool_inv {H : Type} {P : Program} {e : TypeId} (he : P.underlying e = some .bool) {v : Value} {z : DataW H × List MemPlace} (h : plainElem P e v = some z) : ∃ x, v = .bool x ∧ z = (.lit (.bool x), []) := by
  unfold plainElem at h
  rw [he] at h
  cases v <;> simp at h
  subst h
  exact ⟨_, rfl, rfl⟩

theorem lookup_bool {H : Type} {P : Program} {k t e : TypeId} {w : World} {b n : Nat} {D : DataW H} (h : w.ownsMap P k (plainElem P e) b n D) (K : Keyed P k) (ht : P.underlying t = some (.map k e)) (he : P.underlying e = some .bool) (hz : (zeroValue e).run P w = .ok (.bool false) w)
    {key : Value} {kl : Lit} (hkey : keyOf P k key = some kl) : ∃ c, (Instr.lookup t (.map (some b)) key false).run P w = .ok (.bool c) w ∧ D.atKey kl (.lit (.bool false)) = .lit (.bool c) := by
  obtain ⟨v, ps, hrun, hv⟩ := h.lookup K ht hz (plainElem_bool he false) hkey
  obtain ⟨c, rfl, hc⟩ := plainElem_bool_inv he hv
  simp only [Prod.mk.injEq] at hc
  exact ⟨c, hrun, hc.1⟩

def kindN (del ex : Bool) : Int := if del then 2 else if ex then 3 else 1

set_option maxHeartbeats 400000 in
theorem kind20 (rb b n : Nat) (m : Option Nat) (D : DataW Unit) (a c : Int) (del ex : Bool) (w : World) (c0 : w.cell? ⟨rb, 12, none⟩ = some (.map (some b))) (c1 : w.cell? ⟨rb, 14, none⟩ = some (.map m))
    (hown : w.ownsMap Try.prog 22 (plainElem Try.prog 4) b n D)
    (hdel : (Instr.lookup 27 (.map m) (.agg #[.int .i64 a, .int .i64 c]) false).run Try.prog w = .ok (.bool del) w)
    (hex : D.atKey (kk (min a c) (max a c)) (.lit (.bool false)) = .lit (.bool ex))
    (wa : wf64 (min a c)) (wc : wf64 (max a c)) :
    Calls Try.prog 20 #[.pointer (some ⟨rb, 0, none⟩), .int .i64 a, .int .i64 c] w fun e w' => e = .returned (.int .u8 (kindN del ex)) ∧ w.grownBy w' none := by
  have hlt : rb < w.heap.size := block_lt_of_cell c0
  obtain ⟨x, hrun, hx⟩ := lookup_bool ((hown.alloc (.cells #[.int .i64 (min a c), .int .i64 (max a c)] 22)).drew) keyed Try.underlying27 Try.underlying4 (zero4 _) (keyOf_kk wa wc)
  obtain rfl : ex = x := by rw [hex] at hx; simpa using hx
  have hg : Hid (w.grownBy (w.alloc (.cells #[.int .i64 (min a c), .int .i64 (max a c)] 22)).drew none) := ⟨rfl, rfl, rfl, by simp, fun k hk _ => Below.heap_alloc _ _ _ hk⟩
  have hg0 : Hid (w.grownBy w none) := World.grownBy.refl w none
  clear hown hex hx wa wc
  unfold kindN
  cases del
  · cases ex
    · go_enter Try.func20, Try.ntmps20
      go_wp2
      go_region_with (go_at_call 18; refine (unordered_any _ _ _).mono ?_; rintro e w' ⟨rfl, rfl⟩)
      all_goals
        go_wp2
        go_ret
        exact ⟨rfl, hg.out⟩
    · go_enter Try.func20, Try.ntmps20
      go_wp2
      go_region_with (go_at_call 18; refine (unordered_any _ _ _).mono ?_; rintro e w' ⟨rfl, rfl⟩)
      all_goals
        go_wp2
        go_ret
        exact ⟨rfl, hg.out⟩
  · go_enter Try.func20, Try.ntmps20
    go_wp2
    go_ret
    exact ⟨rfl, hg0.out⟩

theorem bytes14 (a : Option Addr) (len cap : Nat) (w : World) (h : len ≤ maxLen) :
    Calls Try.prog 14 #[.slice a len cap] w fun e w' => e = .returned (.bool (decide (len ≤ 1048576))) ∧ w = w' := by
  unfold maxLen at h
  by_cases h1 : len ≤ 1048576
  · go_enter Try.func14, Try.ntmps14
    go_wp2
    go_ret
    exact ⟨by simp [h1], rfl⟩
  · go_enter Try.func14, Try.ntmps14
    go_wp2
    go_ret
    exact ⟨by simp [h1], rfl⟩

theorem bytes15 (a : Option Addr) (len cap : Nat) (w : World) (h : len ≤ maxLen) :
    Calls Try.prog 15 #[.slice a len cap] w fun e w' => e = .returned (.bool (decide (len ≤ 1048576))) ∧ w = w' := by
  unfold maxLen at h
  by_cases h1 : len ≤ 1048576
  · go_enter Try.func15, Try.ntmps15
    go_wp2
    go_ret
    exact ⟨by simp [h1], rfl⟩
  · go_enter Try.func15, Try.ntmps15
    go_wp2
    go_ret
    exact ⟨by simp [h1], rfl⟩

theorem bytes17 (a : Option Addr) (len cap : Nat) (a' : Option Addr) (len' cap' : Nat) (w : World) (h : len ≤ maxLen) (h' : len' ≤ maxLen) :
    Calls Try.prog 17 #[.slice a len cap, .slice a' len' cap'] w fun e w' => e = .returned (.bool (decide (len + len' ≤ 1048576))) ∧ w = w' := by
  unfold maxLen at h h'
  by_cases h1 : len ≤ 1048576
  · by_cases h2 : len' ≤ 1048576
    · by_cases h3 : len + len' ≤ 1048576
      · go_enter Try.func17, Try.ntmps17
        go_wp2
        go_ret
        exact ⟨by simp [h3], rfl⟩
      · go_enter Try.func17, Try.ntmps17
        go_wp2
        go_ret
        exact ⟨by simp [h3], rfl⟩
    · have h3 : ¬ len + len' ≤ 1048576 := by omega
      go_enter Try.func17, Try.ntmps17
      go_wp2
      go_ret
      exact ⟨by simp [h3], rfl⟩
  · have h3 : ¬ len + len' ≤ 1048576 := by omega
    go_enter Try.func17, Try.ntmps17
    go_wp2
    go_ret
    exact ⟨by simp [h3], rfl⟩

end Go.Proofs.Qxb6615769a
