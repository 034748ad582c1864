import Derived.Test.Qxb6615769aLeaf2
namespace Go.Proofs.Qxb6615769a
open Go.RowKit Go.Maps Go.WideMaps

theorem kk_key (a b : Int) : WideAt.IsKeyLit (kk a b) := trivial

theorem kk_inj {a b c d : Int} (wa : wf64 a) (wb : wf64 b) (wc : wf64 c) (wd : wf64 d) (h : kk a b = kk c d) : a = c ∧ b = d := by
  have h1 := keyOf_kk wa wb
  have h2 := keyOf_kk wc wd
  rw [h] at h1
  have := keyed.inj h1 h2
  simpa using this

theorem wf_min {a b : Int} (wa : wf64 a) (wb : wf64 b) : wf64 (min a b) := by
  rcases (by omega : min a b = a ∨ min a b = b) with h | h <;> rw [h] <;> assumption
theorem wf_max {a b : Int} (wa : wf64 a) (wb : wf64 b) : wf64 (max a b) := by
  rcases (by omega : max a b = a ∨ max a b = b) with h | h <;> rw [h] <;> assumption

/-- The key of an unordered pair. -/
def uk (a b : Int) : Lit := kk (min a b) (max a b)
theorem uk_comm (a b : Int) : uk a b = uk b a := by
  unfold uk
  rw [show min a b = min b a by omega, show max a b = max b a by omega]
theorem uk_key (a b : Int) : WideAt.IsKeyLit (uk a b) := trivial

theorem sameB_iff (a b c d : Int) : sameB a b c d = true ↔ (a = c ∧ b = d) ∨ (a = d ∧ b = c) := by simp [sameB]

theorem sameB_self (a b : Int) : sameB a b a b = true := by simp [sameB]

theorem uk_same {a b c d : Int} (wa : wf64 a) (wb : wf64 b) (wc : wf64 c) (wd : wf64 d) : uk a b = uk c d ↔ sameB a b c d = true := by
  rw [sameB_iff]
  constructor
  · intro h
    have := kk_inj (wf_min wa wb) (wf_max wa wb) (wf_min wc wd) (wf_max wc wd) h
    omega
  · rintro (⟨rfl, rfl⟩ | ⟨rfl, rfl⟩)
    · rfl
    · exact uk_comm _ _

/-- The set after the first k sends. -/
def setK (X Y : Nat → Int) (k : Nat) : DataW Unit := setOf (.lit (.bool true)) ((List.range k).map fun i => uk (X i) (Y i))

theorem setK_zero (X Y : Nat → Int) : setK X Y 0 = .map [] := rfl
theorem setK_succ (X Y : Nat → Int) (k : Nat) : setK X Y (k + 1) = (setK X Y k).put (uk (X k) (Y k)) (.lit (.bool true)) := by
  unfold setK
  rw [List.range_succ, List.map_append]
  exact setOf_snoc _ _ _

theorem keys_setK (X Y : Nat → Int) (k : Nat) : ∀ x ∈ (List.range k).map (fun i => uk (X i) (Y i)), WideAt.IsKeyLit x := by
  intro x hx
  obtain ⟨i, _, rfl⟩ := List.mem_map.1 hx
  exact uk_key _ _

theorem tidy_setK (X Y : Nat → Int) (k : Nat) : Tidy (setK X Y k) := tidy_setOf _ _ (keys_setK X Y k)

/-- IS A SEND BETWEEN a AND b AMONG THE FIRST k? -/
def seenB (X Y : Nat → Int) (k : Nat) (a b : Int) : Bool := (List.range k).any fun j => sameB (X j) (Y j) a b
theorem seenB_zero (X Y : Nat → Int) (a b : Int) : seenB X Y 0 a b = false := rfl
theorem seenB_succ (X Y : Nat → Int) (k : Nat) (a b : Int) : seenB X Y (k + 1) a b = (seenB X Y k a b || sameB (X k) (Y k) a b) := by
  simp [seenB, List.range_succ]
theorem seenB_mono (X Y : Nat → Int) {j k : Nat} (h : j < k) {a b : Int} (hs : sameB (X j) (Y j) a b = true) : seenB X Y k a b = true := by
  unfold seenB
  rw [List.any_eq_true]
  exact ⟨j, List.mem_range.2 h, hs⟩
theorem sameB_comm (a b c d : Int) : sameB a b c d = sameB a b d c := by
  rw [Bool.eq_iff_iff, sameB_iff, sameB_iff]
  omega
theorem seenB_comm (X Y : Nat → Int) (k : Nat) (a b : Int) : seenB X Y k a b = seenB X Y k b a := by
  unfold seenB
  congr 1
  funext j
  exact sameB_comm _ _ _ _

theorem has_setK (X Y : Nat → Int) (n : Nat) (hw : ∀ i, i < n → wf64 (X i) ∧ wf64 (Y i)) {a b : Int} (wa : wf64 a) (wb : wf64 b) : ∀ k, k ≤ n → has (setK X Y k) (uk a b) = seenB X Y k a b
  | 0, _ => rfl
  | k + 1, h => by
    have ih := has_setK X Y n hw wa wb k (by omega)
    obtain ⟨wx, wy⟩ := hw k (by omega)
    rw [setK_succ, seenB_succ]
    have hiff := uk_same wx wy wa wb
    by_cases e : uk a b = uk (X k) (Y k)
    · rw [e, has_put_same (tidy_setK X Y k).isMap (uk_key _ _), hiff.1 e.symm]
      simp
    · rw [has_put_other e, ih]
      have : sameB (X k) (Y k) a b = false := by
        cases hs : sameB (X k) (Y k) a b
        · rfl
        · exact absurd (hiff.2 hs).symm e
      simp [this]

theorem at_setK (X Y : Nat → Int) (l : Lit) : ∀ k, (setK X Y k).atKey l (.lit (.bool false)) = .lit (.bool (has (setK X Y k) l))
  | 0 => rfl
  | k + 1 => by
    have ih := at_setK X Y l k
    rw [setK_succ]
    by_cases e : l = uk (X k) (Y k)
    · rw [e, has_put_same (tidy_setK X Y k).isMap (uk_key _ _), atKey_put_same (tidy_setK X Y k).isMap (uk_key _ _)]
    · rw [has_put_other e, atKey_put_other e, ih]

/-- WHAT A LOOK-UP GIVES. -/
theorem look_setK (X Y : Nat → Int) {n k : Nat} (hw : ∀ i, i < n → wf64 (X i) ∧ wf64 (Y i)) (hk : k ≤ n) {a b : Int} (wa : wf64 a) (wb : wf64 b) :
    (setK X Y k).atKey (kk (min a b) (max a b)) (.lit (.bool false)) = .lit (.bool (seenB X Y k a b)) := by
  rw [← has_setK X Y n hw wa wb k hk]
  exact at_setK X Y _ k

theorem size_setK (X Y : Nat → Int) {n k : Nat} (hw : ∀ i, i < n → wf64 (X i) ∧ wf64 (Y i)) (hk : k < n) :
    Maps.size (setK X Y (k + 1)) = if seenB X Y k (X k) (Y k) then Maps.size (setK X Y k) else Maps.size (setK X Y k) + 1 := by
  rw [setK_succ, size_put (tidy_setK X Y k), has_setK X Y n hw (hw k hk).1 (hw k hk).2 k (by omega)]

theorem size_setK_le (X Y : Nat → Int) (k : Nat) : Maps.size (setK X Y k) ≤ k := by
  induction k with
  | zero => exact Nat.le_refl _
  | succ k ih =>
    rw [setK_succ, size_put (tidy_setK X Y k)]
    split <;> omega

/-- samePairB1 inside a region that draws its order. -/
theorem same_quiet (a b c d : Int) (w : World) (n : Nat) :
    Calls Try.prog 10 #[.int .i64 a, .int .i64 b, .int .i64 c, .int .i64 d] (w.drewN n) fun e w'' => e = .returned (.bool (sameB a b c d)) ∧ ∃ m, w'' = w.drewN m :=
  (same_any a b c d (w.drewN n)).mono fun _ _ ⟨he, hm⟩ => ⟨he, n, hm.symm⟩

theorem same_quiet_at {a b c d : Int} {x : Bool} (h : sameB a b c d = x) (w : World) (n : Nat) :
    Calls Try.prog 10 #[.int .i64 a, .int .i64 b, .int .i64 c, .int .i64 d] (w.drewN n) fun e w'' => e = .returned (.bool x) ∧ ∃ m, w'' = w.drewN m := by
  subst h
  exact same_quiet a b c d w n

/-- 'ex[[2]int{lo, hi}]': what the set says of a pair. -/
theorem lookK {X Y : Nat → Int} {n k m B : Nat} {w : World} (hown : w.ownsMap Try.prog 22 (plainElem Try.prog 4) B m (setK X Y k)) (hw : ∀ i, i < n → wf64 (X i) ∧ wf64 (Y i)) (hk : k ≤ n) {a b : Int} (wa : wf64 a) (wb : wf64 b) :
    (Instr.lookup 27 (.map (some B)) (.agg #[.int .i64 (min a b), .int .i64 (max a b)]) false).run Try.prog w = .ok (.bool (seenB X Y k a b)) w := by
  obtain ⟨x, hrun, hx⟩ := lookup_bool hown keyed Try.underlying27 Try.underlying4 (zero4 _) (keyOf_kk (wf_min wa wb) (wf_max wa wb))
  rw [look_setK X Y hw hk wa wb] at hx
  simp only [DataW.lit.injEq, Lit.bool.injEq] at hx
  rw [hx]
  exact hrun

end Go.Proofs.Qxb6615769a
