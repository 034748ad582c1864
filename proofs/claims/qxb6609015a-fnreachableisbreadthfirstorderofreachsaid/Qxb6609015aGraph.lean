import Derived.Test.Qxb6609015aReach
namespace Go.Proofs.Qxb6609015a
open Go.RowKit Go.Maps

/-! ### the graph that zzBuildDirect lays -/
def rowL (N : Nat → Nat) (S : Nat → Nat → ByteArray) (i : Nat) : List ByteArray := (List.range (N i)).map (S i)
def allEl (N : Nat → Nat) (S : Nat → Nat → ByteArray) : Nat → List ByteArray
  | 0 => []
  | k + 1 => allEl N S k ++ rowL N S k

theorem allEl_len (N : Nat → Nat) (S : Nat → Nat → ByteArray) : ∀ k, (allEl N S k).length = cnt N k
  | 0 => rfl
  | k + 1 => by simp [allEl, rowL, cnt, allEl_len N S k]

theorem allEl_mem (N : Nat → Nat) (S : Nat → Nat → ByteArray) (e : ByteArray) : ∀ k, e ∈ allEl N S k ↔ ∃ i j, i < k ∧ j < N i ∧ e = S i j
  | 0 => by simp [allEl]
  | k + 1 => by
    unfold allEl
    rw [List.mem_append, allEl_mem N S e k]
    constructor
    · rintro (⟨i, j, hi, hj, h⟩ | h)
      · exact ⟨i, j, by omega, hj, h⟩
      · unfold rowL at h
        obtain ⟨j, hj, rfl⟩ := List.mem_map.1 h
        exact ⟨k, j, by omega, List.mem_range.1 hj, rfl⟩
    · rintro ⟨i, j, hi, hj, h⟩
      by_cases hk : i < k
      · exact .inl ⟨i, j, hk, hj, h⟩
      · obtain rfl : i = k := by omega
        exact .inr (List.mem_map.2 ⟨j, List.mem_range.2 hj, h.symm⟩)

/-- Which list t leads to. -/
def lIdx (s : Nat → ByteArray) (len0 len1 : Nat) (t : ByteArray) : Option Nat := match gIdx s t len0 with | some i => if i < len1 then some i else none | none => none
theorem lIdx_lt {s : Nat → ByteArray} {len0 len1 : Nat} {t : ByteArray} {i : Nat} (h : lIdx s len0 len1 t = some i) : i < len1 ∧ i < len0 ∧ s i = t := by
  unfold lIdx at h
  split at h
  · rename_i k hk
    split at h
    · rename_i hlt
      cases h
      exact ⟨hlt, gIdx_lt s t hk⟩
    · cases h
  · cases h

def succL (s : Nat → ByteArray) (len0 len1 : Nat) (N : Nat → Nat) (S : Nat → Nat → ByteArray) (t : ByteArray) : List ByteArray := match lIdx s len0 len1 t with | some i => rowL N S i | none => []
def pickA (s : Nat → ByteArray) (len0 len1 : Nat) (A : Nat → Option Addr) (t : ByteArray) : Option Addr := match lIdx s len0 len1 t with | some i => A i | none => none
def pickN (s : Nat → ByteArray) (len0 len1 : Nat) (C : Nat → Nat) (t : ByteArray) : Nat := match lIdx s len0 len1 t with | some i => C i | none => 0

theorem succL_mem {s : Nat → ByteArray} {len0 len1 : Nat} {N : Nat → Nat} {S : Nat → Nat → ByteArray} {t e : ByteArray} (h : e ∈ succL s len0 len1 N S t) : e ∈ allEl N S len1 := by
  unfold succL at h
  split at h
  · rename_i i hi
    obtain ⟨j, hj, rfl⟩ := List.mem_map.1 h
    exact (allEl_mem N S _ len1).2 ⟨i, j, (lIdx_lt hi).1, List.mem_range.1 hj, rfl⟩
  · simp at h

theorem gv_vals (s : Nat → ByteArray) (len0 len1 : Nat) (A : Nat → Option Addr) (N C : Nat → Nat) (S : Nat → Nat → ByteArray) (t : ByteArray) :
    gv s (vals len1 A N C) len0 t = .slice (pickA s len0 len1 A t) (succL s len0 len1 N S t).length (pickN s len0 len1 C t) := by
  unfold gv pickA pickN succL lIdx
  cases gIdx s t len0 with
  | none => rfl
  | some i =>
    show vals len1 A N C i = _
    unfold vals
    by_cases h : i < len1
    · simp [h, rowL]
    · simp [h]

theorem graph_of {w W : World} {len0 len1 bm : Nat} {s : Nat → ByteArray} {a1 : Option Addr} {cap1 B1 O1 : Nat} {A : Nat → Option Addr} {N C Bi Oi : Nat → Nat} {S : Nat → Nat → ByteArray}
    (h1 : Lsts w a1 len1 cap1 B1 O1 A N C Bi Oi S) (hb : Below w.heap.size w W) (hown : W.ownsMap Try.prog 9 heldR bm len0 (bD s (vals len1 A N C) len0)) :
    Graph W bm len0 (bD s (vals len1 A N C) len0) (succL s len0 len1 N S) (pickA s len0 len1 A) (pickN s len0 len1 C) (pickN s len0 len1 Bi) (pickN s len0 len1 Oi) where
  own := hown
  at' := fun t => by rw [at_bD, gv_vals s len0 len1 A N C S]
  row := fun t => by
    unfold pickA pickN succL
    cases hl : lIdx s len0 len1 t with
    | none => exact ⟨Nat.zero_le _, fun h => by simp at h, fun j hj => by simp at hj⟩
    | some i =>
      have hi := lIdx_lt hl
      have hr := (h1.2.2 i hi.1).2.below hb
      refine ⟨by simpa [rowL] using hr.1, fun h => hr.2.1 (by simpa [rowL] using h), fun j hj => ?_⟩
      have hj' : j < N i := by simpa [rowL] using hj
      have := hr.2.2 j hj'
      simpa [rowL, hj'] using this

/-- ZZreachable hands the call on. -/
theorem reach8 (W : World) (bm n : Nat) (D : DataW Value) (succ : ByteArray → List ByteArray) (A : ByteArray → Option Addr) (C B O : ByteArray → Nat) (U : List ByteArray) (nm : ByteArray)
    (hG : Graph W bm n D succ A C B O) (hU : ∀ x, ∀ e ∈ succ x, e ∈ U) (hUn : U.length ≤ 2097152) (hUs : ∀ e ∈ U, e.size ≤ maxLen) (hnm : nm.size ≤ maxLen) :
    Calls Try.prog 8 #[.map (some bm), .string nm] W fun e w' => ReachRet W nm succ w' e := by
  have HC := hidOf (reach13 W bm n D succ A C B O U nm hG hU hUn hUs hnm)
  clear hG hU hUn hUs hnm
  go_enter Try.func8, Try.ntmps8
  go_wp2_with fail
  refine HC.out.mono ?_
  rintro e w' ⟨fv, p, rfl, hp, hown, hb⟩
  have HH := hidOf (And.intro hp (And.intro hown hb))
  clear hp hown hb
  go_wp2
  go_ret
  exact ⟨fv, p, rfl, HH.out.1, HH.out.2.1, HH.out.2.2⟩

/-- One key more: a new name with one step. -/
theorem Graph.lift {W W' : World} {bm n : Nat} {D : DataW Value} {succ : ByteArray → List ByteArray} {A : ByteArray → Option Addr} {C B O : ByteArray → Nat} (h : Graph W bm n D succ A C B O) (root nm : ByteArray) (blk : Nat) (hb : Below W.heap.size W W' ∨ ∃ b1, W.grownBy W' (some b1) ∧ ∀ t, 0 < (succ t).length → B t ≠ b1)
    (hc : W'.cell? ⟨blk, 0, none⟩ = some (.string nm)) (hlt : blk < W'.heap.size) (hnm : nm.size ≤ maxLen) (hown : W'.ownsMap Try.prog 9 heldR bm (n + 1) (D.put (ky root) (.held (.slice (some ⟨blk, 0, none⟩) 1 1)))) :
    Graph W' bm (n + 1) (D.put (ky root) (.held (.slice (some ⟨blk, 0, none⟩) 1 1))) (fun t => if t = root then [nm] else succ t) (fun t => if t = root then some ⟨blk, 0, none⟩ else A t) (fun t => if t = root then 1 else C t) (fun t => if t = root then blk else B t) (fun t => if t = root then 0 else O t) where
  own := hown
  at' := fun t => by
    by_cases e : t = root
    · subst e
      rw [atKey_put_same h.own.isMap (ky_key _)]
      simp
    · rw [atKey_put_other (fun h => e (ky_inj h)), h.at' t]
      simp [e]
  row := fun t => by
    by_cases e : t = root
    · subst e
      simp only [if_pos]
      refine ⟨by simp [maxLen], fun _ => ⟨rfl, hlt⟩, fun j hj => ?_⟩
      obtain rfl : j = 0 := by simpa using hj
      exact ⟨hc, hnm⟩
    · simp only [if_neg e]
      rcases hb with hb | ⟨b1, hg, hne⟩
      · exact (h.row t).below hb
      · have hr := h.row t
        exact ⟨hr.1, fun h0 => ⟨(hr.2.1 h0).1, Nat.lt_of_lt_of_le (hr.2.1 h0).2 hg.size⟩, fun j hj => ⟨hg.cell (hr.2.2 j hj).1 (by have := hne t (by omega); simpa using this), (hr.2.2 j hj).2⟩⟩

end Go.Proofs.Qxb6609015a
