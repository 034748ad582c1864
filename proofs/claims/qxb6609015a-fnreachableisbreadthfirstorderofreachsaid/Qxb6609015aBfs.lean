namespace Go.Proofs.Qxb6609015a

/-! ### PLAIN: breadth first, on lists of names. No Go in sight. -/
section
variable {α : Type} [DecidableEq α]

/-- e stands in l, as a Bool (at any type of names). -/
def inL (e : α) (l : List α) : Bool := decide (e ∈ l)
theorem inL_iff (e : α) (l : List α) : inL e l = true ↔ e ∈ l := by simp [inL]
theorem inL_not (e : α) (l : List α) : inL e l = false ↔ ¬ e ∈ l := by simp [inL]
def add (nm : α) (f : List α) (e : α) : List α := if e ∈ nm :: f then f else f ++ [e]
def scan (nm : α) (f : List α) (ss : List α) : List α := ss.foldl (add nm) f
/-- What has been found after p names have been taken off the queue. -/
def Fs (nm : α) (succ : α → List α) : Nat → List α
  | 0 => []
  | p + 1 => match (nm :: Fs nm succ p)[p]? with
    | some x => scan nm (Fs nm succ p) (succ x)
    | none => Fs nm succ p

theorem add_in (nm : α) (f : List α) (e : α) (h : inL e (nm :: f) = true) : add nm f e = f := if_pos ((inL_iff _ _).1 h)
theorem add_out (nm : α) (f : List α) (e : α) (h : inL e (nm :: f) = false) : add nm f e = f ++ [e] := if_neg ((inL_not _ _).1 h)

theorem add_nodup (nm : α) (f : List α) (e : α) (h : (nm :: f).Nodup) : (nm :: add nm f e).Nodup := by
  unfold add
  split
  · exact h
  · rename_i hne
    rw [List.nodup_cons] at h ⊢
    simp only [List.mem_cons, not_or] at hne
    refine ⟨fun hm => ?_, ?_⟩
    · rcases List.mem_append.1 hm with h1 | h1
      · exact h.1 h1
      · simp at h1; exact hne.1 h1.symm
    · rw [List.nodup_append]
      exact ⟨h.2, by simp, fun a ha b hb => by simp at hb; subst hb; exact fun e => hne.2 (e ▸ ha)⟩

theorem add_prefix (nm : α) (f : List α) (e : α) : f <+: add nm f e := by
  unfold add
  split
  · exact List.prefix_refl f
  · exact List.prefix_append f [e]

theorem add_sub (nm : α) (f : List α) (e : α) (U : List α) (h : ∀ x ∈ f, x ∈ U) (he : e ∈ U) : ∀ x ∈ add nm f e, x ∈ U := by
  unfold add
  split
  · exact h
  · intro x hx
    rcases List.mem_append.1 hx with h1 | h1
    · exact h x h1
    · simp at h1; rw [h1]; exact he

theorem scan_snoc (nm : α) (f ss : List α) (e : α) : scan nm f (ss ++ [e]) = add nm (scan nm f ss) e := by simp [scan]

theorem scan_take (nm : α) (f ss : List α) (i : Nat) (hi : i < ss.length) : scan nm f (ss.take (i + 1)) = add nm (scan nm f (ss.take i)) (ss[i]'hi) := by
  rw [List.take_succ_eq_append_getElem hi, scan_snoc]

theorem scan_nodup (nm : α) : ∀ (ss f : List α), (nm :: f).Nodup → (nm :: scan nm f ss).Nodup
  | [], _, h => h
  | e :: r, f, h => scan_nodup nm r (add nm f e) (add_nodup nm f e h)

theorem scan_prefix (nm : α) : ∀ (ss f : List α), f <+: scan nm f ss
  | [], f => List.prefix_refl f
  | e :: r, f => (add_prefix nm f e).trans (scan_prefix nm r (add nm f e))

theorem scan_sub (nm : α) (U : List α) : ∀ (ss f : List α), (∀ x ∈ f, x ∈ U) → (∀ e ∈ ss, e ∈ U) → ∀ x ∈ scan nm f ss, x ∈ U
  | [], _, h, _ => h
  | e :: r, f, h, he => scan_sub nm U r (add nm f e) (add_sub nm f e U h (he e (by simp))) (fun x hx => he x (by simp [hx]))

theorem Fs_nodup (nm : α) (succ : α → List α) : ∀ p, (nm :: Fs nm succ p).Nodup
  | 0 => by simp [Fs]
  | p + 1 => by
    unfold Fs
    split
    · exact scan_nodup nm _ _ (Fs_nodup nm succ p)
    · exact Fs_nodup nm succ p

theorem Fs_step (nm : α) (succ : α → List α) (p : Nat) : Fs nm succ p <+: Fs nm succ (p + 1) := by
  show _ <+: (match (nm :: Fs nm succ p)[p]? with | some x => scan nm (Fs nm succ p) (succ x) | none => Fs nm succ p)
  split
  · exact scan_prefix nm _ _
  · exact List.prefix_refl _

theorem Fs_some (nm : α) (succ : α → List α) (p : Nat) (x : α) (h : (nm :: Fs nm succ p)[p]? = some x) : Fs nm succ (p + 1) = scan nm (Fs nm succ p) (succ x) := by
  show (match (nm :: Fs nm succ p)[p]? with | some x => scan nm (Fs nm succ p) (succ x) | none => Fs nm succ p) = _
  rw [h]
theorem Fs_none (nm : α) (succ : α → List α) (p : Nat) (h : (nm :: Fs nm succ p)[p]? = none) : Fs nm succ (p + 1) = Fs nm succ p := by
  show (match (nm :: Fs nm succ p)[p]? with | some x => scan nm (Fs nm succ p) (succ x) | none => Fs nm succ p) = _
  rw [h]

theorem Fs_mono (nm : α) (succ : α → List α) {p q : Nat} (h : p ≤ q) : Fs nm succ p <+: Fs nm succ q := by
  induction h with
  | refl => exact List.prefix_refl _
  | step _ ih => exact ih.trans (Fs_step nm succ _)

theorem Fs_sub (nm : α) (succ : α → List α) (U : List α) (hU : ∀ x, ∀ e ∈ succ x, e ∈ U) : ∀ p, ∀ x ∈ Fs nm succ p, x ∈ U
  | 0 => by simp [Fs]
  | p + 1 => by
    unfold Fs
    split
    · exact scan_sub nm U _ _ (Fs_sub nm succ U hU p) (hU _)
    · exact Fs_sub nm succ U hU p

theorem length_le_of_nodup : ∀ (l U : List α), l.Nodup → (∀ x ∈ l, x ∈ U) → l.length ≤ U.length
  | [], _, _, _ => Nat.zero_le _
  | x :: r, U, hn, hs => by
    rw [List.nodup_cons] at hn
    have hx : x ∈ U := hs x (by simp)
    have ih := length_le_of_nodup r (U.erase x) hn.2 (fun y hy => (List.mem_erase_of_ne (fun e => hn.1 (by rw [← e]; exact hy))).2 (hs y (by simp [hy])))
    rw [List.length_erase_of_mem hx] at ih
    have := List.length_pos_of_mem hx
    simp only [List.length_cons]
    omega

theorem scan_len (nm : α) (U f ss : List α) (hn : (nm :: f).Nodup) (hf : ∀ x ∈ f, x ∈ U) (hs : ∀ e ∈ ss, e ∈ U) : (scan nm f ss).length ≤ U.length :=
  length_le_of_nodup _ _ (List.nodup_cons.1 (scan_nodup nm ss f hn)).2 (scan_sub nm U ss f hf hs)

end

end Go.Proofs.Qxb6609015a
