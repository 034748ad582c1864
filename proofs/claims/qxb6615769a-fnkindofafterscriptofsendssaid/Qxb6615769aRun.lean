import Derived.Test.Qxb6615769aPlain
namespace Go.Proofs.Qxb6615769a
open Go.RowKit Go.Maps Go.WideMaps

/-- A RUN IN MEMORY: block rb holds the struct; its exchanged map is block B, which reads as D (at most n entries); its delivered map is 'm'. -/
def Run (W : World) (rb B n : Nat) (m : Option Nat) (D : DataW Unit) : Prop :=
  W.ownsMap Try.prog 22 (plainElem Try.prog 4) B n D ∧ W.cell? ⟨rb, 12, none⟩ = some (.map (some B)) ∧ W.cell? ⟨rb, 14, none⟩ = some (.map m)

theorem Run.grown {W W' : World} {rb B n : Nat} {m : Option Nat} {D : DataW Unit} {row : Option Nat} (h : Run W rb B n m D) (hg : W.grownBy W' row) (h1 : row ≠ some B) (h2 : row ≠ some rb) : Run W' rb B n m D :=
  ⟨h.1.kept hg (fun e => h1 e.symm), hg.cell h.2.1 (fun e => h2 e.symm), hg.cell h.2.2 (fun e => h2 e.symm)⟩

theorem Run.drewN {W : World} {rb B n : Nat} {m : Option Nat} {D : DataW Unit} (h : Run W rb B n m D) (q : Nat) : Run (W.drewN q) rb B n m D := h

theorem Run.note {W : World} {rb B n k : Nat} {m : Option Nat} {X Y : Nat → Int} (h : Run W rb B k m (setK X Y k)) (hne : rb ≠ B) (hw : ∀ i, i < n → wf64 (X i) ∧ wf64 (Y i)) (hk : k < n) (hn : n ≤ 1048576) :
    Calls Try.prog 12 #[.pointer (some ⟨rb, 0, none⟩), .int .i64 (X k), .int .i64 (Y k)] W fun e w' => e = .returned (.tuple #[]) ∧ Run w' rb B (k + 1) m (setK X Y (k + 1)) ∧ W.grownBy w' (some B) := by
  refine (note_any rb B k (setK X Y k) (X k) (Y k) W h.2.1 h.1 (by unfold maxLen; omega) (wf_min (hw k hk).1 (hw k hk).2) (wf_max (hw k hk).1 (hw k hk).2)).mono ?_
  rintro e w' ⟨rfl, h1, h2⟩
  refine ⟨rfl, ⟨?_, h2.cell h.2.1 (fun e => hne (Option.some.inj e)), h2.cell h.2.2 (fun e => hne (Option.some.inj e))⟩, h2⟩
  rw [setK_succ]
  exact h1

theorem look_none (w : World) {a b : Int} (wa : wf64 a) (wb : wf64 b) : (Instr.lookup 27 (.map none) (.agg #[.int .i64 a, .int .i64 b]) false).run Try.prog w = .ok (.bool false) w :=
  Maps.look_nil false keyed Try.underlying27 (zero4 w) (keyOf_kk wa wb)

theorem Run.kind {W : World} {rb B n k q : Nat} {m : Option Nat} {X Y : Nat → Int} (h : Run W rb B q m (setK X Y k)) (hw : ∀ i, i < n → wf64 (X i) ∧ wf64 (Y i)) (hk : k ≤ n) {a b : Int} (wa : wf64 a) (wb : wf64 b) {del ex : Bool}
    (hd : (Instr.lookup 27 (.map m) (.agg #[.int .i64 a, .int .i64 b]) false).run Try.prog W = .ok (.bool del) W) (hx : seenB X Y k a b = ex) {v : Int} (hv : kindN del ex = v) :
    Calls Try.prog 13 #[.pointer (some ⟨rb, 0, none⟩), .int .i64 a, .int .i64 b] W fun e w' => e = .returned (.int .u8 v) ∧ W.grownBy w' none := by
  rw [← hv]
  exact kind_any rb B q m (setK X Y k) a b del ex W h.2.1 h.2.2 h.1 hd (by rw [← hx]; exact look_setK X Y hw hk wa wb) (wf_min wa wb) (wf_max wa wb)

theorem kindN_ff : kindN false false = 1 := rfl
theorem kindN_ft : kindN false true = 3 := rfl
theorem kindN_t (x : Bool) : kindN true x = 2 := rfl

end Go.Proofs.Qxb6615769a
