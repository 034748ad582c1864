import Derived.Test.Qxb6609015aRoot0
import Derived.Test.Qxb6609015aFresh
namespace Go.Proofs.Qxb6609015a
open Go.RowKit Go.Maps

/-! ### order := make; append name; append got… -/
theorem order_made (W : World) (base : Nat) (fv : Value) (nm : ByteArray) (f : List ByteArray) (hrow : W.ownsRow base 9 1 fv f.length (f.map Value.string)) (hf : f.length ≤ 1048576) (z : Int) (hz : z = (f.length : Int) + 1) :
    ∃ w1 v2 w2 v3 w3, (Instr.makeSlice 22 (.int .i64 0) (.int .i64 z)).run Try.prog W = .ok (.slice (some ⟨W.heap.size, 0, none⟩) 0 (f.length + 1)) w1 ∧
      (Builtin.append_ #[22, 22] 22 #[.slice (some ⟨W.heap.size, 0, none⟩) 0 (f.length + 1), .slice (some ⟨w1.heap.size, 0, none⟩) 1 1]).run Try.prog (w1.alloc (.cells #[.string nm] 9)) = .ok v2 w2 ∧
      (Builtin.append_ #[22, 22] 22 #[v2, fv]).run Try.prog w2 = .ok v3 w3 ∧ w3.ownsRow W.heap.size 9 1 v3 (nm :: f).length ((nm :: f).map Value.string) ∧ Below W.heap.size W w3 := by
  obtain ⟨i, hi, hzr, hsz, hby⟩ : ∃ i, Try.prog.info? 9 = some i ∧ i.zero = some (.string ⟨#[]⟩) ∧ i.size = 1 ∧ i.bytes = 16 := by
    obtain ⟨i, hi, hzz⟩ := Option.map_eq_some_iff.1 info9
    simp only [Prod.mk.injEq] at hzz
    exact ⟨i, hi, hzz.1, hzz.2.1, hzz.2.2⟩
  obtain ⟨w1, hr1, ho1, hg1⟩ := run_make_own (P := Try.prog) W W.heap.size 22 9 i (.string ⟨#[]⟩) 1 Try.underlying22 hi hzr hsz .i64 .i64 (f.length + 1) (by rw [hby]; omega) (by unfold maxLen; omega) (Nat.le_refl _)
  have hb1 : Below W.heap.size W w1 := (Below.refl _ W).grown hg1 (Nat.le_refl _) (by simp)
  have hb1a := hb1.alloc hb1.size (.cells #[.string nm] 9)
  obtain ⟨v2, w2, hr2, ho2, hg2, _, _⟩ := run_append_own_at (P := Try.prog) (w1.alloc (.cells #[.string nm] 9)) W.heap.size 22 22 9 i (.string ⟨#[]⟩) 1 16 Try.underlying22 hi hzr hsz hby rfl (by decide) _ 0 [] (ho1.alloc _) ⟨w1.heap.size, 0, none⟩ 1 1 [.string nm] rfl (cell_one_new w1 (.string nm) 9) (by simp [Value.oneCell']) (by unfold maxLen; omega) (by omega) hb1a.size
  have hb2 : Below W.heap.size W w2 := hb1a.grown hg2 hb1a.size (fun k hk => by simp [Value.ownBlock] at hk; omega)
  have hrow2 := row_below hrow hb2
  have hz' : ((f.length + 1 : Nat) : Int) = z := by omega
  rw [hz'] at hr1
  rcases hrow2.2 with ⟨rfl, h0⟩ | ⟨g, cap, cur, rfl, _, _, _, _, _, _⟩
  · have hf0 : f = [] := List.eq_nil_of_length_eq_zero h0
    subst hf0
    exact ⟨w1, v2, w2, v2, w2, hr1, hr2, run_append_owned_none w2 W.heap.size 22 22 9 i 1 Try.underlying22 hi v2 _ _ ho2, by simpa using ho2, hb2⟩
  · obtain ⟨v3, w3, hr3, ho3, hg3, _, _⟩ := run_append_own_at (P := Try.prog) w2 W.heap.size 22 22 9 i (.string ⟨#[]⟩) 1 16 Try.underlying22 hi hzr hsz hby rfl (by decide) _ _ _ ho2 ⟨g, 0, none⟩ f.length cap (f.map Value.string) (by simp) (hrow2.cells rfl) (fun u hu => by obtain ⟨y, _, rfl⟩ := List.mem_map.1 hu; rfl) (by unfold maxLen; omega) (by omega) hb2.size
    refine ⟨w1, v2, w2, v3, w3, hr1, hr2, hr3, ?_, hb2.grown hg3 hb2.size (fun k hk => (ho2.lt k hk).1)⟩
    have e : 0 + 1 + f.length = (nm :: f).length := by simp; omega
    rw [e] at ho3
    simpa using ho3

/-! ### pos -/
def pD (l : List ByteArray) : Nat → DataW Unit
  | 0 => .map []
  | k + 1 => (pD l k).put (ky (l.getD k ByteArray.empty)) (.lit (.int .i64 (k : Int)))

theorem pD_isMap (l : List ByteArray) : ∀ k, IsMap (pD l k)
  | 0 => isMap_empty
  | k + 1 => (pD_isMap l k).put _ _

theorem pD_none (l : List ByteArray) (e : ByteArray) (z : DataW Unit) : ∀ k, (∀ i, i < k → l.getD i ByteArray.empty ≠ e) → has (pD l k) (ky e) = false ∧ (pD l k).atKey (ky e) z = z
  | 0, _ => ⟨rfl, rfl⟩
  | k + 1, h => by
    have hne : ky e ≠ ky (l.getD k ByteArray.empty) := fun hh => h k (Nat.lt_succ_self k) (ky_inj hh).symm
    have ih := pD_none l e z k (fun i hi => h i (by omega))
    unfold pD
    rw [has_put_other hne, atKey_put_other hne]
    exact ih

theorem pD_some (l : List ByteArray) (e : ByteArray) (z : DataW Unit) (i : Nat) (hie : l.getD i ByteArray.empty = e) : ∀ k, i < k → (∀ j, j < k → j ≠ i → l.getD j ByteArray.empty ≠ e) → has (pD l k) (ky e) = true ∧ (pD l k).atKey (ky e) z = .lit (.int .i64 (i : Int))
  | 0, h, _ => by omega
  | k + 1, hik, h => by
    by_cases e1 : k = i
    · subst e1
      unfold pD
      rw [hie]
      exact ⟨has_put_same (pD_isMap l k) (ky_key e) _, atKey_put_same (pD_isMap l k) (ky_key e) _ _⟩
    · have hne : ky e ≠ ky (l.getD k ByteArray.empty) := fun hh => h k (Nat.lt_succ_self k) e1 (ky_inj hh).symm
      have ih := pD_some l e z i hie k (by omega) (fun j hj => h j (by omega))
      unfold pD
      rw [has_put_other hne, atKey_put_other hne]
      exact ih

theorem wf3 : (Lit.int .i64 0).wf = true := by decide
theorem wfk (k : Nat) (hk : k ≤ 2097152) : (Lit.int .i64 (k : Int)).wf = true := by
  have h1 : IntKind.i64.min = -9223372036854775808 := rfl
  have h2 : IntKind.i64.max = 9223372036854775807 := rfl
  simp only [Lit.wf, h1, h2, Bool.and_eq_true, decide_eq_true_iff]
  omega

theorem look_pos {w : World} {b n k : Nat} {l : List ByteArray} (h : w.ownsMap Try.prog 9 (plainElem Try.prog 3) b n (pD l k)) {e : ByteArray} (he : e.size ≤ maxLen) {c : Bool} {v : Int} (h1 : has (pD l k) (ky e) = c) (h2 : (pD l k).atKey (ky e) (.lit (.int .i64 0)) = .lit (.int .i64 v)) :
    (Instr.lookup 29 (.map (some b)) (.string e) true).run Try.prog w = .ok (.tuple #[.int .i64 v, .bool c]) w := by
  obtain ⟨u, ps, hrun, hu⟩ := h.look_ok keyed9 Try.underlying29 (zero3 w) (plainElem_int Try.underlying3 wf3) (keyOf_ky he)
  obtain ⟨c', rfl, hc', _⟩ := plainElem_int_inv Try.underlying3 hu
  rw [h2] at hc'
  simp at hc'
  rw [hrun, h1, hc'.1]

theorem nodup_getD {l : List ByteArray} (hn : l.Nodup) {i j : Nat} (hi : i < l.length) (hj : j < l.length) (h : l.getD i ByteArray.empty = l.getD j ByteArray.empty) : i = j := by
  have e1 : l.getD i ByteArray.empty = l[i] := by simp [hi]
  have e2 : l.getD j ByteArray.empty = l[j] := by simp [hj]
  rw [e1, e2] at h
  exact (List.getElem_inj hn).1 h

theorem look_hit {w : World} {b n k : Nat} {l : List ByteArray} (h : w.ownsMap Try.prog 9 (plainElem Try.prog 3) b n (pD l k)) (hn : l.Nodup) (hk : k ≤ l.length) {i : Nat} (hi : i < k) {e : ByteArray} (hie : l.getD i ByteArray.empty = e) (he : e.size ≤ maxLen) :
    (Instr.lookup 29 (.map (some b)) (.string e) true).run Try.prog w = .ok (.tuple #[.int .i64 (i : Int), .bool true]) w := by
  have := pD_some l e (.lit (.int .i64 0)) i hie k hi (fun j hj hne h2 => hne (nodup_getD hn (by omega) (by omega) (h2.trans hie.symm)))
  exact look_pos h he this.1 this.2

theorem look_miss {w : World} {b n k : Nat} {l : List ByteArray} (h : w.ownsMap Try.prog 9 (plainElem Try.prog 3) b n (pD l k)) (hn : l.Nodup) (hk : k < l.length) (he : (l.getD k ByteArray.empty).size ≤ maxLen) :
    (Instr.lookup 29 (.map (some b)) (.string (l.getD k ByteArray.empty)) true).run Try.prog w = .ok (.tuple #[.int .i64 0, .bool false]) w := by
  have := pD_none l (l.getD k ByteArray.empty) (.lit (.int .i64 0)) k (fun i hi h2 => by have := nodup_getD hn (by omega) hk h2; omega)
  exact look_pos h he this.1 this.2

end Go.Proofs.Qxb6609015a
