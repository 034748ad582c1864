import Derived.Test.Qxb6609015aRoot0
import Derived.Test.Qxb6609015aLong
import Derived.Test.Qxb6609015aBytes9
import Derived.Test.Qxb6609015aFresh
namespace Go.Proofs.Qxb6609015a
open Go.RowKit Go.Maps

set_option maxRecDepth 100000 in
set_option maxHeartbeats 1000000 in
theorem fresh4 (a0 : Option Addr) (len0 cap0 B0 O0 : Nat) (s : Nat → ByteArray) (a1 : Option Addr) (len1 cap1 B1 O1 : Nat) (A : Nat → Option Addr) (N C Bi Oi : Nat → Nat) (S : Nat → Nat → ByteArray) (nm : ByteArray) (w : World)
    (h0 : Strs w a0 len0 cap0 B0 O0 s) (h1 : Lsts w a1 len1 cap1 B1 O1 A N C Bi Oi S) (hnm : nm.size ≤ maxLen) :
    Calls Try.prog 4 #[.slice a0 len0 cap0, .slice a1 len1 cap1, .string nm] w fun e w' => e = .returned (.bool true) ∧ Below w.heap.size w w' := by
  have H0 := hidOf h0
  have H1 := hidOf h1
  clear h0 h1
  go_enter Try.func4, Try.ntmps4
  go_wp2_with fail
  refine (bytes9 _ _ _ _ _ _ _ _ _ _ _ _ _ _ _ _ _ _ _ H0.out H1.out hnm).mono ?_
  rintro e w' ⟨x, rfl, hx, rfl⟩
  have HX := hidOf hx
  clear hx
  cases x
  · go_wp2
    go_ret
    exact ⟨rfl, Below.refl _ _⟩
  have HS := hidOf (HX.out rfl)
  clear HX
  go_wp2_with fail
  refine (graph_bytes _ _ _ _ _ _ _ _ _ _ _ _ _ _ _ _ _ _ _ H0.out H1.out).mono ?_
  rintro e w' ⟨y, rfl, rfl⟩
  by_cases hy : y ≤ 1048576
  rotate_left
  · go_wp2
    go_ret
    exact ⟨rfl, Below.refl _ _⟩
  go_wp2_with fail
  refine (longest _ _ _ _ _ _ _ _ _ _ _ _ _ _ _ _ _ _ _ H0.out H1.out HS.out).mono ?_
  rintro e w' ⟨L, rfl, hL, hLn, hLk, hLe, rfl⟩
  have HL := hidOf (And.intro hLn (And.intro hLk hLe))
  clear hLn hLk hLe
  obtain ⟨w1, hmk, hrow1, hgr1⟩ := make32 w (L + 1) (by omega) ((L : Int) + 1) (by omega)
  have HM := hidOf (And.intro hrow1 ((Below.refl w.heap.size w).grown hgr1 (Nat.le_refl _) (by simp)))
  clear hrow1 hgr1
  go_wp2
  go_loopw [9] (fun i wr => ∃ (k : Nat) (xs : List Value), k ≤ L + 1 ∧ i = .int .i64 k ∧ wr.ownsRow w.heap.size 5 1 (.slice (some ⟨w.heap.size, 0, none⟩) (L + 1) (L + 1)) (L + 1) xs ∧ (∀ j, j < k → xs[j]? = some (.int .u8 114)) ∧ Below w.heap.size w wr) (fun i _ => L + 1 - (intOf i).toNat)
  case atStart => exact ⟨0, _, Nat.zero_le _, rfl, HM.out.1, fun j hj => absurd hj (Nat.not_lt_zero j), HM.out.2⟩
  case round =>
    clear HM hmk
    obtain ⟨k, xs, hk, rfl, hown, hxs, hb⟩ := hrel
    have HR := hidOf (And.intro hown (And.intro hxs hb))
    by_cases hlt : k < L + 1
    · have hxl : xs.length = L + 1 := by simpa using hown.1
      have hcz : wr.cell? ⟨w.heap.size, k, none⟩ = some xs[k] := by
        rw [hown.cellAt k (by omega), List.getElem?_eq_getElem]
      have hfz := hown.frozenAt k
      clear hown hxs hb
      go_wp2
      go_roundw
      case rel =>
        obtain ⟨hown, hxs, hb⟩ := HR.out
        refine ⟨k + 1, xs.set k (.int .u8 114), by omega, by go_num, (hown.stored k _).1, fun j hj => ?_, hb.setCell (Nat.le_refl _) _⟩
        rw [List.getElem?_set]
        by_cases e : k = j
        · subst e
          simp [hxl, hlt]
        · rw [if_neg e]
          exact hxs j (by omega)
      case measure => simp [intOf] <;> omega
    · have ek : k = L + 1 := by omega
      have hcv := conv32 wr w.heap.size (L + 1) (L + 1) (fun j hj => by rw [hown.cellAt j (by omega)]; exact hxs j (by omega))
      clear hown hxs hlt hb
      subst ek
      have Hb := hidOf HR.out.2.2
      clear HR
      go_wp2_with fail
      refine (build _ _ _ _ _ _ _ _ _ _ _ _ _ _ _ _ _ _ (H0.out.below Hb.out) (H1.out.below Hb.out) HS.out.1).mono ?_
      clear hcv
      rintro e W3 ⟨rfl, hown3, hb3⟩
      have HO3 := hidOf hown3
      have Hb3 := hidOf hb3
      have Hw3 := hidOf (Hb.out.trans (hb3.mono Hb.out.size))
      clear hown3 hb3
      go_wp2_with fail
      refine (build _ _ _ _ _ _ _ _ _ _ _ _ _ _ _ _ _ _ (H0.out.below Hw3.out) (H1.out.below Hw3.out) HS.out.1).mono ?_
      rintro e W4 ⟨rfl, hown4, hb4⟩
      have Hw4 := hidOf (Hw3.out.trans (hb4.mono Hw3.out.size))
      have hm1 : wr.heap.size < W3.heap.size := HO3.out.lt
      have HO3b : Hid (W4.ownsMap Try.prog 9 heldR wr.heap.size len0 (bD s (vals len1 A N C) len0)) := hidOf (HO3.out.kept (row := some W3.heap.size) ⟨hb4.os, hb4.tape, hb4.output, hb4.size, fun i hi _ => hb4.block i hi⟩ (by simp; omega))
      have hrs : (rootOf (L + 1)).size ≤ maxLen := by rw [rootOf_size]; unfold maxLen; omega
      have hown5 := hown4.alloc (.cells #[.string nm] 9)
      obtain ⟨W6, hup, hown6, hgr6⟩ := hown5.update keyed9 Try.underlying26 (by have := HS.out.1; unfold maxLen; omega) (keyOf_ky hrs) (val := .slice (some ⟨W4.heap.size, 0, none⟩) 1 1) (d := .held (.slice (some ⟨W4.heap.size, 0, none⟩) 1 1)) (ps := []) rfl
      have hm4 : W3.heap.size < W4.heap.size := hown4.lt
      have hle4 := Hw4.out.size
      have hle3 := Hw3.out.size
      have Hw6 : Hid (Below w.heap.size w W6) := hidOf ((Hw4.out.alloc hle4 (.cells #[.string nm] 9)).grown hgr6 (by simp; omega) (fun k hk => by simp at hk; omega))
      have HO6 : Hid (W6.ownsMap Try.prog 9 heldR wr.heap.size len0 (bD s (vals len1 A N C) len0)) := hidOf ((HO3b.out.alloc _).kept hgr6 (by simp; omega))
      have HG := hidOf (graph_of (w := w) H1.out Hw6.out HO6.out)
      have HGL := hidOf ((graph_of (w := w) H1.out (Hw4.out.alloc hle4 (.cells #[.string nm] 9)) hown5).lift (W' := W6) (rootOf (L + 1)) nm W4.heap.size (.inr ⟨_, hgr6, fun t ht => by have := pick_lt H1.out ht; omega⟩) (hgr6.cell (cell_one W4 (.string nm) 9) (by simp; omega)) (by have := hgr6.size; simp at this; omega) hnm hown6)
      clear hown4 hb4 hown5 hown6 hgr6 HO3 HO3b HO6
      go_wp2_with fail
      have HUs : Hid (∀ e ∈ allEl N S len1, e.size ≤ maxLen) := hidOf (fun e he => by
        obtain ⟨i, j, hi, hj, rfl⟩ := (allEl_mem N S e len1).1 he
        exact ((H1.out.2.2 i hi).2.2.2 j hj).2)
      have HUl : Hid ((allEl N S len1).length ≤ 1048576) := hidOf (by rw [allEl_len]; exact HS.out.2.2.2.2.2)
      refine (reach8 W6 _ _ _ _ _ _ _ _ (allEl N S len1) nm HG.out (fun x e he => succL_mem he) (by have := HUl.out; omega) HUs.out hnm).mono ?_
      clear hup
      rintro e W7 ⟨fv, p1, rfl, hp1, hrow7, hb7⟩
      have HP1 := hidOf hp1
      have HR7 := hidOf hrow7
      have Hb7 := hidOf hb7
      clear hp1 hrow7 hb7
      go_wp2_with fail
      refine (reach8 W7 _ _ _ _ _ _ _ _ (nm :: allEl N S len1) (rootOf (L + 1)) (HGL.out.below Hb7.out) (fun x e he => by
        by_cases hx : x = rootOf (L + 1)
        · simp [hx] at he
          simp [he]
        · simp [hx] at he
          exact List.mem_cons_of_mem _ (succL_mem he)) (by have := HUl.out; simp; omega) (fun e he => by
        rcases List.mem_cons.1 he with h | h
        · rw [h]; exact hnm
        · exact HUs.out e h) hrs).mono ?_
      rintro e W8 ⟨gvv, p2, rfl, hp2, hrow8, hb8⟩
      have hroot : rootOf (L + 1) ∉ allEl N S len1 := fun hc => by
        obtain ⟨i, j, hi, hj, he⟩ := (allEl_mem N S _ len1).1 hc
        have h1 := HL.out.2.2 i j hi hj
        rw [← he, rootOf_size] at h1
        omega
      have hrn : rootOf (L + 1) ≠ nm := fun hc => by
        have h1 := HL.out.1
        rw [← hc, rootOf_size] at h1
        omega
      have hlaw := fresh_law (rootOf (L + 1)) nm (succL s len0 len1 N S) (allEl N S len1) (fun x e he => succL_mem he) hroot hrn HP1.out hp2
      rw [hlaw] at hrow8
      clear hlaw hp2 hroot hrn
      have hrow7 := row_below HR7.out hb8
      have hsub : ∀ x ∈ Fs nm (succL s len0 len1 N S) p1, x ∈ allEl N S len1 := Fs_sub nm _ _ (fun x e he => succL_mem he) p1
      have hnd := Fs_nodup nm (succL s len0 len1 N S) p1
      have Hw8 := hidOf ((Hw6.out.trans (Hb7.out.mono Hw6.out.size)).trans (hb8.mono (Nat.le_trans Hw6.out.size Hb7.out.size)))
      generalize Fs nm (succL s len0 len1 N S) p1 = f at hrow7 hrow8 hsub hnd
      have hfl : f.length ≤ 1048576 := Nat.le_trans (length_le_of_nodup _ _ (List.nodup_cons.1 hnd).2 hsub) HUl.out
      obtain ⟨fa, fc, fB, rfl, hst⟩ := strs_of_row hrow7 (by unfold maxLen; omega) (fun x hx => HUs.out x (hsub x hx))
      obtain ⟨ga, gc, gB, rfl, hsg⟩ := strs_of_row (l := nm :: f) hrow8 (by simp [maxLen]; omega) (fun x hx => by
        rcases List.mem_cons.1 hx with h | h
        · rw [h]; exact hnm
        · exact HUs.out x (hsub x h))
      have HST := hidOf hst
      have hix0 : ∀ W, (Instr.indexAt 22 (.slice ga (f.length + 1) gc) (.int .i64 0)).run Try.prog W = .ok (.pointer (some ⟨gB, 0, none⟩)) W := fun W => hsg.idx (j := 0) (by simp) W
      have hc0 : W8.cell? ⟨gB, 0, none⟩ = some (.string nm) := by simpa using (hsg.2.2 0 (by simp)).1
      have HSG := hidOf hsg
      clear hst hsg hrow7 hrow8 hsub hnd HP1 HR7 Hb7 hb8 HG HGL
      simp only [List.length_cons]
      go_wp2
      clear hix0 hc0
      go_loopw [15] (fun i wx => ∃ k : Nat, k ≤ f.length ∧ i = .int .i64 k ∧ Below W8.heap.size W8 wx) (fun i _ => f.length - (intOf i).toNat)
      case atStart => exact ⟨0, Nat.zero_le _, rfl, Below.refl _ _⟩
      case round =>
        obtain ⟨k, hk8, rfl, hbx⟩ := hrel
        have HBX := hidOf hbx
        clear hbx
        by_cases hlt8 : k < f.length
        · have hixa := HST.out.idx hlt8
          have hixb : ∀ W, (Instr.indexAt 22 (.slice ga (f.length + 1) gc) (.int .i64 ((k : Int) + 1))).run Try.prog W = .ok (.pointer (some ⟨gB, 0 + (k + 1), none⟩)) W := fun W => HSG.out.idx (j := k + 1) (by simp; omega) W
          have hca : wr.cell? ⟨fB, 0 + k, none⟩ = some (.string (f.getD k ByteArray.empty)) := ((HST.out.below HBX.out).2.2 k hlt8).1
          have hcb : wr.cell? ⟨gB, 0 + (k + 1), none⟩ = some (.string (f.getD k ByteArray.empty)) := ((HSG.out.below HBX.out).2.2 (k + 1) (by simp; omega)).1
          rw [Nat.zero_add] at hca hcb
          simp only [Nat.zero_add] at hixa hixb
          generalize f.getD k ByteArray.empty = z at hca hcb
          go_wp2_with fail
          go_quiet (fail)
          go_wp2
          go_roundw
          case rel => exact ⟨k + 1, by omega, by go_num, below_drewN HBX.out _⟩
          case measure => simp [intOf] <;> omega
        · go_wp2
          go_ret
          exact ⟨rfl, Hw8.out.trans (HBX.out.mono Hw8.out.size)⟩

end Go.Proofs.Qxb6609015a
