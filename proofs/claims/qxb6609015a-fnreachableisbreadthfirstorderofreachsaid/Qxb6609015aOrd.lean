import Derived.Test.Qxb6609015aPar
namespace Go.Proofs.Qxb6609015a
open Go.RowKit Go.Maps

set_option maxRecDepth 100000 in
set_option maxHeartbeats 1000000 in
theorem order3 (a0 : Option Addr) (len0 cap0 B0 O0 : Nat) (s : Nat → ByteArray) (a1 : Option Addr) (len1 cap1 B1 O1 : Nat) (A : Nat → Option Addr) (N C Bi Oi : Nat → Nat) (S : Nat → Nat → ByteArray) (nm : ByteArray) (w : World)
    (h0 : Strs w a0 len0 cap0 B0 O0 s) (h1 : Lsts w a1 len1 cap1 B1 O1 A N C Bi Oi S) (hnm : nm.size ≤ maxLen) :
    Calls Try.prog 3 #[.slice a0 len0 cap0, .slice a1 len1 cap1, .string nm] w fun e w' => e = .returned (.bool true) ∧ Below w.heap.size w w' := by
  have H0 := hidOf h0
  have H1 := hidOf h1
  clear h0 h1
  go_enter Try.func3, Try.ntmps3
  go_wp2_with fail
  refine (bytes5 _ _ _ _ _ _ _ _ _ _ _ _ _ _ _ _ _ _ _ H0.out H1.out hnm).mono ?_
  rintro e w' ⟨x, rfl, hx, rfl⟩
  have HX := hidOf hx
  clear hx
  cases x
  · go_wp2
    go_ret
    exact ⟨rfl, Below.refl _ _⟩
  have HS := hidOf (HX.out rfl)
  clear HX
  go_wp2_with fail
  refine (graph_bytes _ _ _ _ _ _ _ _ _ _ _ _ _ _ _ _ _ _ _ H0.out H1.out).mono ?_
  rintro e w' ⟨y, rfl, rfl⟩
  by_cases hy : y ≤ 1048576
  rotate_left
  · go_wp2
    go_ret
    exact ⟨rfl, Below.refl _ _⟩
  go_wp2_with fail
  refine (build _ _ _ _ _ _ _ _ _ _ _ _ _ _ _ _ _ _ H0.out H1.out HS.out.1).mono ?_
  rintro e W3 ⟨rfl, hown3, hb3⟩
  have HG := hidOf (graph_of (w := w) H1.out hb3 hown3)
  have Hb3 := hidOf hb3
  clear hown3 hb3
  go_wp2_with fail
  have HUs : Hid (∀ e ∈ allEl N S len1, e.size ≤ maxLen) := hidOf (fun e he => by
    obtain ⟨i, j, hi, hj, rfl⟩ := (allEl_mem N S e len1).1 he
    exact ((H1.out.2.2 i hi).2.2.2 j hj).2)
  have HUl : Hid ((allEl N S len1).length ≤ 1048576) := hidOf (by rw [allEl_len]; exact HS.out.2.2.2.2.2)
  refine (reach8 W3 _ _ _ _ _ _ _ _ (allEl N S len1) nm HG.out (fun x e he => succL_mem he) (by have := HUl.out; omega) HUs.out hnm).mono ?_
  rintro e W7 ⟨fv, p1, rfl, hp1, hrow7, hb7⟩
  have hsub : ∀ x ∈ Fs nm (succL s len0 len1 N S) p1, x ∈ allEl N S len1 := Fs_sub nm _ _ (fun x e he => succL_mem he) p1
  have hnd := Fs_nodup nm (succL s len0 len1 N S) p1
  have HFS := hidOf (And.intro hsub hnd)
  have hfl : (Fs nm (succL s len0 len1 N S) p1).length ≤ 1048576 := Nat.le_trans (length_le_of_nodup _ _ (List.nodup_cons.1 hnd).2 hsub) HUl.out
  obtain ⟨f, hf⟩ : ∃ f, f = Fs nm (succL s len0 len1 N S) p1 := ⟨_, rfl⟩
  rw [← hf] at hfl hrow7 hp1
  have HP := hidOf (And.intro hp1 hf)
  have hxs : ∀ x ∈ nm :: f, x.size ≤ maxLen := fun x hx => by
    rcases List.mem_cons.1 hx with h | h
    · rw [h]; exact hnm
    · exact HUs.out x (hsub x (by rw [← hf]; exact h))
  have HXS := hidOf hxs
  obtain ⟨ga, gc, gB, hfv, _⟩ := strs_of_row hrow7 (by unfold maxLen; omega) (fun x hx => hxs x (List.mem_cons_of_mem _ hx))
  obtain ⟨w1, v2, w2, v3, w3, hr1, hr2, hr3, hrow3, hbo⟩ := order_made W7 _ fv nm f hrow7 hfl ((f.length : Int) + 1) rfl
  subst hfv
  obtain ⟨oa, oc, oB, hv3, hst⟩ := strs_of_row hrow3 (by simp [maxLen]; omega) hxs
  subst hv3
  have HO : Hid (Strs w3 oa (f.length + 1) oc oB 0 fun j => (nm :: f).getD j ByteArray.empty) := hidOf hst
  have HN : Hid ((nm :: f).Nodup) := hidOf (by rw [hf]; exact hnd)
  have HES : Hid (∀ k, k < f.length + 1 → ((nm :: f).getD k ByteArray.empty).size ≤ maxLen) := hidOf (fun k hk => (hst.2.2 k (by simpa using hk)).2)
  have hb73 := Hb3.out.trans (hb7.mono Hb3.out.size)
  have Hbo := hidOf (hb73.trans (hbo.mono hb73.size))
  have HGo := hidOf ((HG.out.below hb7).below hbo)
  have hmk := make29 ((f.length : Int) + 1) w3
  clear hsub hnd hf hrow7 hrow3 hst hb73 hbo hb7 hp1 hxs HG Hb3
  simp only [List.length_cons] at hr3
  go_wp2_with (at_builtin; first | refine wpList_append_run rfl _ _ 22 rfl rfl rfl hr2 ?_ | refine wpList_append_run rfl _ _ 22 rfl rfl rfl hr3 ?_)
  clear hr1 hr2 hr3
  go_loopw [11] (fun i wr => ∃ k : Nat, k ≤ f.length + 1 ∧ i = .int .i64 k ∧ wr.ownsMap Try.prog 9 (plainElem Try.prog 3) w3.heap.size k (pD (nm :: f) k) ∧ Below w3.heap.size w3 wr) (fun i _ => f.length + 1 - (intOf i).toNat)
  case atStart => exact ⟨0, Nat.zero_le _, rfl, World.ownsMap_made w3 _ _ _, (Below.refl _ w3).alloc (Nat.le_refl _) _⟩
  case round =>
    clear hmk
    obtain ⟨k, hk, rfl, hown, hb⟩ := hrel
    by_cases hlt : k < f.length + 1
    · have hix := HO.out.idx hlt
      have hc : wr.cell? ⟨oB, k, none⟩ = some (.string ((nm :: f).getD k ByteArray.empty)) := by
        have := ((HO.out.below hb).2.2 k hlt).1
        rw [Nat.zero_add] at this
        exact this
      have hes := HES.out k hlt
      have hlk := look_miss hown HN.out (by simpa using hlt) hes
      obtain ⟨wu, hup, hownu, hgu⟩ := hown.update keyed9 Try.underlying29 (by unfold maxLen; omega) (keyOf_ky hes) (plainElem_int Try.underlying3 (wfk k (by omega)))
      have HU := hidOf (And.intro hownu (hb.grown hgu hb.size (by simp)))
      clear hown hb hownu hgu hes
      simp only [Nat.zero_add] at hix
      generalize (nm :: f).getD k ByteArray.empty = e at hc hlk hup
      go_wp2
      go_roundw
      case rel => exact ⟨k + 1, by omega, by go_num, HU.out.1, HU.out.2⟩
      case measure => simp [intOf] <;> omega
    · rename World => Wp
      obtain rfl : k = f.length + 1 := by omega
      obtain ⟨w5, hm5, hr5, hg5⟩ := make31 Wp Wp.heap.size (f.length + 1) (Nat.le_refl _) (by omega) ((f.length : Int) + 1) (by omega)
      have hb5 : Below Wp.heap.size Wp w5 := (Below.refl _ _).grown hg5 (Nat.le_refl _) (by simp)
      obtain ⟨w6, hm6, hr6, hg6⟩ := make31 w5 Wp.heap.size (f.length + 1) hb5.size (by omega) ((f.length : Int) + 1) (by omega)
      have hr5' := hr5.kept hg6 (.inr (by simp [Value.ownBlock]))
      have hgt : Wp.heap.size < w5.heap.size := (hr5.lt _ rfl).2
      have HR : Hid (RowsAt Wp w6 Wp.heap.size w5.heap.size (f.length + 1) _ _) := hidOf (And.intro hr5' (And.intro hr6 (hb5.grown hg6 hb5.size (by simp))))
      have HPos := hidOf hown
      have Hbp := hidOf hb
      clear hr5 hr5' hr6 hg5 hg6 hb5 hown hb hlt hk
      generalize hgf : w5.heap.size = gf at hgt HR hm6
      go_wp2
      clear hm5 hm6
      go_loopw [16] (fun i wr => Lp2 Wp gf (f.length + 1) i wr) (fun i _ => f.length + 1 - (intOf i).toNat)
      case atStart => exact lp2_mk 0 _ _ (Nat.zero_le _) rfl HR.out (fun j hj => absurd hj (Nat.not_lt_zero j))
      case round =>
        clear HR
        obtain ⟨k, xs, ys, hk, rfl, hR, hx⟩ := hrel
        have HR := hidOf (And.intro hR hx)
        by_cases hlt : k < f.length + 1
        · have hxl : xs.length = f.length + 1 := by simpa using hR.1.1
          have hcz : wr.cell? ⟨Wp.heap.size, k, none⟩ = some xs[k] := by
            rw [hR.1.cellAt k (by omega), List.getElem?_eq_getElem]
          have hfz := hR.1.frozenAt k
          clear hR hx
          generalize xs[k] = z0 at hcz
          go_wp2
          go_roundw
          case rel =>
            obtain ⟨hR, hx⟩ := HR.out
            refine lp2_mk (k + 1) (xs.set k (.int .i64 (-1))) ys (by omega) (by go_num) (hR.setP (by omega) k _) (fun j hj => ?_)
            rw [List.getElem?_set]
            by_cases e : k = j
            · subst e
              simp [hxl, hlt]
            · rw [if_neg e]
              exact hx j (by omega)
          case measure => simp [intOf] <;> omega
        · obtain rfl : k = f.length + 1 := by omega
          have HR0 : Hid (Rows2 [] (f.length + 1) xs ys) := hidOf (Rows2_nil (by simpa using hR.1.1) (by simpa using hR.2.1.1) hx)
          have HRA := hidOf hR
          clear hR hx HR hlt hk
          go_wp2
          rename World => Wq
          go_loopw [17] (fun v wr => Lp3 Wp gf (f.length + 1) nm (succL s len0 len1 N S) v wr) (fun v _ => f.length + 1 - (intOf v).toNat)
          case atStart => exact lp3_mk 0 [] xs ys (Nat.zero_le _) rfl HRA.out HR0.out Pf_nil rfl
          case round =>
            clear HRA HR0
            obtain ⟨j, pf, xs, ys, hj, rfl, hRA, hR2, hPf, hpl⟩ := hrel
            by_cases hlt : j < f.length + 1
            · have hb := Hbp.out.trans (hRA.2.2.mono Hbp.out.size)
              have hix := HO.out.idx hlt
              have hc : wr.cell? ⟨oB, j, none⟩ = some (.string ((nm :: f).getD j ByteArray.empty)) := by
                have := ((HO.out.below hb).2.2 j hlt).1
                rw [Nat.zero_add] at this
                exact this
              simp only [Nat.zero_add] at hix
              have hxs := HES.out j hlt
              have hxo : (nm :: f)[j]? = some ((nm :: f).getD j ByteArray.empty) := by
                rw [List.getD_eq_getElem?_getD, List.getElem?_eq_getElem (by simpa using hlt)]
                rfl
              generalize (nm :: f).getD j ByteArray.empty = x at hc hxs hxo
              have hlk := (HGo.out.below hb).look hxs
              have HRW := hidOf (HGo.out.row x)
              have hsl := HRW.out.1
              unfold maxLen at hsl
              have HAT : Hid ((nm :: Fs nm (succL s len0 len1 N S) j)[j]? = some x) := hidOf (Fs_at nm _ (p := p1) (by rw [← HP.out.2]; exact HP.out.1) (by have := HP.out.1; omega) x (by rw [← HP.out.2]; exact hxo))
              have HST := hidOf (And.intro hRA (And.intro hR2 (And.intro hPf hpl)))
              have hjd : decide ((j : Int) < (f.length : Int) + 1) = true := by simp; omega
              clear hb hxs hxo hRA hR2 hPf hpl
              go_wp2
              try rw [hjd]
              clear hjd
              go_loopw [19] (fun v wr => Lp4 Wp gf (f.length + 1) nm (succL s len0 len1 N S) x j v wr) (fun v _ => (succL s len0 len1 N S x).length - (intOf v).toNat)
              case atStart => exact lp4_mk 0 pf xs ys (Nat.zero_le _) rfl HST.out.1 HST.out.2.1 HST.out.2.2.1 HST.out.2.2.2
              case round =>
                clear HST hlk hc
                obtain ⟨i, pf, xs, ys, hi, rfl, hRA, hR2, hPf, hpl⟩ := hrel
                by_cases hlt2 : i < (succL s len0 len1 N S x).length
                · have hb := Hbp.out.trans (hRA.2.2.mono Hbp.out.size)
                  have hix2 := HRW.out.idx hlt2
                  obtain ⟨e, he⟩ : ∃ e, e = (succL s len0 len1 N S x)[i] := ⟨_, rfl⟩
                  have heU : e ∈ allEl N S len1 := succL_mem (t := x) (by rw [he]; exact List.getElem_mem _)
                  have hes : e.size ≤ maxLen := HUs.out e heU
                  have hce : wr.cell? ⟨pickN s len0 len1 Bi x, pickN s len0 len1 Oi x + i, none⟩ = some (.string e) := by
                    have := ((HRW.out.below hb).2.2 i hlt2).1
                    rw [this, he]
                    simp [hlt2]
                  have hpos : wr.ownsMap Try.prog 9 (plainElem Try.prog 3) w3.heap.size (f.length + 1) (pD (nm :: f) (f.length + 1)) :=
                    HPos.out.kept (row := some Wp.heap.size) ⟨hRA.2.2.os, hRA.2.2.tape, hRA.2.2.output, hRA.2.2.size, fun i hi _ => hRA.2.2.block i hi⟩ (by have := HPos.out.lt; simp; omega)
                  have hnext := scan_take nm (Fs nm (succL s len0 len1 N S) j) _ _ hlt2
                  rw [← he] at hnext
                  have hpre : scan nm (Fs nm (succL s len0 len1 N S) j) ((succL s len0 len1 N S x).take (i + 1)) <+: f := by
                    refine (scan_take_prefix nm _ _ _).trans ?_
                    rw [← Fs_some nm _ j x HAT.out, HP.out.2]
                    exact Fs_mono nm _ (by have := HP.out.1; omega)
                  have hah : j ≤ (Fs nm (succL s len0 len1 N S) j).length := Fs_ahead nm _ (p := p1) (by rw [← HP.out.2]; exact HP.out.1) (by have := HP.out.1; omega)
                  have hah2 : (Fs nm (succL s len0 len1 N S) j).length ≤ pf.length := by
                    rw [hpl]
                    exact (scan_prefix nm _ _).length_le
                  generalize scan nm (Fs nm (succL s len0 len1 N S) j) ((succL s len0 len1 N S x).take i) = f2 at hpl hnext
                  cases hin : inL e (nm :: f2)
                  · rw [add_out _ _ _ hin] at hnext
                    rw [hnext] at hpre
                    obtain ⟨hp1, hp2⟩ := pos_out (nm := nm) hpre
                    have hlk2 := look_hit hpos HN.out (by simp) (i := f2.length + 1) (by omega) hp2 hes
                    rw [← hpl] at hlk2 hp1
                    have hcp : wr.cell? ⟨Wp.heap.size, pf.length + 1, none⟩ = some (.int .i64 (-1)) := by
                      rw [hRA.1.cellAt _ (by omega), hR2.2.2.1 _ (by omega), par_out _ _ (by omega)]
                    have hfp := hRA.1.frozenAt (pf.length + 1)
                    have hyl : ys.length = f.length + 1 := by simpa using hRA.2.1.1
                    have hcf : wr.cell? ⟨gf, pf.length + 1, none⟩ = some ys[pf.length + 1] := by
                      rw [hRA.2.1.cellAt _ (by omega), List.getElem?_eq_getElem]
                    have hff := hRA.2.1.frozenAt (pf.length + 1)
                    generalize ys[pf.length + 1] = z0 at hcf
                    have HH := hidOf (And.intro hRA (And.intro hR2 (And.intro hPf (And.intro hnext (And.intro hpl (Nat.le_trans hah hah2))))))
                    clear hRA hR2 hPf hnext hpl hah hah2 hpre hpos heU he hb hp2 hin
                    go_wp2
                    go_roundw
                    case rel =>
                      obtain ⟨hRA, hR2, hPf, hnext, hpl, hah⟩ := HH.out
                      exact lp4_mk (i + 1) (pf ++ [(j, i)]) _ _ (by omega) (by go_num) ((hRA.setP (by omega) _ _).setF (by omega) _ _) (Rows2_push hR2 (by omega) j i) (Pf_push hPf hah) (by rw [hnext]; simp [hpl])
                    case measure => simp [intOf] <;> omega
                  · rw [add_in _ _ _ hin] at hnext
                    rw [hnext] at hpre
                    obtain ⟨t, ht, hp2⟩ := pos_in (nm := nm) hpre ((inL_iff _ _).1 hin)
                    have hfl2 := hpre.length_le
                    have hlk2 := look_hit hpos HN.out (by simp) (i := t) (by omega) hp2 hes
                    have hcp : wr.cell? ⟨Wp.heap.size, t, none⟩ = some (.int .i64 (par pf t)) := by
                      rw [hRA.1.cellAt _ (by omega), hR2.2.2.1 _ (by omega)]
                    have htf : t < f.length + 1 := by omega
                    have hpt : t = 0 ∨ 0 ≤ par pf t := by
                      rcases Nat.eq_zero_or_pos t with h | h
                      · exact .inl h
                      · right
                        obtain ⟨t', rfl⟩ : ∃ t', t = t' + 1 := ⟨t - 1, by omega⟩
                        rw [par_succ pf t' _ (List.getElem?_eq_getElem (show t' < pf.length by omega))]
                        omega
                    generalize par pf t = z at hcp hpt
                    have HH := hidOf (And.intro hRA (And.intro hR2 (And.intro hPf (And.intro hnext hpl))))
                    clear hRA hR2 hPf hnext hpl hah hah2 hpre hpos heU he hb hp2 hin ht hfl2
                    by_cases ht0 : t = 0
                    · subst ht0
                      clear hpt
                      go_wp2
                      go_roundw
                      case rel =>
                        obtain ⟨hRA, hR2, hPf, hnext, hpl⟩ := HH.out
                        exact lp4_mk (i + 1) pf xs ys (by omega) (by go_num) hRA hR2 (Pf_more hPf) (by rw [hnext]; exact hpl)
                      case measure => simp [intOf] <;> omega
                    · have hz : 0 ≤ z := by omega
                      have hzn : ¬ z < 0 := by omega
                      have hzd : decide (z < 0) = false := by simp; omega
                      clear hpt hz
                      go_wp2
                      go_roundw
                      case rel =>
                        obtain ⟨hRA, hR2, hPf, hnext, hpl⟩ := HH.out
                        exact lp4_mk (i + 1) pf xs ys (by omega) (by go_num) hRA hR2 (Pf_more hPf) (by rw [hnext]; exact hpl)
                      case measure => simp [intOf] <;> omega
                · obtain rfl : i = (succL s len0 len1 N S x).length := by omega
                  rw [List.take_length, ← Fs_some nm _ j x HAT.out] at hpl
                  have HH := hidOf (And.intro hRA (And.intro hR2 (And.intro hPf hpl)))
                  clear hRA hR2 hPf hpl
                  go_wp2
                  go_roundw
                  case rel =>
                    obtain ⟨hRA, hR2, hPf, hpl⟩ := HH.out
                    exact lp3_mk (j + 1) pf xs ys (by omega) (by go_num) hRA hR2 (Pf_next hPf) hpl
                  case measure => simp [intOf] <;> omega
            · obtain rfl : j = f.length + 1 := by omega
              have hpl2 : pf.length = f.length := by
                rw [hpl, ← HP.out.1, ← HP.out.2]
              rename World => Wr
              have HH := hidOf (And.intro hRA (And.intro hR2 (And.intro hPf hpl2)))
              clear hRA hR2 hPf hpl hpl2 hlt hj
              go_wp2
              have hcast : ((f.length + 1 : Nat) : Int) = (f.length : Int) + 1 := by omega
              rw [hcast]
              clear hcast
              go_loopw [22] (fun v wr => Lp5 Wp gf f.length xs ys v wr) (fun v _ => f.length + 1 - (intOf v).toNat)
              case atStart => exact lp5_mk 0 (Nat.zero_le _) rfl HH.out.1
              case round =>
                obtain ⟨t, ht, rfl, hRA⟩ := hrel
                by_cases hlt : t < f.length
                · obtain ⟨q, hq⟩ : ∃ q, pf[t]? = some q := ⟨_, List.getElem?_eq_getElem (by have := HH.out.2.2.2; omega)⟩
                  have hqt := (HH.out.2.2.1.1 t q hq).1
                  have hcp : wr.cell? ⟨Wp.heap.size, t + 1, none⟩ = some (.int .i64 (q.1 : Int)) := by
                    rw [hRA.1.cellAt _ (by omega), HH.out.2.1.2.2.1 _ (by omega), par_succ _ _ _ hq]
                  have hcf : wr.cell? ⟨gf, t + 1, none⟩ = some (.int .i64 (q.2 : Int)) := by
                    rw [hRA.2.1.cellAt _ (by omega), HH.out.2.1.2.2.2 _ _ hq (by omega)]
                  have HRA := hidOf hRA
                  by_cases ht0 : t = 0
                  · subst ht0
                    obtain ⟨q1, q2⟩ := q
                    clear hq hRA
                    go_wp2
                    go_roundw
                    case rel => exact lp5_mk 1 (by omega) (by go_num) HRA.out
                    case measure => simp [intOf] <;> omega
                  · obtain ⟨q0, hq0⟩ : ∃ q0, pf[t - 1]? = some q0 := ⟨_, List.getElem?_eq_getElem (by have := HH.out.2.2.2; omega)⟩
                    have hord := HH.out.2.2.1.2 (t - 1) q0 q hq0 (by rw [show t - 1 + 1 = t by omega]; exact hq)
                    have hcp0 : wr.cell? ⟨Wp.heap.size, t, none⟩ = some (.int .i64 (q0.1 : Int)) := by
                      have := par_succ pf (t - 1) q0 hq0
                      rw [show t - 1 + 1 = t by omega] at this
                      rw [hRA.1.cellAt _ (by omega), HH.out.2.1.2.2.1 _ (by omega), this]
                    have hcf0 : wr.cell? ⟨gf, t, none⟩ = some (.int .i64 (q0.2 : Int)) := by
                      have := HH.out.2.1.2.2.2 (t - 1) q0 hq0 (by omega)
                      rw [show t - 1 + 1 = t by omega] at this
                      rw [hRA.2.1.cellAt _ (by omega), this]
                    obtain ⟨q1, q2⟩ := q
                    obtain ⟨p1', p2'⟩ := q0
                    simp only at hord hcp hcf hcp0 hcf0 hqt
                    clear hq hq0 hRA
                    go_wp2
                    go_quiet (fail)
                    go_wp2
                    have hwt : IntKind.i64.wrap (t : Int) = (t : Int) := IntWalk.i64_in _ ⟨by omega, by omega⟩
                    have hti : (t : Int) < (f.length : Int) + 1 := by omega
                    rcases hord with hless | ⟨rfl, hless⟩
                    · have hne : ¬ (q1 = p1') := by omega
                      have hneI : ¬ ((q1 : Int) = (p1' : Int)) := by omega
                      have hneb : ((q1 : Int) == (p1' : Int)) = false := by simp; omega
                      have hned : decide ((q1 : Int) = (p1' : Int)) = false := by simp; omega
                      go_quiet (fail)
                      go_wp2
                      go_roundw
                      case rel => exact lp5_mk (t + 1) (by omega) (by go_num) (HRA.out.drewN _)
                      case measure => simp [intOf] <;> omega
                    · have hle : ¬ ((q2 : Int) ≤ (p2' : Int)) := by omega
                      have hled : decide ((q2 : Int) ≤ (p2' : Int)) = false := by simp; omega
                      go_quiet (fail)
                      go_wp2
                      go_roundw
                      case rel => exact lp5_mk (t + 1) (by omega) (by go_num) (HRA.out.drewN _)
                      case measure => simp [intOf] <;> omega
                · go_wp2
                  go_ret
                  exact ⟨rfl, Hbo.out.trans ((Hbp.out.trans (hRA.2.2.mono Hbp.out.size)).mono Hbo.out.size)⟩

end Go.Proofs.Qxb6609015a
