import Derived.Test.Qxb6609015aQueue
import Derived.Test.Qxb6609015aBfs
import Derived.Deep.LoopGhost
namespace Go.Proofs.Qxb6609015a
open Go.RowKit Go.Maps

/-! ### the set of names seen -/
theorem at_fold {H : Type} (u z : DataW H) (k : Lit) : ∀ (acc : List Lit) (m : DataW H), IsMap m → (∀ x ∈ acc, WideAt.IsKeyLit x) → (acc.foldl (fun m x => m.put x u) m).atKey k z = if acc.any (fun x => x.sameKey k) then u else m.atKey k z
  | [], m, _, _ => by simp
  | x :: r, m, hm, h => by
    rw [List.foldl_cons, at_fold u z k r (m.put x u) (hm.put x u) (fun y hy => h y (by simp [hy])), List.any_cons]
    by_cases e : k = x
    · subst e
      rw [WideAt.sameKey_self (h k (by simp)), atKey_put_same hm (h k (by simp))]
      simp
    · rw [sameKey_ne (fun e' => e e'.symm), atKey_put_other e]
      simp

def seenD (l : List ByteArray) : DataW Unit := setOf (.lit (.bool true)) (l.map ky)
theorem seenD_snoc (l : List ByteArray) (x : ByteArray) : seenD (l ++ [x]) = (seenD l).put (ky x) (.lit (.bool true)) := by
  unfold seenD
  rw [List.map_append]
  exact setOf_snoc _ _ _

theorem at_seenD (l : List ByteArray) (e : ByteArray) : (seenD l).atKey (ky e) (.lit (.bool false)) = .lit (.bool (inL e l)) := by
  unfold seenD setOf
  rw [at_fold _ _ _ _ _ isMap_empty (fun x hx => by obtain ⟨y, _, rfl⟩ := List.mem_map.1 hx; exact ky_key y)]
  have hany : (l.map ky).any (fun x => x.sameKey (ky e)) = inL e l := by
    rw [Bool.eq_iff_iff, List.any_eq_true, inL_iff]
    constructor
    · rintro ⟨x, hx, h⟩
      obtain ⟨y, hy, rfl⟩ := List.mem_map.1 hx
      have := ky_inj (WideAt.sameKey_eq h)
      exact this ▸ hy
    · intro h
      exact ⟨ky e, List.mem_map.2 ⟨e, h, rfl⟩, WideAt.sameKey_self (ky_key e)⟩
  rw [hany]
  cases inL e l
  · rfl
  · rfl

theorem plainElem_bool_inv {H : Type} {P : Program} {e : TypeId} (he : P.underlying e = some .bool) {v : Value} {z : DataW H × List MemPlace} (h : plainElem P e v = some z) : ∃ x, v = .bool x ∧ z = (.lit (.bool x), []) := by
  unfold plainElem at h
  rw [he] at h
  cases v <;> simp at h
  subst h
  exact ⟨_, rfl, rfl⟩

theorem look_seen {w : World} {sb n : Nat} {l : List ByteArray} (h : w.ownsMap Try.prog 9 (plainElem Try.prog 4) sb n (seenD l)) {e : ByteArray} (he : e.size ≤ maxLen) :
    (Instr.lookup 35 (.map (some sb)) (.string e) false).run Try.prog w = .ok (.bool (inL e l)) w := by
  obtain ⟨v, ps, hrun, hv⟩ := h.lookup keyed9 Try.underlying35 (zero4 w) (plainElem_bool Try.underlying4 false) (keyOf_ky he)
  obtain ⟨c, rfl, hc⟩ := plainElem_bool_inv Try.underlying4 hv
  rw [at_seenD] at hc
  simp at hc
  rw [hrun]
  simp [hc]

/-! ### a graph in memory -/
/-- THE GRAPH: a map that reads as D, whose slice at each name t leads to the names succ t. -/
structure Graph (W : World) (bm n : Nat) (D : DataW Value) (succ : ByteArray → List ByteArray) (A : ByteArray → Option Addr) (C B O : ByteArray → Nat) : Prop where
  own : W.ownsMap Try.prog 9 heldR bm n D
  at' : ∀ t, D.atKey (ky t) (.held (.slice none 0 0)) = .held (.slice (A t) (succ t).length (C t))
  row : ∀ t, Strs W (A t) (succ t).length (C t) (B t) (O t) (fun j => (succ t).getD j ByteArray.empty)

theorem Graph.look {W : World} {bm n : Nat} {D : DataW Value} {succ : ByteArray → List ByteArray} {A : ByteArray → Option Addr} {C B O : ByteArray → Nat} (h : Graph W bm n D succ A C B O) {t : ByteArray} (ht : t.size ≤ maxLen) :
    (Instr.lookup 26 (.map (some bm)) (.string t) false).run Try.prog W = .ok (.slice (A t) (succ t).length (C t)) W := by
  obtain ⟨v, ps, hrun, hv⟩ := h.own.lookup keyed9 Try.underlying26 (zero22 W) (zd := .held (.slice none 0 0)) (zp := []) rfl (keyOf_ky ht)
  rw [h.at' t] at hv
  simp only [heldR, Option.some.injEq, Prod.mk.injEq, DataW.held.injEq] at hv
  rw [hrun, hv.1]

theorem Graph.below {W W' : World} {bm n : Nat} {D : DataW Value} {succ : ByteArray → List ByteArray} {A : ByteArray → Option Addr} {C B O : ByteArray → Nat} (h : Graph W bm n D succ A C B O) (hb : Below W.heap.size W W') : Graph W' bm n D succ A C B O where
  own := by
    have hlt := h.own.lt
    exact h.own.kept (w' := W') (row := some W.heap.size) ⟨hb.os, hb.tape, hb.output, hb.size, fun i hi _ => hb.block i hi⟩ (by simp; omega)
  at' := h.at'
  row := fun t => (h.row t).below hb

/-- WHERE reachable STANDS: f has been found, p names have been taken off. -/
def Inv (base sb : Nat) (nm : ByteArray) (f : List ByteArray) (p : Nat) (fv nv : Value) (wr : World) : Prop :=
  wr.ownsRow base 9 1 fv f.length (f.map Value.string) ∧ Queue wr base nv (((nm :: f).drop p).map Value.string) ∧ wr.ownsMap Try.prog 9 (plainElem Try.prog 4) sb (f.length + 1) (seenD (nm :: f)) ∧ fv.ownBlock ≠ nv.ownBlock ∧ fv.ownBlock ≠ some sb ∧ nv.ownBlock ≠ some sb

def ReachRet (W : World) (nm : ByteArray) (succ : ByteArray → List ByteArray) (w' : World) (e : Ending) : Prop :=
  ∃ fv p, e = .returned fv ∧ p = (Fs nm succ p).length + 1 ∧ w'.ownsRow W.heap.size 9 1 fv (Fs nm succ p).length ((Fs nm succ p).map Value.string) ∧ Below W.heap.size W w'

theorem cell_one (w : World) (v : Value) (t : TypeId) : (w.alloc (.cells #[v] t)).cell? ⟨w.heap.size, 0, none⟩ = some v := (World.cell?_alloc_at (w := w) #[v] t w.heap.size 0 rfl).trans rfl

/-- An append whose run is known. -/
theorem wpList_append_run {P : Program} {w w' : World} {ops : Array Oper} {rest : List Oper} {o : Oper} {a : Act} {Q : Exit → Act → World → Prop} (hgd : o.guard = none) (s x : Operand) (t : TypeId)
    (ho : o.op = .call { callee := .builtin .append, args := #[s, x], argTypes := #[t, t] }) {v y v' : Value} (hs : a.eval s = v) (hx : a.eval x = y)
    (hr : (Builtin.append_ #[t, t] o.type #[v, y]).run P w = .ok v' w') (h : wpList P ops Q rest (a.put o.dst v') w') : wpList P ops Q (o :: rest) a w := by
  refine wpList_plain hgd fun K hK => ?_
  unfold Oper.wp execOp
  simp only [ho, resolve, invoke, builtin, Sem.run_bind, Sem.run_pure, Result.andThen_ok, List.map_toArray, List.map_cons, List.map_nil, hs, hx, hr]
  exact hK _ _ h

/-- A NEW NAME: the three writes of the inner loop, as run equations ahead of the walk. -/
theorem step_new {W wr : World} {sb : Nat} {nm : ByteArray} {f : List ByteArray} {p : Nat} {fv nv : Value} (hI : Inv W.heap.size sb nm f p fv nv wr) (hb : Below W.heap.size W wr) (hsb : W.heap.size ≤ sb) (hp : p ≤ f.length + 1) (hf : f.length ≤ 2097152) {e : ByteArray} (he : e.size ≤ maxLen) :
    ∃ wa fv' wb nv' wc, (Instr.mapUpdate 35 (.map (some sb)) (.string e) (.bool true)).run Try.prog wr = .ok () wa ∧
      (Builtin.append_ #[22, 22] 22 #[fv, .slice (some ⟨wa.heap.size, 0, none⟩) 1 1]).run Try.prog (wa.alloc (.cells #[.string e] 9)) = .ok fv' wb ∧
      (Builtin.append_ #[22, 22] 22 #[nv, .slice (some ⟨wb.heap.size, 0, none⟩) 1 1]).run Try.prog (wb.alloc (.cells #[.string e] 9)) = .ok nv' wc ∧
      Inv W.heap.size sb nm (f ++ [e]) p fv' nv' wc ∧ Below W.heap.size W wc := by
  obtain ⟨i, hi, hz, hsz, hby⟩ : ∃ i, Try.prog.info? 9 = some i ∧ i.zero = some (.string ⟨#[]⟩) ∧ i.size = 1 ∧ i.bytes = 16 := by
    obtain ⟨i, hi, hzz⟩ := Option.map_eq_some_iff.1 info9
    simp only [Prod.mk.injEq] at hzz
    exact ⟨i, hi, hzz.1, hzz.2.1, hzz.2.2⟩
  obtain ⟨hfo, hqo, hmo, d1, d2, d3⟩ := hI
  obtain ⟨wa, hup, hma, hga⟩ := hmo.update keyed9 Try.underlying35 (by unfold maxLen; omega) (keyOf_ky he) (plainElem_bool Try.underlying4 true)
  have hfa : (wa.alloc (.cells #[.string e] 9)).ownsRow W.heap.size 9 1 fv f.length (f.map Value.string) := (hfo.kept hga (.inr d2)).alloc _
  have hqa : Queue (wa.alloc (.cells #[.string e] 9)) W.heap.size nv (((nm :: f).drop p).map Value.string) := (hqo.kept hga d3).kept (row := none) (World.grownBy_alloc wa _ none) (by obtain ⟨g, hg, _⟩ := hqo.block; rw [hg]; simp)
  have hma' := hma.alloc (.cells #[.string e] 9)
  have hwa : W.heap.size ≤ wa.heap.size := Nat.le_trans hb.size hga.size
  have hba : Below W.heap.size W (wa.alloc (.cells #[.string e] 9)) := (hb.grown hga hb.size (fun k hk => by simp at hk; omega)).alloc hwa _
  obtain ⟨fv', wb, hr1, hfb, hgb, _, hat1⟩ := run_append_own_at (P := Try.prog) (wa.alloc (.cells #[.string e] 9)) W.heap.size 22 22 9 i (.string ⟨#[]⟩) 1 16 Try.underlying22 hi hz hsz hby rfl (by decide) fv f.length (f.map Value.string) hfa ⟨wa.heap.size, 0, none⟩ 1 1 [.string e] rfl (cell_one_new wa (.string e) 9) (by simp [Value.oneCell']) (by unfold maxLen; omega) (by omega) hba.size
  have hqb : Queue (wb.alloc (.cells #[.string e] 9)) W.heap.size nv (((nm :: f).drop p).map Value.string) := (hqa.kept hgb (fun h => d1 h.symm)).kept (row := none) (World.grownBy_alloc wb _ none) (by obtain ⟨g, hg, _⟩ := hqo.block; rw [hg]; simp)
  have hmb := (hma'.kept hgb (fun h => d2 h.symm)).alloc (.cells #[.string e] 9)
  have hfv' : ∀ k, fv'.ownBlock = some k → W.heap.size ≤ k := fun k hk => (hfb.lt k hk).1
  have hbb0 : Below W.heap.size W wb := hba.grown hgb hba.size (fun k hk => (hfa.lt k hk).1)
  have hbb : Below W.heap.size W (wb.alloc (.cells #[.string e] 9)) := hbb0.alloc hbb0.size _
  obtain ⟨nv', wc, hr2, hqc, hgc, hat2⟩ := append_queue (wb.alloc (.cells #[.string e] 9)) W.heap.size nv (((nm :: f).drop p).map Value.string) hqb ⟨wb.heap.size, 0, none⟩ 1 (.string e) (cell_one wb (.string e) 9) rfl (by simp; omega) hbb.size 22
  have hsbl : sb < wr.heap.size := hmo.lt
  obtain ⟨gq, hgq, hq1, hq2⟩ := hqo.block
  have s1 : wr.heap.size ≤ wa.heap.size := hga.size
  have s2 : (wa.alloc (.cells #[.string e] 9)).heap.size ≤ wb.heap.size := hgb.size
  simp only [World.size_alloc] at s2
  have d1' : fv'.ownBlock ≠ nv.ownBlock := by
    rcases hat1 with h | h
    · rw [h]; exact d1
    · rw [h, hgq]
      simp
      omega
  have d2' : fv'.ownBlock ≠ some sb := by
    rcases hat1 with h | h
    · rw [h]; exact d2
    · rw [h]
      simp
      omega
  refine ⟨wa, fv', wb, nv', wc, hup, hr1, hr2, ⟨?_, ?_, ?_, ?_, ?_, ?_⟩, hbb.grown hgc hbb.size (fun k hk => by obtain ⟨g, hg, hg1, _⟩ := hqb.block; rw [hg] at hk; simp at hk; omega)⟩
  · have := (hfb.alloc (.cells #[.string e] 9)).kept hgc (.inr d1')
    simpa using this
  · have hd : (nm :: (f ++ [e])).drop p = (nm :: f).drop p ++ [e] := by
      rw [show nm :: (f ++ [e]) = (nm :: f) ++ [e] from rfl, List.drop_append_of_le_length (by simpa using hp)]
    rw [hd, List.map_append]
    exact hqc
  · rw [show nm :: (f ++ [e]) = (nm :: f) ++ [e] from rfl, seenD_snoc]
    have := hmb.kept hgc (fun h => d3 h.symm)
    simpa using this
  · rcases hat2 with h | h
    · rw [h]; exact d1'
    · rw [h]
      intro hh
      have := (hfb.lt _ hh).2
      simp at this
      omega
  · exact d2'
  · rcases hat2 with h | h
    · rw [h]; exact d3
    · rw [h]
      simp
      omega

set_option maxRecDepth 100000 in
set_option maxHeartbeats 1000000 in
theorem reach13 (W : World) (bm n : Nat) (D : DataW Value) (succ : ByteArray → List ByteArray) (A : ByteArray → Option Addr) (C B O : ByteArray → Nat) (U : List ByteArray) (nm : ByteArray)
    (hG : Graph W bm n D succ A C B O) (hU : ∀ x, ∀ e ∈ succ x, e ∈ U) (hUn : U.length ≤ 2097152) (hUs : ∀ e ∈ U, e.size ≤ maxLen) (hnm : nm.size ≤ maxLen) :
    Calls Try.prog 13 #[.map (some bm), .string nm] W fun e w' => ReachRet W nm succ w' e := by
  have hmm := @run_makeMap Try.prog
  have HG := hidOf hG
  have HU := hidOf hU
  have HUs := hidOf hUs
  clear hG hU hUs
  have hkey := keyOf_ky hnm
  have hown0 : (W.alloc (.map #[] 0)).ownsMap Try.prog 9 (plainElem (H := Unit) Try.prog 4) W.heap.size 0 (.map []) := World.ownsMap_made W _ _ _
  obtain ⟨w1, hup, hown1, hgr1⟩ := hown0.update keyed9 Try.underlying35 (by unfold maxLen; omega) hkey (plainElem_bool Try.underlying4 true)
  have HO1 := hidOf hown1
  have HG1 := hidOf hgr1
  clear hown0 hown1 hgr1 hkey
  go_enter Try.func13, Try.ntmps13
  go_wp2
  have hb1 : Below W.heap.size W w1 := ((Below.refl _ W).alloc (Nat.le_refl _) _).grown HG1.out (by simp) (fun k hk => by simp at hk; omega)
  have hst : Inv W.heap.size W.heap.size nm [] 0 (.slice none 0 0) (.slice (some ⟨w1.heap.size, 0, none⟩) 1 1) (w1.alloc (.cells #[.string nm] 9)) := by
    have hlt := HO1.out.lt
    refine ⟨World.ownsRow_nil _ _ _ _, ⟨w1.heap.size, 0, 1, rfl, hb1.size, by simp, by simp, by unfold maxLen; omega, fun j u hu => ?_, fun j hj => ?_⟩, ?_, by simp [Value.ownBlock], by simp [Value.ownBlock], by simp [Value.ownBlock]; omega⟩
    · match j, hu with
      | 0, hu =>
        simp at hu
        subst hu
        exact cell_one w1 (.string nm) 9
    · have hj0 : j = 0 := by omega
      subst hj0
      exact ⟨by rw [cell_one w1 (.string nm) 9]; rfl, by go_simp⟩
    · exact HO1.out.alloc _
  have HSt := hidOf (And.intro hst (hb1.alloc hb1.size (.cells #[.string nm] 9)))
  clear hst hb1
  go_loopg [5, 7] (2 * U.length + 1) (fun gk fv nv wr => ∃ p, p ≤ (Fs nm succ p).length + 1 ∧ gk = 2 * (U.length - (Fs nm succ p).length) + ((Fs nm succ p).length + 1 - p) ∧ Inv W.heap.size W.heap.size nm (Fs nm succ p) p fv nv wr ∧ Below W.heap.size W wr)
  case atStart => exact ⟨0, by omega, by simp [Fs], HSt.out.1, HSt.out.2⟩
  case round =>
    obtain ⟨p, hp, hgk, hI, hb⟩ := hrel
    obtain ⟨f, hf⟩ : ∃ f, f = Fs nm succ p := ⟨_, rfl⟩
    rw [← hf] at hp hgk hI
    have hsub : ∀ x ∈ f, x ∈ U := by rw [hf]; exact Fs_sub nm succ U HU.out p
    have hnd : (nm :: f).Nodup := by rw [hf]; exact Fs_nodup nm succ p
    have hfl : f.length ≤ U.length := length_le_of_nodup _ _ (List.nodup_cons.1 hnd).2 hsub
    have hq := hI.2.1
    rcases hdr : (nm :: f).drop p with _ | ⟨x, r⟩
    · rw [hdr] at hq
      obtain ⟨g, off, cap, hnv, _⟩ := hq
      simp only [List.map_nil, List.length_nil] at hnv
      subst hnv
      have hp' : p = f.length + 1 := by
        have := List.drop_eq_nil_iff.1 hdr
        simp at this
        omega
      have HH := hidOf (And.intro hI (And.intro hf (And.intro hp' hb)))
      clear hI hf hp' hb hgk hsub hnd hdr
      go_wp2
      go_ret
      obtain ⟨hI, hf, hp', hb⟩ := HH.out
      exact ⟨_, p, rfl, by rw [← hf]; exact hp', by rw [← hf]; exact hI.1, hb⟩
    · rw [hdr] at hq
      obtain ⟨g, off, cap, hnv, hg1, hg2, hle, hcm, hcell, hspare⟩ := hq
      simp only [List.map_cons, List.length_cons, List.length_map] at hnv hle
      subst hnv
      have hc : wr.cell? ⟨g, off, none⟩ = some (.string x) := hcell 0 _ rfl
      have hxo : (nm :: f)[p]? = some x := by
        have := congrArg (fun l => l[0]?) hdr
        simpa using this
      have hpf : p ≤ f.length := by
        have := (List.getElem?_eq_some_iff.1 hxo).1
        simp at this
        omega
      have hxs : x.size ≤ maxLen := by
        have hm := List.mem_of_getElem? hxo
        rcases List.mem_cons.1 hm with h | h
        · rw [h]; exact hnm
        · exact HUs.out x (hsub x h)
      have hrl : r.length ≤ 2097152 := by
        have := congrArg List.length hdr
        simp at this
        omega
      have hlk := (HG.out.below hb).look hxs
      have HR := hidOf (HG.out.row x)
      have hsl : (succ x).length ≤ maxLen := HR.out.1
      have HH := hidOf (And.intro hI (And.intro hf (And.intro hxo (And.intro hb (And.intro hsub (And.intro hnd hgk))))))
      clear hI hf hxo hb hsub hnd hgk hdr hcell hspare
      unfold maxLen at hsl hcm
      go_wp2
      go_loopw [5, 7, 26] (fun fv nv i wx => ∃ k : Nat, k ≤ (succ x).length ∧ i = .int .i64 k ∧ Inv W.heap.size W.heap.size nm (scan nm f ((succ x).take k)) p fv nv wx ∧ Below W.heap.size W wx) (fun _ _ i _ => (succ x).length - (intOf i).toNat)
      case atStart => exact ⟨0, Nat.zero_le _, rfl, HH.out.1, HH.out.2.2.2.1⟩
      case round =>
        obtain ⟨k, hk, rfl, hI, hb⟩ := hrel
        obtain ⟨f2, hf2⟩ : ∃ f2, f2 = scan nm f ((succ x).take k) := ⟨_, rfl⟩
        rw [← hf2] at hI
        have hsub2 : ∀ y ∈ f2, y ∈ U := by
          rw [hf2]
          exact scan_sub nm U _ _ HH.out.2.2.2.2.1 (fun y hy => HU.out x y (List.mem_of_mem_take hy))
        have hnd2 : (nm :: f2).Nodup := by
          rw [hf2]
          exact scan_nodup nm _ _ HH.out.2.2.2.2.2.1
        have hpre : f <+: f2 := by
          rw [hf2]
          exact scan_prefix nm _ _
        have hfl2 : f2.length ≤ U.length := length_le_of_nodup _ _ (List.nodup_cons.1 hnd2).2 hsub2
        have hlen2 : f.length ≤ f2.length := hpre.length_le
        by_cases hlt : k < (succ x).length
        · obtain ⟨e, he⟩ : ∃ e, e = (succ x)[k] := ⟨_, rfl⟩
          have heU : e ∈ U := HU.out x e (by rw [he]; exact List.getElem_mem _)
          have hes : e.size ≤ maxLen := HUs.out e heU
          have hix := HR.out.idx hlt
          have hce : wr.cell? ⟨B x, O x + k, none⟩ = some (.string e) := by
            have := (HR.out.2.2 k hlt).1
            rw [hb.cell (HR.out.2.1 (by omega)).2, this, he]
            simp [hlt]
          have hse := look_seen hI.2.2.1 hes
          have hnext : scan nm f ((succ x).take (k + 1)) = add nm f2 e := by rw [scan_take nm f _ _ hlt, ← hf2, ← he]
          cases hin : inL e (nm :: f2)
          · rw [hin] at hse
            rw [add_out _ _ _ hin] at hnext
            obtain ⟨wa, fv', wb, nv', wc, hra, hrb, hrc, hI', hb'⟩ := step_new hI hb (Nat.le_refl _) (by omega) (by omega) hes
            have HN := hidOf (And.intro hnext (And.intro hI' hb'))
            clear hnext hI' hb' hI hb hf2 hsub2 hnd2 hpre he heU hin
            go_wp2_with (at_builtin; first | refine wpList_append_run rfl _ _ 22 rfl rfl rfl hrb ?_ | refine wpList_append_run rfl _ _ 22 rfl rfl rfl hrc ?_)
            go_round
            case rel => exact ⟨k + 1, by omega, by go_num, by rw [HN.out.1]; exact HN.out.2.1, HN.out.2.2⟩
            case measure => simp [intOf] <;> omega
          · rw [hin] at hse
            rw [add_in _ _ _ hin] at hnext
            have HN := hidOf (And.intro hnext (And.intro hI hb))
            clear hnext hI hb hf2 hsub2 hnd2 hpre he heU hin
            go_wp2
            go_round
            case rel => exact ⟨k + 1, by omega, by go_num, by rw [HN.out.1]; exact HN.out.2.1, HN.out.2.2⟩
            case measure => simp [intOf] <;> omega
        · have hke : k = (succ x).length := by omega
          subst hke
          rw [List.take_length] at hf2
          obtain ⟨r2, hdr2⟩ : ∃ r2, (nm :: f2).drop p = x :: r2 := by
            obtain ⟨t, ht⟩ := hpre
            have hx2 : (nm :: f2)[p]? = some x := by
              rw [← ht, ← List.cons_append, List.getElem?_append_left (by simp; omega)]
              exact HH.out.2.2.1
            obtain ⟨hl, hx3⟩ := List.getElem?_eq_some_iff.1 hx2
            exact ⟨_, by rw [List.drop_eq_getElem_cons hl, hx3]⟩
          have hq2 := hI.2.1
          rw [hdr2] at hq2
          have hq3 := hq2
          obtain ⟨g2, off2, cap2, hnv2, _, _, hle2, hcm2, _⟩ := hq3
          simp only [List.map_cons, List.length_cons, List.length_map] at hnv2 hle2
          subst hnv2
          have hdr3 : (nm :: f2).drop (p + 1) = r2 := by rw [← List.drop_drop, hdr2]; rfl
          have hpop := pop_queue (x := .string x) (r := r2.map Value.string) (by simpa using hq2)
          rw [List.length_map] at hpop
          have hFs : Fs nm succ (p + 1) = f2 := by
            rw [Fs_some nm succ p x (by rw [← HH.out.2.1]; exact HH.out.2.2.1), ← HH.out.2.1, hf2]
          have HN := hidOf (And.intro hI (And.intro hb (And.intro hdr3 (And.intro hpop hFs))))
          clear hI hb hdr3 hpop hFs hf2 hsub2 hnd2 hpre hdr2 hq2
          unfold maxLen at hcm2
          by_cases hc1 : cap2 = 1
          · subst hc1
            have hr0 : r2.length = 0 := by omega
            go_wp2
            obtain ⟨hI, hb, hdr3, hpop, hFs⟩ := HN.out
            have hgk := HH.out.2.2.2.2.2.2
            go_roundg (2 * (U.length - f2.length) + (f2.length + 1 - (p + 1)))
            case measure => omega
            case rel =>
              have hq' := hpop.2.1 (by first | trivial | rfl)
              rw [hr0] at hq'
              refine ⟨p + 1, by rw [hFs]; omega, by rw [hFs], ?_, hb⟩
              rw [hFs]
              refine ⟨hI.1, ?_, hI.2.2.1, hI.2.2.2.1, hI.2.2.2.2.1, hI.2.2.2.2.2⟩
              rw [hdr3]
              exact hq'
          · go_wp2
            obtain ⟨hI, hb, hdr3, hpop, hFs⟩ := HN.out
            have hgk := HH.out.2.2.2.2.2.2
            go_roundg (2 * (U.length - f2.length) + (f2.length + 1 - (p + 1)))
            case measure => omega
            case rel =>
              have hq' := hpop.2.2 hc1
              refine ⟨p + 1, by rw [hFs]; omega, by rw [hFs], ?_, hb⟩
              rw [hFs]
              refine ⟨hI.1, ?_, hI.2.2.1, hI.2.2.2.1, hI.2.2.2.2.1, hI.2.2.2.2.2⟩
              rw [hdr3]
              exact hq'

end Go.Proofs.Qxb6609015a
