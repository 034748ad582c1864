import Derived.Test.Qxb6615769aLeaf
namespace Go.Proofs.Qxb6615769a
open Go.RowKit Go.Maps Go.WideMaps

theorem hidOf {p : Prop} (h : p) : Hid p := h

set_option maxHeartbeats 400000 in
theorem note_any (rb b n : Nat) (D : DataW Unit) (a c : Int) (w : World) (c0 : w.cell? ⟨rb, 12, none⟩ = some (.map (some b))) (hown : w.ownsMap Try.prog 22 (plainElem Try.prog 4) b n D) (hn : n < maxLen)
    (wa : wf64 (min a c)) (wc : wf64 (max a c)) :
    Calls Try.prog 12 #[.pointer (some ⟨rb, 0, none⟩), .int .i64 a, .int .i64 c] w fun e w' => e = .returned (.tuple #[]) ∧ w'.ownsMap Try.prog 22 (plainElem Try.prog 4) b (n + 1) (D.put (kk (min a c) (max a c)) (.lit (.bool true))) ∧ w.grownBy w' (some b) := by
  have H := hidOf (note19 rb b n D a c w c0 hown hn wa wc)
  clear hown hn wa wc
  go_enter Try.func12, Try.ntmps12
  go_wp2_with (go_at_call 19; refine (Hid.out H).mono ?_; rintro e w' ⟨rfl, h1, h2⟩)
  go_end0
  exact ⟨rfl, h1, h2⟩

set_option maxHeartbeats 400000 in
theorem kind_any (rb b n : Nat) (m : Option Nat) (D : DataW Unit) (a c : Int) (del ex : Bool) (w : World) (c0 : w.cell? ⟨rb, 12, none⟩ = some (.map (some b))) (c1 : w.cell? ⟨rb, 14, none⟩ = some (.map m))
    (hown : w.ownsMap Try.prog 22 (plainElem Try.prog 4) b n D)
    (hdel : (Instr.lookup 27 (.map m) (.agg #[.int .i64 a, .int .i64 c]) false).run Try.prog w = .ok (.bool del) w)
    (hex : D.atKey (kk (min a c) (max a c)) (.lit (.bool false)) = .lit (.bool ex))
    (wa : wf64 (min a c)) (wc : wf64 (max a c)) :
    Calls Try.prog 13 #[.pointer (some ⟨rb, 0, none⟩), .int .i64 a, .int .i64 c] w fun e w' => e = .returned (.int .u8 (kindN del ex)) ∧ w.grownBy w' none := by
  have H := hidOf (kind20 rb b n m D a c del ex w c0 c1 hown hdel hex wa wc)
  clear hown hdel hex wa wc
  go_enter Try.func13, Try.ntmps13
  go_wp2_with (go_at_call 20; refine (Hid.out H).mono ?_; rintro e w' ⟨rfl, h1⟩)
  go_ret
  exact ⟨rfl, h1⟩

end Go.Proofs.Qxb6615769a
