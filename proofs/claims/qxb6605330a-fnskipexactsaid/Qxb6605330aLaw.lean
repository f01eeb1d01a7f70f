/-
  The walk of 'FnSkipExact', out of the contracts of its callees.
-/
import Derived.Test.Qxb6605330aSkip
import Derived.Test.Qxb6605330aSkipEnd
import Derived.OpenShut
namespace Go.Proofs.Qxb6605330a.fnSkipExact
open Go.RowKit Plain

theorem zz_any (t : ByteArray) (p x : Nat) (bd : Bool) (w : World) (hs : t.size ≤ 1048576) (hv : Hid (∃ f, V t f false p x)) :
    Calls Try.prog 20 #[.string t, .int .i64 (p : Int), .bool bd] w fun e w' => e = .returned (.int .i64 (x : Int)) ∧ Below w.heap.size w w' := by
  obtain ⟨f, hf⟩ := hv.out
  have HF : Hid (V t f false p x) := hf
  have hd : Dec w.heap.size t p (w.alloc (.cells #[.string t, .int .i64 (p : Int), .bool bd] 41)) := ⟨bd, heap_alloc_new w _⟩
  have hb : Below w.heap.size w (w.alloc (.cells #[.string t, .int .i64 (p : Int), .bool bd] 41)) := (Below.refl _ _).alloc (Nat.le_refl _) _
  have HD := hd
  clear hf hv
  go_enter Try.func20, Try.ntmps20
  go_wp2_with (go_at_call 25; go_must (refine (skip_any w.heap.size t hs f p x _ HD HF.out).mono ?_); rintro e w2 ⟨rfl, M⟩; have c1 := M.dec.c1)
  go_ret
  exact ⟨rfl, hb.trans M.below⟩

set_option maxHeartbeats 1000000 in
set_option maxRecDepth 100000 in
theorem walk (a0 : ByteArray) (a1 : Int) (a2 : Bool) (w0 : a0.size ≤ maxLen) (w1 : (Lit.int .i64 a1).wf = true) (w : World) :
    Calls Try.prog 7 #[.string a0, .int .i64 a1, .bool a2] w fun e w' => e = .returned (.bool true) ∧ Below w.heap.size w w' := by
  by_cases hs : a0.size ≤ 1048576
  · have hd : decide (a0.size ≤ 1048576) = true := by simpa using hs
    have hsi : (a0.size : Int) ≤ 1048576 := by omega
    by_cases hp : 0 ≤ a1
    · obtain ⟨p, rfl⟩ : ∃ p : Nat, a1 = (p : Int) := ⟨a1.toNat, by omega⟩
      go_enter Try.func7, Try.ntmps7
      go_wp2_with (first | (go_at_call 18; go_must (refine (bytes_any _ _ _ _ w0).mono ?_); rintro e w2 ⟨rfl, rfl⟩) | fail)
      refine (skipEnd_any a0 p _ hs).mono ?_
      rintro e w3 ⟨⟨x, ok, rfl, hx⟩, rfl⟩
      cases ok
      · clear hx
        go_wp2_with fail
        go_ret
        exact ⟨rfl, Below.refl _ _⟩
      · have HX : Hid (∃ f, V a0 f false p x) := hx rfl
        clear hx
        go_wp2_with (go_at_call 20; go_must (refine (zz_any a0 p x _ _ hs HX).mono ?_); rintro e w4 ⟨rfl, hb⟩)
        go_ret
        exact ⟨by simp, hb⟩
    · have hpi : a1 < 0 := by omega
      go_enter Try.func7, Try.ntmps7
      go_wp2_with (go_at_call 18; go_must (refine (bytes_any _ _ _ _ w0).mono ?_); rintro e w2 ⟨rfl, rfl⟩)
      go_ret
      exact ⟨rfl, Below.refl _ _⟩
  · have hd : decide (a0.size ≤ 1048576) = false := by simpa using hs
    go_enter Try.func7, Try.ntmps7
    go_wp2_with (go_at_call 18; go_must (refine (bytes_any _ _ _ _ w0).mono ?_); rintro e w2 ⟨rfl, rfl⟩)
    go_ret
    exact ⟨rfl, Below.refl _ _⟩
end Go.Proofs.Qxb6605330a.fnSkipExact
