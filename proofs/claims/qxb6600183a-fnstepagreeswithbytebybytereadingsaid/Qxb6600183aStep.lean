/-
  'step', path by path.
-/
import Derived.Test.Qxb6600183aAny
import Derived.Deep.RegionWith
namespace Go.Proofs.Qxb6600183a
open Go.RowKit

/-- The scan lies in block b: its three fields. -/
def Sc (b : Nat) (q l : Bool) (d : Int) (w : World) : Prop := w.heap[b]? = some (.cells #[.bool q, .bool l, .int .i64 d] 48 (0, 0))

section
variable {b : Nat} {q l : Bool} {d : Int} {w w' : World}
theorem Sc.c0 (h : Sc b q l d w) : w.cell? ⟨b, 0, none⟩ = some (.bool q) := by unfold Sc at h; simp [World.cell?, h]
theorem Sc.c1 (h : Sc b q l d w) : w.cell? ⟨b, 1, none⟩ = some (.bool l) := by unfold Sc at h; simp [World.cell?, h]
theorem Sc.c2 (h : Sc b q l d w) : w.cell? ⟨b, 2, none⟩ = some (.int .i64 d) := by unfold Sc at h; simp [World.cell?, h]
theorem Sc.fz (h : Sc b q l d w) (k : Nat) : w.frozen? ⟨b, k, none⟩ = false := by unfold Sc at h; simp [World.frozen?, h]
theorem Sc.lt (h : Sc b q l d w) : b < w.heap.size := (Array.getElem?_eq_some_iff.1 h).1
theorem Sc.on (h : Sc b q l d w) (hb : Below w.heap.size w w') : Sc b q l d w' := (hb.block b h.lt).trans h
theorem Sc.set0 (h : Sc b q l d w) (x : Bool) : Sc b x l d (w.setCell ⟨b, 0, none⟩ (.bool x)) := by unfold Sc at *; simp [World.setCell, Array.getElem?_modify, h]
theorem Sc.set1 (h : Sc b q l d w) (x : Bool) : Sc b q x d (w.setCell ⟨b, 1, none⟩ (.bool x)) := by unfold Sc at *; simp [World.setCell, Array.getElem?_modify, h]
theorem Sc.set2 (h : Sc b q l d w) (x : Int) : Sc b q l x (w.setCell ⟨b, 2, none⟩ (.int .i64 x)) := by unfold Sc at *; simp [World.setCell, Array.getElem?_modify, h]
end

/-- What 'step' leaves. -/
def Left (b : Nat) (q l : Bool) (d : Int) (n : Int) (w : World) : Ending → World → Prop := fun e w' => e = .returned (.int .i64 n) ∧ Sc b q l d w' ∧ Below b w w'

set_option maxHeartbeats 2000000 in
set_option maxRecDepth 100000 in
theorem step_quoted (b : Nat) (l : Bool) (d : Int) (s : ByteArray) (i : Nat) (w : World) (h : Sc b true l d w) (hs : s.size ≤ 1048576) (hi : i < s.size) (k : Int)
    (hk : Lib.indexByte (s.extract i s.size).data.toList 39 = k) (k2 : k < s.size) :
    Calls Try.prog 33 #[.pointer (some ⟨b, 0, none⟩), .string s, .int .i64 (i : Int)] w (Left b (decide (k < 0)) l d (if k < 0 then (s.size : Int) - i else k + 1) w) := by
  have HB : Hid (∀ w, Calls Try.prog 40 #[.string (s.extract i s.size), .int .u8 39] w fun e w' => e = .returned (.int .i64 k) ∧ w' = w) := fun w => by rw [← hk]; exact Try.strings_IndexByte _ 39 w
  have hii : (i : Int) ≤ (s.size : Int) := by omega
  have c0 := h.c0
  have f0 := h.fz 0
  have S : Hid (Sc b true l d w) := h
  clear hk h
  by_cases hk0 : k < 0
  · rw [if_pos hk0, decide_eq_true hk0]
    go_enter Try.func33, Try.ntmps33
    go_wp2_with (go_at_call 40; go_must (refine (HB.out _).mono ?_); rintro e w2 ⟨rfl, rfl⟩)
    go_ret
    exact ⟨rfl, S.out, Below.refl _ _⟩
  · rw [if_neg hk0, decide_eq_false hk0]
    go_enter Try.func33, Try.ntmps33
    go_wp2_with (go_at_call 40; go_must (refine (HB.out _).mono ?_); rintro e w2 ⟨rfl, rfl⟩)
    go_ret
    exact ⟨rfl, S.out.set0 _, (Below.refl _ _).setCell (p := ⟨b, 0, none⟩) (Nat.le_refl _) _⟩

theorem ascii_two (x y : UInt8) (hx : x.toNat < 128) (hy : y.toNat < 128) (j : Nat) (c : UInt8) (h : (⟨#[x, y]⟩ : ByteArray).data.toList[j]? = some c) : c.toNat < 128 := by
  match j, h with
  | 0, h => cases h; exact hx
  | 1, h => cases h; exact hy
  | (n + 2), h => cases h

set_option maxHeartbeats 2000000 in
set_option maxRecDepth 100000 in
theorem step_line (b : Nat) (d : Int) (s : ByteArray) (i : Nat) (w : World) (h : Sc b false true d w) (hs : s.size ≤ 1048576) (hi : i < s.size) (k : Int)
    (hk : Lib.indexAny (s.extract i s.size).data.toList [10, 13] = k) (k2 : k < s.size) :
    Calls Try.prog 33 #[.pointer (some ⟨b, 0, none⟩), .string s, .int .i64 (i : Int)] w (Left b false (decide (k < 0)) d (if k < 0 then (s.size : Int) - i else k + 1) w) := by
  have HB : Hid (∀ w, Calls Try.prog 41 #[.string (s.extract i s.size), .string ⟨#[10, 13]⟩] w fun e w' => e = .returned (.int .i64 k) ∧ Below w.heap.size w w') := fun w => by rw [← hk]; exact any_any _ ⟨#[10, 13]⟩ w rfl (by simp only [ByteArray.size_extract]; omega) (ascii_two 10 13 (by decide) (by decide))
  have hii : (i : Int) ≤ (s.size : Int) := by omega
  have c0 := h.c0
  have c1 := h.c1
  have S : Hid (Sc b false true d w) := h
  clear hk h
  by_cases hk0 : k < 0
  · rw [if_pos hk0, decide_eq_true hk0]
    go_enter Try.func33, Try.ntmps33
    go_wp2_with (go_at_call 41; go_must (refine (HB.out _).mono ?_); rintro e w2 ⟨rfl, hw⟩)
    go_ret
    exact ⟨rfl, S.out.on hw, hw.mono (Nat.le_of_lt S.out.lt)⟩
  · rw [if_neg hk0, decide_eq_false hk0]
    go_enter Try.func33, Try.ntmps33
    go_wp2_with (go_at_call 41; go_must (refine (HB.out _).mono ?_); rintro e w2 ⟨rfl, hw⟩; have d1 := (S.out.on hw).c1; have f1 := (S.out.on hw).fz 1)
    go_ret
    exact ⟨rfl, (S.out.on hw).set1 _, (hw.mono (Nat.le_of_lt S.out.lt)).setCell (p := ⟨b, 1, none⟩) (Nat.le_refl _) _⟩

set_option maxHeartbeats 2000000 in
set_option maxRecDepth 100000 in
theorem step_far (b : Nat) (d : Int) (s : ByteArray) (i : Nat) (w : World) (h : Sc b false false d w) (hs : s.size ≤ 1048576) (hi : i < s.size) (hd : 0 < d) (k : Int)
    (hk : Lib.indexAny (s.extract i s.size).data.toList [47, 42] = k) (k0 : k ≠ 0) :
    Calls Try.prog 33 #[.pointer (some ⟨b, 0, none⟩), .string s, .int .i64 (i : Int)] w (Left b false false d (if k < 0 then (s.size : Int) - i else k) w) := by
  have HB : Hid (∀ w, Calls Try.prog 41 #[.string (s.extract i s.size), .string ⟨#[47, 42]⟩] w fun e w' => e = .returned (.int .i64 k) ∧ Below w.heap.size w w') := fun w => by rw [← hk]; exact any_any _ ⟨#[47, 42]⟩ w rfl (by simp only [ByteArray.size_extract]; omega) (ascii_two 47 42 (by decide) (by decide))
  have hii : (i : Int) ≤ (s.size : Int) := by omega
  have c0 := h.c0
  have c1 := h.c1
  have c2 := h.c2
  have S : Hid (Sc b false false d w) := h
  clear hk h
  by_cases hk0 : k < 0
  · rw [if_pos hk0]
    clear k0
    go_enter Try.func33, Try.ntmps33
    go_wp2_with (go_at_call 41; go_must (refine (HB.out _).mono ?_); rintro e w2 ⟨rfl, hw⟩)
    go_ret
    exact ⟨rfl, S.out.on hw, hw.mono (Nat.le_of_lt S.out.lt)⟩
  · rw [if_neg hk0]
    have hk1 : 0 < k := by omega
    clear k0
    go_enter Try.func33, Try.ntmps33
    go_wp2_with (go_at_call 41; go_must (refine (HB.out _).mono ?_); rintro e w2 ⟨rfl, hw⟩)
    go_ret
    exact ⟨rfl, S.out.on hw, hw.mono (Nat.le_of_lt S.out.lt)⟩

end Go.Proofs.Qxb6600183a
