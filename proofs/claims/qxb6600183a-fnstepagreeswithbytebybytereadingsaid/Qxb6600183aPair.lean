/-
  'step', the pairs.
-/
import Derived.Test.Qxb6600183aStep
namespace Go.Proofs.Qxb6600183a
open Go.RowKit

set_option maxHeartbeats 2000000 in
set_option maxRecDepth 100000 in
theorem flat_open (b : Nat) (d : Int) (s : ByteArray) (i e : Nat) (w : World) (h : Sc b false false d w) (hs : s.size ≤ 1048576) (hi : i < s.size) (hd : ¬ 0 < d) (hd0 : 0 ≤ d)
    (he1 : i ≤ e) (he2 : e ≤ s.size) (hm : min ((i : Int) + 2) (s.size : Int) = (e : Int)) (p1 : ((s.extract i e).toList == [47, 42]) = true) :
    Calls Try.prog 33 #[.pointer (some ⟨b, 0, none⟩), .string s, .int .i64 (i : Int)] w (Left b false false (d + 1) 2 w) := by
  have c0 := h.c0
  have c1 := h.c1
  have c2 := h.c2
  have f0 := h.fz 0
  have f1 := h.fz 1
  have f2 := h.fz 2
  have S : Hid (Sc b false false d w) := h
  clear h
  go_enter Try.func33, Try.ntmps33
  go_wp2
  go_ret
  exact ⟨rfl, S.out.set2 _, (Below.refl _ _).setCell (p := ⟨b, 2, none⟩) (Nat.le_refl _) _⟩

set_option maxHeartbeats 2000000 in
set_option maxRecDepth 100000 in
theorem flat_line (b : Nat) (d : Int) (s : ByteArray) (i e : Nat) (w : World) (h : Sc b false false d w) (hs : s.size ≤ 1048576) (hi : i < s.size) (hd : ¬ 0 < d) (_hd0 : 0 ≤ d)
    (he1 : i ≤ e) (he2 : e ≤ s.size) (hm : min ((i : Int) + 2) (s.size : Int) = (e : Int)) (p1 : ((s.extract i e).toList == [47, 42]) = false) (p2 : ((s.extract i e).toList == [45, 45]) = true) :
    Calls Try.prog 33 #[.pointer (some ⟨b, 0, none⟩), .string s, .int .i64 (i : Int)] w (Left b false true d 2 w) := by
  have c0 := h.c0
  have c1 := h.c1
  have c2 := h.c2
  have f0 := h.fz 0
  have f1 := h.fz 1
  have f2 := h.fz 2
  have S : Hid (Sc b false false d w) := h
  clear h
  go_enter Try.func33, Try.ntmps33
  go_wp2
  go_ret
  exact ⟨rfl, S.out.set1 _, (Below.refl _ _).setCell (p := ⟨b, 1, none⟩) (Nat.le_refl _) _⟩

set_option maxHeartbeats 2000000 in
set_option maxRecDepth 100000 in
theorem flat_else (b : Nat) (d : Int) (s : ByteArray) (i e : Nat) (w : World) (h : Sc b false false d w) (hs : s.size ≤ 1048576) (hi : i < s.size) (hd : ¬ 0 < d) (_hd0 : 0 ≤ d)
    (he1 : i ≤ e) (he2 : e ≤ s.size) (hm : min ((i : Int) + 2) (s.size : Int) = (e : Int)) (p1 : ((s.extract i e).toList == [47, 42]) = false) (p2 : ((s.extract i e).toList == [45, 45]) = false) (x : Bool) (hx : ((s[i].toNat : Int) == 39) = x) :
    Calls Try.prog 33 #[.pointer (some ⟨b, 0, none⟩), .string s, .int .i64 (i : Int)] w (Left b x false d 1 w) := by
  have c0 := h.c0
  have c1 := h.c1
  have c2 := h.c2
  have f0 := h.fz 0
  have f1 := h.fz 1
  have f2 := h.fz 2
  have S : Hid (Sc b false false d w) := h
  clear h
  go_enter Try.func33, Try.ntmps33
  go_wp2
  go_ret
  exact ⟨rfl, S.out.set0 _, (Below.refl _ _).setCell (p := ⟨b, 0, none⟩) (Nat.le_refl _) _⟩

set_option maxHeartbeats 2000000 in
set_option maxRecDepth 100000 in
theorem deep_open (b : Nat) (d : Int) (s : ByteArray) (i e : Nat) (w : World) (h : Sc b false false d w) (hs : s.size ≤ 1048576) (hi : i < s.size) (hd : 0 < d) (hd1 : d ≤ 4294967296)
    (hk : Lib.indexAny (s.extract i s.size).data.toList [47, 42] = 0) (he1 : i ≤ e) (he2 : e ≤ s.size) (hm : min ((i : Int) + 2) (s.size : Int) = (e : Int)) (p1 : ((s.extract i e).toList == [47, 42]) = true) :
    Calls Try.prog 33 #[.pointer (some ⟨b, 0, none⟩), .string s, .int .i64 (i : Int)] w (Left b false false (d + 1) 2 w) := by
  have HB : Hid (∀ w, Calls Try.prog 41 #[.string (s.extract i s.size), .string ⟨#[47, 42]⟩] w fun e w' => e = .returned (.int .i64 0) ∧ Below w.heap.size w w') := fun w => by rw [← hk]; exact any_any _ ⟨#[47, 42]⟩ w rfl (by simp only [ByteArray.size_extract]; omega) (ascii_two 47 42 (by decide) (by decide))
  have hii : (i : Int) ≤ (s.size : Int) := by omega
  have c0 := h.c0
  have c1 := h.c1
  have c2 := h.c2
  have S : Hid (Sc b false false d w) := h
  clear hk h
  go_enter Try.func33, Try.ntmps33
  go_wp2_with (go_at_call 41; go_must (refine (HB.out _).mono ?_); rintro e w2 ⟨rfl, hw⟩; have d2 := (S.out.on hw).c2; have f2 := (S.out.on hw).fz 2)
  go_ret
  exact ⟨rfl, (S.out.on hw).set2 _, (hw.mono (Nat.le_of_lt S.out.lt)).setCell (p := ⟨b, 2, none⟩) (Nat.le_refl _) _⟩

set_option maxHeartbeats 2000000 in
set_option maxRecDepth 100000 in
theorem deep_close (b : Nat) (d : Int) (s : ByteArray) (i e : Nat) (w : World) (h : Sc b false false d w) (hs : s.size ≤ 1048576) (hi : i < s.size) (hd : 0 < d) (hd1 : d ≤ 4294967296)
    (hk : Lib.indexAny (s.extract i s.size).data.toList [47, 42] = 0) (he1 : i ≤ e) (he2 : e ≤ s.size) (hm : min ((i : Int) + 2) (s.size : Int) = (e : Int)) (p1 : ((s.extract i e).toList == [47, 42]) = false) (p3 : ((s.extract i e).toList == [42, 47]) = true) :
    Calls Try.prog 33 #[.pointer (some ⟨b, 0, none⟩), .string s, .int .i64 (i : Int)] w (Left b false false (d - 1) 2 w) := by
  have HB : Hid (∀ w, Calls Try.prog 41 #[.string (s.extract i s.size), .string ⟨#[47, 42]⟩] w fun e w' => e = .returned (.int .i64 0) ∧ Below w.heap.size w w') := fun w => by rw [← hk]; exact any_any _ ⟨#[47, 42]⟩ w rfl (by simp only [ByteArray.size_extract]; omega) (ascii_two 47 42 (by decide) (by decide))
  have hii : (i : Int) ≤ (s.size : Int) := by omega
  have c0 := h.c0
  have c1 := h.c1
  have c2 := h.c2
  have S : Hid (Sc b false false d w) := h
  clear hk h
  go_enter Try.func33, Try.ntmps33
  go_wp2_with (go_at_call 41; go_must (refine (HB.out _).mono ?_); rintro e w2 ⟨rfl, hw⟩; have d2 := (S.out.on hw).c2; have f2 := (S.out.on hw).fz 2)
  go_ret
  exact ⟨rfl, (S.out.on hw).set2 _, (hw.mono (Nat.le_of_lt S.out.lt)).setCell (p := ⟨b, 2, none⟩) (Nat.le_refl _) _⟩

set_option maxHeartbeats 2000000 in
set_option maxRecDepth 100000 in
theorem deep_else (b : Nat) (d : Int) (s : ByteArray) (i e : Nat) (w : World) (h : Sc b false false d w) (hs : s.size ≤ 1048576) (hi : i < s.size) (hd : 0 < d) (_hd1 : d ≤ 4294967296)
    (hk : Lib.indexAny (s.extract i s.size).data.toList [47, 42] = 0) (he1 : i ≤ e) (he2 : e ≤ s.size) (hm : min ((i : Int) + 2) (s.size : Int) = (e : Int)) (p1 : ((s.extract i e).toList == [47, 42]) = false) (p3 : ((s.extract i e).toList == [42, 47]) = false) :
    Calls Try.prog 33 #[.pointer (some ⟨b, 0, none⟩), .string s, .int .i64 (i : Int)] w (Left b false false d 1 w) := by
  have HB : Hid (∀ w, Calls Try.prog 41 #[.string (s.extract i s.size), .string ⟨#[47, 42]⟩] w fun e w' => e = .returned (.int .i64 0) ∧ Below w.heap.size w w') := fun w => by rw [← hk]; exact any_any _ ⟨#[47, 42]⟩ w rfl (by simp only [ByteArray.size_extract]; omega) (ascii_two 47 42 (by decide) (by decide))
  have hii : (i : Int) ≤ (s.size : Int) := by omega
  have c0 := h.c0
  have c1 := h.c1
  have c2 := h.c2
  have S : Hid (Sc b false false d w) := h
  clear hk h
  go_enter Try.func33, Try.ntmps33
  go_wp2_with (go_at_call 41; go_must (refine (HB.out _).mono ?_); rintro e w2 ⟨rfl, hw⟩; have d2 := (S.out.on hw).c2; have f2 := (S.out.on hw).fz 2)
  go_ret
  exact ⟨rfl, S.out.on hw, hw.mono (Nat.le_of_lt S.out.lt)⟩

end Go.Proofs.Qxb6600183a
