/-
  'strings.IndexAny' with two ASCII bytes to look for, at every string.
-/
import Derived.Test.Qxb6600183aRune
import Derived.Lib.DecodeN
import Derived.Lib.IndexBytes
namespace Go.Proofs.Qxb6600183a
open Go.RowKit

theorem get_list (s : ByteArray) (j : Nat) (b : UInt8) (h : s.data.toList[j]? = some b) : s.get! j = b := by
  have hl := (List.getElem?_eq_some_iff.1 h).1
  have hj : j < s.size := by rw [Lib.size_eq]; exact hl
  have h2 := Lib.data_getElem? s j hj
  rw [h] at h2
  have h3 := get_at s j hj
  rw [Nat.add_zero] at h3
  rw [h3]
  exact (Option.some.inj h2).symm

/-- What a rune that is no ASCII takes: bytes that are no ASCII. -/
theorem decode_takes (s : ByteArray) (i : Nat) (hi : i < s.size) (ha : 128 ≤ (s.get! i).toNat) :
    i + (Utf8.decode s i).2 ≤ s.size ∧ ∀ j, i ≤ j → j < i + (Utf8.decode s i).2 → 128 ≤ (s.get! j).toNat := by
  rw [Lib.decode_at]
  have e1 : ∀ j, i ≤ j → j < i + 1 → 128 ≤ (s.get! j).toNat := fun j h1 h2 => by
    obtain rfl : j = i := by omega
    exact ha
  have hn : 1 ≤ s.size - i := by omega
  have key : (Lib.decodeN (s.size - i) (s.get! i).toNat (s.get! (i + 1)).toNat (s.get! (i + 2)).toNat (s.get! (i + 3)).toNat).2 ≤ s.size - i ∧
      (1 < (Lib.decodeN (s.size - i) (s.get! i).toNat (s.get! (i + 1)).toNat (s.get! (i + 2)).toNat (s.get! (i + 3)).toNat).2 → 128 ≤ (s.get! (i + 1)).toNat) ∧
      (2 < (Lib.decodeN (s.size - i) (s.get! i).toNat (s.get! (i + 1)).toNat (s.get! (i + 2)).toNat (s.get! (i + 3)).toNat).2 → 128 ≤ (s.get! (i + 2)).toNat) ∧
      (3 < (Lib.decodeN (s.size - i) (s.get! i).toNat (s.get! (i + 1)).toNat (s.get! (i + 2)).toNat (s.get! (i + 3)).toNat).2 → 128 ≤ (s.get! (i + 3)).toNat) ∧
      (Lib.decodeN (s.size - i) (s.get! i).toNat (s.get! (i + 1)).toNat (s.get! (i + 2)).toNat (s.get! (i + 3)).toNat).2 ≤ 4 := by
    generalize (s.get! i).toNat = b0 at *
    generalize (s.get! (i + 1)).toNat = b1
    generalize (s.get! (i + 2)).toNat = b2
    generalize (s.get! (i + 3)).toNat = b3
    generalize s.size - i = n at *
    unfold Lib.decodeN
    repeat' split
    all_goals refine ⟨?_, ?_, ?_, ?_, ?_⟩
    all_goals (try intro hq) <;> simp only at * <;> omega
  generalize Lib.decodeN (s.size - i) (s.get! i).toNat (s.get! (i + 1)).toNat (s.get! (i + 2)).toNat (s.get! (i + 3)).toNat = d at *
  obtain ⟨k1, k2, k3, k4, k5⟩ := key
  refine ⟨by omega, fun j h1 h2 => ?_⟩
  rcases (by omega : j = i ∨ j = i + 1 ∨ j = i + 2 ∨ j = i + 3) with rfl | rfl | rfl | rfl
  · exact ha
  · exact k2 (by omega)
  · exact k3 (by omega)
  · exact k4 (by omega)

/-- The iterator over a string, wherever it lies. -/
theorem run_next_at {P : Program} (w : World) (b : Nat) (s : ByteArray) (pos : Nat) (ty : TypeId) (hb : w.heap[b]? = some (.stringIter s pos)) (h : pos < s.size) :
    (Instr.next (.pointer (some ⟨b, 0, none⟩)) true ty).run P w =
      .ok (.tuple #[.bool true, .int .i64 pos, .int .i32 (Utf8.decode s pos).1]) { w with heap := w.heap.setIfInBounds b (.stringIter s (pos + (Utf8.decode s pos).2)) } := by
  simp only [Instr.next, getObj, setObj, Sem.run_bind, Sem.run, hb, Result.andThen, h, if_true]
  simp [goInt]
theorem run_next_over {P : Program} (w : World) (b : Nat) (s : ByteArray) (pos : Nat) (ty : TypeId) (hb : w.heap[b]? = some (.stringIter s pos)) (h : ¬ pos < s.size) :
    (Instr.next (.pointer (some ⟨b, 0, none⟩)) true ty).run P w = .ok (.tuple #[.bool false]) w := by
  simp [Instr.next, getObj, Sem.run, hb, h]

/-- A world behind w whose first new block is the iterator over s, at place i. -/
def Iter (w : World) (s : ByteArray) (i : Nat) (wx : World) : Prop := Below w.heap.size w wx ∧ wx.heap[w.heap.size]? = some (.stringIter s i)

theorem Iter.start (w : World) (s : ByteArray) : Iter w s 0 (w.iter s 0) := ⟨(Below.refl _ _).alloc (Nat.le_refl _) _, w.iter_heap s 0⟩
theorem Iter.set {w wx : World} {s : ByteArray} {i : Nat} (h : Iter w s i wx) (j : Nat) : Iter w s j { wx with heap := wx.heap.setIfInBounds w.heap.size (.stringIter s j) } := by
  have hlt : w.heap.size < wx.heap.size := by
    have := h.2
    exact (Array.getElem?_eq_some_iff.1 this).1
  refine ⟨⟨h.1.os, h.1.tape, h.1.output, ?_, fun k hk => ?_⟩, ?_⟩
  · show w.heap.size ≤ (wx.heap.setIfInBounds _ _).size
    rw [Array.size_setIfInBounds]; omega
  · show (wx.heap.setIfInBounds _ _)[k]? = _
    rw [Array.getElem?_setIfInBounds_ne (by omega)]
    exact h.1.block k hk
  · show (wx.heap.setIfInBounds _ _)[w.heap.size]? = _
    rw [Array.getElem?_setIfInBounds_self_of_lt hlt]
theorem Iter.on {w wx wy : World} {s : ByteArray} {i : Nat} (h : Iter w s i wx) (hb : Below wx.heap.size wx wy) : Iter w s i wy := by
  have hlt : w.heap.size < wx.heap.size := (Array.getElem?_eq_some_iff.1 h.2).1
  exact ⟨h.1.trans (hb.mono (by omega)), by rw [hb.block _ hlt]; exact h.2⟩

theorem noAny_jump {s : ByteArray} {chars : List UInt8} {i n : Nat} (h : Lib.NoAny s.data.toList chars i) (hc : ∀ x ∈ chars, x.toNat < 128) (hs : ∀ j, i ≤ j → j < i + n → 128 ≤ (s.get! j).toNat) :
    Lib.NoAny s.data.toList chars (i + n) := fun j b hj hb => by
  by_cases hlt : j < i
  · exact h j b hlt hb
  · have h1 := hs j (by omega) hj
    rw [get_list s j b hb] at h1
    cases hcb : chars.contains b
    · rfl
    · have := hc b (by simpa using hcb)
      omega

theorem mem_at {l : List UInt8} {x : UInt8} (h : x ∈ l) : ∃ j : Nat, l[j]? = some x := by
  obtain ⟨j, hj, he⟩ := List.getElem_of_mem h
  exact ⟨j, by rw [List.getElem?_eq_getElem hj, he]⟩

set_option maxHeartbeats 8000000 in
set_option maxRecDepth 1000000 in
theorem any_short (s chars : ByteArray) (w : World) (h2 : chars.size = 2) (h8 : s.size ≤ 8) (hascii : ∀ (j : Nat) b, chars.data.toList[j]? = some b → b.toNat < 128) :
    Calls Try.prog 41 #[.string s, .string chars] w fun e w' => e = .returned (.int .i64 (Lib.indexAny s.data.toList chars.data.toList)) ∧ Below w.heap.size w w' := by
  have HC : Hid (∀ x ∈ chars.data.toList, x.toNat < 128) := fun x hx => by
    obtain ⟨j, hj⟩ := mem_at hx
    exact hascii j x hj
  have HR : Hid (∀ (r : Int) (w : World), 128 ≤ r → Calls Try.prog 45 #[.string chars, .int .i32 r] w fun e w' => e = .returned (.int .i64 (-1)) ∧ Below w.heap.size w w') := fun r w hr => rune_high chars r w h2 hascii hr
  clear hascii
  have hemp : chars.toList.isEmpty = false := by
    rw [Lib.toList_data]
    cases h : chars.data.toList with
    | nil => have := Lib.size_eq chars; rw [h, List.length_nil] at this; omega
    | cons _ _ => rfl
  have hn1 : ((chars.size : Int) == 1) = false := beq_eq_false_iff_ne.2 (by omega)
  have h8z : decide ((8 : Int) < (s.size : Int)) = false := decide_eq_false (by omega)
  clear h2
  go_enter Try.func41, Try.ntmps41
  go_wp2_with (go_at_call 46; go_must (refine (Try.use_set _ _).mono ?_); rintro e w' ⟨rfl, hw⟩; rw [hw, h8z])
  go_loopg [9, 10] s.size (fun g _ _ wx => ∃ i : Nat, i + g = s.size ∧ Iter w s i wx ∧ Lib.NoAny s.data.toList chars.data.toList i)
  case atStart => exact ⟨0, by omega, Iter.start w s, Lib.NoAny.zero _ _⟩
  case round =>
    obtain ⟨i, hig, HI0, hno⟩ := hrel
    have HI : Hid (Iter w s i wr) := HI0
    have HN : Hid (Lib.NoAny s.data.toList chars.data.toList i) := hno
    clear hno HI0
    cases gk with
    | zero =>
      obtain rfl : i = s.size := by omega
      have hnx := fun ty => run_next_over (P := Try.prog) wr w.heap.size s s.size ty HI.out.2 (by omega)
      go_wp2
      go_ret
      exact ⟨by rw [Lib.indexAny_none (by rw [← Lib.size_eq]; exact HN.out)]; rfl, HI.out.1⟩
    | succ g =>
      have hi : i < s.size := by omega
      obtain ⟨x, hx⟩ : ∃ x : UInt8, s[i]'hi = x := ⟨_, rfl⟩
      have hxl : s.data.toList[i]? = some x := by rw [← hx]; exact Lib.data_getElem? s i hi
      have hnx := fun ty => run_next_at (P := Try.prog) wr w.heap.size s i ty HI.out.2 hi
      by_cases hx128 : x.toNat < 128
      · rw [decode_ascii s i hi (by rw [hx]; exact hx128), hx] at hnx
        obtain ⟨w1, hw1⟩ : ∃ w1, { wr with heap := wr.heap.setIfInBounds w.heap.size (.stringIter s (i + 1)) } = w1 := ⟨_, rfl⟩
        have HI1 : Hid (Iter w s (i + 1) w1) := by rw [← hw1]; exact HI.out.set _
        have hnx' : ∀ ty, (Instr.next (.pointer (some ⟨w.heap.size, 0, none⟩)) true ty).run Try.prog wr = .ok (.tuple #[.bool true, .int .i64 i, .int .i32 x.toNat]) w1 := fun ty => by rw [← hw1]; exact hnx ty
        have Hx : Hid (s.data.toList[i]? = some x) := hxl
        clear hxl hx hnx hw1
        have hcon := Lib.contains_iff_indexByte chars.data.toList x
        have hback : ((x.toNat : Int)).toNat.toUInt8 = x := by simp
        cases hin : chars.data.toList.contains x
        · rw [hin] at hcon
          have hlt : ¬ ((0 : Int) ≤ Lib.indexByte chars.data.toList x) := of_decide_eq_false hcon.symm
          clear hcon
          go_wp2_with (go_at_call 45; go_must (refine (Try.rune_ascii _ _ _ (by omega) (by omega)).mono ?_); rintro e w' ⟨rfl, hw⟩; rw [hw, hback])
          go_roundg g
          case measure => omega
          case rel => exact ⟨i + 1, by omega, HI1.out, HN.out.succ Hx.out hin⟩
        · rw [hin] at hcon
          have hge : (0 : Int) ≤ Lib.indexByte chars.data.toList x := of_decide_eq_true hcon.symm
          clear hcon
          go_wp2_with (go_at_call 45; go_must (refine (Try.rune_ascii _ _ _ (by omega) (by omega)).mono ?_); rintro e w' ⟨rfl, hw⟩; rw [hw, hback])
          go_ret
          exact ⟨by rw [Lib.indexAny_hit HN.out Hx.out hin]; rfl, HI1.out.1⟩
      · have hg1 : 128 ≤ (s[i]'hi).toNat := by rw [hx]; omega
        have hg2 : 128 ≤ (s.get! i).toNat := by rw [get_list s i x hxl]; omega
        obtain ⟨hd1, hd2⟩ := decode_high s i hi hg1
        obtain ⟨hd3, hd4⟩ := decode_takes s i hi hg2
        have HN1 := noAny_jump (n := (Utf8.decode s i).2) HN.out HC.out hd4
        obtain ⟨d, hd⟩ : ∃ d, Utf8.decode s i = d := ⟨_, rfl⟩
        rw [hd] at hd1 hd2 hd3 hnx HN1
        obtain ⟨r, n⟩ := d
        simp only at hd1 hd2 hd3 hnx HN1
        obtain ⟨w1, hw1⟩ : ∃ w1, { wr with heap := wr.heap.setIfInBounds w.heap.size (.stringIter s (i + n)) } = w1 := ⟨_, rfl⟩
        have HI1 : Hid (Iter w s (i + n) w1) := by rw [← hw1]; exact HI.out.set _
        have hnx' : ∀ ty, (Instr.next (.pointer (some ⟨w.heap.size, 0, none⟩)) true ty).run Try.prog wr = .ok (.tuple #[.bool true, .int .i64 i, .int .i32 r]) w1 := fun ty => by rw [← hw1]; exact hnx ty
        have HN2 : Hid (Lib.NoAny s.data.toList chars.data.toList (i + n)) := HN1
        clear HN1 hxl hx hnx hw1 hd4 hd hg1 hg2
        go_wp2_with (go_at_call 45; go_must (refine (HR.out _ _ (by omega)).mono ?_); rintro e w' ⟨rfl, hw⟩)
        go_roundg (s.size - (i + n))
        case measure => omega
        case rel => exact ⟨i + n, by omega, HI1.out.on hw, HN2.out⟩

/-- 'strings.IndexAny' with two ASCII bytes to look for. -/
theorem any_any (s chars : ByteArray) (w : World) (h2 : chars.size = 2) (hs : s.size < 4294967281) (hascii : ∀ (j : Nat) b, chars.data.toList[j]? = some b → b.toNat < 128) :
    Calls Try.prog 41 #[.string s, .string chars] w fun e w' => e = .returned (.int .i64 (Lib.indexAny s.data.toList chars.data.toList)) ∧ Below w.heap.size w w' := by
  by_cases h8 : s.size ≤ 8
  · exact any_short s chars w h2 h8 hascii
  · refine (Try.any_long s chars w (by omega) (by omega) hs (by omega) hascii).mono fun e w' ⟨h1, h2⟩ => ⟨h1, ?_⟩
    rw [h2]
    exact ((Below.refl _ _).alloc (Nat.le_refl _) _).alloc (by simp) _

end Go.Proofs.Qxb6600183a
