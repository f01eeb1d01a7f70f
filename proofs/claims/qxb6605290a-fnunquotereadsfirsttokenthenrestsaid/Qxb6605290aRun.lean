/-
  'zzRun', 'zzControlNamed', 'zzTokenMeaning', each by its contract.
-/
import Derived.Test.Qxb6605290aToken
namespace Go.Proofs.Qxb6605290a
open Go.RowKit Plain

theorem rel_next {w wr : World} {v : Value} {q : UInt8} {s : ByteArray} {k : Nat} (hk : k < s.size) (O : Own w wr v (q :: s.data.toList.take k ++ [s[k]])) : Own w wr v (q :: s.data.toList.take (k + 1)) := by
  rw [take_snoc s k hk]; exact O

set_option maxHeartbeats 1000000 in
set_option maxRecDepth 100000 in
theorem run_any (q : UInt8) (s : ByteArray) (w : World) (hs : s.size ≤ 2097152) :
    Calls Try.prog 17 #[.int .u8 (q.toNat : Int), .string s] w fun e w' => e = .returned (.string ⟨(q :: s.data.toList ++ [q]).toArray⟩) ∧ Below w.heap.size w w' := by
  obtain ⟨i0, hi, hz0, hz1, hz2⟩ := info_parts Try.info5
  go_enter Try.func17, Try.ntmps17
  go_wp2_with (first
    | (at_make; refine wpList_make_own _ rfl _ _ 30 rfl w.heap.size 5 i0 (.int .u8 0) 1 Try.underlying30 hi hz0 hz1 .i64 .i64 _ (s.size + 2) rfl rfl ?m1 ?m2 ?m3 ?m4 ?_))
  case m1 => omega
  case m2 => rw [hz2]; omega
  case m3 => unfold maxLen; omega
  case m4 => exact Nat.le_refl _
  intro w1 hown1 hgrow1
  have O1 : Own w w1 (.slice (some ⟨w.heap.size, 0, none⟩) 0 (s.size + 2)) [] := ⟨hown1, (Below.refl _ _).grown hgrow1 (Nat.le_refl _) (by simp)⟩
  clear hown1 hgrow1
  go_wp2_with (at_builtin; go_must (refine push_law rfl (.tmp 11) (.tmp 13) rfl O1 [q] 1 _ rfl rfl (cell_one_new _ _ _) (by simp) ?_))
  intro v2 w2 O2
  clear O1
  go_wp2
  go_loopw [5, 6] (fun v i wr => ∃ k : Nat, k ≤ s.size ∧ i = .int .i64 k ∧ Own w wr v (q :: s.data.toList.take k)) (fun _ i _ => s.size - (intOf i).toNat)
  case atStart => exact ⟨0, Nat.zero_le _, rfl, by simpa using O2⟩
  case round =>
    obtain ⟨k, hk, rfl, O⟩ := hrel
    clear O2
    have hl1 : Hid ((q :: s.data.toList.take k).length + 1 ≤ 140737488355328) := by
      have := List.length_take_le k s.data.toList
      show (q :: s.data.toList.take k).length + 1 ≤ 140737488355328
      simp only [List.length_cons]; omega
    by_cases hlt : k < s.size
    · go_wp2_with (at_builtin; go_must (refine push_law rfl (.tmp 21) (.tmp 25) rfl O [s[k]] 1 _ rfl rfl (cell_one_new _ _ _) hl1.out ?_))
      intro v3 w3 O3
      clear O
      go_wp2
      go_roundw
      case rel => exact ⟨k + 1, by omega, by go_num, rel_next hlt O3⟩
      case measure => simp [intOf]; omega
    · have hks : k = s.size := by omega
      subst hks
      have ht : s.data.toList.take s.size = s.data.toList := List.take_of_length_le (by simp)
      rw [ht] at O hl1
      go_wp2_with (at_builtin; go_must (refine push_law rfl (.tmp 27) (.tmp 29) rfl O [q] 1 _ rfl rfl (cell_one_new _ _ _) hl1.out ?_))
      intro v4 w4 O4
      obtain ⟨g, n, cap, str, hv, hcv, hstr⟩ := own_string O4 (by simp)
      subst hv
      have hb := O4.below
      clear O O4
      go_wp2
      go_ret
      exact ⟨congrArg (fun x => Ending.returned (.string x)) hstr.out, hb⟩

theorem ctl_val (c : UInt8) : ctl c =
    if ((48 : Int) == (c.toNat : Int)) = true then (0, true) else if ((98 : Int) == (c.toNat : Int)) = true then (8, true) else if ((116 : Int) == (c.toNat : Int)) = true then (9, true)
    else if ((110 : Int) == (c.toNat : Int)) = true then (10, true) else if ((114 : Int) == (c.toNat : Int)) = true then (13, true) else if ((90 : Int) == (c.toNat : Int)) = true then (26, true) else (0, false) := by
  unfold ctl
  have e : ∀ n : Int, (n == (c.toNat : Int)) = ((c.toNat : Int) == n) := fun n => by rw [Bool.eq_iff_iff]; simp only [beq_iff_eq]; omega
  simp only [e, byte_lit c 48 48 rfl, byte_lit c 98 98 rfl, byte_lit c 110 110 rfl, byte_lit c 114 114 rfl, byte_lit c 116 116 rfl, byte_lit c 90 90 rfl]

set_option maxHeartbeats 1000000 in
set_option maxRecDepth 100000 in
theorem control_any (c : UInt8) (w : World) :
    Calls Try.prog 29 #[.int .u8 (c.toNat : Int)] w fun e w' => e = .returned (.tuple #[.int .u8 ((ctl c).1.toNat : Int), .bool (ctl c).2]) ∧ w' = w := by
  go_enter Try.func29, Try.ntmps29
  go_wp2
  refine wp_loop_rounds 7 ?_
  rw [rounds_succ]
  go_wp2
  · go_ret2
    refine ⟨?_, rfl⟩
    have hv := ctl_val c
    simp only [*, if_true] at hv
    rw [hv]
    rfl
  rw [rounds_succ]
  go_wp2
  · go_ret2
    refine ⟨?_, rfl⟩
    have hv := ctl_val c
    simp only [*, if_true, Bool.false_eq_true, if_false] at hv
    rw [hv]
    rfl
  rw [rounds_succ]
  go_wp2
  · go_ret2
    refine ⟨?_, rfl⟩
    have hv := ctl_val c
    simp only [*, if_true, Bool.false_eq_true, if_false] at hv
    rw [hv]
    rfl
  rw [rounds_succ]
  go_wp2
  · go_ret2
    refine ⟨?_, rfl⟩
    have hv := ctl_val c
    simp only [*, if_true, Bool.false_eq_true, if_false] at hv
    rw [hv]
    rfl
  rw [rounds_succ]
  go_wp2
  · go_ret2
    refine ⟨?_, rfl⟩
    have hv := ctl_val c
    simp only [*, if_true, Bool.false_eq_true, if_false] at hv
    rw [hv]
    rfl
  rw [rounds_succ]
  go_wp2
  · go_ret2
    refine ⟨?_, rfl⟩
    have hv := ctl_val c
    simp only [*, if_true, Bool.false_eq_true, if_false] at hv
    rw [hv]
    rfl
  rw [rounds_succ]
  go_wp2
  go_ret2
  refine ⟨?_, rfl⟩
  have hv := ctl_val c
  simp only [*, Bool.false_eq_true, if_false] at hv
  rw [hv]
  rfl

theorem conv1 (w : World) (c : UInt8) : (convert 30 9 (.slice (some ⟨w.heap.size, 0, none⟩) 1 1)).run Try.prog (w.alloc (.cells #[.int .u8 (c.toNat : Int)] 5)) = .ok (.string ⟨#[c]⟩) (w.alloc (.cells #[.int .u8 (c.toNat : Int)] 5)) :=
  run_convert_bytes_back (P := Try.prog) _ 30 9 5 ⟨w.heap.size, 0, none⟩ 1 [c] Try.underlying30 Try.underlying5 Try.underlying9 (fun j hj => cell_one_new w _ 5 j _ (by
    match j, hj with
    | 0, _ => rfl))
theorem conv2 (w : World) (c : UInt8) : (convert 30 9 (.slice (some ⟨w.heap.size, 0, none⟩) 2 2)).run Try.prog (w.alloc (.cells #[.int .u8 92, .int .u8 (c.toNat : Int)] 5)) = .ok (.string ⟨#[92, c]⟩) (w.alloc (.cells #[.int .u8 92, .int .u8 (c.toNat : Int)] 5)) :=
  run_convert_bytes_back (P := Try.prog) _ 30 9 5 ⟨w.heap.size, 0, none⟩ 2 [92, c] Try.underlying30 Try.underlying5 Try.underlying9 (fun j hj => cell_two_new w _ _ 5 j _ (by
    match j, hj with
    | 0, _ => rfl
    | 1, _ => rfl))


set_option maxHeartbeats 1000000 in
set_option maxRecDepth 100000 in
theorem meaning_any (q : UInt8) (s : ByteArray) (w : World) (h : s.size = 1 ∨ s.size = 2) :
    Calls Try.prog 18 #[.int .u8 (q.toNat : Int), .string s] w fun e w' => e = .returned (.string ⟨(meaning q s.data.toList).toArray⟩) ∧ Below w.heap.size w w' := by
  rcases h with h | h
  · have hv : Hid (meaning q s.data.toList = s.data.toList) := by show meaning q s.data.toList = s.data.toList; rw [one_byte s h]; rfl
    have hb : ((s.size : Int) == 1) = true := by simp; omega
    clear h
    go_enter Try.func18, Try.ntmps18
    go_wp2
    go_ret
    exact ⟨by rw [hv.out]; rfl, Below.refl _ _⟩
  · have g0 : 0 < s.size := by omega
    have g1 : 1 < s.size := by omega
    have hm : Hid (s.data.toList = [s[0], s[1]]) := two_bytes s h
    have hb : ((s.size : Int) == 1) = false := by simp; omega
    have k1 := conv1 w
    have k2 := conv2 w
    clear h
    by_cases c1 : ((s[0].toNat : Int) == (q.toNat : Int)) = true
    · have hv : Hid (meaning q s.data.toList = [q]) := by show meaning q s.data.toList = [q]; rw [hm.out, meaning, if_pos (byte_is c1)]
      go_enter Try.func18, Try.ntmps18
      go_wp2
      go_ret
      exact ⟨by rw [hv.out]; rfl, (Below.refl _ _).alloc (Nat.le_refl _) _⟩
    · have c1f : ((s[0].toNat : Int) == (q.toNat : Int)) = false := by simpa using c1
      clear c1
      have hv : Hid (meaning q s.data.toList = escMeaning s[1]) := by show meaning q s.data.toList = escMeaning s[1]; rw [hm.out, meaning, if_neg (byte_ne c1f)]
      by_cases c2 : ((s[1].toNat : Int) == 37) = true
      · have hw : Hid (escMeaning s[1] = [(92 : UInt8), s[1]]) := by show escMeaning s[1] = [(92 : UInt8), s[1]]; rw [escMeaning, if_pos (.inl (byte_is (d := 37) c2))]
        go_enter Try.func18, Try.ntmps18
        go_wp2
        go_ret
        exact ⟨by rw [hv.out, hw.out]; rfl, (Below.refl _ _).alloc (Nat.le_refl _) _⟩
      · have c2f : ((s[1].toNat : Int) == 37) = false := by simpa using c2
        clear c2
        by_cases c3 : ((s[1].toNat : Int) == 95) = true
        · have hw : Hid (escMeaning s[1] = [(92 : UInt8), s[1]]) := by show escMeaning s[1] = [(92 : UInt8), s[1]]; rw [escMeaning, if_pos (.inr (byte_is (d := 95) c3))]
          go_enter Try.func18, Try.ntmps18
          go_wp2
          go_ret
          exact ⟨by rw [hv.out, hw.out]; rfl, (Below.refl _ _).alloc (Nat.le_refl _) _⟩
        · have c3f : ((s[1].toNat : Int) == 95) = false := by simpa using c3
          clear c3
          have hw : Hid (escMeaning s[1] = if (ctl s[1]).2 = true then [(ctl s[1]).1] else [s[1]]) := by
            show escMeaning s[1] = _
            rw [escMeaning, if_neg (fun h => h.elim (byte_ne (d := 37) c2f) (byte_ne (d := 95) c3f))]
          by_cases c4 : (ctl s[1]).2 = true
          · go_enter Try.func18, Try.ntmps18
            go_wp2_with (go_at_call 29; go_must (refine (control_any _ _).mono ?_); rintro e w2 ⟨rfl, rfl⟩)
            go_ret
            exact ⟨by rw [hv.out, hw.out, if_pos c4]; rfl, (Below.refl _ _).alloc (Nat.le_refl _) _⟩
          · have c4f : (ctl s[1]).2 = false := by simpa using c4
            clear c4
            go_enter Try.func18, Try.ntmps18
            go_wp2_with (go_at_call 29; go_must (refine (control_any _ _).mono ?_); rintro e w2 ⟨rfl, rfl⟩)
            go_ret
            exact ⟨by rw [hv.out, hw.out, if_neg (by rw [c4f]; decide)]; rfl, (Below.refl _ _).alloc (Nat.le_refl _) _⟩
end Go.Proofs.Qxb6605290a
