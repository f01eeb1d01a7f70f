/-
  The walk of 'FnUnquoteReadsFirstTokenThenRest', out of the contracts of its callees.
-/
import Derived.Test.Qxb6605290aWell
import Derived.Test.Qxb6605290aUnquote
import Derived.OpenShut
namespace Go.Proofs.Qxb6605290a.fnUnquoteReadsFirstTokenThenRest
open Go.RowKit Plain

theorem zz_any (run : ByteArray) (q : UInt8) (b : List UInt8) (w : World) (hr : Hid (run.data.toList = q :: b ++ [q])) (hz : run.size ≤ 4194304) (hsafe : Hid (safe q b = true)) :
    Calls Try.prog 13 #[.string run] w fun e w' => e = .returned (.string ⟨(dec q b).toArray⟩) ∧ Below w.heap.size w w' := by
  go_enter Try.func13, Try.ntmps13
  go_wp2_with (go_at_call 28; go_must (refine (unquote_any _ q b _ hr hz hsafe).mono ?_); rintro e w1 ⟨rfl, hb⟩)
  go_ret
  exact ⟨rfl, hb⟩

/-- 'zzRun' with its text behind a name. -/
theorem run_named (q : UInt8) (s : ByteArray) (hs : s.size ≤ 2097152) : ∃ run : ByteArray, Hid (run.data.toList = q :: s.data.toList ++ [q]) ∧ run.size ≤ 4194304 ∧
    ∀ w, Calls Try.prog 17 #[.int .u8 (q.toNat : Int), .string s] w fun e w' => e = .returned (.string run) ∧ Below w.heap.size w w' := by
  obtain ⟨run, hrun⟩ : ∃ run : ByteArray, (⟨(q :: s.data.toList ++ [q]).toArray⟩ : ByteArray) = run := ⟨_, rfl⟩
  have h1 : run.data.toList = q :: s.data.toList ++ [q] := by rw [← hrun]
  refine ⟨run, h1, ?_, fun w => by rw [← hrun]; exact run_any q s w hs⟩
  have h2 := congrArg List.length h1
  have h3 : run.data.toList.length = run.size := by simp
  have h4 : s.data.toList.length = s.size := by simp
  simp only [List.length_append, List.length_cons, List.length_nil] at h2
  omega

theorem tok_size (q : UInt8) (s : ByteArray) (h : isTok q s.data.toList = true) : s.size = 1 ∨ s.size = 2 := by
  have hl : s.data.toList.length = s.size := by simp
  match hm : s.data.toList, hl, h with
  | [_], hl, _ => exact .inl hl.symm
  | [_, _], hl, _ => exact .inr hl.symm

theorem text_of (l : List UInt8) : ∃ s : ByteArray, s = ⟨l.toArray⟩ ∧ s.data.toList = l ∧ s.size = l.length := ⟨⟨l.toArray⟩, rfl, rfl, rfl⟩

theorem cat_texts {a b c : ByteArray} {l m : List UInt8} (ha : a.data.toList = l) (hb : b.data.toList = m) (hc : c.data.toList = l ++ m) : c = a ++ b := by
  apply ByteArray.ext
  apply Array.toList_inj.1
  rw [hc, ByteArray.data_append, Array.toList_append, ha, hb]

set_option maxHeartbeats 1000000 in
set_option maxRecDepth 100000 in
theorem walk (a0 : Int) (a1 : ByteArray) (a2 : ByteArray) (w0 : (Lit.int .u8 a0).wf = true) (w1 : a1.size ≤ maxLen) (w2 : a2.size ≤ maxLen) (w : World) :
    Calls Try.prog 5 #[.int .u8 a0, .string a1, .string a2] w fun e w' => e = .returned (.bool true) ∧ Below w.heap.size w w' := by
  obtain ⟨q, rfl⟩ : ∃ q : UInt8, a0 = (q.toNat : Int) := by
    have hb := bounds_u8 w0
    refine ⟨UInt8.ofNat a0.toNat, ?_⟩
    have : (UInt8.ofNat a0.toNat).toNat = a0.toNat := by simp; omega
    omega
  by_cases hs : a1.size + a2.size ≤ 1048576
  · have hd : decide (a1.size + a2.size ≤ 1048576) = true := by simpa using hs
    have hs1 : (a1.size : Int) ≤ 1048576 := by omega
    have hs2 : (a2.size : Int) ≤ 1048576 := by omega
    by_cases ht : isTok q a1.data.toList = true
    · obtain ⟨RR, hRR, zRR, kRR⟩ := run_named q a2 (by omega)
      have KRR : Hid (∀ w, Calls Try.prog 17 #[.int .u8 (q.toNat : Int), .string a2] w fun e w' => e = .returned (.string RR) ∧ Below w.heap.size w w') := kRR
      clear kRR
      by_cases hsafe : safe q a2.data.toList = true
      · obtain ⟨RT, hRT, zRT, kRT⟩ := run_named q a1 (by omega)
        have KRT : Hid (∀ w, Calls Try.prog 17 #[.int .u8 (q.toNat : Int), .string a1] w fun e w' => e = .returned (.string RT) ∧ Below w.heap.size w w') := kRT
        clear kRT
        obtain ⟨RB, hRB, zRB, kRB⟩ := run_named q (a1 ++ a2) (by rw [ByteArray.size_append]; omega)
        have KRB : Hid (∀ w, Calls Try.prog 17 #[.int .u8 (q.toNat : Int), .string (a1 ++ a2)] w fun e w' => e = .returned (.string RB) ∧ Below w.heap.size w w') := kRB
        clear kRB
        have hcat : (a1 ++ a2).data.toList = a1.data.toList ++ a2.data.toList := by rw [ByteArray.data_append, Array.toList_append]
        obtain ⟨tal, tas⟩ := tok_alone q _ ht
        obtain ⟨tdl, tds⟩ := tok_ahead q _ a2.data.toList ht
        obtain ⟨M, hM, hM1, hM2⟩ := text_of (meaning q a1.data.toList)
        obtain ⟨D, hD, hD1, hD2⟩ := text_of (dec q a2.data.toList)
        obtain ⟨F, hF, hF1, hF2⟩ := text_of (dec q (a1.data.toList ++ a2.data.toList))
        have hFMD : F = M ++ D := cat_texts hM1 hD1 (by rw [hF1, tdl])
        have uT : Hid (∀ wx : World, Calls Try.prog 13 #[.string RT] wx fun e w' => e = .returned (.string M) ∧ Below wx.heap.size wx w') := by
          intro wx
          have := zz_any RT q _ wx hRT zRT tas
          rw [tal, ← hM] at this
          exact this
        have uR : Hid (∀ wx : World, Calls Try.prog 13 #[.string RR] wx fun e w' => e = .returned (.string D) ∧ Below wx.heap.size wx w') := by
          intro wx
          have := zz_any RR q _ wx hRR zRR hsafe
          rw [← hD] at this
          exact this
        have uB : Hid (∀ wx : World, Calls Try.prog 13 #[.string RB] wx fun e w' => e = .returned (.string (M ++ D)) ∧ Below wx.heap.size wx w') := by
          intro wx
          have := zz_any RB q (a1.data.toList ++ a2.data.toList) wx (by show RB.data.toList = _; rw [hRB.out, hcat]) zRB (tds hsafe)
          rw [← hF, hFMD] at this
          exact this
        have uM : Hid (∀ wx : World, Calls Try.prog 18 #[.int .u8 (q.toNat : Int), .string a1] wx fun e w' => e = .returned (.string M) ∧ Below wx.heap.size wx w') := by
          intro wx
          rw [hM]
          exact meaning_any q a1 wx (tok_size q a1 ht)
        have uW : Hid (∀ wx : World, Calls Try.prog 12 #[.string RR] wx fun e w' => e = .returned (.bool true) ∧ w' = wx) := by
          intro wx
          have := well_any RR q _ wx hRR zRR
          rw [hsafe] at this
          exact this
        have sMD : M.size + D.size ≤ 9223372036854775807 := by
          have h1 := meaning_len q a1.data.toList
          have h2 := dec_len q a2.data.toList
          have h3 : a2.data.toList.length = a2.size := by simp
          omega
        have s12 : a1.size + a2.size ≤ 9223372036854775807 := by omega
        clear hM hM1 hM2 hD hD1 hD2 hF hF1 hF2 hFMD tal tas tdl tds hcat hRR hRT hRB zRR zRT zRB
        go_enter Try.func5, Try.ntmps5
        go_wp2_with (first | (go_at_call 15; go_must (refine (bytes3_any _ _ _ _ w1 w2).mono ?_); rintro e w3 ⟨rfl, rfl⟩) | (go_at_call 16; go_must (refine (isTok_any _ _ _ (by omega)).mono ?_); rintro e w3 ⟨rfl, rfl⟩))
        refine (KRR.out _).mono ?_
        rintro e w4 ⟨rfl, b4⟩
        go_wp2_with fail
        refine (uW.out _).mono ?_
        rintro e w5 ⟨rfl, rfl⟩
        go_wp2_with fail
        refine (uM.out _).mono ?_
        rintro e w6 ⟨rfl, b6⟩
        go_wp2_with fail
        refine (KRT.out _).mono ?_
        rintro e w7 ⟨rfl, b7⟩
        go_wp2_with fail
        refine (uT.out _).mono ?_
        rintro e w8 ⟨rfl, b8⟩
        go_wp2_with fail
        refine (KRB.out _).mono ?_
        rintro e w9 ⟨rfl, b9⟩
        go_wp2_with fail
        refine (uB.out _).mono ?_
        rintro e w10 ⟨rfl, b10⟩
        go_wp2_with fail
        refine (KRR.out _).mono ?_
        rintro e w11 ⟨rfl, b11⟩
        go_wp2_with fail
        refine (uR.out _).mono ?_
        rintro e w12 ⟨rfl, b12⟩
        go_wp2
        go_ret
        refine ⟨by simp, ?_⟩
        have c6 := b4.trans (b6.mono b4.size)
        have c7 := c6.trans (b7.mono c6.size)
        have c8 := c7.trans (b8.mono c7.size)
        have c9 := c8.trans (b9.mono c8.size)
        have c10 := c9.trans (b10.mono c9.size)
        have c11 := c10.trans (b11.mono c10.size)
        exact c11.trans (b12.mono c11.size)
      · have uW : Hid (∀ wx : World, Calls Try.prog 12 #[.string RR] wx fun e w' => e = .returned (.bool false) ∧ w' = wx) := by
          intro wx
          have := well_any RR q _ wx hRR zRR
          rw [show safe q a2.data.toList = false by simpa using hsafe] at this
          exact this
        go_enter Try.func5, Try.ntmps5
        go_wp2_with (first | (go_at_call 15; go_must (refine (bytes3_any _ _ _ _ w1 w2).mono ?_); rintro e w3 ⟨rfl, rfl⟩) | (go_at_call 16; go_must (refine (isTok_any _ _ _ (by omega)).mono ?_); rintro e w3 ⟨rfl, rfl⟩) | (go_at_call 17; go_must (refine (KRR.out _).mono ?_); rintro e w4 ⟨rfl, b4⟩) | (go_at_call 12; go_must (refine (uW.out _).mono ?_); rintro e w5 ⟨rfl, rfl⟩))
        go_ret
        exact ⟨rfl, b4⟩
    · have htf : isTok q a1.data.toList = false := by simpa using ht
      go_enter Try.func5, Try.ntmps5
      go_wp2_with (first | (go_at_call 15; go_must (refine (bytes3_any _ _ _ _ w1 w2).mono ?_); rintro e w3 ⟨rfl, rfl⟩) | (go_at_call 16; go_must (refine (isTok_any _ _ _ (by omega)).mono ?_); rintro e w3 ⟨rfl, rfl⟩))
      go_ret
      exact ⟨rfl, Below.refl _ _⟩
  · have hd : decide (a1.size + a2.size ≤ 1048576) = false := by simpa using hs
    go_enter Try.func5, Try.ntmps5
    go_wp2_with (go_at_call 15; go_must (refine (bytes3_any _ _ _ _ w1 w2).mono ?_); rintro e w3 ⟨rfl, rfl⟩)
    go_ret
    exact ⟨rfl, Below.refl _ _⟩
end Go.Proofs.Qxb6605290a.fnUnquoteReadsFirstTokenThenRest
