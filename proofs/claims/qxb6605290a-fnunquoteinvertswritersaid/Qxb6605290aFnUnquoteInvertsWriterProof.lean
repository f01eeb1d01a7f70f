/-
  The law 'FnUnquoteInvertsWriter', out of the contracts of its callees.
-/
import Derived.Test.Qxb6605290aRows
import Derived.WalkKit
import Derived.ProofKit
import Derived.OpenShut
import Derived.ShutString
import Derived.Below
import Derived.Test.Qxb6605290aWrite
import Derived.Test.Qxb6605290aUnquote
namespace Go.Proofs.Qxb6605290a.fnUnquoteInvertsWriter
open Go.ChangeShapes Go.WideShapes Go.ChangeAt Go.RowKit
open Go.ChangeMaps (open_string shut_string)
set_option linter.unusedVariables false      -- a walk need not use every 'w<i>' (that an integer argument fits its kind)

theorem own : ownKnob Try.prog.godebug = none := by kernel_rfl

open Plain

theorem zz_any (run : ByteArray) (q : UInt8) (b : List UInt8) (w : World) (hr : Hid (run.data.toList = q :: b ++ [q])) (hz : run.size ≤ 4194304) (hsafe : Hid (safe q b = true)) :
    Calls Try.prog 13 #[.string run] w fun e w' => e = .returned (.string ⟨(dec q b).toArray⟩) ∧ Below w.heap.size w w' := by
  go_enter Try.func13, Try.ntmps13
  go_wp2_with (go_at_call 28; go_must (refine (unquote_any _ q b _ hr hz hsafe).mono ?_); rintro e w1 ⟨rfl, hb⟩)
  go_ret
  exact ⟨rfl, hb⟩

theorem walk (a0 : Int) (a1 : ByteArray) (w0 : (Lit.int .u8 a0).wf = true) (w1 : a1.size ≤ maxLen) (w : World) :
    Calls Try.prog 6 #[.int .u8 a0, .string a1] w fun e w' => e = .returned (.bool true) ∧ Below w.heap.size w w' := by
  obtain ⟨q, rfl⟩ : ∃ q : UInt8, a0 = (q.toNat : Int) := by
    have hb := bounds_u8 w0
    refine ⟨UInt8.ofNat a0.toNat, ?_⟩
    have : (UInt8.ofNat a0.toNat).toNat = a0.toNat := by simp; omega
    omega
  by_cases hs : a1.size ≤ 1048576
  · have hd : decide (a1.size ≤ 1048576) = true := by simpa using hs
    have hsi : (a1.size : Int) ≤ 1048576 := by omega
    by_cases hq : ((q.toNat : Int) == 92) = true
    · go_enter Try.func6, Try.ntmps6
      go_wp2_with (go_at_call 19; go_must (refine (bytes1_any _ _ _ w1).mono ?_); rintro e w2 ⟨rfl, rfl⟩)
      go_ret
      exact ⟨rfl, Below.refl _ _⟩
    · have hqf : ((q.toNat : Int) == 92) = false := by simpa using hq
      obtain ⟨hdec, hsafe⟩ := dec_enc q (byte_ne (d := 92) hqf) a1.data.toList
      obtain ⟨run, hrun⟩ : ∃ run : ByteArray, (⟨(q :: enc q a1.data.toList ++ [q]).toArray⟩ : ByteArray) = run := ⟨_, rfl⟩
      have hr : Hid (run.data.toList = q :: enc q a1.data.toList ++ [q]) := by show run.data.toList = _; rw [← hrun]
      have hz : run.size ≤ 4194304 := by
        have h1 := congrArg List.length hr.out
        have h2 := enc_len q a1.data.toList
        have h3 : run.data.toList.length = run.size := by simp
        have h4 : a1.data.toList.length = a1.size := by simp
        simp only [List.length_append, List.length_cons, List.length_nil] at h1
        omega
      have hwr := writeRun_any q a1 w hs
      rw [hrun] at hwr
      have hun := fun wx => zz_any run q _ wx hr hz hsafe
      rw [hdec] at hun
      have HW : Hid (Calls Try.prog 20 #[.int .u8 (q.toNat : Int), .string a1] w fun e w' => e = .returned (.string run) ∧ Below w.heap.size w w') := hwr
      have HU : Hid (∀ wx : World, Calls Try.prog 13 #[.string run] wx fun e w' => e = .returned (.string ⟨a1.data.toList.toArray⟩) ∧ Below wx.heap.size wx w') := hun
      clear hwr hun hrun hr hdec hsafe hq hs
      go_enter Try.func6, Try.ntmps6
      go_wp2_with (first | (go_at_call 19; go_must (refine (bytes1_any _ _ _ w1).mono ?_); rintro e w2 ⟨rfl, rfl⟩) | (go_at_call 20; go_must (refine HW.out.mono ?_); rintro e w3 ⟨rfl, hb3⟩) | (go_at_call 13; go_must (refine (HU.out _).mono ?_); rintro e w4 ⟨rfl, hb4⟩))
      go_ret
      exact ⟨by simp, hb3.trans (hb4.mono hb3.size)⟩
  · have hd : decide (a1.size ≤ 1048576) = false := by simpa using hs
    go_enter Try.func6, Try.ntmps6
    go_wp2_with (go_at_call 19; go_must (refine (bytes1_any _ _ _ w1).mono ?_); rintro e w2 ⟨rfl, rfl⟩)
    go_ret
    exact ⟨rfl, Below.refl _ _⟩

/-! ### THE ROW's STEP: WRITTEN OUT: LEAVE IT -/
set_option maxRecDepth 100000 in
theorem lifted (os : Os) (started : os.Started) (H : Type) (enc : TypeId × Value → H) :
    ReturnsInHanded {} Try.checked os 6 .any (Rows.fnUnquoteInvertsWriterSpec.pre6 enc Try.prog Try.f6 Rows.fnUnquoteInvertsWriterRow.domain false) (Rows.fnUnquoteInvertsWriterSpec.post enc Try.prog Try.f6 false true false false) := by
  refine returnsInHanded_of_change (C := Try.checked) own started (by kernel_rfl) Try.func6
    (ChangeSpec.witness6 (enc := enc) (C := Try.checked) false ⟨#[], #[.int .u8 0, .string ByteArray.empty], []⟩ 8 (by kernel_rfl) (by kernel_rfl) (by kernel_rfl) (by kernel_rfl)) ?_
  intro W base args ds gs before hval0 hW hcnd _
  have hval : ∀ (j : Nat) t v, Try.f6.params[j]? = some t → args[j]? = some v → Value.okWide Try.prog W .any base t v := hval0
  have hW' := hW
  obtain ⟨p, q, hA0, hV, rfl, hfz, hnd⟩ := hW
  have hA : DataW.TrodAll enc Try.prog W 0 (fun _ => true) true Try.f6.params.toList args.toList ds p := hA0
  rw [Try.params6] at hA hval
  obtain ⟨v0, vs0, d0, ds0, p0, q0, hargs, rfl, rfl, h0, r0⟩ := trodAll_cons hA
  obtain ⟨v1, vs1, d1, ds1, p1, q1, rfl, rfl, rfl, h1, r1⟩ := trodAll_cons r0
  obtain ⟨rfl, rfl, rfl⟩ := trodAll_nil r1
  obtain rfl : args = #[v0, v1] := by cases args; simp_all
  obtain ⟨rfl, rfl⟩ := trodVars_none hV
  obtain ⟨a0, rfl, rfl, rfl, w0⟩ := open_int Try.underlying5 (hval 0 5 v0 rfl rfl) h0
  obtain ⟨a1, rfl, rfl, rfl, w1⟩ := open_string Try.underlying9 (hval 1 9 v1 rfl rfl) h1
  clear hA0 hval0
  simp only [List.append_nil] at hW'
  refine (walk a0 a1 w0 w1 W).mono fun e W' ⟨he, hg⟩ => ?_
  subst he
  exact ⟨_, rfl, _, _, _, [], [], [], hW', trodAll_mk1 (shut_bool Try.underlying4 _), (trodAll_cons_mk (shut_int Try.underlying5 w0) (trodAll_cons_mk (shut_string Try.underlying9 w1) trodAll_mk0)), rfl, hg.frame _, fun h => by cases h⟩

theorem over : Rows.fnUnquoteInvertsWriterRow.holds Try.pinned (OpenSpec.ofChange Rows.fnUnquoteInvertsWriterSpec) :=
  OpenClaim.holds_of_wide 6 Try.f6 rfl rfl rfl rfl rfl rfl rfl ⟨rfl, rfl, rfl, rfl, rfl⟩ rfl rfl rfl rfl rfl (by kernel_rfl) Try.func6 (by kernel_rfl)
    (of_decide_eq_true (by kernel_rfl)) (by unfold Func.isWrapper; first | (rw [if_pos (by decide +kernel)]; kernel_rfl) | (rw [if_neg (by decide +kernel)]; exact ⟨rfl, rfl⟩))
    (fun os started H enc _ => lifted os started H enc)

/-- ████ THE STATEMENT ████ -/
theorem proved : Rows.FnUnquoteInvertsWriterSaid :=
  over
#print axioms proved
end Go.Proofs.Qxb6605290a.fnUnquoteInvertsWriter
