/-
  'modelStringEnd', by its contract.
-/
import Derived.Test.Qxb6605330aModel
namespace Go.Proofs.Qxb6605330a
open Go.RowKit Plain

/-- What 'modelStringEnd' hands back. -/
def StrPost (t : ByteArray) (i : Nat) (e : Ending) : Prop :=
  ∃ (a x : Nat) (ok : Bool), e = .returned (.tuple #[.int .i64 (a : Int), .int .i64 (x : Int), .bool ok]) ∧ (ok = true → ∃ j, StrAt t i j x)

theorem StrPost.no (t : ByteArray) (i : Nat) : StrPost t i (.returned (.tuple #[.int .i64 0, .int .i64 0, .bool false])) := ⟨0, 0, false, rfl, fun h => absurd h (by decide)⟩

theorem dig_of {c : UInt8} (h : digB c = true) : 48 ≤ c.toNat ∧ c.toNat ≤ 57 := by simpa [digB] using h

theorem extract_mid (t : ByteArray) (i k : Nat) (hk : k ≤ t.size) (hd : ∀ m, i ≤ m → m < k → 48 ≤ (bt t m).toNat ∧ (bt t m).toNat ≤ 57) :
    (∀ c ∈ (t.extract i k).data.toList, 48 ≤ c.toNat ∧ c.toNat ≤ 57) ∧ horner (t.extract i k).data.toList = dv t i (k - i) := by
  rw [Lib.extract_data]
  refine ⟨?_, ?_⟩
  · intro c hc
    obtain ⟨m, hm⟩ := List.getElem?_of_mem hc
    have hlt : m < k - i := by
      rcases Nat.lt_or_ge m (k - i) with h | h
      · exact h
      · rw [List.getElem?_take, if_neg (by omega)] at hm; exact absurd hm (by simp)
    rw [List.getElem?_take, if_pos hlt, List.getElem?_drop] at hm
    have hb : bt t (i + m) = c := by
      unfold bt
      rw [List.getD_eq_getElem?_getD, hm]; rfl
    rw [← hb]
    exact hd (i + m) (by omega) (by omega)
  · by_cases h : i ≤ k
    · exact (dv_horner t i (k - i) (by omega)).symm
    · rw [show k - i = 0 by omega]; rfl

set_option maxHeartbeats 1000000 in
set_option maxRecDepth 100000 in
theorem strEnd_any (t : ByteArray) (i : Nat) (w : World) (hs : t.size ≤ 1048576) (hi : i ≤ t.size) :
    Calls Try.prog 15 #[.string t, .int .i64 (i : Int)] w fun e w' => StrPost t i e ∧ w' = w := by
  go_enter Try.func15, Try.ntmps15
  go_wp2
  go_loop [7] (fun j => ∃ k : Nat, i ≤ k ∧ k ≤ t.size ∧ j = .int .i64 k ∧ Hid (∀ m, i ≤ m → m < k → 48 ≤ (bt t m).toNat ∧ (bt t m).toNat ≤ 57)) (fun j => t.size - (intOf j).toNat)
  case atStart => exact ⟨i, Nat.le_refl _, hi, rfl, fun m h1 h2 => absurd h2 (by omega)⟩
  case round =>
    obtain ⟨k, hik, hk, rfl, hrel⟩ := hrel
    by_cases hlt : k < t.size
    · have hki : (k : Int) < (t.size : Int) := by omega
      by_cases c1 : digB t[k] = true
      · have HS : Hid (∀ m, i ≤ m → m < k + 1 → 48 ≤ (bt t m).toNat ∧ (bt t m).toNat ≤ 57) := by
          intro m h1 h2
          by_cases hm : m = k
          · subst hm; rw [bt_at t m hlt]; exact dig_of c1
          · exact hrel.out m h1 (by omega)
        go_wp2_with (go_at_call 9; go_must (refine (digit_any _ _).mono ?_); rintro e w' ⟨rfl, rfl⟩)
        go_round
        case rel => exact ⟨k + 1, by omega, by omega, by go_num, HS⟩
        case measure => simp [intOf]; omega
      · have c1f : digB t[k] = false := by simpa using c1
        clear c1
        by_cases c2 : ((t[k].toNat : Int) == 58) = true
        · have c2n : ((t[k].toNat : Int) != 58) = false := by rw [bne, c2]; rfl
          have hdd := extract_mid t i k hk hrel.out
          obtain ⟨D, hD⟩ : ∃ D, t.extract i k = D := ⟨_, rfl⟩
          rw [hD] at hdd
          have hDs : D.size ≤ 1048576 := by rw [← hD, ByteArray.size_extract]; omega
          have hl : (t.size : Int) - (k : Int) - 1 = ((t.size - k - 1 : Nat) : Int) := by omega
          have hik' : (i : Int) ≤ (k : Int) := by omega
          have HD : Hid ((∀ c ∈ D.data.toList, 48 ≤ c.toNat ∧ c.toNat ≤ 57) ∧ horner D.data.toList = dv t i (k - i)) := hdd
          clear hdd
          go_wp2_with (first | (go_at_call 9; go_must (refine (digit_any _ _).mono ?_); rintro e w' ⟨rfl, rfl⟩) | fail)
          refine (readLength_any D (t.size - k - 1) _ hDs (by omega) HD.out.1).mono ?_
          rintro e w2 ⟨⟨v, ok, rfl, hv⟩, rfl⟩
          cases ok
          · clear hv
            go_wp2_with fail
            go_ret3
            exact ⟨StrPost.no _ _, rfl⟩
          · obtain ⟨hv1, hv2⟩ := hv rfl
            have HA : Hid (StrAt t i k (k + 1 + v)) := by
              refine ⟨hik, hlt, hrel.out, ?_, ?_, by omega⟩
              · rw [bt_at t k hlt]; simp at c2; omega
              · rw [hv1, HD.out.2]
            have hvi : (v : Int) ≤ 1048576 := by omega
            clear hv hv1 hl
            go_wp2_with fail
            go_ret3
            exact ⟨⟨k, k + 1 + v, true, by go_num, fun _ => ⟨k, HA.out⟩⟩, rfl⟩
        · have c2f : ((t[k].toNat : Int) == 58) = false := by simpa using c2
          clear c2
          have c2n : ((t[k].toNat : Int) != 58) = true := by rw [bne, c2f]; rfl
          go_wp2_with (go_at_call 9; go_must (refine (digit_any _ _).mono ?_); rintro e w' ⟨rfl, rfl⟩)
          go_ret3
          exact ⟨StrPost.no _ _, rfl⟩
    · have hki : (t.size : Int) ≤ (k : Int) := by omega
      go_wp2_with fail
      go_ret3
      exact ⟨StrPost.no _ _, rfl⟩
end Go.Proofs.Qxb6605330a
