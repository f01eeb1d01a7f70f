/-
  'modelSkipEnd', by its contract.
-/
import Derived.Test.Qxb6605330aStr
namespace Go.Proofs.Qxb6605330a
open Go.RowKit Plain

/-- What 'modelSkipEnd' hands back. -/
def SkipPost (t : ByteArray) (p : Nat) (e : Ending) : Prop :=
  ∃ (x : Nat) (ok : Bool), e = .returned (.tuple #[.int .i64 (x : Int), .bool ok]) ∧ (ok = true → ∃ f, V t f false p x)

theorem SkipPost.no (t : ByteArray) (p : Nat) : SkipPost t p (.returned (.tuple #[.int .i64 0, .bool false])) := ⟨0, false, rfl, fun h => absurd h (by decide)⟩
theorem SkipPost.yes {t : ByteArray} {p x : Nat} {y : Int} (hy : y = (x : Int)) (h : ∃ f, V t f false p x) : SkipPost t p (.returned (.tuple #[.int .i64 y, .bool true])) := ⟨x, true, by rw [hy], fun _ => h⟩

theorem is_of {t : ByteArray} {k n : Nat} (hk : k < t.size) (h : ((t[k].toNat : Int) == (n : Int)) = true) : (bt t k).toNat = n := by
  rw [bt_at t k hk]; simp at h; omega
theorem ne_of {t : ByteArray} {k n : Nat} (hk : k < t.size) (h : ((t[k].toNat : Int) == (n : Int)) = false) : (bt t k).toNat ≠ n := by
  rw [bt_at t k hk]; simp at h; omega

theorem V_str {t : ByteArray} {k j x : Nat} (hk : k < t.size) (h1 : (bt t k).toNat ≠ 105) (h2 : (bt t k).toNat ≠ 108) (h3 : (bt t k).toNat ≠ 100) (h : StrAt t k j x) : V t 1 false k x := by
  rw [V]; exact ⟨hk, .inr (.inr ⟨h1, h2, h3, j, h⟩)⟩
theorem V_int {t : ByteArray} {k j : Nat} (hk : k < t.size) (h1 : (bt t k).toNat = 105) (hj : k < j) (hl : j < t.size) (h2 : (bt t j).toNat = 101) (h3 : ∀ m, k < m → m < j → (bt t m).toNat ≠ 101) : V t 1 false k (j + 1) := by
  rw [V]; exact ⟨hk, .inl ⟨h1, j, hj, hl, h2, h3, rfl⟩⟩

set_option maxHeartbeats 2000000 in
set_option maxRecDepth 100000 in
theorem skipEnd_any (t : ByteArray) (p : Nat) (w : World) (hs : t.size ≤ 1048576) :
    Calls Try.prog 19 #[.string t, .int .i64 (p : Int)] w fun e w' => SkipPost t p e ∧ w' = w := by
  go_enter Try.func19, Try.ntmps19
  go_wp2
  go_loop [6, 7] (fun i dep => ∃ k d : Nat, i = .int .i64 k ∧ dep = .int .i64 d ∧ d ≤ k ∧ Hid (Plain.Inv t p k d)) (fun i _ => t.size - (intOf i).toNat)
  case atStart => exact ⟨p, 0, rfl, rfl, Nat.zero_le _, .inl ⟨rfl, rfl⟩⟩
  case round =>
    obtain ⟨k, d, rfl, rfl, hdk, hrel⟩ := hrel
    by_cases hlt : k < t.size
    · have hki : (k : Int) < (t.size : Int) := by omega
      have hdi : (d : Int) ≤ 1048576 := by omega
      by_cases cA : ((t[k].toNat : Int) == 101) = true ∧ 0 < d
      · obtain ⟨c1, hd⟩ := cA
        have hd0 : (0 : Int) < (d : Int) := by omega
        obtain ⟨d, rfl⟩ : ∃ m, d = m + 1 := ⟨d - 1, by omega⟩
        have HC := hrel.out.closes hlt (is_of (n := 101) hlt c1)
        by_cases hz : d = 0
        · subst hz
          have HV : Hid (∃ f, V t f false p (k + 1)) := HC.1 rfl
          clear HC hrel
          go_wp2_with fail
          go_ret2
          exact ⟨SkipPost.yes (by omega) HV.out, rfl⟩
        · have hzb : ((d : Int) == 0) = false := by simp; omega
          have HI : Hid (Plain.Inv t p (k + 1) d) := HC.2 (by omega)
          clear HC hrel
          go_wp2_with fail
          go_round
          case rel => exact ⟨k + 1, d, by go_num, by go_num, by omega, HI⟩
          case measure => simp [intOf]; omega
      · by_cases cB : ((t[k].toNat : Int) == 108) = true ∨ ((t[k].toNat : Int) == 100) = true
        · have HI : Hid (Plain.Inv t p (k + 1) (d + 1)) := hrel.out.opens hlt (cB.elim (fun h => .inl (is_of (n := 108) hlt h)) (fun h => .inr (is_of (n := 100) hlt h)))
          clear hrel cA
          rcases cB with cB | cB
          · have c1 : ((t[k].toNat : Int) == 101) = false := by simp at cB ⊢; omega
            go_wp2_with fail
            go_round
            case rel => exact ⟨k + 1, d + 1, by go_num, by go_num, by omega, HI⟩
            case measure => simp [intOf]; omega
          · have c1 : ((t[k].toNat : Int) == 101) = false := by simp at cB ⊢; omega
            have c2 : ((t[k].toNat : Int) == 108) = false := by simp at cB ⊢; omega
            go_wp2_with fail
            go_round
            case rel => exact ⟨k + 1, d + 1, by go_num, by go_num, by omega, HI⟩
            case measure => simp [intOf]; omega
        · have c3 : ((t[k].toNat : Int) == 108) = false := by simpa using fun h => cB (.inl (by simpa using h))
          have c4 : ((t[k].toNat : Int) == 100) = false := by simpa using fun h => cB (.inr (by simpa using h))
          clear cB
          by_cases c5 : ((t[k].toNat : Int) == 105) = true
          · have c1 : ((t[k].toNat : Int) == 101) = false := by simp at c5 ⊢; omega
            have HR : Hid (Plain.Inv t p k d) := hrel
            clear cA hrel
            go_wp2_with fail
            go_loop [9] (fun jv => ∃ j : Nat, k < j ∧ j ≤ t.size ∧ jv = .int .i64 j ∧ Hid (∀ m, k < m → m < j → (bt t m).toNat ≠ 101)) (fun jv => t.size - (intOf jv).toNat)
            case atStart => exact ⟨k + 1, by omega, by omega, by go_num, fun m h1 h2 => absurd h2 (by omega)⟩
            case round =>
              obtain ⟨j, hkj, hj, rfl, hrj⟩ := hrel
              by_cases hjl : j < t.size
              · have hji : (j : Int) < (t.size : Int) := by omega
                by_cases c6 : ((t[j].toNat : Int) == 101) = true
                · have c6n : ((t[j].toNat : Int) != 101) = false := by rw [bne, c6]; rfl
                  have hv := V_int hlt (is_of (n := 105) hlt c5) hkj hjl (is_of (n := 101) hjl c6) hrj.out
                  have HC := HR.out.val hv (fun _ => ne_of (n := 101) hlt c1)
                  clear hv hrj HR
                  by_cases hz : d = 0
                  · subst hz
                    have HV : Hid (∃ f, V t f false p (j + 1)) := HC.1 rfl
                    clear HC
                    go_wp2_with fail
                    go_ret2
                    exact ⟨SkipPost.yes (by omega) HV.out, rfl⟩
                  · have hzb : ((d : Int) == 0) = false := by simp; omega
                    have HI : Hid (Plain.Inv t p (j + 1) d) := HC.2 (by omega)
                    clear HC
                    go_wp2_with fail
                    go_round
                    case rel => exact ⟨j + 1, d, by go_num, rfl, by omega, HI⟩
                    case measure => simp [intOf]; omega
                · have c6f : ((t[j].toNat : Int) == 101) = false := by simpa using c6
                  clear c6
                  have c6n : ((t[j].toNat : Int) != 101) = true := by rw [bne, c6f]; rfl
                  have HS : Hid (∀ m, k < m → m < j + 1 → (bt t m).toNat ≠ 101) := by
                    intro m h1 h2
                    by_cases hm : m = j
                    · subst hm; exact ne_of (n := 101) hjl c6f
                    · exact hrj.out m h1 (by omega)
                  go_wp2_with fail
                  go_round
                  case rel => exact ⟨j + 1, by omega, by omega, by go_num, HS⟩
                  case measure => simp [intOf]; omega
              · have hji : (t.size : Int) ≤ (j : Int) := by omega
                go_wp2_with fail
                go_ret2
                exact ⟨SkipPost.no _ _, rfl⟩
          · have c5 : ((t[k].toNat : Int) == 105) = false := by simpa using c5
            by_cases c1 : ((t[k].toNat : Int) == 101) = true
            · obtain rfl : d = 0 := by
                rcases Nat.eq_zero_or_pos d with h | h
                · exact h
                · exact absurd ⟨c1, h⟩ cA
              clear cA
              have HP : Hid (∀ w, Calls Try.prog 15 #[.string t, .int .i64 (k : Int)] w fun e w' => StrPost t k e ∧ w' = w) := fun w => strEnd_any t k w hs (by omega)
              go_wp2_with fail
              refine (HP.out _).mono ?_
              rintro e w2 ⟨⟨a, x, ok, rfl, hx⟩, rfl⟩
              cases ok
              · clear hx
                go_wp2_with fail
                go_ret2
                exact ⟨SkipPost.no _ _, rfl⟩
              · obtain ⟨j, hj⟩ := hx rfl
                have hv := V_str hlt (ne_of (n := 105) hlt c5) (ne_of (n := 108) hlt c3) (ne_of (n := 100) hlt c4) hj
                have HV : Hid (∃ f, V t f false p x) := (hrel.out.val hv (fun h => absurd h (by omega))).1 rfl
                clear hx hj hv hrel
                go_wp2_with fail
                go_ret2
                exact ⟨SkipPost.yes rfl HV.out, rfl⟩
            · have c1 : ((t[k].toNat : Int) == 101) = false := by simpa using c1
              clear cA
              have HQ : Hid (0 < d → (bt t k).toNat ≠ 101) := fun _ => ne_of (n := 101) hlt c1
              have HP : Hid (∀ w, Calls Try.prog 15 #[.string t, .int .i64 (k : Int)] w fun e w' => StrPost t k e ∧ w' = w) := fun w => strEnd_any t k w hs (by omega)
              go_wp2_with fail
              refine (HP.out _).mono ?_
              rintro e w2 ⟨⟨a, x, ok, rfl, hx⟩, rfl⟩
              cases ok
              · clear hx
                go_wp2_with fail
                go_ret2
                exact ⟨SkipPost.no _ _, rfl⟩
              · obtain ⟨j, hj⟩ := hx rfl
                have hv := V_str hlt (ne_of (n := 105) hlt c5) (ne_of (n := 108) hlt c3) (ne_of (n := 100) hlt c4) hj
                have hle := V_le t _ _ _ _ hv
                have HC := hrel.out.val hv HQ.out
                clear hx hj hv hrel
                by_cases hz : d = 0
                · subst hz
                  have HV : Hid (∃ f, V t f false p x) := HC.1 rfl
                  clear HC
                  go_wp2_with fail
                  go_ret2
                  exact ⟨SkipPost.yes rfl HV.out, rfl⟩
                · have hzb : ((d : Int) == 0) = false := by simp; omega
                  have HI : Hid (Plain.Inv t p x d) := HC.2 (by omega)
                  clear HC
                  go_wp2_with fail
                  go_round
                  case rel => exact ⟨x, d, rfl, rfl, by omega, HI⟩
                  case measure => simp [intOf]; omega
    · have hki : (t.size : Int) ≤ (k : Int) := by omega
      go_wp2_with fail
      go_ret2
      exact ⟨SkipPost.no _ _, rfl⟩
end Go.Proofs.Qxb6605330a
