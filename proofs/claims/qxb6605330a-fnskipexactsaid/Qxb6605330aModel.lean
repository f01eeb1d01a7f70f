/-
  The model's side of 'FnSkipExact': 'isDigit', 'readLength', 'modelStringEnd', by their contracts.
-/
import Derived.Test.Qxb6605330aRows
import Derived.Test.Qxb6605330aPlain
import Derived.WalkKit
import Derived.WalkSpells
import Derived.ProofKit
import Derived.Lib.Strings
namespace Go.Proofs.Qxb6605330a
open Go.RowKit Plain

theorem bytes_any (s : ByteArray) (p : Int) (b : Bool) (w : World) (hs : s.size ≤ maxLen) :
    Calls Try.prog 18 #[.string s, .int .i64 p, .bool b] w fun e w' => e = .returned (.bool (decide (s.size ≤ 1048576))) ∧ w' = w := by
  unfold maxLen at hs
  by_cases h : s.size ≤ 1048576
  · have h' : (s.size : Int) ≤ 1048576 := by omega
    go_enter Try.func18, Try.ntmps18
    go_wp2
    go_ret
    exact ⟨by simp [h], rfl⟩
  · have h' : (1048576 : Int) < s.size := by omega
    go_enter Try.func18, Try.ntmps18
    go_wp2
    go_ret
    exact ⟨by simp [h], rfl⟩

/-- A decimal digit. -/
def digB (c : UInt8) : Bool := decide (48 ≤ c.toNat ∧ c.toNat ≤ 57)

theorem digit_any (c : UInt8) (w : World) :
    Calls Try.prog 9 #[.int .u8 (c.toNat : Int)] w fun e w' => e = .returned (.bool (digB c)) ∧ w' = w := by
  by_cases h1 : 48 ≤ c.toNat
  · have h1i : (48 : Int) ≤ (c.toNat : Int) := by omega
    by_cases h2 : c.toNat ≤ 57
    · have h2i : (c.toNat : Int) ≤ 57 := by omega
      go_enter Try.func9, Try.ntmps9
      go_wp2
      go_ret
      exact ⟨by simp [digB, h1, h2], rfl⟩
    · have h2i : (57 : Int) < (c.toNat : Int) := by omega
      go_enter Try.func9, Try.ntmps9
      go_wp2
      go_ret
      exact ⟨by simp [digB, h1]; omega, rfl⟩
  · have h1i : (c.toNat : Int) < 48 := by omega
    go_enter Try.func9, Try.ntmps9
    go_wp2
    go_ret
    exact ⟨by simp [digB, h1], rfl⟩

theorem drop_at (s : ByteArray) (k : Nat) (h : k < s.size) : s.data.toList.drop k = s[k] :: s.data.toList.drop (k + 1) := by
  rw [List.drop_eq_getElem_cons (by simpa using h)]; rfl

theorem zero_is {c : UInt8} (h : ((c.toNat : Int) == 48) = true) : c = 48 := by
  have : c.toNat = (48 : UInt8).toNat := by simp at h; exact_mod_cast h
  exact UInt8.toNat_inj.1 this

/-- What the second loop of 'readLength' holds: m digits are still to be read, from the right. -/
structure Sum (D : ByteArray) (m V P : Nat) : Prop where
  le : m ≤ D.size
  val : V = horner (D.data.toList.drop m)
  place : P = 10 ^ (D.size - m)

theorem Sum.bounds {D : ByteArray} {m V P : Nat} (h : Sum D m V P) (h7 : D.size ≤ 7) (hd : ∀ c ∈ D.data.toList, 48 ≤ c.toNat ∧ c.toNat ≤ 57) : V < P ∧ P ≤ 10000000 ∧ (0 < m → P ≤ 1000000) := by
  have hl : D.data.toList.length = D.size := by simp
  refine ⟨?_, ?_, fun h0 => ?_⟩
  · have := horner_lt (D.data.toList.drop m) (fun c hc => (hd c (List.mem_of_mem_drop hc)).2)
    rw [h.val, h.place]
    rwa [List.length_drop, hl] at this
  · rw [h.place]
    exact Nat.pow_le_pow_right (by omega) (show D.size - m ≤ 7 by omega)
  · rw [h.place]
    exact Nat.pow_le_pow_right (by omega) (show D.size - m ≤ 6 by omega)

theorem Sum.next {D : ByteArray} {m V P : Nat} (h : Sum D (m + 1) V P) (hm : m < D.size) : Sum D m (V + (D[m].toNat - 48) * P) (P * 10) := by
  have hl : D.data.toList.length = D.size := by simp
  refine ⟨by omega, ?_, ?_⟩
  · rw [drop_at D m hm, horner_cons, h.val, h.place, List.length_drop, hl]
    omega
  · rw [h.place, ← Nat.pow_succ, show (D.size - (m + 1)).succ = D.size - m by omega]

theorem Sum.start (D : ByteArray) : Sum D D.size 0 1 := by
  have hl : D.data.toList.length = D.size := by simp
  exact ⟨Nat.le_refl _, by rw [List.drop_eq_nil_of_le (by omega)]; rfl, by simp⟩

theorem at_mem (D : ByteArray) (m : Nat) (h : m < D.size) : D[m] ∈ D.data.toList := by
  have h2 : D.data.toList[m]? = some D[m] := by simp [h]; rfl
  exact List.mem_of_getElem? h2

theorem extract_rest (s : ByteArray) (k : Nat) (h : k ≤ s.size) : (s.extract k s.size).data.toList = s.data.toList.drop k ∧ (s.extract k s.size).size = s.size - k := by
  have hl : s.data.toList.length = s.size := by simp
  have h1 : (s.extract k s.size).data.toList = s.data.toList.drop k := by
    rw [Lib.extract_data, List.take_of_length_le (by rw [List.length_drop]; omega)]
  refine ⟨h1, ?_⟩
  have h2 := congrArg List.length h1
  have h3 : (s.extract k s.size).data.toList.length = (s.extract k s.size).size := by simp
  rw [List.length_drop] at h2
  omega

/-- What 'readLength' hands back. -/
def LenPost (s : ByteArray) (lim : Nat) (e : Ending) : Prop :=
  ∃ (v : Nat) (ok : Bool), e = .returned (.tuple #[.int .i64 (v : Int), .bool ok]) ∧ (ok = true → v = horner s.data.toList ∧ v ≤ lim)

theorem LenPost.no (s : ByteArray) (lim : Nat) : LenPost s lim (.returned (.tuple #[.int .i64 0, .bool false])) := ⟨0, false, rfl, fun h => absurd h (by decide)⟩
theorem LenPost.yes {s : ByteArray} {lim v : Nat} (h : v = horner s.data.toList) (hv : v ≤ lim) : LenPost s lim (.returned (.tuple #[.int .i64 (v : Int), .bool true])) := ⟨v, true, rfl, fun _ => ⟨h, hv⟩⟩

set_option maxHeartbeats 1000000 in
set_option maxRecDepth 100000 in
theorem readLength_any (s : ByteArray) (lim : Nat) (w : World) (hs : s.size ≤ 1048576) (_hl : lim ≤ 1048576) (hd : Hid (∀ c ∈ s.data.toList, 48 ≤ c.toNat ∧ c.toNat ≤ 57)) :
    Calls Try.prog 23 #[.string s, .int .i64 (lim : Int)] w fun e w' => LenPost s lim e ∧ w' = w := by
  go_enter Try.func23, Try.ntmps23
  go_wp2
  go_loop [6] (fun i => ∃ k : Nat, k ≤ s.size ∧ i = .int .i64 k ∧ Hid (horner (s.data.toList.drop k) = horner s.data.toList)) (fun i => s.size - (intOf i).toNat)
  case atStart => exact ⟨0, Nat.zero_le _, rfl, rfl⟩
  case round =>
    obtain ⟨k, hk, rfl, hrel⟩ := hrel
    by_cases hx : ∃ h : k < s.size, ((s[k].toNat : Int) == 48) = true
    · obtain ⟨hlt, c1⟩ := hx
      have hki : (k : Int) < (s.size : Int) := by omega
      have HS : Hid (horner (s.data.toList.drop (k + 1)) = horner s.data.toList) := by
        have := hrel.out
        rw [drop_at s k hlt, zero_is c1, horner_zero] at this
        exact this
      go_wp2
      go_round
      case rel => exact ⟨k + 1, by omega, by go_num, HS⟩
      case measure => simp [intOf]; omega
    · obtain ⟨e1, e2⟩ := extract_rest s k hk
      obtain ⟨D, hD⟩ : ∃ D, s.extract k s.size = D := ⟨_, rfl⟩
      rw [hD] at e1 e2
      have hdD : Hid (∀ c ∈ D.data.toList, 48 ≤ c.toNat ∧ c.toNat ≤ 57) := fun c hc => hd.out c (by rw [e1] at hc; exact List.mem_of_mem_drop hc)
      have hDv : Hid (horner D.data.toList = horner s.data.toList) := by show _ = _; rw [e1]; exact hrel.out
      have hDs : D.size ≤ 1048576 := by omega
      clear e1 e2 hrel
      have hxx : (∃ h : k < s.size, ((s[k].toNat : Int) == 48) = false) ∨ (s.size : Int) ≤ (k : Int) := by
        by_cases hlt : k < s.size
        · exact .inl ⟨hlt, by simpa using fun c => hx ⟨hlt, by simpa using c⟩⟩
        · exact .inr (by omega)
      clear hx
      by_cases h7 : D.size ≤ 7
      · have h7i : (D.size : Int) ≤ 7 := by omega
        rcases hxx with ⟨hlt, c1f⟩ | hge
        rotate_left
        all_goals
          go_wp2
          go_loop [8, 9, 10] (fun v pl j => ∃ (J : Int) (m V P : Nat), v = .int .i64 V ∧ pl = .int .i64 P ∧ j = .int .i64 J ∧ Hid (J + 1 = m ∧ Sum D m V P)) (fun _ _ j => (intOf j + 1).toNat)
          case atStart => exact ⟨_, D.size, 0, 1, rfl, rfl, rfl, by omega, Sum.start D⟩
          case round =>
            obtain ⟨J, m, V, P, rfl, rfl, rfl, hS⟩ := hrel
            have hb := hS.out.2.bounds h7 hdD.out
            have hJm := hS.out.1
            by_cases hJ : 0 ≤ J
            · obtain ⟨m, rfl⟩ : ∃ k : Nat, m = k + 1 := ⟨m - 1, by omega⟩
              obtain rfl : J = (m : Int) := by omega
              have hP := hb.2.2 (by omega)
              have hV := hb.1
              have hm : m < D.size := by have := hS.out.2.le; omega
              have hmi : (m : Int) < (D.size : Int) := by omega
              have hdm := hdD.out D[m] (at_mem D m hm)
              have h48 : (48 : Int) ≤ (D[m].toNat : Int) := by omega
              have h57 : (D[m].toNat : Int) ≤ 57 := by omega
              have hp0 : 0 ≤ ((D[m].toNat : Int) - 48) * (P : Int) := Int.mul_nonneg (by omega) (by omega)
              have hp1 : ((D[m].toNat : Int) - 48) * (P : Int) ≤ 9 * 1000000 := Int.mul_le_mul (by omega) (by omega) (by omega) (by omega)
              have hPi : (P : Int) ≤ 1000000 := by omega
              have hVi : (V : Int) < 1000000 := by omega
              have HN : Hid (Sum D m (V + (D[m].toNat - 48) * P) (P * 10)) := hS.out.2.next hm
              clear hb hJm hS hdm
              have HE : Hid ((V : Int) + ((D[m].toNat : Int) - 48) * (P : Int) = ((V + (D[m].toNat - 48) * P : Nat) : Int)) := by
                have e : ((D[m].toNat - 48 : Nat) : Int) = (D[m].toNat : Int) - 48 := by omega
                show _ = _
                rw [Int.natCast_add, Int.natCast_mul, e]
              go_wp2
              go_round
              case rel => exact ⟨_, m, V + (D[m].toNat - 48) * P, P * 10, congrArg (Value.int .i64) HE.out, by go_num, rfl, by omega, HN.out⟩
              case measure => simp [intOf]
            · obtain rfl : m = 0 := by omega
              have hVv : Hid (V = horner s.data.toList) := by
                show V = _
                have := hS.out.2.val
                rw [List.drop_zero] at this
                rw [this]; exact hDv.out
              have hVb : (V : Int) < 10000000 := by omega
              obtain rfl : J = -1 := by omega
              clear hS hb hJm hJ
              by_cases hvl : V ≤ lim
              · have hvi : (V : Int) ≤ (lim : Int) := by omega
                have HL : Hid (V ≤ lim) := hvl
                clear hvl hVb
                go_wp2
                go_ret2
                exact ⟨LenPost.yes hVv.out HL.out, rfl⟩
              · have hvi : (lim : Int) < (V : Int) := by omega
                go_wp2
                go_ret2
                exact ⟨LenPost.no _ _, rfl⟩
      · have h7i : (7 : Int) < (D.size : Int) := by omega
        rcases hxx with ⟨hlt, c1f⟩ | hge
        rotate_left
        all_goals
          go_wp2
          go_ret2
          exact ⟨LenPost.no _ _, rfl⟩
end Go.Proofs.Qxb6605330a
