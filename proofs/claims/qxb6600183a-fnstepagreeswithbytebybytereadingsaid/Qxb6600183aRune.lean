/-
  'utf8.ValidRune', and 'strings.IndexRune' at a rune that is no ASCII, on two ASCII bytes.
-/
import Derived.Test.Qxb6600183aRows
import Derived.Test.Qxb6600183aShelf
import Derived.WalkKit
import Derived.WalkSpells
import Derived.WalkMore
import Derived.ProofKit
import Derived.WalkSmall
import Derived.Laws.RangeAny
import Derived.Laws.Runes
import Derived.Lib.IndexLaws
import Derived.Lib.Strings
import Derived.Deep.LoopGhost
import Derived.Deep.QuietTactic
import Derived.BigQuiet
namespace Go.Proofs.Qxb6600183a
open Go.RowKit

set_option maxHeartbeats 1000000 in
theorem valid_any (r : Int) (w : World) :
    Calls Try.prog 52 #[.int .i32 r] w fun e w' => e = .returned (.bool (validRune r)) ∧ w' = w := by
  obtain ⟨v, hv⟩ : ∃ v, validRune r = v := ⟨_, rfl⟩
  rw [hv]
  by_cases h0 : 0 ≤ r
  · by_cases h1 : r < 55296
    · obtain rfl : v = true := by rw [← hv]; exact decide_eq_true (by omega)
      clear hv
      go_enter Try.func52, Try.ntmps52
      go_wp2
      go_ret
      exact ⟨rfl, rfl⟩
    · by_cases h2 : 57343 < r
      · by_cases h3 : r ≤ 1114111
        · obtain rfl : v = true := by rw [← hv]; exact decide_eq_true (by omega)
          clear hv
          go_enter Try.func52, Try.ntmps52
          go_wp2
          go_ret
          exact ⟨rfl, rfl⟩
        · obtain rfl : v = false := by rw [← hv]; exact decide_eq_false (by omega)
          clear hv
          go_enter Try.func52, Try.ntmps52
          go_wp2
          go_ret
          exact ⟨rfl, rfl⟩
      · obtain rfl : v = false := by rw [← hv]; exact decide_eq_false (by omega)
        clear hv
        go_enter Try.func52, Try.ntmps52
        go_wp2
        go_ret
        exact ⟨rfl, rfl⟩
  · have h2 : ¬ 57343 < r := by omega
    obtain rfl : v = false := by rw [← hv]; exact decide_eq_false (by omega)
    clear hv
    go_enter Try.func52, Try.ntmps52
    go_wp2
    go_ret
    exact ⟨rfl, rfl⟩

set_option maxHeartbeats 2000000 in
set_option maxRecDepth 1000000 in
/-- The replacement rune is in no ASCII string. -/
theorem rune_error (s : ByteArray) (w : World) (hascii : ∀ (j : Nat) b, s.data.toList[j]? = some b → b.toNat < 128) :
    Calls Try.prog 45 #[.string s, .int .i32 65533] w fun e w' => e = .returned (.int .i64 (-1)) ∧ Below w.heap.size w w' := by
  have HA : Hid (∀ (j : Nat) b, s.data.toList[j]? = some b → b.toNat < 128) := hascii
  clear hascii
  go_enter Try.func45, Try.ntmps45
  go_wp2
  go_loopg [5, 6] s.size (fun g _ _ wx => ∃ i : Nat, i + g = s.size ∧ wx = w.iter s i)
  case atStart => exact ⟨0, by omega, rfl⟩
  case round =>
    obtain ⟨i, hig, rfl⟩ := hrel
    cases gk with
    | zero =>
      obtain rfl : i = s.size := by omega
      have hnx := run_next_end (P := Try.prog) w s s.size
      go_wp2
      go_ret
      exact ⟨rfl, (Below.refl _ _).alloc (Nat.le_refl _) _⟩
    | succ g =>
      have hi : i < s.size := by omega
      obtain ⟨x, hx⟩ : ∃ x : UInt8, s[i]'hi = x := ⟨_, rfl⟩
      have hxl : s.data.toList[i]? = some x := by rw [← hx]; exact Lib.data_getElem? s i hi
      have hx128 : x.toNat < 128 := HA.out i x hxl
      have hnx := fun ty => run_next_ascii (P := Try.prog) w s i ty hi (by rw [hx]; exact hx128)
      rw [hx] at hnx
      clear hxl hx
      have hne : ((x.toNat : Int) == 65533) = false := beq_eq_false_iff_ne.2 (by omega)
      go_wp2
      go_roundg g
      case measure => omega
      case rel => exact ⟨i + 1, by omega, rfl⟩

theorem below_drewN {B : Nat} {a w : World} (h : Below B a w) (n : Nat) : Below B a (w.drewN n) := ⟨h.os, h.tape, h.output, h.size, h.block⟩

theorem byte_none (q : ByteArray) (c : Int) (w : World) (h : q.size = 0) :
    Calls Try.prog 40 #[.string q, .int .u8 c] w fun e w' => e = .returned (.int .i64 (-1)) ∧ w' = w := by
  have hn : q.data.toList = [] := List.length_eq_zero_iff.1 (by rw [← Lib.size_eq]; exact h)
  have := Try.strings_IndexByte q c w
  rw [hn] at this
  exact this

set_option maxHeartbeats 4000000 in
set_option maxRecDepth 1000000 in
/-- A rune that is no ASCII is in no two ASCII bytes. -/
theorem rune_high (s : ByteArray) (r : Int) (w : World) (hs : s.size = 2) (hascii : ∀ (j : Nat) b, s.data.toList[j]? = some b → b.toNat < 128) (hr : 128 ≤ r) :
    Calls Try.prog 45 #[.string s, .int .i32 r] w fun e w' => e = .returned (.int .i64 (-1)) ∧ Below w.heap.size w w' := by
  by_cases he : r = 65533
  · subst he
    exact rune_error s w hascii
  have hne : (r == 65533) = false := beq_eq_false_iff_ne.2 he
  have h128 : ¬ r < 128 := by omega
  obtain ⟨v, hv⟩ : ∃ v, validRune r = v := ⟨_, rfl⟩
  have HV : Hid (∀ w, Calls Try.prog 52 #[.int .i32 r] w fun e w' => e = .returned (.bool v) ∧ w' = w) := fun w => by rw [← hv]; exact valid_any r w
  have HB : Hid (∀ (q : ByteArray) (c : Int) (w : World), q.size = 0 → Calls Try.prog 40 #[.string q, .int .u8 c] w fun e w' => e = .returned (.int .i64 (-1)) ∧ w' = w) := byte_none
  cases v
  · clear hv HB
    go_enter Try.func45, Try.ntmps45
    go_wp2_with (go_at_call 52; go_must (refine (HV.out _).mono ?_); rintro e w2 ⟨rfl, rfl⟩)
    go_ret
    exact ⟨rfl, Below.refl _ _⟩
  · obtain ⟨k2, k4, kl⟩ := encode_facts r (by rw [validRune_eq]; exact hv) hr
    obtain ⟨t, ht⟩ : ∃ t, Utf8.encode r = t := ⟨_, rfl⟩
    rw [ht] at k2 k4 kl
    have hcv := fun w => run_convert_int_string (P := Try.prog) w 21 9 .i32 r (by kernel_rfl) Try.underlying9
    rw [ht] at hcv
    clear hv ht he
    obtain ⟨y, hy⟩ : ∃ y : UInt8, t[t.size - 1]'(by omega) = y := ⟨_, rfl⟩
    have hy128 : 128 ≤ y.toNat := by rw [← hy]; exact kl _
    by_cases h2 : t.size = 2
    · have H2 : Hid (t.size = 2) := h2
      have HS : Hid (s.size = 2) := hs
      obtain ⟨x, hx⟩ : ∃ x : UInt8, s[1]'(by omega) = x := ⟨_, rfl⟩
      have Hx : Hid (∀ h : 1 < s.size, s[1]'h = x) := fun _ => hx
      have hx128 : x.toNat < 128 := hascii 1 x (by rw [← hx]; exact Lib.data_getElem? s 1 (by omega))
      have hxy : ((x.toNat : Int) == (y.toNat : Int)) = false := beq_eq_false_iff_ne.2 (by omega)
      have hlt : (t.size : Int) - 1 < (s.size : Int) := by omega
      have hs9 : s.size ≤ 9 := by omega
      clear hascii kl hx hs h2
      go_enter Try.func45, Try.ntmps45
      go_wp2_with (go_at_call 52; go_must (refine (HV.out _).mono ?_); rintro e w2 ⟨rfl, rfl⟩)
      go_step3
      go_wp2
      go_loopg [9, 10] 1 (fun _ s9 s10 wx => ∃ i : Nat, Hid (i = 1) ∧ s9 = .int .i64 (i : Int) ∧ s10 = .int .i64 0 ∧ wx = w2)
      case atStart => exact ⟨1, rfl, congrArg (Value.int .i64) (by have := H2.out; omega), rfl, rfl⟩
      case round =>
        obtain ⟨i, hi1, rfl, rfl, rfl⟩ := hrel
        have hi : i < s.size := by have := hi1.out; have := HS.out; omega
        have hxi : s[i]'hi = x := by rw [← Hx.out (by have := HS.out; omega)]; congr 1
        have hii : (i : Int) + 1 ≤ (s.size : Int) := by omega
        go_wp2
        go_step3
        go_wp2
        go_quiet (fail)
        go_wp2
        go_quiet ((go_at_call 40; refine (HB.out _ _ _ (by have := HS.out; have := hi1.out; simp only [ByteArray.size_extract]; omega)).mono ?_; rintro e w3 ⟨rfl, rfl⟩; exact ⟨rfl, _, rfl⟩))
        go_wp2
        simp only [Exit.noGoto_ret, go_sem]
        go_ret
        exact ⟨rfl, below_drewN (Below.refl _ _) _⟩
    · clear hascii kl
      have hlt : ¬ ((t.size : Int) - 1 < (s.size : Int)) := by omega
      go_enter Try.func45, Try.ntmps45
      go_wp2_with (go_at_call 52; go_must (refine (HV.out _).mono ?_); rintro e w2 ⟨rfl, rfl⟩)
      go_step3
      go_wp2
      go_loopg [9, 10] 1 (fun _ s9 s10 wx => s9 = .int .i64 (t.size - 1) ∧ s10 = .int .i64 0 ∧ wx = w2)
      case atStart => exact ⟨rfl, rfl, rfl⟩
      case round =>
        obtain ⟨rfl, rfl, rfl⟩ := hrel
        go_wp2
        rw [Exit.noGoto_ret]
        go_ret
        exact ⟨rfl, Below.refl _ _⟩

end Go.Proofs.Qxb6600183a
