/-
  'NodeOf', 'zzNode', 'zzOtherIncarnation', 'zzMax', 'zzMin', by their contracts.
-/
import Derived.Test.Qxb6003611aRows
import Derived.Test.Qxb6003611aPlain
import Derived.Test.Qxb6003611aShelf
import Derived.WalkKit
import Derived.WalkSpells
import Derived.ProofKit
import Derived.WalkSmall
import Derived.Lib.IndexLaws
import Derived.Lib.Strings
import Derived.Deep.QuietTactic
import Derived.BigQuiet
namespace Go.Proofs.Qxb6003611a
open Go.RowKit Plain

/-- The node's name as a string. -/
def nd (s : ByteArray) : ByteArray := ⟨(node s.data.toList).toArray⟩

theorem take_node (l : List UInt8) (k : Nat) (h : ∀ j, j < k → l[j]? ≠ some 126) (he : l[k]? = some 126 ∨ l.length ≤ k) : node l = l.take k := by
  unfold node
  induction l generalizing k with
  | nil => simp
  | cons c r ih =>
    cases k with
    | zero =>
      rcases he with he | he
      · simp at he; subst he; simp
      · simp at he
    | succ k =>
      have hc : c ≠ 126 := fun e => h 0 (by omega) (by simp [e])
      rw [List.takeWhile_cons_of_pos (by simpa using hc), List.take_succ_cons, ih k (fun j hj => by have := h (j + 1) (by omega); simpa using this) (by rcases he with he | he; exact .inl (by simpa using he); exact .inr (by simpa using he))]

theorem nd_take (s : ByteArray) (k : Nat) (h : ∀ j, j < k → s.data.toList[j]? ≠ some 126) (he : s.data.toList[k]? = some 126 ∨ s.size ≤ k) : nd s = s.extract 0 k := by
  apply ByteArray.ext
  apply Array.toList_inj.1
  rw [Lib.extract_data]
  show node s.data.toList = _
  rw [take_node s.data.toList k h (by rcases he with he | he; exact .inl he; exact .inr (by simpa using he))]
  simp

theorem nd_whole (s : ByteArray) (h : ∀ j : Nat, s.data.toList[j]? ≠ some 126) : nd s = s := by
  apply ByteArray.ext
  apply Array.toList_inj.1
  show node s.data.toList = _
  rw [take_node s.data.toList s.size (fun j _ => h j) (.inr (by simp))]
  exact List.take_of_length_le (by simp)

set_option maxHeartbeats 1000000 in
set_option maxRecDepth 100000 in
theorem cut_any (s : ByteArray) (w : World) (hs : s.size ≤ maxLen) :
    Calls Try.prog 30 #[.string s, .string ⟨#[126]⟩] w fun e w' => (∃ x y, e = .returned (.tuple #[.string (nd s), .string x, .bool y])) ∧ ∃ n, w' = w.drewN n := by
  unfold maxLen at hs
  have hge := Lib.indexByte_ge s.data.toList 126
  by_cases hi : Lib.indexByte s.data.toList 126 = -1
  · have hn : Hid (nd s = s) := nd_whole s (Lib.indexByte_none hi)
    have HI : Hid (∀ w, Calls Try.prog 31 #[.string s, .string ⟨#[126]⟩] w fun e w' => e = .returned (.int .i64 (-1)) ∧ w' = w) := fun w => by
      have := Try.stringslite_Index_one s 126 w
      rw [hi] at this; exact this
    clear hi hge
    go_enter Try.func30, Try.ntmps30
    go_wp2_with (go_at_call 31; go_must (refine (HI.out _).mono ?_); rintro e w2 ⟨rfl, rfl⟩)
    go_ret3
    exact ⟨⟨_, _, by rw [hn.out]; rfl⟩, 0, rfl⟩
  · obtain ⟨k, hk⟩ : ∃ k : Nat, Lib.indexByte s.data.toList 126 = (k : Int) := ⟨(Lib.indexByte s.data.toList 126).toNat, by omega⟩
    obtain ⟨h1, h2⟩ := Lib.indexByte_some hk
    have hks : k < s.size := by
      have := (List.getElem?_eq_some_iff.1 h1).1
      simpa using this
    have hn : Hid (nd s = s.extract 0 k) := nd_take s k h2 (.inl h1)
    have HI : Hid (∀ w, Calls Try.prog 31 #[.string s, .string ⟨#[126]⟩] w fun e w' => e = .returned (.int .i64 (k : Int)) ∧ w' = w) := fun w => by
      have := Try.stringslite_Index_one s 126 w
      rw [hk] at this; exact this
    clear hi hge hk h1 h2
    have hki : (k : Int) < (s.size : Int) := by omega
    go_enter Try.func30, Try.ntmps30
    go_wp2_with (go_at_call 31; go_must (refine (HI.out _).mono ?_); rintro e w2 ⟨rfl, rfl⟩)
    go_quiet (fail)
    go_wp2
    go_ret3
    exact ⟨⟨_, _, by rw [hn.out]; rfl⟩, nq, rfl⟩

theorem cut29_any (s : ByteArray) (w : World) (hs : s.size ≤ maxLen) :
    Calls Try.prog 29 #[.string s, .string ⟨#[126]⟩] w fun e w' => (∃ x y, e = .returned (.tuple #[.string (nd s), .string x, .bool y])) ∧ ∃ n, w' = w.drewN n := by
  have HC : Hid (∀ w, Calls Try.prog 30 #[.string s, .string ⟨#[126]⟩] w fun e w' => (∃ x y, e = .returned (.tuple #[.string (nd s), .string x, .bool y])) ∧ ∃ n, w' = w.drewN n) := fun w => cut_any s w hs
  go_enter Try.func29, Try.ntmps29
  go_wp2_with (go_at_call 30; go_must (refine (HC.out _).mono ?_); rintro e w2 ⟨⟨x, y, rfl⟩, n, rfl⟩)
  go_ret3
  exact ⟨⟨_, _, rfl⟩, n, rfl⟩

theorem nodeOf_any (s : ByteArray) (w : World) (hs : s.size ≤ maxLen) :
    Calls Try.prog 27 #[.string s] w fun e w' => e = .returned (.string (nd s)) ∧ ∃ n, w' = w.drewN n := by
  have HC : Hid (∀ w, Calls Try.prog 29 #[.string s, .string ⟨#[126]⟩] w fun e w' => (∃ x y, e = .returned (.tuple #[.string (nd s), .string x, .bool y])) ∧ ∃ n, w' = w.drewN n) := fun w => cut29_any s w hs
  go_enter Try.func27, Try.ntmps27
  go_wp2_with (go_at_call 29; go_must (refine (HC.out _).mono ?_); rintro e w2 ⟨⟨x, y, rfl⟩, n, rfl⟩)
  go_ret
  exact ⟨rfl, n, rfl⟩

set_option maxHeartbeats 1000000 in
set_option maxRecDepth 100000 in
theorem zzNode_any (s : ByteArray) (w : World) (hs : s.size ≤ maxLen) :
    Calls Try.prog 28 #[.string s] w fun e w' => e = .returned (.string (nd s)) ∧ w' = w := by
  unfold maxLen at hs
  go_enter Try.func28, Try.ntmps28
  go_wp2
  go_loop [3] (fun i => ∃ k : Nat, k ≤ s.size ∧ i = .int .i64 k ∧ Hid (∀ j, j < k → s.data.toList[j]? ≠ some 126)) (fun i => s.size - (intOf i).toNat)
  case atStart => exact ⟨0, Nat.zero_le _, rfl, fun j hj => absurd hj (by omega)⟩
  case round =>
    obtain ⟨k, hk, rfl, hrel⟩ := hrel
    by_cases hlt : k < s.size
    · have hki : (k : Int) < (s.size : Int) := by omega
      have hat : s.data.toList[k]? = some s[k] := by simp [hlt]; rfl
      by_cases c1 : ((s[k].toNat : Int) == 126) = true
      · have hn : Hid (nd s = s.extract 0 k) := nd_take s k hrel.out (.inl (by
          rw [hat]
          have : s[k].toNat = (126 : UInt8).toNat := by simp at c1; exact_mod_cast c1
          exact congrArg some (UInt8.toNat_inj.1 this)))
        clear hat
        go_wp2
        go_ret
        exact ⟨by rw [hn.out]; rfl, rfl⟩
      · have c1f : ((s[k].toNat : Int) == 126) = false := by simpa using c1
        clear c1
        have HS : Hid (∀ j, j < k + 1 → s.data.toList[j]? ≠ some 126) := by
          intro j hj
          by_cases e : j = k
          · subst e
            rw [hat]
            intro h
            have : s[j] = 126 := Option.some.inj h
            rw [this] at c1f
            simp at c1f
          · exact hrel.out j (by omega)
        clear hat
        go_wp2
        go_round
        case rel => exact ⟨k + 1, by omega, by go_num, HS⟩
        case measure => simp [intOf]; omega
    · have hn : Hid (nd s = s) := nd_whole s (fun j => by
        by_cases hj : j < k
        · exact hrel.out j hj
        · rw [List.getElem?_eq_none (by simp; omega)]; simp)
      go_wp2
      go_ret
      exact ⟨by rw [hn.out]; rfl, rfl⟩

/-- The texts differ and the nodes agree. -/
def otherB (later k : ByteArray) : Bool := other later.data.toList k.data.toList

theorem max_any (x y : Nat) (w : World) : Calls Try.prog 23 #[.int .u64 (x : Int), .int .u64 (y : Int)] w fun e w' => e = .returned (.int .u64 ((max x y : Nat) : Int)) ∧ w' = w := by
  by_cases h : y < x
  · have hi : (y : Int) < (x : Int) := by omega
    go_enter Try.func23, Try.ntmps23
    go_wp2
    go_ret
    exact ⟨by rw [show max x y = x by omega]; rfl, rfl⟩
  · have hi : (x : Int) ≤ (y : Int) := by omega
    go_enter Try.func23, Try.ntmps23
    go_wp2
    go_ret
    exact ⟨by rw [show max x y = y by omega]; rfl, rfl⟩

theorem min_any (x y : Nat) (w : World) : Calls Try.prog 19 #[.int .u64 (x : Int), .int .u64 (y : Int)] w fun e w' => e = .returned (.int .u64 ((min x y : Nat) : Int)) ∧ w' = w := by
  by_cases h : x < y
  · have hi : (x : Int) < (y : Int) := by omega
    go_enter Try.func19, Try.ntmps19
    go_wp2
    go_ret
    exact ⟨by rw [show min x y = x by omega]; rfl, rfl⟩
  · have hi : (y : Int) ≤ (x : Int) := by omega
    go_enter Try.func19, Try.ntmps19
    go_wp2
    go_ret
    exact ⟨by rw [show min x y = y by omega]; rfl, rfl⟩

theorem same_text (a b : ByteArray) : (a.toList == b.toList) = decide (a.data.toList = b.data.toList) := by
  rw [Lib.toList_data, Lib.toList_data, Bool.eq_iff_iff]; simp

theorem nd_data (s : ByteArray) : (nd s).data.toList = node s.data.toList := rfl

theorem other_any (later k : ByteArray) (w : World) (hl : later.size ≤ maxLen) (hk : k.size ≤ maxLen) :
    Calls Try.prog 24 #[.string later, .string k] w fun e w' => e = .returned (.bool (otherB later k)) ∧ w' = w := by
  have h1 := same_text k later
  have h2 := same_text (nd k) (nd later)
  rw [nd_data, nd_data] at h2
  by_cases e1 : k.data.toList = later.data.toList
  · have HO : Hid (otherB later k = false) := by show other _ _ = false; simp [other, e1]
    have h1b : (k.toList == later.toList) = true := by rw [h1]; simpa using e1
    clear h1 h2 e1
    go_enter Try.func24, Try.ntmps24
    go_wp2_with fail
    go_ret
    exact ⟨by rw [HO.out]; rfl, rfl⟩
  · have h1b : (k.toList == later.toList) = false := by rw [h1]; simpa using e1
    by_cases e2 : node k.data.toList = node later.data.toList
    · have HO : Hid (otherB later k = true) := by show other _ _ = true; simp [other, e1, e2]
      have h2b : ((nd k).toList == (nd later).toList) = true := by rw [h2]; simpa using e2
      clear h1 h2 e1 e2
      go_enter Try.func24, Try.ntmps24
      go_wp2_with fail
      refine (zzNode_any k _ hk).mono ?_
      rintro e w2 ⟨rfl, rfl⟩
      go_wp2_with fail
      refine (zzNode_any later _ hl).mono ?_
      rintro e w2 ⟨rfl, rfl⟩
      go_wp2_with fail
      go_ret
      exact ⟨by rw [HO.out]; rfl, rfl⟩
    · have HO : Hid (otherB later k = false) := by show other _ _ = false; simp [other, e2]
      have h2b : ((nd k).toList == (nd later).toList) = false := by rw [h2]; simpa using e2
      clear h1 h2 e1 e2
      go_enter Try.func24, Try.ntmps24
      go_wp2_with fail
      refine (zzNode_any k _ hk).mono ?_
      rintro e w2 ⟨rfl, rfl⟩
      go_wp2_with fail
      refine (zzNode_any later _ hl).mono ?_
      rintro e w2 ⟨rfl, rfl⟩
      go_wp2_with fail
      go_ret
      exact ⟨by rw [HO.out]; rfl, rfl⟩
end Go.Proofs.Qxb6003611a
