/-
  'skip' at an integer, by its contract.
-/
import Derived.Test.Qxb6605330aDec
import Derived.Lib.IndexLaws
namespace Go.Proofs.Qxb6605330a
open Go.RowKit Plain

theorem index_is (l : List UInt8) (c : UInt8) (o : Nat) (h : l[o]? = some c) (hk : ∀ k, k < o → l[k]? ≠ some c) : Lib.indexByte l c = (o : Int) := by
  have h1 := Lib.indexByte_ge l c
  by_cases h2 : Lib.indexByte l c = -1
  · exact absurd h (Lib.indexByte_none h2 o)
  · obtain ⟨r, hr⟩ : ∃ r : Nat, Lib.indexByte l c = (r : Int) := ⟨(Lib.indexByte l c).toNat, by omega⟩
    obtain ⟨g1, g2⟩ := Lib.indexByte_some hr
    rw [hr]
    rcases Nat.lt_trichotomy r o with h3 | h3 | h3
    · exact absurd g1 (hk r h3)
    · rw [h3]
    · exact absurd h (g2 o h3)

theorem at_bt (t : ByteArray) (k : Nat) (h : k < t.size) : t.data.toList[k]? = some (bt t k) := by
  rw [bt_at t k h]; simp [h]; rfl

theorem ix_any (t : ByteArray) (p j : Nat) (w : World) (hpj : p < j) (hj : j < t.size) (h0 : (bt t p).toNat = 105) (h1 : (bt t j).toNat = 101) (h2 : ∀ k, p < k → k < j → (bt t k).toNat ≠ 101) :
    Calls Try.prog 26 #[.string (t.extract p t.size), .int .u8 101] w fun e w' => e = .returned (.int .i64 ((j : Int) - (p : Int))) ∧ w' = w := by
  refine (Try.strings_IndexByte _ 101 w).mono ?_
  rintro e w' ⟨rfl, rfl⟩
  refine ⟨?_, rfl⟩
  have e1 : (101 : Int).toNat.toUInt8 = 101 := rfl
  rw [e1, (extract_rest t p (by omega)).1, index_is _ 101 (j - p) ?_ ?_]
  · rw [show ((j - p : Nat) : Int) = (j : Int) - (p : Int) by omega]
  · rw [List.getElem?_drop, show p + (j - p) = j by omega, at_bt t j hj]
    exact congrArg some (UInt8.toNat_inj.1 h1)
  · intro k hk
    rw [List.getElem?_drop, at_bt t (p + k) (by omega)]
    intro hh
    have h3 : (bt t (p + k)).toNat = 101 := by rw [Option.some.inj hh]; rfl
    rcases Nat.eq_zero_or_pos k with h4 | h4
    · subst h4; rw [Nat.add_zero, h0] at h3; omega
    · exact h2 (p + k) (by omega) (by omega) h3

theorem far_eq (p j : Nat) (h1 : p < j) (h2 : j < 1048576) : IntKind.i64.wrap ((p : Int) + IntKind.i64.wrap ((j : Int) - (p : Int) + 1)) = ((j + 1 : Nat) : Int) := by
  rw [IntKind.wrap_i64, IntKind.wrap_i64]
  omega

set_option maxHeartbeats 2000000 in
set_option maxRecDepth 100000 in
theorem skip_int (b : Nat) (t : ByteArray) (p j : Nat) (w : World) (h : Dec b t p w) (hs : t.size ≤ 1048576) (hpj : p < j) (hj : j < t.size) (h0 : Hid ((bt t p).toNat = 105)) (h1 : Hid ((bt t j).toNat = 101)) (h2 : Hid (∀ k, p < k → k < j → (bt t k).toNat ≠ 101)) :
    Calls Try.prog 25 #[.pointer (some ⟨b, 0, none⟩)] w fun e w' => e = .returned (.tuple #[]) ∧ Moved b t (j + 1) w w' := by
  have hp : p < t.size := by omega
  have hpi : (p : Int) < (t.size : Int) := by omega
  have hji : (j : Int) < (t.size : Int) := by omega
  have hpji : (p : Int) < (j : Int) := by omega
  have M := Moved.refl h
  have c0 := h.c0
  have c1 := h.c1
  have f1 := h.f1
  have hcb : ((t[p].toNat : Int) == 105) = true := by have := h0.out; rw [bt_at t p hp] at this; simp; omega
  go_enter Try.func25, Try.ntmps25
  go_wp2_with fail
  go_quiet (fail)
  go_wp2_with fail
  go_region_with (go_at_call 26; go_must (refine (ix_any t p j _ hpj hj h0.out h1.out h2.out).mono ?_); rintro e w' ⟨rfl, rfl⟩)
  all_goals
    go_wp2_with fail
    go_end0
    exact ⟨rfl, (M.drewN _).set (j + 1) _ (far_eq p j (by omega) (by omega))⟩
end Go.Proofs.Qxb6605330a
