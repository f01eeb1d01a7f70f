/-
  The decoder in memory; 'end', by its contract.
-/
import Derived.Test.Qxb6605330aStr
import Derived.Test.Qxb6605330aShelf
import Derived.WalkSmall
import Derived.Deep.QuietTactic
import Derived.Deep.RegionWith
import Derived.Deep.LoopGhost
import Derived.BigQuiet
namespace Go.Proofs.Qxb6605330a
open Go.RowKit Plain

/-- The decoder lies in block b: its text, its offset, its flag. -/
def Dec (b : Nat) (t : ByteArray) (p : Nat) (w : World) : Prop := ∃ bd, w.heap[b]? = some (.cells #[.string t, .int .i64 (p : Int), .bool bd] 41 (0, 0))

theorem Dec.c0 {b : Nat} {t : ByteArray} {p : Nat} {w : World} (h : Dec b t p w) : w.cell? ⟨b, 0, none⟩ = some (.string t) := by
  obtain ⟨bd, h⟩ := h; simp [World.cell?, h]
theorem Dec.c1 {b : Nat} {t : ByteArray} {p : Nat} {w : World} (h : Dec b t p w) : w.cell? ⟨b, 1, none⟩ = some (.int .i64 (p : Int)) := by
  obtain ⟨bd, h⟩ := h; simp [World.cell?, h]
theorem Dec.f1 {b : Nat} {t : ByteArray} {p : Nat} {w : World} (h : Dec b t p w) : w.frozen? ⟨b, 1, none⟩ = false := by
  obtain ⟨bd, h⟩ := h; simp [World.frozen?, h]
theorem Dec.drewN {b : Nat} {t : ByteArray} {p : Nat} {w : World} (h : Dec b t p w) (n : Nat) : Dec b t p (w.drewN n) := h
theorem Dec.set {b : Nat} {t : ByteArray} {p : Nat} {w : World} (h : Dec b t p w) (q : Nat) (x : Int) (hx : x = (q : Int)) : Dec b t q (w.setCell ⟨b, 1, none⟩ (.int .i64 x)) := by
  obtain ⟨bd, h⟩ := h
  subst hx
  refine ⟨bd, ?_⟩
  simp [World.setCell, Array.getElem?_modify, h]

/-- Behind a method of the decoder. -/
structure Moved (b : Nat) (t : ByteArray) (p : Nat) (w w' : World) : Prop where
  dec : Dec b t p w'
  below : Below b w w'

theorem Moved.refl {b : Nat} {t : ByteArray} {p : Nat} {w : World} (h : Dec b t p w) : Moved b t p w w := ⟨h, Below.refl _ _⟩
theorem Moved.drewN {b : Nat} {t : ByteArray} {p : Nat} {w w' : World} (h : Moved b t p w w') (n : Nat) : Moved b t p w (w'.drewN n) := ⟨h.dec.drewN n, below_drewN h.below n⟩
theorem Moved.set {b : Nat} {t : ByteArray} {p : Nat} {w w' : World} (h : Moved b t p w w') (q : Nat) (x : Int) (hx : x = (q : Int)) : Moved b t q w (w'.setCell ⟨b, 1, none⟩ (.int .i64 x)) :=
  ⟨h.dec.set q x hx, h.below.setCell (p := ⟨b, 1, none⟩) (Nat.le_refl _) _⟩
theorem Moved.trans {b : Nat} {t : ByteArray} {p q : Nat} {w w' w'' : World} (h : Moved b t p w w') (k : Moved b t q w' w'') : Moved b t q w w'' := ⟨k.dec, h.below.trans k.below⟩

set_option maxHeartbeats 1000000 in
set_option maxRecDepth 100000 in
theorem end_yes (b : Nat) (t : ByteArray) (p : Nat) (w : World) (h : Dec b t p w) (hs : t.size ≤ 1048576) (hp : p < t.size) (hc : Hid ((bt t p).toNat = 101)) :
    Calls Try.prog 27 #[.pointer (some ⟨b, 0, none⟩)] w fun e w' => e = .returned (.bool true) ∧ Moved b t (p + 1) w w' := by
  have c0 := h.c0
  have c1 := h.c1
  have f1 := h.f1
  have hpi : (p : Int) < (t.size : Int) := by omega
  have hcb : ((t[p].toNat : Int) == 101) = true := by have := hc.out; rw [bt_at t p hp] at this; simp; omega
  have M := Moved.refl h
  go_enter Try.func27, Try.ntmps27
  go_wp2
  go_quiet (fail)
  go_wp2
  go_ret
  exact ⟨rfl, (M.drewN nq).set (p + 1) _ (by omega)⟩

set_option maxHeartbeats 1000000 in
set_option maxRecDepth 100000 in
theorem end_no (b : Nat) (t : ByteArray) (p : Nat) (w : World) (h : Dec b t p w) (hp : p < t.size) (hc : Hid ((bt t p).toNat ≠ 101)) :
    Calls Try.prog 27 #[.pointer (some ⟨b, 0, none⟩)] w fun e w' => e = .returned (.bool false) ∧ Moved b t p w w' := by
  have c0 := h.c0
  have c1 := h.c1
  have hpi : (p : Int) < (t.size : Int) := by omega
  have hcb : ((t[p].toNat : Int) == 101) = false := by have := hc.out; rw [bt_at t p hp] at this; simp; omega
  have M := Moved.refl h
  go_enter Try.func27, Try.ntmps27
  go_wp2
  go_quiet (fail)
  go_wp2
  go_ret
  exact ⟨rfl, M.drewN nq⟩

set_option maxHeartbeats 2000000 in
set_option maxRecDepth 100000 in
theorem skipString_any (b : Nat) (t : ByteArray) (p j x : Nat) (w : World) (h : Dec b t p w) (hs : t.size ≤ 1048576) (ha : Hid (StrAt t p j x)) :
    Calls Try.prog 24 #[.pointer (some ⟨b, 0, none⟩)] w fun e w' => (∃ s, e = .returned (.string s)) ∧ Moved b t x w w' := by
  have hpj : p ≤ j := ha.out.1
  have hjs : j < t.size := ha.out.2.1
  have M0 := Moved.refl h
  clear h
  go_enter Try.func24, Try.ntmps24
  go_wp2
  go_loopg [3] (j - p) (fun g nv wr => ∃ k N : Nat, p ≤ k ∧ k ≤ j ∧ nv = .int .i64 N ∧ Hid (g = j - k ∧ N = dv t p (k - p)) ∧ Moved b t k w wr)
  case atStart => exact ⟨p, 0, Nat.le_refl _, hpj, rfl, ⟨rfl, by simp [dv]⟩, M0⟩
  case round =>
    obtain ⟨k, N, hpk, hkj, rfl, hN, M⟩ := hrel
    clear M0
    have c0 := M.dec.c0
    have c1 := M.dec.c1
    have f1 := M.dec.f1
    have hks : k < t.size := by omega
    have hki : (k : Int) < (t.size : Int) := by omega
    by_cases hlt : k < j
    · have hd := ha.out.2.2.1 k hpk hlt
      rw [bt_at t k hks] at hd
      have h48 : (48 : Int) ≤ (t[k].toNat : Int) := by omega
      have h57 : (t[k].toNat : Int) ≤ 57 := by omega
      have hcn : ((t[k].toNat : Int) != 58) = true := by simp; omega
      have hb : 10 * N + (t[k].toNat - 48) ≤ 1048576 ∧ 10 * N + (t[k].toNat - 48) = dv t p (k + 1 - p) := by
        have e1 : dv t p (k + 1 - p) = 10 * N + (t[k].toNat - 48) := by
          rw [show k + 1 - p = (k - p) + 1 by omega, dv, show p + (k - p) = k by omega, bt_at t k hks, hN.out.2]
        have e2 := dv_mono t p (k + 1 - p) (j - (k + 1))
        rw [show k + 1 - p + (j - (k + 1)) = j - p by omega] at e2
        have e3 := ha.out.2.2.2.2
        omega
      have hNi : (N : Int) ≤ 104857 := by omega
      have HB : Hid (10 * N + (t[k].toNat - 48) = dv t p (k + 1 - p)) := hb.2
      clear hd hb
      go_wp2
      go_quiet (fail)
      go_wp2
      go_quiet (fail)
      go_wp2
      go_roundg (j - (k + 1))
      case measure => have := hN.out.1; omega
      case rel => exact ⟨k + 1, 10 * N + (t[k].toNat - 48), by omega, by omega, congrArg (Value.int .i64) (by omega), ⟨rfl, HB.out⟩, (M.drewN _).set (k + 1) _ (by omega)⟩
    · obtain rfl : k = j := by omega
      have hcn : ((t[k].toNat : Int) != 58) = false := by
        have := ha.out.2.2.2.1
        rw [bt_at t k hks] at this
        simp; omega
      have hx := ha.out.2.2.2.2
      rw [← hN.out.2] at hx
      have hNs : (k : Int) + 1 + (N : Int) ≤ (t.size : Int) := by omega
      have hNn : (0 : Int) ≤ (N : Int) := by omega
      have HX : Hid (x = k + 1 + N) := hx.1
      clear hx hN ha
      go_wp2
      go_quiet (fail)
      go_wp2
      have M2 := (M.drewN nq).set (k + 1) ((k : Int) + 1) (by omega)
      generalize (wr.drewN nq).setCell ⟨b, 1, none⟩ (.int .i64 ((k : Int) + 1)) = W2 at M2 ⊢
      clear c0 c1 f1 M
      have c0 := M2.dec.c0
      have c1 : W2.cell? ⟨b, 1, none⟩ = some (.int .i64 ((k : Int) + 1)) := M2.dec.c1
      have f1 := M2.dec.f1
      go_quiet (fail)
      go_wp2
      go_ret
      exact ⟨⟨_, rfl⟩, (M2.drewN _).set x _ (by have := HX.out; omega)⟩
end Go.Proofs.Qxb6605330a
