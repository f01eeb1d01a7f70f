/-
  'skip', by its contract: it calls itself.
-/
import Derived.Test.Qxb6605330aSkipInt
namespace Go.Proofs.Qxb6605330a
open Go.RowKit Plain

theorem is_int {t : ByteArray} {k n : Nat} (hk : k < t.size) (h : (bt t k).toNat = n) : ((t[k].toNat : Int) == (n : Int)) = true := by
  rw [bt_at t k hk] at h; simp; omega
theorem ne_int {t : ByteArray} {k n : Nat} (hk : k < t.size) (h : (bt t k).toNat ≠ n) : ((t[k].toNat : Int) == (n : Int)) = false := by
  rw [bt_at t k hk] at h; simp; omega

set_option maxHeartbeats 2000000 in
set_option maxRecDepth 100000 in
theorem skip_any (b : Nat) (t : ByteArray) (hs : t.size ≤ 1048576) : ∀ (f p x : Nat) (w : World), Dec b t p w → V t f false p x →
    Calls Try.prog 25 #[.pointer (some ⟨b, 0, none⟩)] w fun e w' => e = .returned (.tuple #[]) ∧ Moved b t x w w' := by
  intro f
  induction f with
  | zero => intro p x w _ hv; exact absurd hv (by simp [V])
  | succ f ih =>
    intro p x w h hv
    rw [V] at hv
    obtain ⟨hp, ⟨h0, j, hpj, hj, h1, h2, rfl⟩ | ⟨h0, h1⟩ | ⟨h0, h1, h2, j, h3⟩⟩ := hv
    · exact skip_int b t p j w h hs hpj hj h0 h1 h2
    · have hpi : (p : Int) < (t.size : Int) := by omega
      have M := Moved.refl h
      have c0 := h.c0
      have c1 := h.c1
      have f1 := h.f1
      have d1 : ((t[p].toNat : Int) == 105) = false := ne_int hp (n := 105) (by omega)
      have IH : Hid (∀ (p x : Nat) (w : World), Dec b t p w → V t f false p x → Calls Try.prog 25 #[.pointer (some ⟨b, 0, none⟩)] w fun e w' => e = .returned (.tuple #[]) ∧ Moved b t x w w') := ih
      have HV : Hid (V t f true (p + 1) x) := h1
      clear ih h1
      have d2 : (((t[p].toNat : Int) == 108) = true) ∨ (((t[p].toNat : Int) == 108) = false ∧ ((t[p].toNat : Int) == 100) = true) := by
        rcases h0 with h0 | h0
        · exact .inl (is_int hp (n := 108) h0)
        · exact .inr ⟨ne_int hp (n := 108) (by omega), is_int hp (n := 100) h0⟩
      clear h0
      rcases d2 with d2 | ⟨d2, d3⟩
      all_goals
        go_enter Try.func25, Try.ntmps25
        go_wp2_with fail
        go_quiet (fail)
        go_wp2_with fail
        have M1 := (M.drewN nq).set (p + 1) ((p : Int) + 1) (by omega)
        clear c0 c1 f1 M
        go_loopg [] f (fun g wr => ∃ m : Nat, Hid (g ≤ f ∧ V t g true m x) ∧ Moved b t m w wr)
        case atStart => exact ⟨p + 1, ⟨Nat.le_refl _, HV.out⟩, M1⟩
        case round =>
          obtain ⟨m, hgv, Mr⟩ := hrel
          clear M1 HV
          obtain ⟨hg, hgv⟩ := hgv.out
          obtain ⟨g, rfl⟩ : ∃ g, gk = g + 1 := by
            cases gk with
            | zero => exact absurd hgv (by simp [V])
            | succ g => exact ⟨g, rfl⟩
          rw [V] at hgv
          obtain ⟨hm, ⟨h1, rfl⟩ | ⟨h1, m2, h2, h3⟩⟩ := hgv
          · have H1 : Hid ((bt t m).toNat = 101) := h1
            clear h1
            go_wp2_with (go_at_call 27; go_must (refine (end_yes b t m _ Mr.dec hs hm H1).mono ?_); rintro e w2 ⟨rfl, M2⟩)
            go_end0
            exact ⟨rfl, Mr.trans M2⟩
          · have H1 : Hid ((bt t m).toNat ≠ 101) := h1
            have H2 : Hid (V t f false m m2) := by
              have := V_mono t g (f - g) false m m2 h2
              rwa [show g + (f - g) = f by omega] at this
            have H3 : Hid (V t g true m2 x) := h3
            clear h1 h2 h3
            go_wp2_with fail
            refine (end_no b t m _ Mr.dec hm H1).mono ?_
            rintro e w2 ⟨rfl, M2⟩
            go_wp2_with fail
            refine (IH.out m m2 _ M2.dec H2.out).mono ?_
            rintro e w3 ⟨rfl, M3⟩
            go_wp2_with fail
            go_roundg g
            case measure => omega
            case rel => exact ⟨m2, ⟨by omega, H3.out⟩, (Mr.trans M2).trans M3⟩
    · have hpi : (p : Int) < (t.size : Int) := by omega
      have M := Moved.refl h
      have c0 := h.c0
      have c1 := h.c1
      have d1 : ((t[p].toNat : Int) == 105) = false := ne_int hp (n := 105) h0
      have d2 : ((t[p].toNat : Int) == 108) = false := ne_int hp (n := 108) h1
      have d3 : ((t[p].toNat : Int) == 100) = false := ne_int hp (n := 100) h2
      have HA : Hid (StrAt t p j x) := h3
      clear ih h0 h1 h2 h3
      go_enter Try.func25, Try.ntmps25
      go_wp2_with fail
      go_quiet (fail)
      go_wp2_with fail
      refine (skipString_any b t p j x _ (h.drewN _) hs HA).mono ?_
      rintro e w2 ⟨⟨s, rfl⟩, M2⟩
      go_wp2_with fail
      go_end0
      exact ⟨rfl, ((M.drewN _).trans M2)⟩
end Go.Proofs.Qxb6605330a
