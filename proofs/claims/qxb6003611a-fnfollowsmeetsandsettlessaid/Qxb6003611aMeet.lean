/-
  'Meet', by its contract.
-/
import Derived.Test.Qxb6003611aFollows
namespace Go.Proofs.Qxb6003611a
open Go.RowKit Go.Maps Go.WideMaps Plain

/-- What one key of 'Meet' does. -/
def stM (G : List UInt8 → Option Nat) (l : List UInt8) (s : Nat) (a : Option Nat) : Option Nat := if 0 < min s (val (G l)) then some (min s (val (G l))) else a

theorem stM_end (F G : List UInt8 → Option Nat) (left : List UInt8 → Bool) (h : ∀ l, left l = false) : part nothing F (stM G) left = meetF F G := by
  rw [part_end _ _ _ _ h]
  rfl

theorem wf_min {x y : Nat} (hx : (Lit.int .u64 (x : Int)).wf = true) (hy : (Lit.int .u64 (y : Int)).wf = true) : (Lit.int .u64 ((min x y : Nat) : Int)).wf = true := by
  rcases Nat.le_total x y with h | h
  · rw [Nat.min_eq_left h]; exact hx
  · rw [Nat.min_eq_right h]; exact hy
theorem wf_max {x y : Nat} (hx : (Lit.int .u64 (x : Int)).wf = true) (hy : (Lit.int .u64 (y : Int)).wf = true) : (Lit.int .u64 ((max x y : Nat) : Int)).wf = true := by
  rcases Nat.le_total x y with h | h
  · rw [Nat.max_eq_right h]; exact hy
  · rw [Nat.max_eq_left h]; exact hx

set_option maxHeartbeats 1000000 in
set_option maxRecDepth 100000 in
theorem meet_any (mv ov : Value) (N M : Nat) (F G : List UInt8 → Option Nat) (w : World) (hM : MapIs w mv N F) (hO : MapIs w ov M G) (hN : N ≤ 4194304) :
    Calls Try.prog 18 #[mv, ov] w fun e w' => Makes w N (meetF F G) e w' := by
  have hmm := @run_makeMap Try.prog
  have hM1 : MapIs (w.alloc (.map #[] 0)) mv N F := hM.kept (World.grownBy_alloc w _ none) (fun _ _ => by simp)
  have hlt : Hid (∀ b, mv = .map (some b) → b < w.heap.size) := fun b e => by subst e; exact hM.lt
  have hwf : Hid (Wf F) := hM.wf
  have hwg : Hid (Wf G) := hO.wf
  have e1 : (w.alloc (.map #[] 0)).heap.size = w.heap.size + 1 := by simp
  have A0 := acc_made w
  have B0 : Below w.heap.size w (w.alloc (.map #[] 0)) := (Below.refl _ _).alloc (Nat.le_refl _) _
  go_enter Try.func18, Try.ntmps18
  go_wp2_with (at_range; go_must (refine range_law _ rfl _ 26 rfl Try.underlying26 rfl hM1 ?_); intro w0 cnt hrg0 hcn hg0 hs0)
  go_frame
  rw [e1] at hrg0 hs0 ⊢
  have A1 := A0.kept hg0 (by simp)
  have B1 := B0.grown hg0 (by simp) (fun j hj => by cases hj)
  clear hM hM1 A0 B0 hg0 hs0 e1 hmm
  go_loopg [] cnt (fun g wr => ∃ (left : List UInt8 → Bool) (n : Nat), Rng wr mv (w.heap.size + 1) N F left g ∧ n + g ≤ N ∧ Acc wr w.heap.size n (part nothing F (stM G) left) ∧ Below w.heap.size w wr)
  case atStart => exact ⟨_, 0, hrg0, by omega, by rw [part_start]; exact A1, B1⟩
  case round =>
    clear hrg0 A1 B1
    obtain ⟨left, n, hrg, hng, hA, hb⟩ := hrel
    go_wp2_with (at_next; go_must (refine next_law _ rfl _ rfl rfl hrg ?_ ?_))
    · intro hl0
      have HA : Hid (Acc wr w.heap.size N (meetF F G)) := by
        rw [stM_end _ _ _ hl0] at hA
        exact hA.mono (by omega)
      clear hA hrg
      go_wp2_with fail
      go_ret
      exact ⟨rfl, HA.out, hb⟩
    · intro s v w1 cnt1 hsz hFs hls hrg1 hlt1 hg1 hs1 hen
      obtain ⟨hA1, hb1⟩ := round_kept hA hb hg1
      have hO1 := hO.below hb1
      clear hs1 hA hb hrg hg1
      have hwv : (Lit.int .u64 (v : Int)).wf = true := hwf.out _ _ hFs
      have hwy := wf_min hwv (hwg.out.val s.data.toList)
      obtain ⟨z, hz⟩ : ∃ z, val (G s.data.toList) = z := ⟨_, rfl⟩
      rw [hz] at hwy
      obtain ⟨y, hyn, hyv⟩ : ∃ y : Nat, min v z = y ∧ min (v : Int) (z : Int) = (y : Int) := ⟨min v z, rfl, by omega⟩
      rw [hyn] at hwy
      by_cases hy : 0 < y
      · have HP : Hid (upd (part nothing F (stM G) left) s.data.toList y = part nothing F (stM G) (struck left s.data.toList)) := (part_yes hFs (by simp only [stM, hz, hyn, hy, if_true])).symm
        have hyi : (0 : Int) < (y : Int) := by omega
        clear hFs hls hyn
        go_wp2_with (first | (at_lookup; go_must (refine look_law _ rfl _ _ 26 rfl Try.underlying26 rfl hO1 s rfl hsz ?_)) | (at_mapUpdate; go_must (refine store_law _ rfl _ _ _ 26 rfl Try.underlying26 rfl hA1 (by unfold maxLen; omega) s rfl hsz y rfl hwy ?_); intro w3 hA3 hg3; go_frame))
        rw [HP.out] at hA3
        obtain ⟨hrg3, hb3⟩ := store_kept hrg1 hb1 hlt.out hg3
        go_roundg cnt1
        case measure => omega
        case rel => exact ⟨_, n + 1, hrg3, by omega, hA3, hb3⟩
      · have HP : Hid (part nothing F (stM G) left = part nothing F (stM G) (struck left s.data.toList)) := (part_no hFs hls (by simp only [stM, hz, hyn, hy, if_false])).symm
        rw [HP.out] at hA1
        obtain rfl : y = 0 := by omega
        clear hFs hls HP hyn
        go_wp2_with (at_lookup; go_must (refine look_law _ rfl _ _ 26 rfl Try.underlying26 rfl hO1 s rfl hsz ?_))
        go_roundg cnt1
        case measure => omega
        case rel => exact ⟨_, n, hrg1, by omega, hA1, hb1⟩
end Go.Proofs.Qxb6003611a
