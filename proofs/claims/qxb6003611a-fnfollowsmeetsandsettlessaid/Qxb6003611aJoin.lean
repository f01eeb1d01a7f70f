/-
  'Join', by its contract.
-/
import Derived.Test.Qxb6003611aMeet
import Derived.LoopN
namespace Go.Proofs.Qxb6003611a
open Go.RowKit Go.Maps Go.WideMaps Plain

/-- What one key of 'Join' does. -/
def stJ (_l : List UInt8) (s : Nat) (a : Option Nat) : Option Nat := some (max (val a) s)

theorem stJ_first (F : List UInt8 → Option Nat) (left : List UInt8 → Bool) (h : ∀ l, left l = false) : part nothing F stJ left = F := by
  rw [part_end _ _ _ _ h]
  funext l
  cases hf : F l with
  | none => rfl
  | some s => simp [stJ, nothing, val]
theorem stJ_second (F G : List UInt8 → Option Nat) (left : List UInt8 → Bool) (h : ∀ l, left l = false) : part F G stJ left = joinF F G := by
  rw [part_end _ _ _ _ h]
  funext l
  unfold joinF j1
  cases hg : G l <;> rfl

theorem round_kept2 {w wr w1 : World} {r n : Nat} {F : List UInt8 → Option Nat} {v : Value} (hr : w.heap.size + 1 < r) (hA : Acc wr w.heap.size n F) (hb : Below w.heap.size w wr) (hc : wr.cell? ⟨w.heap.size + 1, 1, none⟩ = some v) (hg : wr.grownBy w1 (some r)) :
    Acc w1 w.heap.size n F ∧ Below w.heap.size w w1 ∧ w1.cell? ⟨w.heap.size + 1, 1, none⟩ = some v :=
  ⟨hA.kept hg (fun h => by cases h; omega), hb.grown hg hb.size (fun k hk => by cases hk; omega), hg.cell hc (by simp; omega)⟩

theorem store_kept2 {w w1 w2 : World} {mv v : Value} {r N : Nat} {F : List UInt8 → Option Nat} {left : List UInt8 → Bool} {cnt : Nat} (hr : w.heap.size + 1 < r) (hrg : Rng w1 mv r N F left cnt) (hb : Below w.heap.size w w1) (hlt : ∀ b, mv = .map (some b) → b < w.heap.size)
    (hc : w1.cell? ⟨w.heap.size + 1, 1, none⟩ = some v) (hg : w1.grownBy w2 (some w.heap.size)) : Rng w2 mv r N F left cnt ∧ Below w.heap.size w w2 ∧ w2.cell? ⟨w.heap.size + 1, 1, none⟩ = some v :=
  ⟨hrg.kept hg (fun b e h => by have := hlt b e; cases h; omega) (fun h => by cases h; omega), hb.grown hg hb.size (fun k hk => by cases hk; exact Nat.le_refl _), hg.cell hc (by simp)⟩

set_option maxHeartbeats 1000000 in
set_option maxRecDepth 100000 in
theorem join_any (r1 r2 : Option Nat) (N M : Nat) (F G : List UInt8 → Option Nat) (w : World) (hM : MapIs w (.map r1) N F) (hO : MapIs w (.map r2) M G) (hN : N + M ≤ 4194304) :
    Calls Try.prog 12 #[.map r1, .map r2] w fun e w' => Makes w (N + M) (joinF F G) e w' := by
  have hmm := @run_makeMap Try.prog
  have hlt : Hid (∀ b, Value.map r1 = .map (some b) → b < w.heap.size) := fun b e => by rw [e] at hM; exact hM.lt
  have hlt2 : Hid (∀ b, Value.map r2 = .map (some b) → b < w.heap.size) := fun b e => by rw [e] at hO; exact hO.lt
  have hwf : Hid (Wf F) := hM.wf
  have hwg : Hid (Wf G) := hO.wf
  have e2 : ((w.alloc (.map #[] 0)).alloc (.cells #[.map r1, .map r2] 26)).heap.size = w.heap.size + 2 := by simp
  have g0 : w.grownBy ((w.alloc (.map #[] 0)).alloc (.cells #[.map r1, .map r2] 26)) none := (World.grownBy_alloc w _ none).trans (World.grownBy_alloc _ _ none)
  have hM1 : MapIs ((w.alloc (.map #[] 0)).alloc (.cells #[.map r1, .map r2] 26)) (.map r1) N F := hM.kept g0 (fun _ _ => by simp)
  have A0 := (acc_made w).kept (World.grownBy_alloc _ (.cells #[.map r1, .map r2] 26) none) (by simp)
  have B0 : Below w.heap.size w ((w.alloc (.map #[] 0)).alloc (.cells #[.map r1, .map r2] 26)) := ((Below.refl _ _).alloc (Nat.le_refl _) _).alloc (by simp) _
  have C0 : ((w.alloc (.map #[] 0)).alloc (.cells #[.map r1, .map r2] 26)).cell? ⟨w.heap.size + 1, 1, none⟩ = some (.map r2) := by
    have := cell_two_new (w.alloc (.map #[] 0)) (.map r1) (.map r2) 26 1 (.map r2) rfl
    rw [show (w.alloc (.map #[] 0)).heap.size = w.heap.size + 1 by simp] at this
    exact this
  clear g0
  go_enter Try.func12, Try.ntmps12
  go_wp2_with fail
  refine wp_loop_rounds 3 ?_
  rw [rounds_succ]
  go_wp2_with (at_range; go_must (refine range_law _ rfl _ 26 rfl Try.underlying26 rfl hM1 ?_); intro w0 cnt1 hrg1 hcn hg0 hs0)
  go_frame
  rw [e2] at hrg1 hs0 ⊢
  have A1 := A0.kept hg0 (by simp)
  have B1 := B0.grown hg0 (by simp; omega) (fun j hj => by cases hj)
  have C1 := hg0.cell C0 (by simp)
  clear hM hM1 A0 B0 C0 hg0 hs0 e2 hmm
  go_loopg [] cnt1 (fun g wr => ∃ (left : List UInt8 → Bool) (n : Nat), Rng wr (.map r1) (w.heap.size + 2) N F left g ∧ n + g ≤ N ∧ Acc wr w.heap.size n (part nothing F stJ left) ∧ Below w.heap.size w wr ∧ wr.cell? ⟨w.heap.size + 1, 1, none⟩ = some (.map r2))
  case atStart => exact ⟨_, 0, hrg1, by omega, by rw [part_start]; exact A1, B1, C1⟩
  case round =>
    clear hrg1 A1 B1 C1
    obtain ⟨left, n, hrg, hng, hA, hb, hc⟩ := hrel
    go_wp2_with (at_next; go_must (refine next_law _ rfl _ rfl rfl hrg ?_ ?_))
    · intro hl0
      have HA : Acc wr w.heap.size N F := by
        rw [stJ_first _ _ hl0] at hA
        exact hA.mono (by omega)
      have hO1 := hO.below hb
      have hsz1 : w.heap.size + 1 < wr.heap.size := by
        rcases Nat.lt_or_ge (w.heap.size + 1) wr.heap.size with h | h
        · exact h
        · simp [World.cell?, Array.getElem?_eq_none h] at hc
      clear hA hrg
      go_wp2_with fail
      rw [rounds_succ]
      go_wp2_with (at_range; go_must (refine range_law _ rfl _ 26 rfl Try.underlying26 rfl hO1 ?_); intro w2 cnt2 hrg2 hcn2 hg2 hs2)
      go_frame
      have A2 := HA.kept hg2 (by simp)
      have B2 := hb.grown hg2 hb.size (fun j hj => by cases hj)
      have C2 := hg2.cell hc (by simp)
      obtain ⟨R, hRe⟩ : ∃ R, wr.heap.size = R := ⟨_, rfl⟩
      rw [hRe] at hrg2 hsz1 ⊢
      have hR : w.heap.size + 1 < R := hsz1
      clear HA hO1 hb hc hg2 hs2 hRe hsz1
      go_loopg [] cnt2 (fun g wr => ∃ (left : List UInt8 → Bool) (n : Nat), Rng wr (.map r2) R M G left g ∧ n + g ≤ N + M ∧ Acc wr w.heap.size n (part F G stJ left) ∧ Below w.heap.size w wr ∧ wr.cell? ⟨w.heap.size + 1, 1, none⟩ = some (.map r2))
      case atStart => exact ⟨_, N, hrg2, by omega, by rw [part_start]; exact A2, B2, C2⟩
      case round =>
        clear hrg2 A2 B2 C2
        obtain ⟨left, n, hrg, hng, hA, hb, hc⟩ := hrel
        go_wp2_with (at_next; go_must (refine next_law _ rfl _ rfl rfl hrg ?_ ?_))
        · intro hl0
          have HA : Hid (Acc wr w.heap.size (N + M) (joinF F G)) := by
            rw [stJ_second _ _ _ hl0] at hA
            exact hA.mono (by omega)
          clear hA hrg
          go_wp2_with fail
          rw [rounds_succ]
          go_wp2_with fail
          go_ret
          exact ⟨rfl, HA.out, hb⟩
        · intro s v w1 cnt1 hsz hFs hls hrg1 hlt1 hg1 hs1 hen
          obtain ⟨hA1, hb1, hc1⟩ := round_kept2 hR hA hb hc hg1
          clear hs1 hA hb hrg hg1 hc
          have hwv : (Lit.int .u64 (v : Int)).wf = true := hwg.out _ _ hFs
          have hpa : part F G stJ left s.data.toList = F s.data.toList := part_at hFs hls
          obtain ⟨z, hz⟩ : ∃ z, val (part F G stJ left s.data.toList) = z := ⟨_, rfl⟩
          have hwz : (Lit.int .u64 (z : Int)).wf = true := by
            obtain ⟨_, _, _, hw⟩ := hA1
            rw [← hz]; exact hw.val _
          obtain ⟨y, hyn, hyv⟩ : ∃ y : Nat, max z v = y ∧ max (z : Int) (v : Int) = (y : Int) := ⟨max z v, rfl, by omega⟩
          have hwy : (Lit.int .u64 (y : Int)).wf = true := by rw [← hyn]; exact wf_max hwz hwv
          have HP : Hid (upd (part F G stJ left) s.data.toList y = part F G stJ (struck left s.data.toList)) := (part_yes hFs (by rw [← hyn, ← hz, hpa]; rfl)).symm
          have hJ : MapIs w1 (.map (some w.heap.size)) n (part F G stJ left) := .inr ⟨_, rfl, hA1⟩
          clear hFs hls hpa hyn hwz
          go_wp2_with (first | (at_lookup; go_must (refine look_law _ rfl _ _ 26 rfl Try.underlying26 rfl hJ s rfl hsz ?_)) | (at_mapUpdate; go_must (refine store_law _ rfl _ _ _ 26 rfl Try.underlying26 rfl hA1 (by unfold maxLen; omega) s rfl hsz y rfl hwy ?_); intro w3 hA3 hg3; go_frame))
          rw [HP.out] at hA3
          obtain ⟨hrg3, hb3, hc3⟩ := store_kept2 hR hrg1 hb1 hlt2.out hc1 hg3
          go_roundg cnt1
          case measure => omega
          case rel => exact ⟨_, n + 1, hrg3, by omega, hA3, hb3, hc3⟩
    · intro s v w1 cnt1 hsz hFs hls hrg1 hlt1 hg1 hs1 hen
      obtain ⟨hA1, hb1, hc1⟩ := round_kept2 (by omega) hA hb hc hg1
      clear hs1 hA hb hrg hg1 hc
      have hwv : (Lit.int .u64 (v : Int)).wf = true := hwf.out _ _ hFs
      have hpa : part nothing F stJ left s.data.toList = nothing s.data.toList := part_at hFs hls
      obtain ⟨z, hz⟩ : ∃ z, val (part nothing F stJ left s.data.toList) = z := ⟨_, rfl⟩
      have hwz : (Lit.int .u64 (z : Int)).wf = true := by
        obtain ⟨_, _, _, hw⟩ := hA1
        rw [← hz]; exact hw.val _
      obtain ⟨y, hyn, hyv⟩ : ∃ y : Nat, max z v = y ∧ max (z : Int) (v : Int) = (y : Int) := ⟨max z v, rfl, by omega⟩
      have hwy : (Lit.int .u64 (y : Int)).wf = true := by rw [← hyn]; exact wf_max hwz hwv
      have HP : Hid (upd (part nothing F stJ left) s.data.toList y = part nothing F stJ (struck left s.data.toList)) := (part_yes hFs (by rw [← hyn, ← hz, hpa]; rfl)).symm
      have hJ : MapIs w1 (.map (some w.heap.size)) n (part nothing F stJ left) := .inr ⟨_, rfl, hA1⟩
      clear hFs hls hpa hyn hwz
      go_wp2_with (first | (at_lookup; go_must (refine look_law _ rfl _ _ 26 rfl Try.underlying26 rfl hJ s rfl hsz ?_)) | (at_mapUpdate; go_must (refine store_law _ rfl _ _ _ 26 rfl Try.underlying26 rfl hA1 (by unfold maxLen; omega) s rfl hsz y rfl hwy ?_); intro w3 hA3 hg3; go_frame))
      rw [HP.out] at hA3
      obtain ⟨hrg3, hb3, hc3⟩ := store_kept2 (by omega) hrg1 hb1 hlt.out hc1 hg3
      go_roundg cnt1
      case measure => omega
      case rel => exact ⟨_, n + 1, hrg3, by omega, hA3, hb3, hc3⟩
end Go.Proofs.Qxb6003611a
