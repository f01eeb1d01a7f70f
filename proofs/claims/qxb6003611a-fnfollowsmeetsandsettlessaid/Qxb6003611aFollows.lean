/-
  'Follows', by its contract.
-/
import Derived.Test.Qxb6003611aRange
import Derived.Test.Qxb6003611aNode
import Derived.Deep.LoopGhost
namespace Go.Proofs.Qxb6003611a
open Go.RowKit Go.Maps Go.WideMaps Plain

/-- What a method that makes a version leaves. -/
def Makes (w : World) (N : Nat) (F : List UInt8 → Option Nat) (e : Ending) (w' : World) : Prop :=
  e = .returned (.map (some w.heap.size)) ∧ Acc w' w.heap.size N F ∧ Below w.heap.size w w'

theorem Acc.drewN {w : World} {j N : Nat} {F : List UInt8 → Option Nat} (h : Acc w j N F) (n : Nat) : Acc (w.drewN n) j N F := h
theorem Rng.drewN {w : World} {mv : Value} {r N : Nat} {F : List UInt8 → Option Nat} {left : List UInt8 → Bool} {cnt : Nat} (h : Rng w mv r N F left cnt) (n : Nat) : Rng (w.drewN n) mv r N F left cnt := h

/-- What one key of 'Follows' does. -/
def stF (later : List UInt8) (l : List UInt8) (s : Nat) (a : Option Nat) : Option Nat := if other later l = true ∧ 0 < s then some s else a

theorem stF_end (later : List UInt8) (F : List UInt8 → Option Nat) (left : List UInt8 → Bool) (h : ∀ l, left l = false) : part nothing F (stF later) left = followsF later F := by
  rw [part_end _ _ _ _ h]
  rfl

/-- Behind the iterator's step: what the loop holds stands. -/
theorem round_kept {w wr w1 : World} {n : Nat} {F : List UInt8 → Option Nat} (hA : Acc wr w.heap.size n F) (hb : Below w.heap.size w wr) (hg : wr.grownBy w1 (some (w.heap.size + 1))) : Acc w1 w.heap.size n F ∧ Below w.heap.size w w1 :=
  ⟨hA.kept hg (by simp), hb.grown hg hb.size (fun k hk => by cases hk; omega)⟩

/-- Behind a store into the version that is made. -/
theorem store_kept {w w1 w2 : World} {mv : Value} {N : Nat} {F : List UInt8 → Option Nat} {left : List UInt8 → Bool} {cnt : Nat} (hrg : Rng w1 mv (w.heap.size + 1) N F left cnt) (hb : Below w.heap.size w w1) (hlt : ∀ b, mv = .map (some b) → b < w.heap.size)
    (hg : w1.grownBy w2 (some w.heap.size)) : Rng w2 mv (w.heap.size + 1) N F left cnt ∧ Below w.heap.size w w2 :=
  ⟨hrg.kept hg (fun b e h => by have := hlt b e; cases h; omega) (by simp), hb.grown hg hb.size (fun k hk => by cases hk; exact Nat.le_refl _)⟩

set_option maxHeartbeats 1000000 in
set_option maxRecDepth 100000 in
theorem follows_any (later : ByteArray) (mv : Value) (N : Nat) (F : List UInt8 → Option Nat) (w : World) (hl : later.size ≤ maxLen) (hM : MapIs w mv N F) (hN : N ≤ 4194304) :
    Calls Try.prog 22 #[.string later, mv] w fun e w' => Makes w N (followsF later.data.toList F) e w' := by
  have hmm := @run_makeMap Try.prog
  have hM1 : MapIs (w.alloc (.map #[] 0)) mv N F := hM.kept (World.grownBy_alloc w _ none) (fun _ _ => by simp)
  have hlt : Hid (∀ b, mv = .map (some b) → b < w.heap.size) := fun b e => by subst e; exact hM.lt
  have hwf : Hid (Wf F) := hM.wf
  have e1 : (w.alloc (.map #[] 0)).heap.size = w.heap.size + 1 := by simp
  have A0 := acc_made w
  have B0 : Below w.heap.size w (w.alloc (.map #[] 0)) := (Below.refl _ _).alloc (Nat.le_refl _) _
  go_enter Try.func22, Try.ntmps22
  go_wp2_with (at_range; go_must (refine range_law _ rfl _ 26 rfl Try.underlying26 rfl hM1 ?_); intro w0 cnt hrg0 hcn hg0 hs0)
  go_frame
  rw [e1] at hrg0 hs0 ⊢
  have A1 := A0.kept hg0 (by simp)
  have B1 := B0.grown hg0 (by simp) (fun j hj => by cases hj)
  clear hM hM1 A0 B0 hg0 hs0 e1 hmm
  go_loopg [] cnt (fun g wr => ∃ (left : List UInt8 → Bool) (n : Nat), Rng wr mv (w.heap.size + 1) N F left g ∧ n + g ≤ N ∧ Acc wr w.heap.size n (part nothing F (stF later.data.toList) left) ∧ Below w.heap.size w wr)
  case atStart => exact ⟨_, 0, hrg0, by omega, by rw [part_start]; exact A1, B1⟩
  case round =>
    clear hrg0 A1 B1
    obtain ⟨left, n, hrg, hng, hA, hb⟩ := hrel
    go_wp2_with (at_next; go_must (refine next_law _ rfl _ rfl rfl hrg ?_ ?_))
    · intro hl0
      have HA : Hid (Acc wr w.heap.size N (followsF later.data.toList F)) := by
        rw [stF_end _ _ _ hl0] at hA
        exact hA.mono (by omega)
      clear hA hrg
      go_wp2_with fail
      go_ret
      exact ⟨rfl, HA.out, hb⟩
    · intro s v w1 cnt1 hsz hFs hls hrg1 hlt1 hg1 hs1 hen
      obtain ⟨hA1, hb1⟩ := round_kept hA hb hg1
      clear hs1 hA hb hrg hg1
      have h1 := same_text s later
      have h2 := same_text (nd s) (nd later)
      rw [nd_data, nd_data] at h2
      by_cases hy : other later.data.toList s.data.toList = true ∧ 0 < v
      · have HP : Hid (upd (part nothing F (stF later.data.toList) left) s.data.toList v = part nothing F (stF later.data.toList) (struck left s.data.toList)) := (part_yes hFs (by simp [stF, hy])).symm
        have hwv : (Lit.int .u64 (v : Int)).wf = true := hwf.out _ _ hFs
        have e12 : s.data.toList ≠ later.data.toList ∧ node s.data.toList = node later.data.toList := by simpa [other] using hy.1
        have h1b : (s.toList == later.toList) = false := by rw [h1]; simpa using e12.1
        have h2b : ((nd s).toList == (nd later).toList) = true := by rw [h2]; simpa using e12.2
        have hvi : (0 : Int) < (v : Int) := by omega
        clear h1 h2 hy e12 hFs hls
        go_wp2_with fail
        refine (nodeOf_any s _ hsz).mono ?_
        rintro e w2 ⟨rfl, n1, rfl⟩
        go_wp2_with fail
        refine (nodeOf_any later _ hl).mono ?_
        rintro e w2 ⟨rfl, n2, rfl⟩
        go_wp2_with (at_mapUpdate; go_must (refine store_law _ rfl _ _ _ 26 rfl Try.underlying26 rfl (hA1.drewN _) (by unfold maxLen; omega) s rfl hsz v rfl hwv ?_); intro w3 hA3 hg3; go_frame)
        rw [HP.out] at hA3
        obtain ⟨hrg3, hb3⟩ := store_kept (hrg1.drewN _) (below_drewN hb1 _) hlt.out hg3
        go_roundg cnt1
        case measure => omega
        case rel => exact ⟨_, n + 1, hrg3, by omega, hA3, hb3⟩
      · have HP : Hid (part nothing F (stF later.data.toList) left = part nothing F (stF later.data.toList) (struck left s.data.toList)) := (part_no hFs hls (by simp [stF, hy])).symm
        rw [HP.out] at hA1
        clear hFs hls HP
        by_cases e1 : s.data.toList = later.data.toList
        · have h1b : (s.toList == later.toList) = true := by rw [h1]; simpa using e1
          clear h1 h2 hy e1
          go_wp2_with fail
          go_roundg cnt1
          case measure => omega
          case rel => exact ⟨_, n, hrg1, by omega, hA1, hb1⟩
        · have h1b : (s.toList == later.toList) = false := by rw [h1]; simpa using e1
          by_cases e2 : node s.data.toList = node later.data.toList
          · have h2b : ((nd s).toList == (nd later).toList) = true := by rw [h2]; simpa using e2
            have hv0 : v = 0 := by
              have : other later.data.toList s.data.toList = true := by simp [other, e1, e2]
              rcases Nat.eq_zero_or_pos v with h | h
              · exact h
              · exact absurd ⟨this, h⟩ hy
            subst hv0
            clear h1 h2 hy e1 e2
            go_wp2_with fail
            refine (nodeOf_any s _ hsz).mono ?_
            rintro e w2 ⟨rfl, n1, rfl⟩
            go_wp2_with fail
            refine (nodeOf_any later _ hl).mono ?_
            rintro e w2 ⟨rfl, n2, rfl⟩
            go_wp2_with fail
            go_roundg cnt1
            case measure => omega
            case rel => exact ⟨_, n, hrg1.drewN _, by omega, hA1.drewN _, below_drewN hb1 _⟩
          · have h2b : ((nd s).toList == (nd later).toList) = false := by rw [h2]; simpa using e2
            clear h1 h2 hy e1 e2
            go_wp2_with fail
            refine (nodeOf_any s _ hsz).mono ?_
            rintro e w2 ⟨rfl, n1, rfl⟩
            go_wp2_with fail
            refine (nodeOf_any later _ hl).mono ?_
            rintro e w2 ⟨rfl, n2, rfl⟩
            go_wp2_with fail
            go_roundg cnt1
            case measure => omega
            case rel => exact ⟨_, n, hrg1.drewN _, by omega, hA1.drewN _, below_drewN hb1 _⟩
end Go.Proofs.Qxb6003611a
