/-
  'zzBuild', by its contract.
-/
import Derived.Test.Qxb6003611aFollows
import Derived.Test.Qxb6003611aEnts
import Derived.RegionTactic
namespace Go.Proofs.Qxb6003611a
open Go.RowKit Go.Maps Go.WideMaps Plain

/-- The first k entries. -/
def ents (K : Nat → ByteArray) (S : Nat → Nat) (k : Nat) : List (List UInt8 × Nat) := (List.range k).map fun i => ((K i).data.toList, S i)

theorem ents_succ (K : Nat → ByteArray) (S : Nat → Nat) (k : Nat) : ents K S (k + 1) = ents K S k ++ [((K k).data.toList, S k)] := by
  unfold ents; rw [List.range_succ, List.map_append]; rfl

theorem build_succ (K : Nat → ByteArray) (S : Nat → Nat) (k : Nat) : build (ents K S (k + 1)) = upd (build (ents K S k)) (K k).data.toList (S k) := by
  rw [ents_succ, build_snoc]

theorem ents_keys (K : Nat → ByteArray) (S : Nat → Nat) (k : Nat) : (ents K S k).map Prod.fst = (List.range k).map fun i => (K i).data.toList := by
  unfold ents; rw [List.map_map]; rfl

/-- A store, as an equation for the walk. -/
theorem Acc.update {w : World} {j N : Nat} {F : List UInt8 → Option Nat} (hA : Acc w j N F) (hN : N < maxLen) (t : TypeId) (ht : Try.prog.underlying t = some (.map 9 33)) (s : ByteArray) (hs : s.size ≤ maxLen) (y : Nat) (hy : (Lit.int .u64 (y : Int)).wf = true) :
    ∃ w', (Instr.mapUpdate t (.map (some j)) (.string s) (.int .u64 (y : Int))).run Try.prog w = .ok () w' ∧ Acc w' j (N + 1) (upd F s.data.toList y) ∧ w.grownBy w' (some j) := by
  obtain ⟨D, h1, h2, h3⟩ := hA
  obtain ⟨w', hrun, r1, r2⟩ := h1.update law ht hN (keyOf_string_mk Try.underlying9 hs) (plainElem_int Try.underlying33 hy)
  refine ⟨w', hrun, ⟨_, r1, h2.put h1.isMap _ _, fun l v' h => ?_⟩, r2⟩
  unfold upd at h
  by_cases e : l = s.data.toList
  · rw [if_pos e] at h; cases h; exact hy
  · rw [if_neg e] at h; exact h3 l v' h

/-- What 'zzBuild' hands back. -/
def Built (w : World) (N : Nat) (F : List UInt8 → Option Nat) (e : Ending) (w' : World) : Prop :=
  ∃ r : Option Nat, e = .returned (.map r) ∧ MapIs w' (.map r) N F ∧ Below w.heap.size w w'

set_option maxHeartbeats 1000000 in
set_option maxRecDepth 100000 in
theorem build_any (v : Value) (nb : Bool) (len : Nat) (K : Nat → ByteArray) (S : Nat → Nat) (b off : Nat) (w : World) (h : Ents w v len K S b off) (hlen : len ≤ 1048576)
    (hnil : ∀ w' : World, (binOp .eql 22 v (.slice none 0 0)).run Try.prog w' = .ok (.bool nb) w') (hgd : ∀ (w' : World) (x y : Operand), (eqGuard .eql 22 x y v (.slice none 0 0)).run Try.prog w' = .ok () w') (hnb : Hid (nb = true → len = 0)) :
    Calls Try.prog 11 #[v] w fun e w' => Built w len (build (ents K S len)) e w' := by
  have hmm := @run_makeMap Try.prog
  have hlr := h.len_run
  cases nb
  · go_enter Try.func11, Try.ntmps11
    go_wp2
    have A0 := acc_made w
    have B0 : Below w.heap.size w (w.alloc (.map #[] 0)) := (Below.refl _ _).alloc (Nat.le_refl _) _
    go_loopw [4] (fun i wr => ∃ k : Nat, k ≤ len ∧ i = .int .i64 k ∧ Acc wr w.heap.size k (build (ents K S k)) ∧ Below w.heap.size w wr) (fun i _ => len - (intOf i).toNat)
    case atStart => exact ⟨0, Nat.zero_le _, rfl, A0, B0⟩
    case round =>
      clear A0 B0
      obtain ⟨k, hk, rfl, hA, hB⟩ := hrel
      by_cases hlt : k < len
      · have hki : (k : Int) < (len : Int) := by omega
        have hr := h.below hB
        have hix := fun w' => hr.idx_run w' k hlt
        have hc0 := hr.c0 k hlt
        have hc1 := hr.c1 k hlt
        obtain ⟨w2, hrun, hA2, hg2⟩ := (show Acc wr.drew w.heap.size k (build (ents K S k)) from hA).update (by unfold maxLen; omega) 26 Try.underlying26 (K k) (h.key k hlt) (S k) (h.seq k hlt)
        rw [← build_succ] at hA2
        have hB2 := (hB.drew).grown hg2 hB.size (fun j hj => by cases hj; exact Nat.le_refl _)
        clear hr hA hg2
        go_wp2
        go_region
        go_wp2
        go_roundw
        case rel => exact ⟨k + 1, by omega, by go_num, hA2, hB2⟩
        case measure => simp [intOf]; omega
      · obtain rfl : k = len := by omega
        go_wp2
        go_ret
        exact ⟨some w.heap.size, rfl, .inr ⟨_, rfl, hA⟩, hB⟩
  · obtain rfl := hnb.out rfl
    go_enter Try.func11, Try.ntmps11
    go_wp2
    go_ret
    exact ⟨none, rfl, .inl ⟨rfl, rfl⟩, Below.refl _ _⟩
end Go.Proofs.Qxb6003611a
