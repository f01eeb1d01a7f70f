/-
  A slice of entries, nil or not, as the walks take it; 'zzSize', by its contract.
-/
import Derived.Test.Qxb6003611aMaps
namespace Go.Proofs.Qxb6003611a
open Go.RowKit Go.Maps Go.WideMaps Plain

/-- The slice value v holds len entries: key K i, number S i; they lie from ⟨b, off⟩ on. -/
structure Ents (w : World) (v : Value) (len : Nat) (K : Nat → ByteArray) (S : Nat → Nat) (b off : Nat) : Prop where
  len_run : ∀ (w' : World) (ty : TypeId), (Builtin.len_ #[22] ty #[v]).run Try.prog w' = .ok (.int .i64 (len : Int)) w'
  idx_run : ∀ (w' : World) (k : Nat), k < len → (Instr.indexAt 22 v (.int .i64 (k : Int))).run Try.prog w' = .ok (.pointer (some ⟨b, off + k * 2, none⟩)) w'
  c0 : ∀ k, k < len → w.cell? ⟨b, off + k * 2, none⟩ = some (.string (K k))
  c1 : ∀ k, k < len → w.cell? ⟨b, off + k * 2 + 1, none⟩ = some (.int .u64 (S k : Int))
  key : ∀ k, k < len → (K k).size ≤ maxLen
  seq : ∀ k, k < len → (Lit.int .u64 (S k : Int)).wf = true
  lt : 0 < len → b < w.heap.size

theorem Ents.below {w w' : World} {v : Value} {len : Nat} {K : Nat → ByteArray} {S : Nat → Nat} {b off : Nat} (h : Ents w v len K S b off) (hb : Below w.heap.size w w') : Ents w' v len K S b off :=
  ⟨h.len_run, h.idx_run, fun k hk => (hb.cell (p := ⟨b, off + k * 2, none⟩) (h.lt (by omega))).trans (h.c0 k hk), fun k hk => (hb.cell (p := ⟨b, off + k * 2 + 1, none⟩) (h.lt (by omega))).trans (h.c1 k hk), h.key, h.seq,
    fun h0 => Nat.lt_of_lt_of_le (h.lt h0) hb.size⟩

def AnyInt (e : Ending) : Prop := ∃ Y : Int, e = .returned (.int .i64 Y)

set_option maxHeartbeats 1000000 in
set_option maxRecDepth 100000 in
theorem size_any (v : Value) (len : Nat) (K : Nat → ByteArray) (S : Nat → Nat) (b off : Nat) (X : Int) (w : World) (h : Ents w v len K S b off) (hlen : len ≤ 1048576) :
    Calls Try.prog 10 #[v, .int .i64 X] w fun e w' => AnyInt e ∧ w' = w := by
  have hlr := h.len_run
  go_enter Try.func10, Try.ntmps10
  go_wp2
  go_loop [5, 6] (fun nv i => ∃ (k : Nat) (Y : Int), k ≤ len ∧ i = .int .i64 k ∧ nv = .int .i64 Y) (fun _ i => len - (intOf i).toNat)
  case atStart => exact ⟨0, X, Nat.zero_le _, rfl, rfl⟩
  case round =>
    obtain ⟨k, Y, hk, rfl, rfl⟩ := hrel
    by_cases hlt : k < len
    · have hki : (k : Int) < (len : Int) := by omega
      have hix := fun w' => h.idx_run w' k hlt
      have hc0 := h.c0 k hlt
      by_cases hY : 1048576 < Y
      · go_wp2
        go_ret
        exact ⟨⟨Y, rfl⟩, rfl⟩
      · have hY2 : Y ≤ 1048576 := by omega
        go_wp2
        go_round
        case rel => exact ⟨k + 1, _, by omega, by go_num, rfl⟩
        case measure => simp [intOf]; omega
    · have hki : (len : Int) ≤ (k : Int) := by omega
      go_wp2
      go_ret
      exact ⟨⟨Y, rfl⟩, rfl⟩
end Go.Proofs.Qxb6003611a
