/-
  A slice of entries that came in, opened.
-/
import Derived.Test.Qxb6003611aLawJoin
import Derived.Deep.SlicePairs
import Derived.Lib.SliceRun
import Derived.OpenShut
namespace Go.Proofs.Qxb6003611a
open Go.RowKit Go.Maps Go.WideMaps Go.Deep Plain

theorem Try.cells35 : Try.prog.cellsOf 35 = 2 := by kernel_rfl
theorem Try.cells9 : Try.prog.cellsOf 9 = 1 := by kernel_rfl
theorem Try.cells33 : Try.prog.cellsOf 33 = 1 := by kernel_rfl

theorem guard_slice (v : Value) (h : ∃ a l c, v = .slice a l c) (w' : World) (x y : Operand) : (eqGuard .eql 22 x y v (.slice none 0 0)).run Try.prog w' = .ok () w' := by
  obtain ⟨a, l, c, rfl⟩ := h
  rfl

theorem len_slice (a : Option Addr) (l c : Nat) (w' : World) (ty : TypeId) : (Builtin.len_ #[22] ty #[.slice a l c]).run Try.prog w' = .ok (.int .i64 (l : Int)) w' := by
  rw [run_len_slice (P := Try.prog) (w := w') 22 ty a l c (by kernel_rfl)]; rfl

theorem idx_slice (b off l c k : Nat) (hk : k < l) (w' : World) : (Instr.indexAt 22 (.slice (some ⟨b, off, none⟩) l c) (.int .i64 (k : Int))).run Try.prog w' = .ok (.pointer (some ⟨b, off + k * 2, none⟩)) w' := by
  rw [run_indexAt_slice (P := Try.prog) (w := w') 22 ⟨b, off, none⟩ l c .i64 (k : Int) (by kernel_rfl)]
  rw [if_pos ⟨by omega, by omega⟩]
  have he : Try.prog.elem 22 = 35 := by kernel_rfl
  rw [he, Try.sizeOf35]
  simp [Result.andThen, Addr.add]

/-- The string that a cell holds, and its number. -/
def strIn : Value → ByteArray
  | .string s => s
  | _ => ByteArray.empty
def numIn : Value → Nat
  | .int _ n => n.toNat
  | _ => 0

theorem came_of {H : Type} {enc : TypeId × Value → H} {W : World} {a : Option Addr} {l c : Nat} {d : DataW H} {p : List MemPlace} (h : DataW.Trod enc Try.prog W 0 (fun _ => true) true 22 (.slice a l c) d p) :
    ∃ (nb : Bool) (K : Nat → ByteArray) (S : Nat → Nat) (b off : Nat), Came W (.slice a l c) nb l K S b off := by
  obtain ⟨fuel, hf⟩ := h
  rcases open_slice_pairs Try.underlying22 Try.underlying35 Try.cells35 rfl rfl Try.cells9 Try.cells33 hf with ⟨hcs, _⟩ | ⟨x, len, cap, m, n, V0, V1, D0, D1, P0, P1, hcs, _, hl, hm, hmm, _, hx⟩
  · simp [Value.cells] at hcs
    obtain ⟨rfl, rfl, rfl⟩ := hcs
    exact ⟨true, _, _, 0, 0, ents_nil W, fun w' => Lib.run_eql_slice_nil (P := Try.prog) w' 22 35 none 0 0 0 0 Try.underlying22, guard_slice _ ⟨_, _, _, rfl⟩, fun _ => rfl, by unfold maxLen; omega⟩
  · simp [Value.cells] at hcs
    obtain ⟨rfl, rfl, rfl⟩ := hcs
    have hmc : m = c := by rw [hmm]; rfl
    subst hmc
    by_cases h0 : l = 0
    · subst h0
      exact ⟨false, fun _ => ByteArray.empty, fun _ => 0, 0, 0, ⟨fun w' ty => len_slice _ 0 m w' ty, fun _ k hk => absurd hk (by omega), fun k hk => absurd hk (by omega), fun k hk => absurd hk (by omega), fun k hk => absurd hk (by omega), fun k hk => absurd hk (by omega), fun h => absurd h (by omega)⟩,
        fun w' => Lib.run_eql_slice_nil (P := Try.prog) w' 22 35 (some x) 0 m 0 0 Try.underlying22, guard_slice _ ⟨_, _, _, rfl⟩, fun h => absurd h (by decide), by unfold maxLen; omega⟩
    · obtain ⟨b, off, spot⟩ := x
      have hc := (hx 0 (by omega)).1
      have hspot : spot = none := by simpa [Addr.add] using World.cell?_spot hc
      subst hspot
      have each : ∀ i, i < m → W.cell? ⟨b, off + i * 2, none⟩ = some (.string (strIn (V0 i))) ∧ W.cell? ⟨b, off + i * 2 + 1, none⟩ = some (.int .u64 (numIn (V1 i) : Int)) ∧ (strIn (V0 i)).size ≤ maxLen ∧ (Lit.int .u64 (numIn (V1 i) : Int)).wf = true := by
        intro i hi
        obtain ⟨g0, g1, t0, t1⟩ := hx i hi
        obtain ⟨s, e0, _, hs⟩ := DataW.trod_string Try.underlying9 t0
        obtain ⟨z, e1, _, hz⟩ := DataW.trod_int Try.underlying33 t1
        have e0' : V0 i = .string s := by simpa using e0
        have e1' : V1 i = .int .u64 z := by simpa using e1
        have hz0 : 0 ≤ z := (bounds_u64 hz).1
        have hzn : ((numIn (V1 i) : Nat) : Int) = z := by rw [e1']; simp [numIn]; omega
        rw [e0', Addr.add_lit] at g0
        rw [e1', Addr.add_lit] at g1
        refine ⟨?_, ?_, ?_, ?_⟩
        · rw [e0']; exact g0
        · rw [hzn]; exact g1
        · rw [e0']; exact hs
        · rw [hzn]; exact hz
      refine ⟨false, fun i => strIn (V0 i), fun i => numIn (V1 i), b, off, ⟨fun w' ty => len_slice _ l m w' ty, fun w' k hk => idx_slice b off l m k hk w', fun k hk => (each k (by omega)).1, fun k hk => (each k (by omega)).2.1, fun k hk => (each k (by omega)).2.2.1, fun k hk => (each k (by omega)).2.2.2, fun _ => ?_⟩,
        fun w' => Lib.run_eql_slice_nil (P := Try.prog) w' 22 35 (some ⟨b, off, none⟩) l m 0 0 Try.underlying22, guard_slice _ ⟨_, _, _, rfl⟩, fun h => absurd h (by decide), by omega⟩
      exact World.block_lt_of_cell? W _ (each 0 (by omega)).1
end Go.Proofs.Qxb6003611a
