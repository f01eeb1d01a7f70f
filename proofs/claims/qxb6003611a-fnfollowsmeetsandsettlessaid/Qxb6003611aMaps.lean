/-
  Versions in memory, and the laws of the operations on them.
-/
import Derived.Test.Qxb6003611aRows
import Derived.Test.Qxb6003611aPlain
import Derived.WalkKit
import Derived.WalkSpells
import Derived.ProofKit
import Derived.WalkSmall
import Derived.Maps.OwnSet
import Derived.Maps.OwnOps
import Derived.Maps.RangeWalk
import Derived.Maps.Ext
import Derived.Sort.KeysCollected
import Derived.Laws.IdiomRangeMap
namespace Go.Proofs.Qxb6003611a
open Go.RowKit Go.Maps Go.WideMaps Plain

theorem law : Keyed Try.prog 9 := string_keyed Try.underlying9
theorem zero33 (w : World) : (zeroValue 33).run Try.prog w = .ok (.int .u64 0) w := by kernel_rfl

/-- The datum D holds just what F says. -/
def Desc (D : DataW Unit) (F : List UInt8 → Option Nat) : Prop :=
  (∀ k : Lit, Maps.has D k = match k with | .string l => (F l).isSome | _ => false) ∧ ∀ (l : List UInt8) (v : Nat) (z : DataW Unit), F l = some v → D.atKey (.string l) z = .lit (.int .u64 (v : Int))

/-- Every number is a uint64. -/
def Wf (F : List UInt8 → Option Nat) : Prop := ∀ (l : List UInt8) (v : Nat), F l = some v → (Lit.int .u64 (v : Int)).wf = true

theorem Wf.val {F : List UInt8 → Option Nat} (h : Wf F) (l : List UInt8) : (Lit.int .u64 ((val (F l) : Nat) : Int)).wf = true := by
  cases hf : F l with
  | none => decide
  | some v => exact h l v hf

theorem desc_nothing : Desc (.map []) nothing := ⟨fun k => by cases k <;> rfl, fun l v z h => by cases h⟩

theorem Desc.put {D : DataW Unit} {F : List UInt8 → Option Nat} (h : Desc D F) (hm : IsMap D) (l : List UInt8) (v : Nat) : Desc (D.put (.string l) (.lit (.int .u64 (v : Int)))) (upd F l v) := by
  refine ⟨fun k => ?_, fun l' v' z hv => ?_⟩
  · by_cases e : k = .string l
    · subst e
      rw [has_put_same hm (show WideAt.IsKeyLit (.string l) from trivial)]
      simp [upd]
    · rw [has_put_other e, h.1 k]
      cases k with
      | string l' =>
        have : l' ≠ l := fun x => e (by rw [x])
        simp [upd, this]
      | _ => rfl
  · by_cases e : l' = l
    · subst e
      rw [atKey_put_same hm (show WideAt.IsKeyLit (.string l') from trivial)]
      simp only [upd, if_true] at hv
      cases hv; rfl
    · rw [atKey_put_other (fun x => e (by cases x; rfl))]
      simp only [upd, e, if_false] at hv
      exact h.2 l' v' z hv

theorem Desc.unique {D D' : DataW Unit} {F : List UInt8 → Option Nat} (h : Desc D F) (h' : Desc D' F) (c : Canon D) (c' : Canon D') : D = D' := by
  refine Maps.ext c c' (fun k => by rw [h.1, h'.1]) (fun k z hk => ?_)
  rw [h.1] at hk
  cases k with
  | string l =>
    obtain ⟨v, hv⟩ := Option.isSome_iff_exists.1 hk
    rw [h.2 l v z hv, h'.2 l v z hv]
  | _ => cases hk

/-- How many entries a map that F describes has. -/
def SizeOf (F : List UInt8 → Option Nat) (n : Nat) : Prop := ∃ D, Canon D ∧ Desc D F ∧ Maps.size D = n

theorem SizeOf.unique {F : List UInt8 → Option Nat} {n n' : Nat} (h : SizeOf F n) (h' : SizeOf F n') : n = n' := by
  obtain ⟨D, c, d, rfl⟩ := h
  obtain ⟨D', c', d', rfl⟩ := h'
  rw [d.unique d' c c']

/-- Block j is a map that the call made; it holds what F says. -/
def Acc (w : World) (j N : Nat) (F : List UInt8 → Option Nat) : Prop := ∃ D, w.ownsMap Try.prog 9 (plainElem Try.prog 33) j N D ∧ Desc D F ∧ Wf F

/-- The map value mv (nil or not) holds what F says. -/
def MapIs (w : World) (mv : Value) (N : Nat) (F : List UInt8 → Option Nat) : Prop := (mv = .map none ∧ F = nothing) ∨ ∃ b, mv = .map (some b) ∧ Acc w b N F

theorem wf_nothing : Wf nothing := fun l v h => by cases h
theorem MapIs.wf {w : World} {mv : Value} {N : Nat} {F : List UInt8 → Option Nat} (h : MapIs w mv N F) : Wf F := by
  rcases h with ⟨_, rfl⟩ | ⟨b, _, D, _, _, h⟩
  · exact wf_nothing
  · exact h

theorem grown_of_below {w w' : World} (h : Below w.heap.size w w') : w.grownBy w' none := ⟨h.os, h.tape, h.output, h.size, fun k hk _ => h.block k hk⟩

theorem Acc.kept {w w' : World} {j N : Nat} {F : List UInt8 → Option Nat} {row : Option Nat} (h : Acc w j N F) (hg : w.grownBy w' row) (hne : some j ≠ row) : Acc w' j N F := by
  obtain ⟨D, h1, h2, h3⟩ := h
  exact ⟨D, h1.kept hg hne, h2, h3⟩
theorem Acc.lt {w : World} {j N : Nat} {F : List UInt8 → Option Nat} (h : Acc w j N F) : j < w.heap.size := by
  obtain ⟨D, h1, _⟩ := h
  exact h1.lt
theorem Acc.mono {w : World} {j N M : Nat} {F : List UInt8 → Option Nat} (h : Acc w j N F) (hn : N ≤ M) : Acc w j M F := by
  obtain ⟨D, h1, h2⟩ := h
  exact ⟨D, h1.mono hn, h2⟩
theorem MapIs.kept {w w' : World} {mv : Value} {N : Nat} {F : List UInt8 → Option Nat} {row : Option Nat} (h : MapIs w mv N F) (hg : w.grownBy w' row) (hne : ∀ b, mv = .map (some b) → some b ≠ row) : MapIs w' mv N F := by
  rcases h with h | ⟨b, rfl, h⟩
  · exact .inl h
  · exact .inr ⟨b, rfl, h.kept hg (hne b rfl)⟩
theorem MapIs.below {w w' : World} {mv : Value} {N : Nat} {F : List UInt8 → Option Nat} (h : MapIs w mv N F) (hb : Below w.heap.size w w') : MapIs w' mv N F := h.kept (grown_of_below hb) (fun _ _ => by simp)
theorem MapIs.lt {w : World} {b N : Nat} {F : List UInt8 → Option Nat} (h : MapIs w (.map (some b)) N F) : b < w.heap.size := by
  rcases h with ⟨h, _⟩ | ⟨b', h, h'⟩
  · cases h
  · cases h; exact h'.lt
theorem acc_made (w : World) : Acc (w.alloc (.map #[] 0)) w.heap.size 0 nothing := ⟨_, World.ownsMap_made _ _ _ _, desc_nothing, wf_nothing⟩

section
variable (w : World) {ops : Array Oper} {rest : List Oper} {o : Oper} {a : Act} {Q : Exit → Act → World → Prop}

theorem at_of {D : DataW Unit} {F : List UInt8 → Option Nat} (h : Desc D F) (l : List UInt8) (c : Int) (hc : D.atKey (.string l) (.lit (.int .u64 0)) = .lit (.int .u64 c)) : c = ((val (F l) : Nat) : Int) := by
  cases hf : F l with
  | none =>
    have : Maps.has D (.string l) = (F l).isSome := h.1 (.string l)
    rw [hf] at this
    rw [atKey_of_not_has this] at hc
    cases hc; rfl
  | some v =>
    rw [h.2 l v _ hf] at hc
    cases hc; rfl

/-- 'm[k]'. -/
theorem look_law (hg : o.guard = none) (m x : Operand) (t : TypeId) (hop : o.op = Op.lookup t m x false) (ht : Try.prog.underlying t = some (.map 9 33)) {mv : Value} {N : Nat} {F : List UInt8 → Option Nat}
    (hm : a.eval m = mv) (hM : MapIs w mv N F) (s : ByteArray) (hx : a.eval x = .string s) (hs : s.size ≤ maxLen)
    (hK : wpList Try.prog ops Q rest (a.put o.dst (.int .u64 ((val (F s.data.toList) : Nat) : Int))) w) : wpList Try.prog ops Q (o :: rest) a w := by
  rcases hM with ⟨rfl, rfl⟩ | ⟨b, rfl, D, h1, h2, h3⟩
  · refine wpList_plain hg fun K' hK' => ?_
    have hrun := Maps.look_nil (w := w) false law ht (zero33 w) (keyOf_string_mk Try.underlying9 hs)
    unfold Oper.wp
    simp [execOp, hop, hm, hx, hrun, Result.andThen]
    exact hK' _ _ hK
  · refine wpList_lookup_own_int w hg m x t hop 9 33 .u64 law ht Try.underlying33 (zero33 w) b N D hm h1 _ _ hx (keyOf_string_mk Try.underlying9 hs) fun c hc _ => ?_
    rw [at_of h2 _ c hc]
    exact hK

/-- 'v, ok := m[k]'. -/
theorem lookok_law (hg : o.guard = none) (m x : Operand) (t : TypeId) (hop : o.op = Op.lookup t m x true) (ht : Try.prog.underlying t = some (.map 9 33)) {mv : Value} {N : Nat} {F : List UInt8 → Option Nat}
    (hm : a.eval m = mv) (hM : MapIs w mv N F) (s : ByteArray) (hx : a.eval x = .string s) (hs : s.size ≤ maxLen)
    (hK : wpList Try.prog ops Q rest (a.put o.dst (.tuple #[.int .u64 ((val (F s.data.toList) : Nat) : Int), .bool (F s.data.toList).isSome])) w) : wpList Try.prog ops Q (o :: rest) a w := by
  rcases hM with ⟨rfl, rfl⟩ | ⟨b, rfl, D, h1, h2, h3⟩
  · refine wpList_plain hg fun K' hK' => ?_
    have hrun := Maps.look_nil (w := w) true law ht (zero33 w) (keyOf_string_mk Try.underlying9 hs)
    unfold Oper.wp
    simp [execOp, hop, hm, hx, hrun, Result.andThen]
    exact hK' _ _ hK
  · refine wpList_lookup_own_ok_int w hg m x t hop 9 33 .u64 law ht Try.underlying33 (zero33 w) b N D hm h1 _ _ hx (keyOf_string_mk Try.underlying9 hs) fun c hc _ => ?_
    rw [at_of h2 _ c hc, h2.1]
    exact hK

/-- 'len(m)'. -/
theorem len_law (hg : o.guard = none) (m : Operand) (t : TypeId) (hop : o.op = Op.call { callee := Callee.builtin Builtin.len, args := #[m], argTypes := #[t] }) (ht : Try.prog.underlying t = some (.map 9 33)) {mv : Value} {N : Nat} {F : List UInt8 → Option Nat}
    (hm : a.eval m = mv) (hM : MapIs w mv N F) (n : Nat) (hn : SizeOf F n)
    (hK : wpList Try.prog ops Q rest (a.put o.dst (.int .i64 (n : Int))) w) : wpList Try.prog ops Q (o :: rest) a w := by
  rcases hM with ⟨rfl, rfl⟩ | ⟨b, rfl, D, h1, h2, h3⟩
  · obtain rfl : n = 0 := hn.unique ⟨_, canon_empty, desc_nothing, rfl⟩
    refine wpList_plain hg fun K' hK' => ?_
    unfold Oper.wp
    simp [execOp, hop, resolve, invoke, builtin, hm, Maps.len_nil (w := w) ht o.type, Result.andThen]
    exact hK' _ _ hK
  · obtain rfl : n = Maps.size D := hn.unique ⟨D, h1.canon law, h2, rfl⟩
    exact wpList_len_own w hg m t hop 9 33 ht _ b N D hm h1 hK

theorem MapIs.size {w : World} {mv : Value} {N : Nat} {F : List UInt8 → Option Nat} (hM : MapIs w mv N F) : ∃ n, SizeOf F n := by
  rcases hM with ⟨rfl, rfl⟩ | ⟨b, rfl, D, h1, h2, h3⟩
  · exact ⟨0, _, canon_empty, desc_nothing, rfl⟩
  · exact ⟨_, D, h1.canon law, h2, rfl⟩

/-- 'm[k] = v'. -/
theorem store_law (hg : o.guard = none) (m x v : Operand) (t : TypeId) (hop : o.op = Op.mapUpdate t m x v) (ht : Try.prog.underlying t = some (.map 9 33)) {j N : Nat} {F : List UInt8 → Option Nat}
    (hm : a.eval m = .map (some j)) (hA : Acc w j N F) (hN : N < maxLen) (s : ByteArray) (hx : a.eval x = .string s) (hs : s.size ≤ maxLen) (y : Nat) (hv : a.eval v = .int .u64 (y : Int)) (hy : (Lit.int .u64 (y : Int)).wf = true)
    (hK : ∀ w', Acc w' j (N + 1) (upd F s.data.toList y) → w.grownBy w' (some j) → wpList Try.prog ops Q rest (a.put o.dst undef) w') : wpList Try.prog ops Q (o :: rest) a w := by
  obtain ⟨D, h1, h2, h3⟩ := hA
  refine wpList_mapUpdate_own w hg m x v t hop 9 33 law ht _ j N D hm h1 hN _ _ _ hx hv (keyOf_string_mk Try.underlying9 hs) _ [] (plainElem_int Try.underlying33 hy) fun w' h1' hg' => ?_
  refine hK w' ⟨_, h1', h2.put h1.isMap _ _, fun l v' h => ?_⟩ hg'
  unfold upd at h
  by_cases e : l = s.data.toList
  · rw [if_pos e] at h; cases h; exact hy
  · rw [if_neg e] at h; exact h3 l v' h
end
end Go.Proofs.Qxb6003611a
