/-
  Ranging over a version, nil or not, while another one is written.
-/
import Derived.Test.Qxb6003611aMaps
namespace Go.Proofs.Qxb6003611a
open Go.RowKit Go.Maps Go.WideMaps Plain

/-- An iterator in block r over the map value mv, which holds what F says; 'left': the keys still to come, cnt of them. -/
def Rng (w : World) (mv : Value) (r N : Nat) (F : List UInt8 → Option Nat) (left : List UInt8 → Bool) (cnt : Nat) : Prop :=
  (mv = .map none ∧ F = nothing ∧ cnt = 0 ∧ (∀ l, left l = false) ∧ ∃ x s y, w.heap[r]? = some (.mapIter none x s y)) ∨
  ∃ b D lf, mv = .map (some b) ∧ w.ranges Try.prog 9 (plainElem Try.prog 33) b r N D lf cnt ∧ Desc D F ∧ Wf F ∧ ∀ l, left l = lf (.string l)

/-- One key has come. -/
def struck (left : List UInt8 → Bool) (l : List UInt8) : List UInt8 → Bool := fun x => left x && decide (x ≠ l)

theorem Rng.kept {w w' : World} {mv : Value} {r N : Nat} {F : List UInt8 → Option Nat} {left : List UInt8 → Bool} {cnt : Nat} {row : Option Nat} (h : Rng w mv r N F left cnt) (hg : w.grownBy w' row) (hb : ∀ b, mv = .map (some b) → some b ≠ row) (hr : some r ≠ row) : Rng w' mv r N F left cnt := by
  rcases h with ⟨h1, h2, h3, h4, x, s, y, h5⟩ | ⟨b, D, lf, rfl, h1, h2⟩
  · refine .inl ⟨h1, h2, h3, h4, x, s, y, ?_⟩
    have hlt : r < w.heap.size := by
      rcases Nat.lt_or_ge r w.heap.size with h | h
      · exact h
      · rw [Array.getElem?_eq_none h] at h5; cases h5
    rw [hg.block r hlt hr]; exact h5
  · exact .inr ⟨b, D, lf, rfl, h1.kept hg (hb b rfl) hr, h2⟩

section
variable (w : World) {ops : Array Oper} {rest : List Oper} {o : Oper} {a : Act} {Q : Exit → Act → World → Prop}

/-- 'range m'. -/
theorem range_law (hg : o.guard = none) (m : Operand) (t : TypeId) (hop : o.op = Op.range t m) (ht : Try.prog.underlying t = some (.map 9 33)) {mv : Value} {N : Nat} {F : List UInt8 → Option Nat} (hm : a.eval m = mv) (hM : MapIs w mv N F)
    (hK : ∀ w' cnt, Rng w' mv w.heap.size N F (fun l => (F l).isSome) cnt → cnt ≤ N → w.grownBy w' none → w'.heap.size = w.heap.size + 1 → wpList Try.prog ops Q rest (a.put o.dst (.pointer (some ⟨w.heap.size, 0, none⟩))) w') :
    wpList Try.prog ops Q (o :: rest) a w := by
  rcases hM with ⟨rfl, rfl⟩ | ⟨b, rfl, D, h1, h2, h3⟩
  · refine wpList_plain hg fun K' hK' => ?_
    have hrun := run_range_nilMap (P := Try.prog) w t 9 33 ht
    unfold Oper.wp
    simp [execOp, hop, hm, hrun, Result.andThen]
    exact hK' _ _ (hK _ 0 (.inl ⟨rfl, rfl, rfl, fun _ => rfl, 0, #[], 0, heap_alloc_new w _⟩) (Nat.zero_le _) (World.grownBy_alloc w _ none) (by simp))
  · refine wpList_range_own w hg m t hop 9 33 law ht _ b N D hm h1 fun w' hr hg' hs => ?_
    exact hK w' _ (.inr ⟨b, D, _, rfl, hr, h2, h3, fun l => (h2.1 (.string l)).symm⟩) h1.size_le hg' hs

/-- The step. -/
theorem next_law (hg : o.guard = none) (it : Operand) (hop : o.op = Op.next it false) {mv : Value} {r N : Nat} {F : List UInt8 → Option Nat} {left : List UInt8 → Bool} {cnt : Nat}
    (hit : a.eval it = .pointer (some ⟨r, 0, none⟩)) (h : Rng w mv r N F left cnt)
    (hDone : (∀ l, left l = false) → wpList Try.prog ops Q rest (a.put o.dst (.tuple #[.bool false])) w)
    (hMore : ∀ (s : ByteArray) (v : Nat) (w' : World) (cnt' : Nat), s.size ≤ maxLen → F s.data.toList = some v → left s.data.toList = true → Rng w' mv r N F (struck left s.data.toList) cnt' → cnt' < cnt →
      w.grownBy w' (some r) → w'.heap.size = w.heap.size → (Instr.entry (.pointer (some ⟨r, 0, none⟩))).run Try.prog w' = .ok (.tuple #[.string s, .int .u64 (v : Int)]) w' →
      wpList Try.prog ops Q rest (a.put o.dst (.tuple #[.bool true, .string s, .int .u64 (v : Int)])) w') :
    wpList Try.prog ops Q (o :: rest) a w := by
  rcases h with ⟨rfl, rfl, rfl, h4, x, s, y, h5⟩ | ⟨b, D, lf, rfl, h1, h2, h3, h4⟩
  · refine wpList_plain hg fun K' hK' => ?_
    have hrun : (Instr.next (.pointer (some ⟨r, 0, none⟩)) false o.type).run Try.prog w = .ok (.tuple #[.bool false]) w := by
      simp only [Instr.next, getObj, Sem.run_bind, Sem.run, h5, Result.andThen]
      rfl
    unfold Oper.wp
    simp [execOp, hop, hit, hrun, Result.andThen]
    exact hK' _ _ (hDone h4)
  · refine wpList_next_ranges w hg it hop 9 law (plainElem Try.prog 33) Value.string (Value.int .u64) (fun key kl hk => ?_) (fun v y hv => ?_) b r N D lf cnt hit h1 (fun _ hl => hDone fun l => by rw [h4, hl]) ?_
    · obtain ⟨x, hx, _⟩ := Maps.keyOf_str Try.underlying9 hk
      exact ⟨_, hx⟩
    · obtain ⟨c, rfl, _⟩ := plainElem_int_inv Try.underlying33 hv
      exact ⟨c, rfl⟩
    · intro s c kl y w' cnt' hkey hlk hv hat hrg hlt hgr hsz hen
      obtain ⟨x, hx, rfl, hxl⟩ := Maps.keyOf_str Try.underlying9 hkey
      have hsx : s = ⟨x.toArray⟩ := by injection hx
      have hxs : s.data.toList = x := by rw [hsx]
      obtain ⟨c', hc', rfl, hwc⟩ := plainElem_int_inv Try.underlying33 hv
      have hcc : c = c' := by injection hc'
      subst hcc
      have hF : (F x).isSome = true := by
        have e1 : Maps.has D (.string x) = (F x).isSome := h2.1 (.string x)
        rw [← e1]; exact has_true_of_atKey hat
      obtain ⟨v, hFv⟩ := Option.isSome_iff_exists.1 hF
      have hcv : c = (v : Int) := by
        have e2 := hat (.lit (.int .u64 0))
        rw [h2.2 x v _ hFv] at e2
        injection e2 with e3
        injection e3 with _ e4
        exact e4.symm
      subst hcv
      refine hMore s v w' cnt' (by rw [hsx]; exact hxl) (by rw [hxs]; exact hFv) (by rw [h4, hxs]; exact hlk) (.inr ⟨b, D, _, rfl, hrg, h2, h3, fun l => ?_⟩) hlt hgr hsz hen
      show (left l && decide (l ≠ s.data.toList)) = _
      rw [h4, hxs]
      by_cases e : l = x
      · subst e; simp [WideAt.sameKey_self (show WideAt.IsKeyLit (.string l) from trivial)]
      · rw [sameKey_ne (fun h => e (by injection h))]
        simp [e]
end

/-- A map that a loop over F turns, key by key, as 'st' says; 'left': the keys still to come. -/
def part (A F : List UInt8 → Option Nat) (st : List UInt8 → Nat → Option Nat → Option Nat) (left : List UInt8 → Bool) : List UInt8 → Option Nat :=
  fun l => match F l with | some s => if left l = true then A l else st l s (A l) | none => A l

theorem part_start (A F : List UInt8 → Option Nat) (st : List UInt8 → Nat → Option Nat → Option Nat) : part A F st (fun l => (F l).isSome) = A := by
  funext l
  unfold part
  cases h : F l <;> simp [h]

theorem part_end (A F : List UInt8 → Option Nat) (st : List UInt8 → Nat → Option Nat → Option Nat) (left : List UInt8 → Bool) (h : ∀ l, left l = false) : part A F st left = fun l => match F l with | some s => st l s (A l) | none => A l := by
  funext l
  unfold part
  cases F l <;> simp [h]

theorem part_at {A F : List UInt8 → Option Nat} {st : List UInt8 → Nat → Option Nat → Option Nat} {left : List UInt8 → Bool} {l : List UInt8} {v : Nat} (hF : F l = some v) (hl : left l = true) : part A F st left l = A l := by
  unfold part; simp [hF, hl]

theorem part_yes {A F : List UInt8 → Option Nat} {st : List UInt8 → Nat → Option Nat → Option Nat} {left : List UInt8 → Bool} {l : List UInt8} {v y : Nat} (hF : F l = some v) (hst : st l v (A l) = some y) : part A F st (struck left l) = upd (part A F st left) l y := by
  funext x
  unfold upd part struck
  by_cases e : x = l
  · subst e; simp [hF, hst]
  · simp [e]

theorem part_no {A F : List UInt8 → Option Nat} {st : List UInt8 → Nat → Option Nat → Option Nat} {left : List UInt8 → Bool} {l : List UInt8} {v : Nat} (hF : F l = some v) (hl : left l = true) (hst : st l v (A l) = A l) : part A F st (struck left l) = part A F st left := by
  funext x
  unfold part struck
  by_cases e : x = l
  · subst e; simp [hF, hl, hst]
  · simp [e]

end Go.Proofs.Qxb6003611a
