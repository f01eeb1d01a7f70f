/-
  The plain layer: the reading of a text a byte, or a pair, at a time; what a step of the scan is beside it. No Go in sight.
-/
import Derived.Lib.IndexAny
import Derived.Lib.IndexLaws
namespace Go.Proofs.Qxb6600183a.Plain

/-- The two bytes from m. -/
def pr (L : List UInt8) (m : Nat) (a b : UInt8) : Bool := decide (L[m]? = some a ∧ L[m + 1]? = some b)

/-- One step of the model: the state and the place. -/
def mdl (L : List UInt8) (q l : Bool) (d : Int) (m : Nat) : Bool × Bool × Int × Nat :=
  if q then (decide (L[m]? ≠ some 39), l, d, m + 1)
  else if l then (false, decide (L[m]? ≠ some 10 ∧ L[m]? ≠ some 13), d, m + 1)
  else if pr L m 47 42 then (false, false, d + 1, m + 2)
  else if 0 < d then (if pr L m 42 47 then (false, false, d - 1, m + 2) else (false, false, d, m + 1))
  else if pr L m 45 45 then (false, true, d, m + 2)
  else (decide (L[m]? = some 39), false, d, m + 1)

/-- n steps of the model lead from the one to the other. -/
def Reach (L : List UInt8) : Nat → Bool × Bool × Int × Nat → Bool × Bool × Int × Nat → Prop
  | 0, a, b => a = b
  | n + 1, a, b => Reach L n (mdl L a.1 a.2.1 a.2.2.1 a.2.2.2) b

theorem Reach.append {L : List UInt8} : ∀ {n k : Nat} {a b c : Bool × Bool × Int × Nat}, Reach L n a b → Reach L k b c → Reach L (n + k) a c
  | 0, k, a, b, c, h1, h2 => by cases h1; rw [Nat.zero_add]; exact h2
  | n + 1, k, a, b, c, h1, h2 => by
    rw [Nat.add_right_comm]
    exact Reach.append (n := n) (k := k) (a := mdl L a.1 a.2.1 a.2.2.1 a.2.2.2) h1 h2

theorem mdl_pos (L : List UInt8) (q l : Bool) (d : Int) (m : Nat) : m < (mdl L q l d m).2.2.2 := by
  unfold mdl
  repeat' split
  all_goals simp

theorem Reach.le {L : List UInt8} : ∀ {n : Nat} {a b : Bool × Bool × Int × Nat}, Reach L n a b → a.2.2.2 + n ≤ b.2.2.2
  | 0, a, b, h => by cases h; exact Nat.le_refl _
  | n + 1, a, b, h => by
    have h1 := Reach.le (n := n) h
    have h2 := mdl_pos L a.1 a.2.1 a.2.2.1 a.2.2.2
    omega

/-- The depth stays bounded. -/
theorem mdl_depth (L : List UInt8) (q l : Bool) (d : Int) (m : Nat) (h0 : 0 ≤ d) : 0 ≤ (mdl L q l d m).2.2.1 ∧ (mdl L q l d m).2.2.1 - d ≤ (mdl L q l d m).2.2.2 - m := by
  unfold mdl
  repeat' split
  all_goals simp only
  all_goals omega

theorem skip_quoted (L : List UInt8) (l : Bool) (d : Int) : ∀ (n i : Nat), (∀ j, i ≤ j → j < i + n → L[j]? ≠ some 39) → Reach L n (true, l, d, i) (true, l, d, i + n)
  | 0, i, _ => rfl
  | n + 1, i, h => by
    have e : mdl L true l d i = (true, l, d, i + 1) := by
      simp [mdl, h i (Nat.le_refl _) (by omega)]
    show Reach L n (mdl L true l d i) _
    rw [e, show i + (n + 1) = i + 1 + n by omega]
    exact skip_quoted L l d n (i + 1) fun j h1 h2 => h j (by omega) (by omega)

theorem skip_line (L : List UInt8) (d : Int) : ∀ (n i : Nat), (∀ j, i ≤ j → j < i + n → L[j]? ≠ some 10 ∧ L[j]? ≠ some 13) → Reach L n (false, true, d, i) (false, true, d, i + n)
  | 0, i, _ => rfl
  | n + 1, i, h => by
    have e : mdl L false true d i = (false, true, d, i + 1) := by
      have := h i (Nat.le_refl _) (by omega)
      simp [mdl, this.1, this.2]
    show Reach L n (mdl L false true d i) _
    rw [e, show i + (n + 1) = i + 1 + n by omega]
    exact skip_line L d n (i + 1) fun j h1 h2 => h j (by omega) (by omega)

theorem skip_deep (L : List UInt8) (d : Int) (hd : 0 < d) : ∀ (n i : Nat), (∀ j, i ≤ j → j < i + n → L[j]? ≠ some 47 ∧ L[j]? ≠ some 42) → Reach L n (false, false, d, i) (false, false, d, i + n)
  | 0, i, _ => rfl
  | n + 1, i, h => by
    have e : mdl L false false d i = (false, false, d, i + 1) := by
      have := h i (Nat.le_refl _) (by omega)
      simp [mdl, pr, this.1, this.2, hd]
    show Reach L n (mdl L false false d i) _
    rw [e, show i + (n + 1) = i + 1 + n by omega]
    exact skip_deep L d hd n (i + 1) fun j h1 h2 => h j (by omega) (by omega)

/-- Either none of the bytes is there, or a first one. -/
theorem any_parts (cs : List UInt8) : ∀ l : List UInt8, Lib.NoAny l cs l.length ∨ ∃ (k : Nat) (x : UInt8), Lib.NoAny l cs k ∧ l[k]? = some x ∧ cs.contains x = true
  | [] => .inl (fun _ _ h => absurd h (Nat.not_lt_zero _))
  | b :: l => by
    cases hb : cs.contains b with
    | true => exact .inr ⟨0, b, Lib.NoAny.zero _ _, rfl, hb⟩
    | false =>
      have sh : ∀ n, Lib.NoAny l cs n → Lib.NoAny (b :: l) cs (n + 1) := fun n hn j y hj hy => by
        cases j with
        | zero => simp at hy; subst hy; exact hb
        | succ j => exact hn j y (by omega) (by simpa using hy)
      rcases any_parts cs l with h | ⟨k, x, h1, h2, h3⟩
      · exact .inl (sh _ h)
      · exact .inr ⟨k + 1, x, sh _ h1, by simpa using h2, h3⟩

theorem any_split (l cs : List UInt8) : (Lib.indexAny l cs = -1 ∧ Lib.NoAny l cs l.length) ∨ ∃ (k : Nat) (x : UInt8), Lib.indexAny l cs = (k : Int) ∧ Lib.NoAny l cs k ∧ l[k]? = some x ∧ cs.contains x = true := by
  rcases any_parts cs l with h | ⟨k, x, h1, h2, h3⟩
  · exact .inl ⟨Lib.indexAny_none h, h⟩
  · exact .inr ⟨k, x, Lib.indexAny_hit h1 h2 h3, h1, h2, h3⟩

/-- In how many modes. -/
def modes (q l : Bool) (d : Int) : Int := (if q then 1 else 0) + (if l then 1 else 0) + (if 0 < d then 1 else 0)

/-- What a step from i does, beside the model. -/
structure Fine (L : List UInt8) (q l : Bool) (d : Int) (i : Nat) (q' l' : Bool) (d' : Int) (n : Nat) : Prop where
  pos : 1 ≤ n
  inside : i + n ≤ L.length
  reach : ∃ k, Reach L k (q, l, d, i) (q', l', d', i + n)
  depth : d' = d ∨ (n = 2 ∧ d' = d + 1 ∧ pr L i 47 42 = true) ∨ (n = 2 ∧ d' = d - 1 ∧ 0 < d ∧ pr L i 42 47 = true)
  one : modes q l d ≤ 1 → modes q' l' d' ≤ 1

theorem modes_no (d : Int) : modes false false d ≤ 1 := by
  by_cases h : 0 < d <;> simp [modes, h]

theorem reach_one {L : List UInt8} {q l : Bool} {d : Int} {i : Nat} {b : Bool × Bool × Int × Nat} (h : mdl L q l d i = b) : Reach L 1 (q, l, d, i) b := h

theorem pr_len {L : List UInt8} {i : Nat} {a b : UInt8} (h : pr L i a b = true) : i + 2 ≤ L.length := by
  have h1 := (of_decide_eq_true h).2
  have := (List.getElem?_eq_some_iff.1 h1).1
  omega

/-! ### each path of 'step' -/
theorem fine_quoted_none (L : List UInt8) (l : Bool) (d : Int) (i n : Nat) (hn : i + n = L.length) (hp : 1 ≤ n) (h : ∀ j, i ≤ j → j < i + n → L[j]? ≠ some 39) : Fine L true l d i true l d n :=
  ⟨hp, by omega, ⟨_, skip_quoted L l d n i h⟩, .inl rfl, fun h => h⟩
theorem fine_quoted_some (L : List UInt8) (l : Bool) (d : Int) (i k : Nat) (hk : L[i + k]? = some 39) (h : ∀ j, i ≤ j → j < i + k → L[j]? ≠ some 39) : Fine L true l d i false l d (k + 1) := by
  have hl := (List.getElem?_eq_some_iff.1 hk).1
  refine ⟨by omega, by omega, ⟨k + 1, (skip_quoted L l d k i h).append (reach_one ?_)⟩, .inl rfl, fun h => ?_⟩
  · simp [mdl, hk, Nat.add_assoc]
  · simp only [modes] at *
    repeat' split at *
    all_goals simp_all
theorem fine_line_none (L : List UInt8) (d : Int) (i n : Nat) (hn : i + n = L.length) (hp : 1 ≤ n) (h : ∀ j, i ≤ j → j < i + n → L[j]? ≠ some 10 ∧ L[j]? ≠ some 13) : Fine L false true d i false true d n :=
  ⟨hp, by omega, ⟨_, skip_line L d n i h⟩, .inl rfl, fun h => h⟩
theorem fine_line_some (L : List UInt8) (d : Int) (i k : Nat) (hk : L[i + k]? = some 10 ∨ L[i + k]? = some 13) (h : ∀ j, i ≤ j → j < i + k → L[j]? ≠ some 10 ∧ L[j]? ≠ some 13) : Fine L false true d i false false d (k + 1) := by
  have hl : i + k < L.length := by
    rcases hk with hk | hk
    · exact (List.getElem?_eq_some_iff.1 hk).1
    · exact (List.getElem?_eq_some_iff.1 hk).1
  refine ⟨by omega, by omega, ⟨k + 1, (skip_line L d k i h).append (reach_one ?_)⟩, .inl rfl, fun h => ?_⟩
  · rcases hk with hk | hk <;> simp [mdl, hk, Nat.add_assoc]
  · simp only [modes] at *
    repeat' split at *
    all_goals simp_all
theorem fine_deep (L : List UInt8) (d : Int) (hd : 0 < d) (i n : Nat) (hn : i + n ≤ L.length) (hp : 1 ≤ n) (h : ∀ j, i ≤ j → j < i + n → L[j]? ≠ some 47 ∧ L[j]? ≠ some 42) : Fine L false false d i false false d n :=
  ⟨hp, hn, ⟨_, skip_deep L d hd n i h⟩, .inl rfl, fun h => h⟩
theorem fine_open (L : List UInt8) (d : Int) (i : Nat) (h : pr L i 47 42 = true) : Fine L false false d i false false (d + 1) 2 :=
  ⟨by omega, pr_len h, ⟨1, reach_one (by simp [mdl, h])⟩, .inr (.inl ⟨rfl, rfl, h⟩), fun _ => modes_no _⟩
theorem fine_close (L : List UInt8) (d : Int) (hd : 0 < d) (i : Nat) (h1 : pr L i 47 42 = false) (h : pr L i 42 47 = true) : Fine L false false d i false false (d - 1) 2 :=
  ⟨by omega, pr_len h, ⟨1, reach_one (by simp [mdl, h, h1, hd])⟩, .inr (.inr ⟨rfl, rfl, hd, h⟩), fun _ => modes_no _⟩
theorem fine_stay (L : List UInt8) (d : Int) (hd : 0 < d) (i : Nat) (hi : i < L.length) (h1 : pr L i 47 42 = false) (h : pr L i 42 47 = false) : Fine L false false d i false false d 1 :=
  ⟨by omega, by omega, ⟨1, reach_one (by simp [mdl, h, h1, hd])⟩, .inl rfl, fun h => h⟩
theorem fine_dash (L : List UInt8) (d : Int) (hd : ¬ 0 < d) (i : Nat) (h1 : pr L i 47 42 = false) (h : pr L i 45 45 = true) : Fine L false false d i false true d 2 :=
  ⟨by omega, pr_len h, ⟨1, reach_one (by simp [mdl, h, h1, hd])⟩, .inl rfl, fun _ => by simp [modes, hd]⟩
theorem fine_plain (L : List UInt8) (d : Int) (hd : ¬ 0 < d) (i : Nat) (hi : i < L.length) (h1 : pr L i 47 42 = false) (h : pr L i 45 45 = false) : Fine L false false d i (decide (L[i]? = some 39)) false d 1 :=
  ⟨by omega, by omega, ⟨1, reach_one (by simp [mdl, h, h1, hd])⟩, .inl rfl, fun _ => by simp only [modes, hd]; split <;> simp⟩
end Go.Proofs.Qxb6600183a.Plain
