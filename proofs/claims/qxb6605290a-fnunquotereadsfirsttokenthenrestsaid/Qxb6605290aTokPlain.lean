/-
  Tokens of a run: plain laws.
-/
import Derived.Test.Qxb6605290aPlain
namespace Go.Proofs.Qxb6605290a.Plain

/-- tok is one token of a run quoted by q. -/
def isTok (q : UInt8) : List UInt8 → Bool
  | [c] => !(decide (c = q)) && !(decide (q ≠ 96) && decide (c = 92))
  | [c, d] => (decide (c = q) && decide (d = q)) || (decide (q ≠ 96) && decide (q ≠ 92) && decide (c = 92))
  | _ => false

/-- The control byte that the letter l names. -/
def ctl (l : UInt8) : UInt8 × Bool :=
  if l = 48 then (0, true) else if l = 98 then (8, true) else if l = 116 then (9, true) else if l = 110 then (10, true)
  else if l = 114 then (13, true) else if l = 90 then (26, true) else (0, false)

/-- What the escape of l stands for, by the law's own table. -/
def escMeaning (l : UInt8) : List UInt8 :=
  if l = 37 ∨ l = 95 then [92, l] else if (ctl l).2 = true then [(ctl l).1] else [l]

def meaning (q : UInt8) : List UInt8 → List UInt8
  | [c] => [c]
  | [c, d] => if c = q then [q] else escMeaning d
  | _ => []

theorem unesc_ctl (l : UInt8) : (if (unesc l).2 = true then [92, (unesc l).1] else [(unesc l).1]) = escMeaning l := by
  by_cases h0 : l = 48
  · subst h0; decide
  by_cases h1 : l = 98
  · subst h1; decide
  by_cases h2 : l = 110
  · subst h2; decide
  by_cases h3 : l = 114
  · subst h3; decide
  by_cases h4 : l = 116
  · subst h4; decide
  by_cases h5 : l = 90
  · subst h5; decide
  by_cases h6 : l = 37
  · subst h6; decide
  by_cases h7 : l = 95
  · subst h7; decide
  simp [unesc, escMeaning, ctl, h0, h1, h2, h3, h4, h5, h6, h7]

theorem tok_ahead (q : UInt8) (tok rest : List UInt8) (h : isTok q tok = true) :
    dec q (tok ++ rest) = meaning q tok ++ dec q rest ∧ (safe q rest = true → safe q (tok ++ rest) = true) := by
  match tok, h with
  | [c], h =>
    simp only [isTok, Bool.and_eq_true, Bool.not_eq_true', decide_eq_false_iff_not, Bool.and_eq_false_iff] at h
    have h2 : ¬ (c = 92 ∧ q ≠ 96) := fun x => by
      rcases h.2 with y | y
      · exact y x.2
      · exact y x.1
    rw [List.singleton_append, dec_plain q c rest h.1 h2, safe_plain q c rest h.1 h2]
    exact ⟨rfl, id⟩
  | [c, d], h =>
    simp only [isTok, Bool.or_eq_true, Bool.and_eq_true, decide_eq_true_eq] at h
    have e : [c, d] ++ rest = c :: d :: rest := rfl
    rw [e]
    by_cases hc : c = q
    · rcases h with h | h
      · obtain ⟨rfl, rfl⟩ := h
        simp [dec, safe, meaning]
      · exact absurd (hc.symm.trans h.2) h.1.2
    · rcases h with h | h
      · exact absurd h.1 hc
      · rw [dec, if_neg hc, if_pos ⟨h.2, h.1.1⟩, unesc_ctl, safe, if_neg hc, if_pos ⟨h.2, h.1.1⟩]
        simp [meaning, hc]

theorem tok_alone (q : UInt8) (tok : List UInt8) (h : isTok q tok = true) : dec q tok = meaning q tok ∧ safe q tok = true := by
  have := tok_ahead q tok [] h
  simp only [List.append_nil] at this
  exact ⟨by rw [this.1]; simp [dec], this.2 rfl⟩

theorem meaning_len (q : UInt8) (tok : List UInt8) : (meaning q tok).length ≤ 2 := by
  unfold meaning
  split
  · simp
  · unfold escMeaning
    repeat' split
    all_goals simp
  · simp

theorem dec_len (q : UInt8) : ∀ b : List UInt8, (dec q b).length ≤ 2 * b.length
  | [] => by simp [dec]
  | [c] => by simp [dec]
  | c :: d :: r => by
    have h1 := dec_len q r
    have h2 := dec_len q (d :: r)
    rw [dec]
    repeat' split
    all_goals (simp at h1 h2 ⊢; omega)

end Go.Proofs.Qxb6605290a.Plain
