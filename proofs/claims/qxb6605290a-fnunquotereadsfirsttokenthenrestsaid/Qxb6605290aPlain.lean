namespace Go.Proofs.Qxb6605290a.Plain

/-- The byte that the escape of c stands for, and whether the backslash stays. -/
def unesc (c : UInt8) : UInt8 × Bool :=
  if c = 48 then (0, false) else if c = 98 then (8, false) else if c = 110 then (10, false) else if c = 114 then (13, false)
  else if c = 116 then (9, false) else if c = 90 then (26, false) else if c = 37 then (c, true) else if c = 95 then (c, true) else (c, false)

/-- The letter that names the control byte x. -/
def letterFor (x : UInt8) : UInt8 × Bool :=
  if x = 0 then (48, true) else if x = 8 then (98, true) else if x = 9 then (116, true) else if x = 10 then (110, true)
  else if x = 13 then (114, true) else if x = 26 then (90, true) else (0, false)

/-- What the writer makes of one byte. -/
def encOne (q c : UInt8) : List UInt8 :=
  if c = q then [q, q] else if q ≠ 96 ∧ c = 92 then [92, 92] else if (letterFor c).2 = true ∧ q ≠ 96 then [92, (letterFor c).1] else [c]

def enc (q : UInt8) (s : List UInt8) : List UInt8 := s.flatMap (encOne q)

/-- What unquote's loop makes of the body. -/
def dec (q : UInt8) : List UInt8 → List UInt8
  | [] => []
  | [c] => [c]
  | c :: d :: r =>
    if c = q then c :: dec q r
    else if c = 92 ∧ q ≠ 96 then (if (unesc d).2 = true then [92, (unesc d).1] else [(unesc d).1]) ++ dec q r
    else c :: dec q (d :: r)

/-- The body of a terminated run. -/
def safe (q : UInt8) : List UInt8 → Bool
  | [] => true
  | [c] => !(c = q) && !(c = 92 ∧ q ≠ 96)
  | c :: d :: r =>
    if c = q then d = q && safe q r
    else if c = 92 ∧ q ≠ 96 then safe q r
    else safe q (d :: r)

theorem unesc_letter (c : UInt8) (h : (letterFor c).2 = true) : unesc (letterFor c).1 = (c, false) := by
  unfold letterFor at h ⊢
  repeat' split at h
  all_goals simp_all [unesc]

theorem unesc_bs : unesc 92 = (92, false) := by decide

theorem dec_plain (q c : UInt8) (r : List UInt8) (h1 : c ≠ q) (h2 : ¬ (c = 92 ∧ q ≠ 96)) : dec q (c :: r) = c :: dec q r := by
  cases r with
  | nil => simp [dec]
  | cons d r => rw [dec, if_neg h1, if_neg h2]

theorem safe_plain (q c : UInt8) (r : List UInt8) (h1 : c ≠ q) (h2 : ¬ (c = 92 ∧ q ≠ 96)) : safe q (c :: r) = safe q r := by
  cases r with
  | nil => simp only [safe]; simp [h1]; by_cases hc : c = 92
           · exact .inr (by simpa [hc] using h2)
           · exact .inl hc
  | cons d r => rw [safe, if_neg h1, if_neg h2]

theorem dec_enc (q : UInt8) (hq : q ≠ 92) (s : List UInt8) : dec q (enc q s) = s ∧ safe q (enc q s) = true := by
  induction s with
  | nil => exact ⟨rfl, rfl⟩
  | cons c s ih =>
    have e : enc q (c :: s) = encOne q c ++ enc q s := rfl
    rw [e]
    unfold encOne
    split
    · subst_vars
      simp [dec, safe, ih]
    · rename_i h1
      split
      · rename_i h2
        obtain ⟨h2, rfl⟩ := h2
        simp [dec, safe, hq.symm, h2, unesc_bs, ih]
      · rename_i h2
        split
        · rename_i h3
          obtain ⟨h3, h4⟩ := h3
          simp [dec, safe, hq.symm, h4, unesc_letter c h3, ih]
        · rw [List.singleton_append, dec_plain q c _ h1 (fun h => h2 ⟨h.2, h.1⟩), safe_plain q c _ h1 (fun h => h2 ⟨h.2, h.1⟩), ih.1]
          exact ⟨rfl, ih.2⟩

theorem dec_same (q : UInt8) (b : List UInt8) (h1 : q ∉ b) (h2 : q = 96 ∨ (92 : UInt8) ∉ b) : dec q b = b := by
  induction b with
  | nil => rfl
  | cons c r ih =>
    rw [dec_plain q c r (fun e => h1 (by simp [e])) (fun e => by rcases h2 with h2 | h2; exact e.2 h2; exact h2 (by simp [e.1]))]
    rw [ih (fun e => h1 (by simp [e])) (by rcases h2 with h2 | h2; exact .inl h2; exact .inr (fun e => h2 (by simp [e])))]

end Go.Proofs.Qxb6605290a.Plain
