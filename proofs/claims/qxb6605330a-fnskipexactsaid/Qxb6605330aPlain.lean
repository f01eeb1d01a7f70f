/-
  Plain laws on bencoded text: no Go in sight.
-/
namespace Go.Proofs.Qxb6605330a.Plain

/-- The byte at place k; 0 beyond the end. -/
def bt (t : ByteArray) (k : Nat) : UInt8 := t.data.toList.getD k 0

theorem bt_at (t : ByteArray) (k : Nat) (h : k < t.size) : bt t k = t[k] := by
  have h2 : t.data.toList[k]? = some t[k] := by simp [h]; rfl
  unfold bt
  rw [List.getD_eq_getElem?_getD, h2]
  rfl

/-- The number that m digits from i on spell. -/
def dv (t : ByteArray) (i : Nat) : Nat → Nat
  | 0 => 0
  | m + 1 => 10 * dv t i m + ((bt t (i + m)).toNat - 48)

theorem dv_mono (t : ByteArray) (i m k : Nat) : dv t i m ≤ dv t i (m + k) := by
  induction k with
  | zero => exact Nat.le_refl _
  | succ k ih => rw [← Nat.add_assoc, dv]; omega

/-- A string at i: digits up to a colon at j, and as many bytes behind it as they say. -/
def StrAt (t : ByteArray) (i j e : Nat) : Prop :=
  i ≤ j ∧ j < t.size ∧ (∀ k, i ≤ k → k < j → 48 ≤ (bt t k).toNat ∧ (bt t k).toNat ≤ 57) ∧ (bt t j).toNat = 58 ∧ e = j + 1 + dv t i (j - i) ∧ e ≤ t.size

/-- 'false': one value at i ends at e. 'true': values from i on, and the closing 'e', end at e. -/
def V (t : ByteArray) : Nat → Bool → Nat → Nat → Prop
  | 0, _, _, _ => False
  | f + 1, false, i, e => i < t.size ∧
      (((bt t i).toNat = 105 ∧ ∃ j, i < j ∧ j < t.size ∧ (bt t j).toNat = 101 ∧ (∀ k, i < k → k < j → (bt t k).toNat ≠ 101) ∧ e = j + 1)
      ∨ (((bt t i).toNat = 108 ∨ (bt t i).toNat = 100) ∧ V t f true (i + 1) e)
      ∨ ((bt t i).toNat ≠ 105 ∧ (bt t i).toNat ≠ 108 ∧ (bt t i).toNat ≠ 100 ∧ ∃ j, StrAt t i j e))
  | f + 1, true, i, e => i < t.size ∧
      (((bt t i).toNat = 101 ∧ e = i + 1) ∨ ((bt t i).toNat ≠ 101 ∧ ∃ m, V t f false i m ∧ V t f true m e))

theorem V_up (t : ByteArray) : ∀ (f : Nat) (b : Bool) (i e : Nat), V t f b i e → V t (f + 1) b i e := by
  intro f
  induction f with
  | zero => intro b i e h; exact absurd h (by simp [V])
  | succ f ih =>
    intro b i e h
    cases b with
    | false =>
      rw [V] at h ⊢
      obtain ⟨h0, h | h | h⟩ := h
      · exact ⟨h0, .inl h⟩
      · exact ⟨h0, .inr (.inl ⟨h.1, ih _ _ _ h.2⟩)⟩
      · exact ⟨h0, .inr (.inr h)⟩
    | true =>
      rw [V] at h ⊢
      obtain ⟨h0, h | ⟨h1, m, h2, h3⟩⟩ := h
      · exact ⟨h0, .inl h⟩
      · exact ⟨h0, .inr ⟨h1, m, ih _ _ _ h2, ih _ _ _ h3⟩⟩

theorem V_mono (t : ByteArray) (f k : Nat) (b : Bool) (i e : Nat) (h : V t f b i e) : V t (f + k) b i e := by
  induction k with
  | zero => exact h
  | succ k ih => exact V_up t _ b i e ih

/-- A value ends behind its start, and no later than the text. -/
theorem V_le (t : ByteArray) : ∀ (f : Nat) (b : Bool) (i e : Nat), V t f b i e → i < e ∧ e ≤ t.size := by
  intro f
  induction f with
  | zero => intro b i e h; exact absurd h (by simp [V])
  | succ f ih =>
    intro b i e h
    cases b with
    | false =>
      rw [V] at h
      obtain ⟨h0, ⟨_, j, h1, h2, _, _, h3⟩ | ⟨_, h1⟩ | ⟨_, _, _, j, h1⟩⟩ := h
      · omega
      · have := ih _ _ _ h1; omega
      · obtain ⟨a, b, _, _, c, d⟩ := h1; omega
    | true =>
      rw [V] at h
      obtain ⟨h0, h | ⟨h1, m, h2, h3⟩⟩ := h
      · omega
      · have := ih _ _ _ h2
        have := ih _ _ _ h3
        omega

/-- With d lists open at i, all of them are closed at e. -/
def R (t : ByteArray) : Nat → Nat → Nat → Prop
  | 0, i, e => i = e
  | d + 1, i, e => ∃ m f, V t f true i m ∧ R t d m e

/-- What the model's loop holds at each round's head. -/
def Inv (t : ByteArray) (p i d : Nat) : Prop := (d = 0 ∧ i = p) ∨ (0 < d ∧ ∀ e, R t d i e → ∃ f, V t f false p e)

/-- A value from i to j inside d open lists. -/
theorem R_cons {t : ByteArray} {f d i j e : Nat} (h1 : V t f false i j) (h2 : (bt t i).toNat ≠ 101) (h : R t (d + 1) j e) : R t (d + 1) i e := by
  obtain ⟨m, g, hv, hr⟩ := h
  refine ⟨m, f + g + 1, ?_, hr⟩
  have hi : i < t.size := by have := V_le t _ _ _ _ h1; omega
  rw [V]
  exact ⟨hi, .inr ⟨h2, j, V_mono t f g false i j h1, by rw [Nat.add_comm]; exact V_mono t g f true j m hv⟩⟩

/-- A whole value has been read. -/
theorem Inv.val {t : ByteArray} {p i d f j : Nat} (h : Inv t p i d) (hv : V t f false i j) (h2 : 0 < d → (bt t i).toNat ≠ 101) : (d = 0 → ∃ g, V t g false p j) ∧ (0 < d → Inv t p j d) := by
  rcases h with ⟨h0, rfl⟩ | ⟨h0, h⟩
  · exact ⟨fun _ => ⟨f, hv⟩, fun h => absurd h (by omega)⟩
  · refine ⟨fun h => absurd h (by omega), fun _ => .inr ⟨h0, fun e he => h e ?_⟩⟩
    obtain ⟨d, rfl⟩ : ∃ k, d = k + 1 := ⟨d - 1, by omega⟩
    exact R_cons hv (h2 h0) he

/-- A list or dictionary is opened. -/
theorem Inv.opens {t : ByteArray} {p i d : Nat} (h : Inv t p i d) (hi : i < t.size) (hc : (bt t i).toNat = 108 ∨ (bt t i).toNat = 100) : Inv t p (i + 1) (d + 1) := by
  refine .inr ⟨by omega, fun e he => ?_⟩
  obtain ⟨m, f, hv, hr⟩ := he
  have hone : V t (f + 1) false i m := by rw [V]; exact ⟨hi, .inr (.inl ⟨hc, hv⟩)⟩
  rcases h with ⟨rfl, rfl⟩ | ⟨h0, h⟩
  · have : m = e := hr
    subst this
    exact ⟨_, hone⟩
  · obtain ⟨d, rfl⟩ : ∃ k, d = k + 1 := ⟨d - 1, by omega⟩
    exact h e (R_cons hone (by omega) hr)

/-- One is closed. -/
theorem Inv.closes {t : ByteArray} {p i d : Nat} (h : Inv t p i (d + 1)) (hi : i < t.size) (hc : (bt t i).toNat = 101) : (d = 0 → ∃ g, V t g false p (i + 1)) ∧ (0 < d → Inv t p (i + 1) d) := by
  rcases h with ⟨h0, _⟩ | ⟨_, h⟩
  · omega
  · have hone : V t 1 true i (i + 1) := by rw [V]; exact ⟨hi, .inl ⟨hc, rfl⟩⟩
    refine ⟨fun h0 => ?_, fun h0 => .inr ⟨h0, fun e he => h e ⟨i + 1, 1, hone, he⟩⟩⟩
    subst h0
    exact h (i + 1) ⟨i + 1, 1, hone, rfl⟩

/-- The number that a list of digits spells. -/
def horner (l : List UInt8) : Nat := l.foldl (fun a c => 10 * a + (c.toNat - 48)) 0

theorem horner_snoc (l : List UInt8) (c : UInt8) : horner (l ++ [c]) = 10 * horner l + (c.toNat - 48) := by simp [horner]

theorem foldl_from (l : List UInt8) : ∀ a : Nat, l.foldl (fun a c => 10 * a + (c.toNat - 48)) a = a * 10 ^ l.length + horner l := by
  induction l with
  | nil => intro a; simp [horner]
  | cons c l ih =>
    intro a
    simp only [List.foldl_cons, List.length_cons, horner]
    rw [ih, ih (10 * 0 + (c.toNat - 48)), Nat.pow_succ, Nat.add_mul]
    have : 10 * a * 10 ^ l.length = a * (10 ^ l.length * 10) := by rw [Nat.mul_comm 10 a, Nat.mul_assoc, Nat.mul_comm 10]
    rw [this]; simp; omega

theorem horner_cons (c : UInt8) (l : List UInt8) : horner (c :: l) = (c.toNat - 48) * 10 ^ l.length + horner l := by
  have h1 := foldl_from l (c.toNat - 48)
  rw [← h1]
  simp [horner]

theorem horner_zero (l : List UInt8) : horner (48 :: l) = horner l := by rw [horner_cons]; simp

theorem horner_lt (l : List UInt8) (h : ∀ c ∈ l, c.toNat ≤ 57) : horner l < 10 ^ l.length := by
  induction l with
  | nil => simp [horner]
  | cons c l ih =>
    have h1 := h c (by simp)
    have h2 := ih (fun d hd => h d (by simp [hd]))
    rw [horner_cons, List.length_cons, Nat.pow_succ]
    have : (c.toNat - 48) * 10 ^ l.length ≤ 9 * 10 ^ l.length := Nat.mul_le_mul_right _ (by omega)
    omega

theorem take_bt (t : ByteArray) (i m : Nat) (h : i + m < t.size) : (t.data.toList.drop i).take (m + 1) = (t.data.toList.drop i).take m ++ [bt t (i + m)] := by
  rw [List.take_add_one, List.getElem?_drop, bt_at t (i + m) h]
  have h2 : t.data.toList[i + m]? = some t[i + m] := by simp [h]; rfl
  rw [h2]; rfl

/-- Digit by digit, and by the list: the same number. -/
theorem dv_horner (t : ByteArray) (i m : Nat) (h : i + m ≤ t.size) : dv t i m = horner ((t.data.toList.drop i).take m) := by
  induction m with
  | zero => simp [dv, horner]
  | succ m ih => rw [take_bt t i m (by omega), horner_snoc, dv, ih (by omega)]

end Go.Proofs.Qxb6605330a.Plain
