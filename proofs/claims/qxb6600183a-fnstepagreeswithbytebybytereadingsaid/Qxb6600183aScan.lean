/-
  'step' as one law: whatever the state, it moves as the model does.
-/
import Derived.Test.Qxb6600183aPair
import Derived.Test.Qxb6600183aPlain
namespace Go.Proofs.Qxb6600183a
open Go.RowKit Plain

theorem len_size (s : ByteArray) : s.data.toList.length = s.size := (Lib.size_eq s).symm

theorem pair_eq (s : ByteArray) (i e : Nat) (hm : min ((i : Int) + 2) (s.size : Int) = (e : Int)) (a b : UInt8) : ((s.extract i e).toList == [a, b]) = pr s.data.toList i a b := by
  have hl := len_size s
  rw [Lib.toList_data, Lib.extract_data, Bool.eq_iff_iff, beq_iff_eq, pr, decide_eq_true_iff]
  generalize s.data.toList = L at *
  constructor
  · intro h
    have hlen := congrArg List.length h
    simp only [List.length_take, List.length_drop, List.length_cons, List.length_nil] at hlen
    have e0 := congrArg (fun x : List UInt8 => x[0]?) h
    have e1 := congrArg (fun x : List UInt8 => x[1]?) h
    simp only [List.getElem?_take, List.getElem?_drop] at e0 e1
    rw [if_pos (by omega)] at e0 e1
    exact ⟨by simpa using e0, by simpa using e1⟩
  · rintro ⟨h0, h1⟩
    have hlt := (List.getElem?_eq_some_iff.1 h1).1
    obtain rfl : e = i + 2 := by omega
    apply List.ext_getElem?
    intro j
    rw [List.getElem?_take, List.getElem?_drop]
    match j with
    | 0 => rw [if_pos (by omega)]; simpa using h0
    | 1 => rw [if_pos (by omega)]; simpa using h1
    | j + 2 => rw [if_neg (by omega)]; simp

theorem drop_at (s : ByteArray) (i j : Nat) : (s.extract i s.size).data.toList[j]? = s.data.toList[i + j]? := by
  rw [Lib.extract_data, List.getElem?_take, List.getElem?_drop]
  split
  · rfl
  · rw [List.getElem?_eq_none (by rw [len_size]; omega)]
theorem drop_len (s : ByteArray) (i : Nat) : (s.extract i s.size).data.toList.length = s.size - i := by
  rw [len_size, ByteArray.size_extract]; omega

theorem noAny_two {s : ByteArray} {i n : Nat} {a b : UInt8} (h : Lib.NoAny (s.extract i s.size).data.toList [a, b] n) : ∀ j, i ≤ j → j < i + n → s.data.toList[j]? ≠ some a ∧ s.data.toList[j]? ≠ some b := by
  intro j h1 h2
  have e := drop_at s i (j - i)
  rw [show i + (j - i) = j by omega] at e
  constructor <;> intro hh
  · have := h (j - i) a (by omega) (by rw [e]; exact hh)
    simp at this
  · have := h (j - i) b (by omega) (by rw [e]; exact hh)
    simp at this

/-- 'step', whatever the state. -/
theorem step_any (b : Nat) (q l : Bool) (d : Int) (s : ByteArray) (i : Nat) (w : World) (h : Sc b q l d w) (hs : s.size ≤ 1048576) (hi : i < s.size) (hd0 : 0 ≤ d) (hd1 : d ≤ 4294967296) :
    ∃ (q' l' : Bool) (d' : Int) (n : Nat), Calls Try.prog 33 #[.pointer (some ⟨b, 0, none⟩), .string s, .int .i64 (i : Int)] w (Left b q' l' d' n w) ∧ Fine s.data.toList q l d i q' l' d' n := by
  have hlen := len_size s
  cases q with
  | true =>
    by_cases hk : Lib.indexByte (s.extract i s.size).data.toList 39 = -1
    · refine ⟨true, l, d, s.size - i, ?_, fine_quoted_none _ l d i _ (by omega) (by omega) fun j h1 h2 => ?_⟩
      · have := step_quoted b l d s i w h hs hi (-1) hk (by omega)
        rw [show ((s.size - i : Nat) : Int) = (s.size : Int) - i by omega]
        exact this
      · have := Lib.indexByte_none hk (j - i)
        rw [drop_at, show i + (j - i) = j by omega] at this
        exact this
    · have hge := Lib.indexByte_ge (s.extract i s.size).data.toList 39
      obtain ⟨k, hk'⟩ : ∃ k : Nat, Lib.indexByte (s.extract i s.size).data.toList 39 = (k : Int) := ⟨(Lib.indexByte (s.extract i s.size).data.toList 39).toNat, by omega⟩
      obtain ⟨h1, h2⟩ := Lib.indexByte_some hk'
      rw [drop_at] at h1
      have hlt := (List.getElem?_eq_some_iff.1 h1).1
      refine ⟨false, l, d, k + 1, ?_, fine_quoted_some _ l d i k h1 fun j h3 h4 => ?_⟩
      · have := step_quoted b l d s i w h hs hi (k : Int) hk' (by omega)
        rw [if_neg (by omega), decide_eq_false (by omega)] at this
        exact this
      · have := h2 (j - i) (by omega)
        rw [drop_at, show i + (j - i) = j by omega] at this
        exact this
  | false =>
    cases l with
    | true =>
      rcases any_split (s.extract i s.size).data.toList [10, 13] with ⟨hk, hn⟩ | ⟨k, x, hk, hn, hx, hin⟩
      · rw [drop_len] at hn
        refine ⟨false, true, d, s.size - i, ?_, fine_line_none _ d i _ (by omega) (by omega) (noAny_two hn)⟩
        have := step_line b d s i w h hs hi (-1) hk (by omega)
        rw [show ((s.size - i : Nat) : Int) = (s.size : Int) - i by omega]
        exact this
      · rw [drop_at] at hx
        have hlt := (List.getElem?_eq_some_iff.1 hx).1
        refine ⟨false, false, d, k + 1, ?_, fine_line_some _ d i k (by simp at hin; rcases hin with rfl | rfl; exact .inl hx; exact .inr hx) (noAny_two hn)⟩
        have := step_line b d s i w h hs hi (k : Int) hk (by omega)
        rw [if_neg (by omega), decide_eq_false (by omega)] at this
        exact this
    | false =>
      obtain ⟨e, he⟩ : ∃ e : Nat, min ((i : Int) + 2) (s.size : Int) = (e : Int) := ⟨(min ((i : Int) + 2) (s.size : Int)).toNat, by omega⟩
      have he1 : i ≤ e := by omega
      have he2 : e ≤ s.size := by omega
      have P := fun a b => pair_eq s i e he a b
      by_cases hd : 0 < d
      · rcases any_split (s.extract i s.size).data.toList [47, 42] with ⟨hk, hn⟩ | ⟨k, x, hk, hn, hx, hin⟩
        · rw [drop_len] at hn
          refine ⟨false, false, d, s.size - i, ?_, fine_deep _ d hd i _ (by omega) (by omega) (noAny_two hn)⟩
          have := step_far b d s i w h hs hi hd (-1) hk (by omega)
          rw [show ((s.size - i : Nat) : Int) = (s.size : Int) - i by omega]
          exact this
        · rw [drop_at] at hx
          have hlt := (List.getElem?_eq_some_iff.1 hx).1
          by_cases hk0 : k = 0
          · subst hk0
            cases h1 : pr s.data.toList i 47 42 with
            | true => exact ⟨false, false, d + 1, 2, deep_open b d s i e w h hs hi hd hd1 hk he1 he2 he (by rw [P, h1]), fine_open _ d i h1⟩
            | false =>
              cases h2 : pr s.data.toList i 42 47 with
              | true => exact ⟨false, false, d - 1, 2, deep_close b d s i e w h hs hi hd hd1 hk he1 he2 he (by rw [P, h1]) (by rw [P, h2]), fine_close _ d hd i h1 h2⟩
              | false => exact ⟨false, false, d, 1, deep_else b d s i e w h hs hi hd hd1 hk he1 he2 he (by rw [P, h1]) (by rw [P, h2]), fine_stay _ d hd i (by omega) h1 h2⟩
          · refine ⟨false, false, d, k, ?_, fine_deep _ d hd i _ (by omega) (by omega) (noAny_two hn)⟩
            have := step_far b d s i w h hs hi hd (k : Int) hk (by omega)
            rw [if_neg (by omega)] at this
            exact this
      · cases h1 : pr s.data.toList i 47 42 with
        | true => exact ⟨false, false, d + 1, 2, flat_open b d s i e w h hs hi hd hd0 he1 he2 he (by rw [P, h1]), fine_open _ d i h1⟩
        | false =>
          cases h2 : pr s.data.toList i 45 45 with
          | true => exact ⟨false, true, d, 2, flat_line b d s i e w h hs hi hd hd0 he1 he2 he (by rw [P, h1]) (by rw [P, h2]), fine_dash _ d hd i h1 h2⟩
          | false =>
            refine ⟨decide (s.data.toList[i]? = some 39), false, d, 1, flat_else b d s i e w h hs hi hd hd0 he1 he2 he (by rw [P, h1]) (by rw [P, h2]) _ ?_, fine_plain _ d hd i (by omega) h1 h2⟩
            rw [Lib.data_getElem? s i hi, Bool.eq_iff_iff, beq_iff_eq, decide_eq_true_iff]
            constructor
            · intro hh
              have : s[i].toNat = (39 : UInt8).toNat := by show s[i].toNat = 39; omega
              rw [UInt8.toNat_inj.1 this]
            · intro hh
              rw [Option.some.inj hh]
              rfl

end Go.Proofs.Qxb6600183a
