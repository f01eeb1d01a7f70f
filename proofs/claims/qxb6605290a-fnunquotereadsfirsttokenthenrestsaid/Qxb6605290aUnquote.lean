/-
  'unquote' of a terminated run, by its contract.
-/
import Derived.Test.Qxb6605290aSmall
import Derived.Test.Qxb6605290aShelf
import Derived.WalkSmall
import Derived.Lib.IndexLaws
import Derived.Deep.QuietTactic
import Derived.BigQuiet
namespace Go.Proofs.Qxb6605290a
open Go.RowKit Plain

/-- The place of the first c in s, or -1. -/
def ix (s : ByteArray) (c : UInt8) : Int := Lib.indexByte s.data.toList c

theorem ix_any (s : ByteArray) (c : UInt8) (w : World) : Calls Try.prog 34 #[.string s, .int .u8 (c.toNat : Int)] w fun e w' => e = .returned (.int .i64 (ix s c)) ∧ w' = w := by
  refine (Try.strings_IndexByte s (c.toNat : Int) w).mono ?_
  rintro e w' ⟨rfl, rfl⟩
  refine ⟨?_, rfl⟩
  unfold ix
  have : ((c.toNat : Int)).toNat.toUInt8 = c := by simp
  rw [this]

theorem ix_bs (s : ByteArray) (w : World) : Calls Try.prog 34 #[.string s, .int .u8 92] w fun e w' => e = .returned (.int .i64 (ix s 92)) ∧ w' = w := ix_any s 92 w

theorem ix_not (s : ByteArray) (c : UInt8) (h : ix s c < 0) : c ∉ s.data.toList := by
  have h1 := Lib.indexByte_ge s.data.toList c
  have h2 : Lib.indexByte s.data.toList c = -1 := by unfold ix at h; omega
  intro hm
  obtain ⟨k, hk⟩ := List.getElem?_of_mem hm
  exact Lib.indexByte_none h2 k hk

theorem step_q {q c : UInt8} {t : List UInt8} (hs : safe q (c :: t) = true) (h : c = q) : ∃ r, t = q :: r ∧ safe q r = true ∧ dec q (c :: t) = q :: dec q r := by
  subst h
  cases t with
  | nil => simp [safe] at hs
  | cons d r =>
    simp [safe] at hs
    obtain ⟨rfl, hs⟩ := hs
    exact ⟨r, rfl, hs, by simp [dec]⟩

theorem step_e {q c : UInt8} {t : List UInt8} (hs : safe q (c :: t) = true) (h : c ≠ q) (h1 : c = 92) (h2 : q ≠ 96) :
    ∃ d r, t = d :: r ∧ safe q r = true ∧ dec q (c :: t) = (if (unesc d).2 = true then [92, (unesc d).1] else [(unesc d).1]) ++ dec q r := by
  cases t with
  | nil => simp [safe, h1, h2] at hs
  | cons d r =>
    rw [safe, if_neg h, if_pos ⟨h1, h2⟩] at hs
    exact ⟨d, r, rfl, hs, by rw [dec, if_neg h, if_pos ⟨h1, h2⟩]⟩

theorem drop_at (s : ByteArray) (k : Nat) (h : k < s.size) : s.data.toList.drop k = s[k] :: s.data.toList.drop (k + 1) := by
  rw [List.drop_eq_getElem_cons (by simpa using h)]; rfl

/-- What holds at the head of each round. -/
structure Rel (q : UInt8) (B : ByteArray) (w wr : World) (k : Nat) (l : List UInt8) : Prop where
  builder : Lib.BuilderAt 32 5 w.heap.size w.heap.size (.pointer (some ⟨w.heap.size, 0, none⟩)) (Lib.byteCells l) wr
  below : Below w.heap.size w wr
  text : l ++ dec q (B.data.toList.drop k) = dec q B.data.toList
  safe : safe q (B.data.toList.drop k) = true
  len : l.length ≤ 2 * k
  le : k ≤ B.size

theorem cells_snoc (l : List UInt8) (c : UInt8) : Lib.byteCells l ++ [.int .u8 (c.toNat : Int)] = Lib.byteCells (l ++ [c]) := by simp [Lib.byteCells]

theorem grow_here (w : World) (nq n : Nat) (hn : n ≤ 281474976710656) :
    Calls Try.prog 23 #[.pointer (some ⟨w.heap.size, 0, none⟩), .int .i64 n] ((w.drewN nq).alloc (.cells #[.pointer none, .slice none 0 0] 32)) fun e w' =>
      e = .returned (.tuple #[]) ∧ Lib.BuilderAt 32 5 w.heap.size w.heap.size (.pointer (some ⟨w.heap.size, 0, none⟩)) (Lib.byteCells []) w' ∧ Below w.heap.size w w' := by
  have hb : Below w.heap.size w ((w.drewN nq).alloc (.cells #[.pointer none, .slice none 0 0] 32)) := (below_drewN (Below.refl _ _) nq).alloc (by simp) _
  refine (Try.Builder_Grow_fresh w.heap.size w.heap.size n _ (Nat.le_refl _) ?_ hb.size hn).mono ?_
  · have := heap_alloc_new (w.drewN nq) (.cells #[.pointer none, .slice none 0 0] 32)
    simpa using this
  · rintro e w' ⟨rfl, h1, h2⟩
    exact ⟨rfl, h1, hb.trans h2⟩

/-- One byte written. -/
theorem write_here {w wr : World} {l : List UInt8} (c : UInt8) (h : Lib.BuilderAt 32 5 w.heap.size w.heap.size (.pointer (some ⟨w.heap.size, 0, none⟩)) (Lib.byteCells l) wr) (hb : Below w.heap.size w wr) (hl : l.length + 1 ≤ 140737488355328) :
    Calls Try.prog 24 #[.pointer (some ⟨w.heap.size, 0, none⟩), .int .u8 (c.toNat : Int)] wr fun e w' =>
      e = .returned .nilIface ∧ Lib.BuilderAt 32 5 w.heap.size w.heap.size (.pointer (some ⟨w.heap.size, 0, none⟩)) (Lib.byteCells (l ++ [c])) w' ∧ Below w.heap.size w w' := by
  refine (Try.Builder_WriteByte w.heap.size w.heap.size (Lib.byteCells l) (c.toNat : Int) wr (.inr h) (by rw [Lib.byteCells_length]; exact hl) hb.size).mono ?_
  rintro e w' ⟨rfl, h1, h2⟩
  rw [cells_snoc] at h1
  exact ⟨rfl, h1, hb.trans h2⟩

theorem write_bs {w wr : World} {l : List UInt8} (h : Lib.BuilderAt 32 5 w.heap.size w.heap.size (.pointer (some ⟨w.heap.size, 0, none⟩)) (Lib.byteCells l) wr) (hb : Below w.heap.size w wr) (hl : l.length + 1 ≤ 140737488355328) :
    Calls Try.prog 24 #[.pointer (some ⟨w.heap.size, 0, none⟩), .int .u8 92] wr fun e w' =>
      e = .returned .nilIface ∧ Lib.BuilderAt 32 5 w.heap.size w.heap.size (.pointer (some ⟨w.heap.size, 0, none⟩)) (Lib.byteCells (l ++ [92])) w' ∧ Below w.heap.size w w' := write_here 92 h hb hl

theorem string_here {w wr : World} {l : List UInt8} (h : Lib.BuilderAt 32 5 w.heap.size w.heap.size (.pointer (some ⟨w.heap.size, 0, none⟩)) (Lib.byteCells l) wr) (hb : Below w.heap.size w wr) :
    Calls Try.prog 25 #[.pointer (some ⟨w.heap.size, 0, none⟩)] wr fun e w' => e = .returned (.string ⟨l.toArray⟩) ∧ Below w.heap.size w w' := by
  refine (Try.Builder_String_any w.heap.size w.heap.size l wr (.inr h) hb.size).mono ?_
  rintro e w' ⟨rfl, h2⟩
  exact ⟨rfl, hb.trans h2⟩

theorem Rel.start {q : UInt8} {B : ByteArray} {w wr : World} (hs : Plain.safe q B.data.toList = true) (h1 : Lib.BuilderAt 32 5 w.heap.size w.heap.size (.pointer (some ⟨w.heap.size, 0, none⟩)) (Lib.byteCells []) wr) (h2 : Below w.heap.size w wr) :
    Rel q B w wr 0 [] := ⟨h1, h2, rfl, hs, by simp, by simp⟩

/-- The builder that the call made holds the bytes l. -/
def Held (w wr : World) (l : List UInt8) : Prop :=
  Lib.BuilderAt 32 5 w.heap.size w.heap.size (.pointer (some ⟨w.heap.size, 0, none⟩)) (Lib.byteCells l) wr ∧ Below w.heap.size w wr

theorem Rel.next_q {q : UInt8} {B : ByteArray} {w wr : World} {k : Nat} {l : List UInt8} (R : Rel q B w wr k l) (hk : k < B.size) (h : B[k] = q) :
    k + 1 < B.size ∧ ∀ w', Held w w' (l ++ [B[k]]) → Rel q B w w' (k + 2) (l ++ [B[k]]) := by
  have hs := R.safe
  have ht := R.text
  rw [drop_at B k hk] at hs ht
  obtain ⟨r, hr, hs', hd⟩ := step_q hs h
  have hl : k + 1 < B.size := by
    have := congrArg List.length hr
    simp at this
    omega
  rw [drop_at B (k + 1) hl] at hr
  have hr2 : B.data.toList.drop (k + 2) = r := (List.cons.inj hr).2
  refine ⟨hl, fun w' hw => ⟨hw.1, hw.2, ?_, by rw [hr2]; exact hs', by have := R.len; simp; omega, by omega⟩⟩
  rw [hr2, ← ht, hd, h]
  simp

theorem Rel.next_e {q : UInt8} {B : ByteArray} {w wr : World} {k : Nat} {l : List UInt8} (R : Rel q B w wr k l) (hk : k < B.size) (h : B[k] ≠ q) (h1 : B[k] = 92) (h2 : q ≠ 96) :
    ∃ hl : k + 1 < B.size, ∀ w', Held w w' (l ++ (if (unesc B[k + 1]).2 = true then [92, (unesc B[k + 1]).1] else [(unesc B[k + 1]).1])) → Rel q B w w' (k + 2) (l ++ (if (unesc B[k + 1]).2 = true then [92, (unesc B[k + 1]).1] else [(unesc B[k + 1]).1])) := by
  have hs := R.safe
  have ht := R.text
  rw [drop_at B k hk] at hs ht
  obtain ⟨d, r, hr, hs', hd⟩ := step_e hs h h1 h2
  have hl : k + 1 < B.size := by
    have := congrArg List.length hr
    simp at this
    omega
  rw [drop_at B (k + 1) hl] at hr
  have hr1 : B[k + 1] = d := (List.cons.inj hr).1
  have hr2 : B.data.toList.drop (k + 2) = r := (List.cons.inj hr).2
  refine ⟨hl, fun w' hw => ⟨hw.1, hw.2, ?_, by rw [hr2]; exact hs', ?_, by omega⟩⟩
  · rw [hr2, hr1, ← ht, hd]
    simp
  · have := R.len
    split <;> (simp; omega)

theorem Rel.next_p {q : UInt8} {B : ByteArray} {w wr : World} {k : Nat} {l : List UInt8} (R : Rel q B w wr k l) (hk : k < B.size) (h : B[k] ≠ q) (h1 : ¬ (B[k] = 92 ∧ q ≠ 96)) :
    ∀ w', Held w w' (l ++ [B[k]]) → Rel q B w w' (k + 1) (l ++ [B[k]]) := by
  have hs := R.safe
  have ht := R.text
  rw [drop_at B k hk] at hs ht
  rw [safe_plain q _ _ h h1] at hs
  rw [dec_plain q _ _ h h1] at ht
  intro w' hw
  refine ⟨hw.1, hw.2, ?_, hs, by have := R.len; simp; omega, by omega⟩
  rw [← ht]; simp

theorem Rel.room {q : UInt8} {B : ByteArray} {w wr : World} {k : Nat} {l : List UInt8} (R : Rel q B w wr k l) (hB : B.size ≤ 4194302) : l.length + 2 ≤ 140737488355328 := by
  have := R.len
  have := R.le
  omega

/-- At the loop's end. -/
theorem Rel.done {q : UInt8} {B : ByteArray} {w wr : World} {k : Nat} {l : List UInt8} (R : Rel q B w wr k l) (hk : ¬ k < B.size) : l = dec q B.data.toList := by
  have := R.text
  rw [List.drop_eq_nil_of_le (by have : B.data.toList.length = B.size := by simp
                                 omega)] at this
  simpa [dec] using this

set_option maxHeartbeats 1000000 in
set_option maxRecDepth 100000 in
theorem unquote_any (run : ByteArray) (q : UInt8) (b : List UInt8) (w : World) (hr : Hid (run.data.toList = q :: b ++ [q])) (hz : run.size ≤ 4194304) (hsafe : Hid (safe q b = true)) :
    Calls Try.prog 28 #[.string run] w fun e w' => e = .returned (.string ⟨(dec q b).toArray⟩) ∧ Below w.heap.size w w' := by
  have hrl : run.size = b.length + 2 := by
    have := congrArg List.length hr.out
    simp at this
    have h2 : run.data.toList.length = run.size := by simp
    simp at h2
    omega
  have g0 : 0 < run.size := by omega
  have g1 : (0 : Int) < (run.size : Int) := by omega
  have g2 : (2 : Int) ≤ (run.size : Int) := by omega
  have hq : run[0] = q := by
    have h3 : run.data.toList[0]? = some run[0] := by simp [g0]; rfl
    rw [hr.out] at h3
    simpa using h3.symm
  obtain ⟨B, hB⟩ : ∃ B, run.extract 1 (run.size - 1) = B := ⟨_, rfl⟩
  have HB : Hid (B.data.toList = b) := by
    show B.data.toList = b
    rw [← hB, Lib.extract_data, hr.out, hrl]
    simp
  have hBs : B.size = b.length := by rw [← HB.out]; simp
  have hBz : B.size ≤ 4194302 := by omega
  clear hrl hBs
  obtain ⟨E, hE⟩ : ∃ E, ((q.toNat : Int) != 96) = E := ⟨_, rfl⟩
  by_cases hi1 : ix B q < 0
  · cases E
    · have hdec := dec_same q b (by rw [← HB.out]; exact ix_not _ _ hi1) (.inl (esc_no hE))
      have HD : Hid (B = ⟨(dec q b).toArray⟩) := by show B = ⟨(dec q b).toArray⟩; rw [hdec, ← HB.out]
      clear hdec
      go_enter Try.func28, Try.ntmps28
      go_wp2
      go_quiet (fail)
      go_wp2_with (first | (go_at_call 22; go_must (refine (isString_any _ _).mono ?_); rintro e w' ⟨rfl, rfl⟩) | (go_at_call 34; go_must (refine (ix_any _ _ _).mono ?_); rintro e w' ⟨rfl, rfl⟩))
      go_ret
      exact ⟨congrArg (fun x => Ending.returned (.string x)) HD.out, below_drewN (Below.refl _ _) _⟩
    · by_cases hi2 : ix B 92 < 0
      · have hdec := dec_same q b (by rw [← HB.out]; exact ix_not _ _ hi1) (.inr (by rw [← HB.out]; exact ix_not _ _ hi2))
        have HD : Hid (B = ⟨(dec q b).toArray⟩) := by show B = ⟨(dec q b).toArray⟩; rw [hdec, ← HB.out]
        clear hdec
        go_enter Try.func28, Try.ntmps28
        go_wp2
        go_quiet (fail)
        go_wp2_with (first | (go_at_call 22; go_must (refine (isString_any _ _).mono ?_); rintro e w' ⟨rfl, rfl⟩) | (go_at_call_of 34 (Value.int .u8 92); go_must (refine (ix_bs _ _).mono ?_); rintro e w' ⟨rfl, rfl⟩) | (go_at_call 34; go_must (refine (ix_any _ _ _).mono ?_); rintro e w' ⟨rfl, rfl⟩))
        go_ret
        exact ⟨congrArg (fun x => Ending.returned (.string x)) HD.out, below_drewN (Below.refl _ _) _⟩
      · have hi2 : 0 ≤ ix B 92 := by omega
        go_enter Try.func28, Try.ntmps28
        go_wp2
        go_quiet (fail)
        go_wp2_with (first | (go_at_call 22; go_must (refine (isString_any _ _).mono ?_); rintro e w' ⟨rfl, rfl⟩) | (go_at_call_of 34 (Value.int .u8 92); go_must (refine (ix_bs _ _).mono ?_); rintro e w' ⟨rfl, rfl⟩) | (go_at_call 34; go_must (refine (ix_any _ _ _).mono ?_); rintro e w' ⟨rfl, rfl⟩) | (go_at_call 23; go_must (refine (grow_here _ _ _ (by omega)).mono ?_); rintro e w1 ⟨rfl, hbu, hbe⟩))
        go_loopw [7] (fun i wr => ∃ k l, i = .int .i64 (k : Nat) ∧ Rel q B w wr k l) (fun i _ => B.size - (intOf i).toNat)
        case atStart => exact ⟨0, [], rfl, Rel.start (by rw [HB.out]; exact hsafe.out) hbu hbe⟩
        case round =>
          obtain ⟨k, l, rfl, R⟩ := hrel
          have hroom : Hid (l.length + 2 ≤ 140737488355328) := R.room hBz
          have hroom1 : Hid (l.length + 1 ≤ 140737488355328) := Nat.le_trans (by omega) hroom.out
          by_cases hlt : k < B.size
          · by_cases c1 : ((B[k].toNat : Int) == (q.toNat : Int)) = true
            · obtain ⟨hl, hn⟩ := R.next_q hlt (byte_is c1)
              have hbu1 := R.builder
              have hbe1 := R.below
              clear R
              go_wp2_with (go_at_call 24; go_must (refine (write_here _ hbu1 hbe1 hroom1.out).mono ?_); rintro e w2 ⟨rfl, hbu2, hbe2⟩)
              go_roundw
              case rel => exact ⟨k + 2, _, by go_num, hn _ ⟨hbu2, hbe2⟩⟩
              case measure => simp [intOf]; omega
            · have c1f : ((B[k].toNat : Int) == (q.toNat : Int)) = false := by simpa using c1
              clear c1
              by_cases c2 : ((B[k].toNat : Int) == 92) = true
              · obtain ⟨hl, hn⟩ := R.next_e hlt (byte_ne c1f) (byte_is (d := 92) c2) (esc_yes hE)
                have hbu1 := R.builder
                have hbe1 := R.below
                have hli : (k : Int) + 1 < (B.size : Int) := by omega
                have HN : Hid (∀ w', Held w w' (l ++ (if (unesc B[k + 1]).2 = true then [92, (unesc B[k + 1]).1] else [(unesc B[k + 1]).1])) → Rel q B w w' (k + 2) (l ++ (if (unesc B[k + 1]).2 = true then [92, (unesc B[k + 1]).1] else [(unesc B[k + 1]).1]))) := hn
                clear R hn
                by_cases c3 : (unesc B[k + 1]).2 = true
                · go_wp2_with (go_at_call 35; go_must (refine (unescape_any _ _).mono ?_); rintro e w2 ⟨rfl, rfl⟩)
                  refine (write_bs hbu1 hbe1 hroom1.out).mono ?_
                  rintro e w2 ⟨rfl, hbu2, hbe2⟩
                  go_wp2_with (go_at_call 24; go_must (refine (write_here _ hbu2 hbe2 ?_).mono ?_))
                  · have := hroom.out; simp; omega
                  · rintro e w3 ⟨rfl, hbu3, hbe3⟩
                    have hn := HN.out
                    simp only [c3, if_true] at hn
                    go_wp2
                    go_roundw
                    case rel => exact ⟨k + 2, _, by go_num, hn _ ⟨by simpa using hbu3, hbe3⟩⟩
                    case measure => simp [intOf]; omega
                · have c3f : (unesc B[k + 1]).2 = false := by simpa using c3
                  clear c3
                  go_wp2_with (first | (go_at_call 35; go_must (refine (unescape_any _ _).mono ?_); rintro e w2 ⟨rfl, rfl⟩) | (go_at_call 24; go_must (refine (write_here _ hbu1 hbe1 hroom1.out).mono ?_); rintro e w2 ⟨rfl, hbu2, hbe2⟩))
                  have hn := HN.out
                  simp only [c3f, Bool.false_eq_true, if_false] at hn
                  go_roundw
                  case rel => exact ⟨k + 2, _, by go_num, hn _ ⟨hbu2, hbe2⟩⟩
                  case measure => simp [intOf]; omega
              · have c2f : ((B[k].toNat : Int) == 92) = false := by simpa using c2
                clear c2
                have hn := R.next_p hlt (byte_ne c1f) (fun h => byte_ne (d := 92) c2f h.1)
                have hbu1 := R.builder
                have hbe1 := R.below
                clear R
                go_wp2_with (go_at_call 24; go_must (refine (write_here _ hbu1 hbe1 hroom1.out).mono ?_); rintro e w2 ⟨rfl, hbu2, hbe2⟩)
                go_roundw
                case rel => exact ⟨k + 1, _, by go_num, hn _ ⟨hbu2, hbe2⟩⟩
                case measure => simp [intOf]; omega
          · have hd := R.done hlt
            rw [HB.out] at hd
            have HD : Hid (l = dec q b) := hd
            have hbu1 := R.builder
            have hbe1 := R.below
            clear R hd
            go_wp2_with (go_at_call 25; go_must (refine (string_here hbu1 hbe1).mono ?_); rintro e w2 ⟨rfl, hbe2⟩)
            go_ret
            exact ⟨congrArg (fun x => Ending.returned (.string ⟨List.toArray x⟩)) HD.out, hbe2⟩
  · have hi1 : 0 ≤ ix B q := by omega
    go_enter Try.func28, Try.ntmps28
    go_wp2
    go_quiet (fail)
    go_wp2_with (first | (go_at_call 22; go_must (refine (isString_any _ _).mono ?_); rintro e w' ⟨rfl, rfl⟩) | (go_at_call 34; go_must (refine (ix_any _ _ _).mono ?_); rintro e w' ⟨rfl, rfl⟩) | (go_at_call 23; go_must (refine (grow_here _ _ _ (by omega)).mono ?_); rintro e w1 ⟨rfl, hbu, hbe⟩))
    go_loopw [7] (fun i wr => ∃ k l, i = .int .i64 (k : Nat) ∧ Rel q B w wr k l) (fun i _ => B.size - (intOf i).toNat)
    case atStart => exact ⟨0, [], rfl, Rel.start (by rw [HB.out]; exact hsafe.out) hbu hbe⟩
    case round =>
      obtain ⟨k, l, rfl, R⟩ := hrel
      have hroom : Hid (l.length + 2 ≤ 140737488355328) := R.room hBz
      have hroom1 : Hid (l.length + 1 ≤ 140737488355328) := Nat.le_trans (by omega) hroom.out
      by_cases hlt : k < B.size
      · by_cases c1 : ((B[k].toNat : Int) == (q.toNat : Int)) = true
        · obtain ⟨hl, hn⟩ := R.next_q hlt (byte_is c1)
          have hbu1 := R.builder
          have hbe1 := R.below
          clear R
          go_wp2_with (go_at_call 24; go_must (refine (write_here _ hbu1 hbe1 hroom1.out).mono ?_); rintro e w2 ⟨rfl, hbu2, hbe2⟩)
          go_roundw
          case rel => exact ⟨k + 2, _, by go_num, hn _ ⟨hbu2, hbe2⟩⟩
          case measure => simp [intOf]; omega
        · have c1f : ((B[k].toNat : Int) == (q.toNat : Int)) = false := by simpa using c1
          clear c1
          by_cases c2 : ((B[k].toNat : Int) == 92) = true
          · cases E
            · have hn := R.next_p hlt (byte_ne c1f) (fun h => h.2 (esc_no hE))
              have hbu1 := R.builder
              have hbe1 := R.below
              clear R
              go_wp2_with (go_at_call 24; go_must (refine (write_here _ hbu1 hbe1 hroom1.out).mono ?_); rintro e w2 ⟨rfl, hbu2, hbe2⟩)
              go_roundw
              case rel => exact ⟨k + 1, _, by go_num, hn _ ⟨hbu2, hbe2⟩⟩
              case measure => simp [intOf]; omega
            · obtain ⟨hl, hn⟩ := R.next_e hlt (byte_ne c1f) (byte_is (d := 92) c2) (esc_yes hE)
              have hbu1 := R.builder
              have hbe1 := R.below
              have hli : (k : Int) + 1 < (B.size : Int) := by omega
              have HN : Hid (∀ w', Held w w' (l ++ (if (unesc B[k + 1]).2 = true then [92, (unesc B[k + 1]).1] else [(unesc B[k + 1]).1])) → Rel q B w w' (k + 2) (l ++ (if (unesc B[k + 1]).2 = true then [92, (unesc B[k + 1]).1] else [(unesc B[k + 1]).1]))) := hn
              clear R hn
              by_cases c3 : (unesc B[k + 1]).2 = true
              · go_wp2_with (go_at_call 35; go_must (refine (unescape_any _ _).mono ?_); rintro e w2 ⟨rfl, rfl⟩)
                refine (write_bs hbu1 hbe1 hroom1.out).mono ?_
                rintro e w2 ⟨rfl, hbu2, hbe2⟩
                go_wp2_with (go_at_call 24; go_must (refine (write_here _ hbu2 hbe2 ?_).mono ?_))
                · have := hroom.out; simp; omega
                · rintro e w3 ⟨rfl, hbu3, hbe3⟩
                  have hn := HN.out
                  simp only [c3, if_true] at hn
                  go_wp2
                  go_roundw
                  case rel => exact ⟨k + 2, _, by go_num, hn _ ⟨by simpa using hbu3, hbe3⟩⟩
                  case measure => simp [intOf]; omega
              · have c3f : (unesc B[k + 1]).2 = false := by simpa using c3
                clear c3
                go_wp2_with (first | (go_at_call 35; go_must (refine (unescape_any _ _).mono ?_); rintro e w2 ⟨rfl, rfl⟩) | (go_at_call 24; go_must (refine (write_here _ hbu1 hbe1 hroom1.out).mono ?_); rintro e w2 ⟨rfl, hbu2, hbe2⟩))
                have hn := HN.out
                simp only [c3f, Bool.false_eq_true, if_false] at hn
                go_roundw
                case rel => exact ⟨k + 2, _, by go_num, hn _ ⟨hbu2, hbe2⟩⟩
                case measure => simp [intOf]; omega
          · have c2f : ((B[k].toNat : Int) == 92) = false := by simpa using c2
            clear c2
            have hn := R.next_p hlt (byte_ne c1f) (fun h => byte_ne (d := 92) c2f h.1)
            have hbu1 := R.builder
            have hbe1 := R.below
            clear R
            go_wp2_with (go_at_call 24; go_must (refine (write_here _ hbu1 hbe1 hroom1.out).mono ?_); rintro e w2 ⟨rfl, hbu2, hbe2⟩)
            go_roundw
            case rel => exact ⟨k + 1, _, by go_num, hn _ ⟨hbu2, hbe2⟩⟩
            case measure => simp [intOf]; omega
      · have hd := R.done hlt
        rw [HB.out] at hd
        have HD : Hid (l = dec q b) := hd
        have hbu1 := R.builder
        have hbe1 := R.below
        clear R hd
        go_wp2_with (go_at_call 25; go_must (refine (string_here hbu1 hbe1).mono ?_); rintro e w2 ⟨rfl, hbe2⟩)
        go_ret
        exact ⟨congrArg (fun x => Ending.returned (.string ⟨List.toArray x⟩)) HD.out, hbe2⟩
end Go.Proofs.Qxb6605290a
