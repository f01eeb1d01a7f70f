/-
  'zzWriteRun': a loop that appends to a slice of the call's own; its contract.
-/
import Derived.Test.Qxb6605290aSmall
import Derived.Laws.IdiomStrings
import Derived.WalkSmall
namespace Go.Proofs.Qxb6605290a
open Go.RowKit Plain

theorem Try.info5 : (Try.prog.info? 5).map (fun i => (i.zero, i.size, i.bytes)) = some (some (.int .u8 0), 1, 1) := by kernel_rfl

/-- Bytes as cells. -/
def bv (l : List UInt8) : List Value := l.map fun b => Value.int .u8 (b.toNat : Int)

theorem bv_append (a b : List UInt8) : bv (a ++ b) = bv a ++ bv b := by simp [bv]
theorem bv_length (a : List UInt8) : (bv a).length = a.length := by simp [bv]
theorem bv_one (a : List UInt8) : ∀ u ∈ bv a, u.oneCell' = true := by
  intro u hu
  simp only [bv, List.mem_map] at hu
  obtain ⟨b, _, rfl⟩ := hu
  rfl

/-- The slice v is the call's own and holds the bytes l; what lay below stands. -/
structure Own (w wr : World) (v : Value) (l : List UInt8) : Prop where
  row : wr.ownsRow w.heap.size 5 1 v l.length (bv l)
  below : Below w.heap.size w wr

theorem Own.size {w wr : World} {v : Value} {l : List UInt8} (h : Own w wr v l) : w.heap.size ≤ wr.heap.size := h.below.size

/-- Behind an append whose operand was laid in a new block. -/
theorem Own.push {w wr w1 : World} {v v' : Value} {l m : List UInt8} {o : Obj} (h : Own w wr v l)
    (h1 : w1.ownsRow w.heap.size 5 1 v' (l.length + m.length) (bv l ++ bv m)) (hg : (wr.alloc o).grownBy w1 v.ownBlock) : Own w w1 v' (l ++ m) := by
  refine ⟨by rw [List.length_append, bv_append]; exact h1, ?_⟩
  refine (h.below.alloc h.size o).grown hg (by have := h.size; simp; omega) fun k hk => ?_
  exact (h.row.lt k hk).1

/-- 'out = append(out, ..)', out the call's own: the law at this program's bytes. -/
theorem push_law {w wr : World} {ops : Array Oper} {rest : List Oper} {o : Oper} {a : Act} {Q : Exit → Act → World → Prop} (hgd : o.guard = none) (s x : Operand)
    (ho : o.op = .call { callee := .builtin .append, args := #[s, x], argTypes := #[30, 30] }) {v : Value} {l : List UInt8} (O : Own w wr v l) (m : List UInt8) (c : Nat) (ob : Obj)
    (hs : a.eval s = v) (hx : a.eval x = .slice (some ⟨wr.heap.size, 0, none⟩) m.length c)
    (hnews : ∀ j u, (bv m)[j]? = some u → (wr.alloc ob).cell? ((⟨wr.heap.size, 0, none⟩ : Addr).add j) = some u) (hlen : l.length + m.length ≤ 140737488355328)
    (h : ∀ v' w', Own w w' v' (l ++ m) → wpList Try.prog ops Q rest (a.put o.dst v') w') : wpList Try.prog ops Q (o :: rest) a (wr.alloc ob) := by
  obtain ⟨i0, hi, hz0, hz1, hz2⟩ := info_parts Try.info5
  refine wpList_append_own _ hgd s x 30 ho w.heap.size 5 i0 (.int .u8 0) 1 1 Try.underlying30 hi hz0 hz1 hz2 rfl (by decide) v l.length (bv l) hs (O.row.alloc _) _ m.length c (bv m) hx (by rw [bv_length]; omega) hnews (bv_one _) (by unfold maxLen; omega) (by omega) (by have := O.size; simp; omega) ?_
  intro v' w' h1 h2 _
  exact h v' w' (O.push h1 h2)

theorem take_snoc (s : ByteArray) (k : Nat) (h : k < s.size) : s.data.toList.take (k + 1) = s.data.toList.take k ++ [s[k]] := by
  rw [List.take_succ_eq_append_getElem (by simpa using h)]; rfl

theorem enc_snoc (q : UInt8) (s : ByteArray) (k : Nat) (h : k < s.size) : enc q (s.data.toList.take (k + 1)) = enc q (s.data.toList.take k) ++ encOne q s[k] := by
  rw [take_snoc s k h]; simp [enc]

theorem encOne_len (q c : UInt8) : (encOne q c).length ≤ 2 := by
  unfold encOne
  repeat' split
  all_goals simp

theorem enc_len (q : UInt8) (l : List UInt8) : (enc q l).length ≤ 2 * l.length := by
  induction l with
  | nil => simp [enc]
  | cons c l ih =>
    have e : enc q (c :: l) = encOne q c ++ enc q l := rfl
    have := encOne_len q c
    rw [e]; simp; omega

theorem enc1 {q c : UInt8} (h : ((c.toNat : Int) == (q.toNat : Int)) = true) : encOne q c = [q, q] := by
  unfold encOne; rw [if_pos (byte_is h)]
theorem enc2 {q c : UInt8} (h : ((c.toNat : Int) == (q.toNat : Int)) = false) (e : ((q.toNat : Int) != 96) = true) (h2 : ((c.toNat : Int) == 92) = true) : encOne q c = [92, 92] := by
  unfold encOne; rw [if_neg (byte_ne h), if_pos ⟨esc_yes e, byte_is (d := 92) h2⟩]
theorem enc3 {q c : UInt8} (h : ((c.toNat : Int) == (q.toNat : Int)) = false) (e : ((q.toNat : Int) != 96) = true) (h2 : ((c.toNat : Int) == 92) = false) (h3 : (letterFor c).2 = true) : encOne q c = [92, (letterFor c).1] := by
  unfold encOne; rw [if_neg (byte_ne h), if_neg (fun x => byte_ne (d := 92) h2 x.2), if_pos ⟨h3, esc_yes e⟩]
theorem enc4 {q c : UInt8} (h : ((c.toNat : Int) == (q.toNat : Int)) = false) (h2 : ((c.toNat : Int) == 92) = false) (h3 : (letterFor c).2 = false) : encOne q c = [c] := by
  unfold encOne; rw [if_neg (byte_ne h), if_neg (fun x => byte_ne (d := 92) h2 x.2), if_neg (fun x => by rw [h3] at x; exact absurd x.1 (by decide))]
theorem enc5 {q c : UInt8} (h : ((c.toNat : Int) == (q.toNat : Int)) = false) (e : ((q.toNat : Int) != 96) = false) : encOne q c = [c] := by
  unfold encOne; rw [if_neg (byte_ne h), if_neg (fun x => x.1 (esc_no e)), if_neg (fun x => x.2 (esc_no e))]

theorem rel_step {w wr : World} {v : Value} {q : UInt8} {s : ByteArray} {k : Nat} (hk : k < s.size) {m : List UInt8} (O : Own w wr v (q :: enc q (s.data.toList.take k) ++ m)) (hm : encOne q s[k] = m) :
    Own w wr v (q :: enc q (s.data.toList.take (k + 1))) := by
  rw [enc_snoc q s k hk, hm]; exact O

/-- 'string(out)': the number of bytes and the text behind names, so that the walk leaves them as they stand. -/
theorem own_string {w wr : World} {v : Value} {l : List UInt8} (O : Own w wr v l) (h : 0 < l.length) :
    ∃ g n cap str, v = .slice (some ⟨g, 0, none⟩) n cap ∧ (convert 30 9 (.slice (some ⟨g, 0, none⟩) n cap)).run Try.prog wr = .ok (.string str) wr ∧ Hid (str = ⟨l.toArray⟩) := by
  rcases O.row.2 with ⟨_, h0⟩ | ⟨g, cap, cur, hv, _⟩
  · omega
  · refine ⟨g, l.length, cap, ⟨l.toArray⟩, hv, ?_, rfl⟩
    subst hv
    exact run_convert_bytes_back (P := Try.prog) wr 30 9 5 ⟨g, 0, none⟩ cap l Try.underlying30 Try.underlying5 Try.underlying9 (fun j hj => O.row.cells (g := g) rfl j _ (by simp [bv, hj]))

set_option maxHeartbeats 1000000 in
set_option maxRecDepth 100000 in
theorem writeRun_any (q : UInt8) (s : ByteArray) (w : World) (hs : s.size ≤ 1048576) :
    Calls Try.prog 20 #[.int .u8 (q.toNat : Int), .string s] w fun e w' => e = .returned (.string ⟨(q :: enc q s.data.toList ++ [q]).toArray⟩) ∧ Below w.heap.size w w' := by
  obtain ⟨i0, hi, hz0, hz1, hz2⟩ := info_parts Try.info5
  obtain ⟨E, hE⟩ : ∃ E, ((q.toNat : Int) != 96) = E := ⟨_, rfl⟩
  go_enter Try.func20, Try.ntmps20
  go_wp2_with (first
    | (at_make; refine wpList_make_own _ rfl _ _ 30 rfl w.heap.size 5 i0 (.int .u8 0) 1 Try.underlying30 hi hz0 hz1 .i64 .i64 _ (2 * s.size + 2) rfl rfl ?m1 ?m2 ?m3 ?m4 ?_))
  case m1 => omega
  case m2 => rw [hz2]; omega
  case m3 => unfold maxLen; omega
  case m4 => exact Nat.le_refl _
  intro w1 hown1 hgrow1
  have O1 : Own w w1 (.slice (some ⟨w.heap.size, 0, none⟩) 0 (2 * s.size + 2)) [] := ⟨hown1, (Below.refl _ _).grown hgrow1 (Nat.le_refl _) (by simp)⟩
  clear hown1 hgrow1
  go_wp2_with (at_builtin; refine push_law rfl (.tmp 18) (.tmp 20) rfl O1 [q] 1 _ rfl rfl (cell_one_new _ _ _) (by simp) ?_)
  intro v2 w2 O2
  clear O1
  go_wp2
  go_loopw [6, 7] (fun v i wr => ∃ k : Nat, k ≤ s.size ∧ i = .int .i64 k ∧ Own w wr v (q :: enc q (s.data.toList.take k))) (fun _ i _ => s.size - (intOf i).toNat)
  case atStart => exact ⟨0, Nat.zero_le _, rfl, by simpa [enc] using O2⟩
  case round =>
    obtain ⟨k, hk, rfl, O⟩ := hrel
    clear O2
    have hl2 : Hid ((q :: enc q (s.data.toList.take k)).length + 2 ≤ 140737488355328) := by
      have := enc_len q (s.data.toList.take k)
      have := List.length_take_le k s.data.toList
      show (q :: enc q (s.data.toList.take k)).length + 2 ≤ 140737488355328
      simp only [List.length_cons]; omega
    have hl1 : Hid ((q :: enc q (s.data.toList.take k)).length + 1 ≤ 140737488355328) := Nat.le_trans (by omega) hl2.out
    by_cases hlt : k < s.size
    · by_cases c1 : ((s[k].toNat : Int) == (q.toNat : Int)) = true
      · go_wp2_with (first | (at_builtin; go_must (refine push_law rfl (.tmp 34) (.tmp 37) rfl O [q, q] 2 _ rfl rfl (cell_two_new _ _ _ _) hl2.out ?_)) | (go_at_call 30; go_must (refine (letter_any _ _).mono ?_); rintro e w' ⟨rfl, rfl⟩))
        intro v3 w3 O3
        clear O
        go_wp2
        go_roundw
        case rel => exact ⟨k + 1, by omega, by go_num, rel_step hlt O3 (enc1 c1)⟩
        case measure => simp [intOf]; omega
      · have c1f : ((s[k].toNat : Int) == (q.toNat : Int)) = false := by simpa using c1
        clear c1
        cases E
        rotate_left
        · by_cases c2 : ((s[k].toNat : Int) == 92) = true
          · go_wp2_with (first | (at_builtin; go_must (refine push_law rfl (.tmp 44) (.tmp 45) rfl O [92, 92] 2 _ rfl rfl (cell_two_new _ _ _ _) hl2.out ?_)) | (go_at_call 30; go_must (refine (letter_any _ _).mono ?_); rintro e w' ⟨rfl, rfl⟩))
            intro v3 w3 O3
            clear O
            go_wp2
            go_roundw
            case rel => exact ⟨k + 1, by omega, by go_num, rel_step hlt O3 (enc2 c1f hE c2)⟩
            case measure => simp [intOf]; omega
          · have c2f : ((s[k].toNat : Int) == 92) = false := by simpa using c2
            clear c2
            by_cases c3 : (letterFor s[k]).2 = true
            · go_wp2_with (first | (at_builtin; go_must (refine push_law rfl (.tmp 56) (.tmp 58) rfl O [92, (letterFor s[k]).1] 2 _ rfl rfl (cell_two_new _ _ _ _) hl2.out ?_)) | (go_at_call 30; go_must (refine (letter_any _ _).mono ?_); rintro e w' ⟨rfl, rfl⟩))
              intro v3 w3 O3
              clear O
              go_wp2
              go_roundw
              case rel => exact ⟨k + 1, by omega, by go_num, rel_step hlt O3 (enc3 c1f hE c2f c3)⟩
              case measure => simp [intOf]; omega
            · have c3f : (letterFor s[k]).2 = false := by simpa using c3
              clear c3
              go_wp2_with (first | (at_builtin; go_must (refine push_law rfl (.tmp 60) (.tmp 62) rfl O [s[k]] 1 _ rfl rfl (cell_one_new _ _ _) hl1.out ?_)) | (go_at_call 30; go_must (refine (letter_any _ _).mono ?_); rintro e w' ⟨rfl, rfl⟩))
              intro v3 w3 O3
              clear O
              go_wp2
              go_roundw
              case rel => exact ⟨k + 1, by omega, by go_num, rel_step hlt O3 (enc4 c1f c2f c3f)⟩
              case measure => simp [intOf]; omega
        · by_cases c3 : (letterFor s[k]).2 = true
          · go_wp2_with (first | (at_builtin; go_must (refine push_law rfl (.tmp 60) (.tmp 62) rfl O [s[k]] 1 _ rfl rfl (cell_one_new _ _ _) hl1.out ?_)) | (go_at_call 30; go_must (refine (letter_any _ _).mono ?_); rintro e w' ⟨rfl, rfl⟩))
            intro v3 w3 O3
            clear O
            go_wp2
            go_roundw
            case rel => exact ⟨k + 1, by omega, by go_num, rel_step hlt O3 (enc5 c1f hE)⟩
            case measure => simp [intOf]; omega
          · have c3f : (letterFor s[k]).2 = false := by simpa using c3
            clear c3
            go_wp2_with (first | (at_builtin; go_must (refine push_law rfl (.tmp 60) (.tmp 62) rfl O [s[k]] 1 _ rfl rfl (cell_one_new _ _ _) hl1.out ?_)) | (go_at_call 30; go_must (refine (letter_any _ _).mono ?_); rintro e w' ⟨rfl, rfl⟩))
            intro v3 w3 O3
            clear O
            go_wp2
            go_roundw
            case rel => exact ⟨k + 1, by omega, by go_num, rel_step hlt O3 (enc5 c1f hE)⟩
            case measure => simp [intOf]; omega
    · have hks : k = s.size := by omega
      subst hks
      have ht : s.data.toList.take s.size = s.data.toList := List.take_of_length_le (by simp)
      rw [ht] at O hl1
      go_wp2_with (at_builtin; go_must (refine push_law rfl (.tmp 64) (.tmp 66) rfl O [q] 1 _ rfl rfl (cell_one_new _ _ _) hl1.out ?_))
      intro v4 w4 O4
      obtain ⟨g, n, cap, str, hv, hcv, hstr⟩ := own_string O4 (by simp)
      subst hv
      have hb := O4.below
      clear O O4
      go_wp2
      go_ret
      exact ⟨congrArg (fun x => Ending.returned (.string x)) hstr.out, hb⟩
end Go.Proofs.Qxb6605290a
