/-
  The walk of 'FnFollowsDistributesOverJoin', out of the contracts of its callees.
-/
import Derived.Test.Qxb6003611aJoin
import Derived.Test.Qxb6003611aBuild
import Derived.Test.Qxb6003611aBytes
import Derived.Test.Qxb6003611aSame
namespace Go.Proofs.Qxb6003611a
open Go.RowKit Go.Maps Go.WideMaps Plain

/-- A slice of entries that came in: with what '== nil' says of it. -/
structure Came (w : World) (v : Value) (nb : Bool) (len : Nat) (K : Nat → ByteArray) (S : Nat → Nat) (b off : Nat) : Prop where
  hold : Ents w v len K S b off
  nil_run : ∀ w' : World, (binOp .eql 22 v (.slice none 0 0)).run Try.prog w' = .ok (.bool nb) w'
  guard_run : ∀ (w' : World) (x y : Operand), (eqGuard .eql 22 x y v (.slice none 0 0)).run Try.prog w' = .ok () w'
  nil_len : nb = true → len = 0
  len_le : len ≤ maxLen

theorem Came.below {w w' : World} {v : Value} {nb : Bool} {len : Nat} {K : Nat → ByteArray} {S : Nat → Nat} {b off : Nat} (h : Came w v nb len K S b off) (hb : Below w.heap.size w w') : Came w' v nb len K S b off :=
  ⟨h.hold.below hb, h.nil_run, h.guard_run, h.nil_len, h.len_le⟩

theorem Came.build {w : World} {v : Value} {nb : Bool} {len : Nat} {K : Nat → ByteArray} {S : Nat → Nat} {b off : Nat} (h : Came w v nb len K S b off) (hl : len ≤ 1048576) : Calls Try.prog 11 #[v] w fun e w' => Built w len (build (ents K S len)) e w' :=
  build_any v nb len K S b off w h.hold hl h.nil_run h.guard_run h.nil_len

/-- The i-th key of both lists together. -/
def keyAt (la : Nat) (Ka Kb : Nat → ByteArray) (i : Nat) : ByteArray := if i < la then Ka i else Kb (i - la)
def keysTo (la : Nat) (Ka Kb : Nat → ByteArray) (k : Nat) : List (List UInt8) := (List.range k).map fun i => (keyAt la Ka Kb i).data.toList

theorem keysTo_succ (la : Nat) (Ka Kb : Nat → ByteArray) (k : Nat) : keysTo la Ka Kb (k + 1) = keysTo la Ka Kb k ++ [(keyAt la Ka Kb k).data.toList] := by
  unfold keysTo; rw [List.range_succ, List.map_append]; rfl

theorem keysTo_all (la lb : Nat) (Ka Kb : Nat → ByteArray) (Sa Sb : Nat → Nat) : keysTo la Ka Kb (la + lb) = (ents Ka Sa la).map Prod.fst ++ (ents Kb Sb lb).map Prod.fst := by
  unfold keysTo
  rw [ents_keys, ents_keys, List.range_add, List.map_append, List.map_map]
  congr 1
  · apply List.map_congr_left
    intro i hi
    rw [List.mem_range] at hi
    simp [keyAt, hi]
  · apply List.map_congr_left
    intro i _
    show (keyAt la Ka Kb (la + i)).data.toList = (Kb i).data.toList
    unfold keyAt
    rw [if_neg (by omega), show la + i - la = i by omega]

/-- The test and the number of the first law. -/
def cJ (later : ByteArray) (A B : List UInt8 → Option Nat) (k : List UInt8) : Bool := other later.data.toList k && decide (0 < max (val (A k)) (val (B k)))
def sJ (A B : List UInt8 → Option Nat) (k : List UInt8) : Nat := max (val (A k)) (val (B k))

theorem below_trans {w w1 w2 : World} (h : Below w.heap.size w w1) (k : Below w1.heap.size w1 w2) : Below w.heap.size w w2 := h.trans (k.mono h.size)

theorem Makes.map {w w' : World} {N : Nat} {F : List UInt8 → Option Nat} {e : Ending} (h : Makes w N F e w') : e = .returned (.map (some w.heap.size)) ∧ MapIs w' (.map (some w.heap.size)) N F ∧ Below w.heap.size w w' :=
  ⟨h.1, .inr ⟨_, rfl, h.2.1⟩, h.2.2⟩

set_option maxHeartbeats 2000000 in
set_option maxRecDepth 100000 in
theorem walk_join (later : ByteArray) (va vb : Value) (na nb : Bool) (la lb : Nat) (Ka Kb : Nat → ByteArray) (Sa Sb : Nat → Nat) (ba oa bb ob : Nat) (w : World) (hl : later.size ≤ maxLen) (ha : Came w va na la Ka Sa ba oa) (hb : Came w vb nb lb Kb Sb bb ob) :
    Calls Try.prog 7 #[.string later, va, vb] w fun e w' => e = .returned (.bool true) ∧ Below w.heap.size w w' := by
  have hmm := @run_makeMap Try.prog
  have hra := ha.hold.len_run
  have hrb := hb.hold.len_run
  by_cases hz : later.size ≤ 1048576
  · have hzi : (later.size : Int) ≤ 1048576 := by omega
    go_enter Try.func7, Try.ntmps7
    go_wp2_with fail
    refine (bytes_join later va vb la lb Ka Kb Sa Sb ba oa bb ob _ hl ha.hold hb.hold ha.len_le hb.len_le).mono ?_
    rintro e w1 ⟨⟨ok, rfl, hok⟩, rfl⟩
    cases ok
    · clear hok
      go_wp2_with fail
      go_ret
      exact ⟨rfl, Below.refl _ _⟩
    · obtain ⟨hla, hlb⟩ := hok rfl
      clear hok
      go_wp2_with fail
      refine (size_any va la Ka Sa ba oa _ _ ha.hold hla).mono ?_
      rintro e w2 ⟨⟨Y1, rfl⟩, rfl⟩
      go_wp2_with fail
      refine (size_any vb lb Kb Sb bb ob _ _ hb.hold hlb).mono ?_
      rintro e w2 ⟨⟨Y2, rfl⟩, rfl⟩
      by_cases hY : 1048576 < Y2
      · go_wp2_with fail
        go_ret
        exact ⟨rfl, Below.refl _ _⟩
      · have hY2 : Y2 ≤ 1048576 := by omega
        go_wp2_with fail
        refine (ha.build hla).mono ?_
        rintro e w1 ⟨r1, rfl, m1, b1⟩
        have hb1 := hb.below b1
        go_wp2_with fail
        refine (hb1.build hlb).mono ?_
        rintro e w2 ⟨r2, rfl, m2, b2⟩
        have c2 := below_trans b1 b2
        have m1 := m1.below b2
        clear b1 b2 hb1
        obtain ⟨A, hA⟩ : ∃ A, build (ents Ka Sa la) = A := ⟨_, rfl⟩
        obtain ⟨B, hB⟩ : ∃ B, build (ents Kb Sb lb) = B := ⟨_, rfl⟩
        rw [hA] at m1
        rw [hB] at m2
        have HA : Hid (build (ents Ka Sa la) = A) := hA
        have HB : Hid (build (ents Kb Sb lb) = B) := hB
        clear hA hB
        go_wp2_with fail
        refine (join_any r1 r2 la lb A B _ m1 m2 (by omega)).mono ?_
        intro e w3 h3
        obtain ⟨rfl, m3, b3⟩ := h3.map
        go_wp2_with fail
        refine (follows_any later _ (la + lb) _ _ hl m3 (by omega)).mono ?_
        intro e w4 h4
        obtain ⟨rfl, m4, b4⟩ := h4.map
        have m1 := m1.below (below_trans b3 b4)
        have m2 := m2.below (below_trans b3 b4)
        have c4 := below_trans c2 (below_trans b3 b4)
        clear h3 h4 m3 b3 b4 c2
        obtain ⟨fm, hfm⟩ : ∃ fm, w3.heap.size = fm := ⟨_, rfl⟩
        rw [hfm] at m4 ⊢
        clear hfm
        go_wp2_with fail
        refine (follows_any later _ la _ _ hl m1 (by omega)).mono ?_
        intro e w5 h5
        obtain ⟨rfl, m5, b5⟩ := h5.map
        have m1 := m1.below b5
        have m2 := m2.below b5
        have m4 := m4.below b5
        have c5 := below_trans c4 b5
        obtain ⟨ga, hga⟩ : ∃ ga, w4.heap.size = ga := ⟨_, rfl⟩
        rw [hga] at m5 ⊢
        clear h5 b5 c4 hga
        go_wp2_with fail
        refine (follows_any later _ lb _ _ hl m2 (by omega)).mono ?_
        intro e w6 h6
        obtain ⟨rfl, m6, b6⟩ := h6.map
        have m1 := m1.below b6
        have m2 := m2.below b6
        have m4 := m4.below b6
        have m5 := m5.below b6
        have c6 := below_trans c5 b6
        obtain ⟨gb, hgb⟩ : ∃ gb, w5.heap.size = gb := ⟨_, rfl⟩
        rw [hgb] at m6 ⊢
        clear h6 b6 c5 hgb
        go_wp2_with fail
        refine (join_any (some ga) (some gb) la lb _ _ _ m5 m6 (by omega)).mono ?_
        intro e w7 h7
        obtain ⟨rfl, m7, b7⟩ := h7.map
        have m1 := m1.below b7
        have m2 := m2.below b7
        have m4 := m4.below b7
        have c7 := below_trans c6 b7
        obtain ⟨gm, hgm⟩ : ∃ gm, w6.heap.size = gm := ⟨_, rfl⟩
        rw [hgm] at m7 ⊢
        clear h7 b7 c6 hgm m5 m6
        go_wp2_with fail
        have ha7 := ha.hold.below c7
        have hb7 := hb.hold.below c7
        go_loopw [12] (fun i wr => ∃ k : Nat, k ≤ la + lb ∧ i = .int .i64 k ∧ Acc wr w7.heap.size k (fill (cJ later A B) (sJ A B) (keysTo la Ka Kb k)) ∧ Below w7.heap.size w7 wr) (fun i _ => la + lb - (intOf i).toNat)
        case atStart => exact ⟨0, Nat.zero_le _, rfl, by rw [show keysTo la Ka Kb 0 = [] from rfl, fill_nil]; exact acc_made w7, (Below.refl _ _).alloc (Nat.le_refl _) _⟩
        case round =>
          obtain ⟨k, hk, rfl, hAr, hBr⟩ := hrel
          have m1r := m1.below hBr
          have m2r := m2.below hBr
          have har := ha7.below hBr
          have hbr := hb7.below hBr
          by_cases hlt : k < la + lb
          · have hlti : (k : Int) < (la : Int) + (lb : Int) := by omega
            by_cases hka : k < la
            · have hki : (k : Int) < (la : Int) := by omega
              have hix := fun w' => har.idx_run w' k hka
              have hc0 := har.c0 k hka
              have hsz := har.key k hka
              obtain ⟨s, hs⟩ : ∃ s, Ka k = s := ⟨_, rfl⟩
              rw [hs] at hc0 hsz
              have hks : keyAt la Ka Kb k = s := by unfold keyAt; rw [if_pos hka]; exact hs
              clear hs har hbr
              obtain ⟨x1, hx1⟩ : ∃ x, val (A s.data.toList) = x := ⟨_, rfl⟩
              obtain ⟨x2, hx2⟩ : ∃ x, val (B s.data.toList) = x := ⟨_, rfl⟩
              obtain ⟨y, hyn⟩ : ∃ y, max x1 x2 = y := ⟨_, rfl⟩
              have HM : Hid (∀ w, Calls Try.prog 23 #[.int .u64 (x1 : Int), .int .u64 (x2 : Int)] w fun e w' => e = .returned (.int .u64 (y : Int)) ∧ w' = w) := fun w => by rw [← hyn]; exact max_any x1 x2 w
              have hwy : (Lit.int .u64 (y : Int)).wf = true := by rw [← hyn, ← hx1, ← hx2]; exact wf_max (m1r.wf.val _) (m2r.wf.val _)
              have HC : Hid (cJ later A B s.data.toList = (otherB later s && decide (0 < y))) := by show _ = _; unfold cJ otherB; rw [hx1, hx2, hyn]
              have HS : Hid (sJ A B s.data.toList = y) := by show _ = _; unfold sJ; rw [hx1, hx2, hyn]
              clear hyn
              by_cases hob : otherB later s = true
              · by_cases hy : 0 < y
                · have HF : Hid (upd (fill (cJ later A B) (sJ A B) (keysTo la Ka Kb k)) s.data.toList y = fill (cJ later A B) (sJ A B) (keysTo la Ka Kb (k + 1))) := by
                    show _ = _
                    rw [keysTo_succ, hks, fill_yes _ _ _ _ (HC.out.trans (by rw [hob]; simpa using hy)), HS.out]
                  have hyi : (0 : Int) < (y : Int) := by omega
                  clear hks
                  go_wp2_with (first | (at_lookup; first | (refine look_law _ rfl (.tmp 73) (.tmp 74) 26 rfl Try.underlying26 rfl m1r s rfl hsz ?_) | go_must (refine look_law _ rfl (.tmp 76) (.tmp 77) 26 rfl Try.underlying26 rfl m2r s rfl hsz ?_)) | (go_at_call 23; go_must (refine (HM.out _).mono ?_); rintro e w8 ⟨rfl, rfl⟩) | (go_at_call 24; go_must (refine (other_any later s _ hl hsz).mono ?_); rintro e w8 ⟨rfl, rfl⟩) | (at_mapUpdate; go_must (refine store_law _ rfl _ _ _ 25 rfl Try.underlying25 rfl hAr (by unfold maxLen; omega) s rfl hsz y rfl hwy ?_); intro w9 hA9 hg9; go_frame))
                  rw [HF.out] at hA9
                  go_wp2_with fail
                  go_roundw
                  case rel => exact ⟨k + 1, by omega, by go_num, hA9, hBr.grown hg9 hBr.size (fun j hj => by cases hj; exact Nat.le_refl _)⟩
                  case measure => simp [intOf]; omega
                · obtain rfl : y = 0 := by omega
                  have HF : Hid (fill (cJ later A B) (sJ A B) (keysTo la Ka Kb k) = fill (cJ later A B) (sJ A B) (keysTo la Ka Kb (k + 1))) := by
                    show _ = _
                    rw [keysTo_succ, hks, fill_no _ _ _ _ (HC.out.trans (by simp))]
                  rw [HF.out] at hAr
                  clear hks HF
                  go_wp2_with (first | (at_lookup; first | (refine look_law _ rfl (.tmp 73) (.tmp 74) 26 rfl Try.underlying26 rfl m1r s rfl hsz ?_) | go_must (refine look_law _ rfl (.tmp 76) (.tmp 77) 26 rfl Try.underlying26 rfl m2r s rfl hsz ?_)) | (go_at_call 23; go_must (refine (HM.out _).mono ?_); rintro e w8 ⟨rfl, rfl⟩) | (go_at_call 24; go_must (refine (other_any later s _ hl hsz).mono ?_); rintro e w8 ⟨rfl, rfl⟩))
                  go_roundw
                  case rel => exact ⟨k + 1, by omega, by go_num, hAr.mono (by omega), hBr⟩
                  case measure => simp [intOf]; omega
              · have hobf : otherB later s = false := by simpa using hob
                clear hob
                have HF : Hid (fill (cJ later A B) (sJ A B) (keysTo la Ka Kb k) = fill (cJ later A B) (sJ A B) (keysTo la Ka Kb (k + 1))) := by
                  show _ = _
                  rw [keysTo_succ, hks, fill_no _ _ _ _ (HC.out.trans (by rw [hobf]; rfl))]
                rw [HF.out] at hAr
                clear hks HF
                go_wp2_with (first | (at_lookup; first | (refine look_law _ rfl (.tmp 73) (.tmp 74) 26 rfl Try.underlying26 rfl m1r s rfl hsz ?_) | go_must (refine look_law _ rfl (.tmp 76) (.tmp 77) 26 rfl Try.underlying26 rfl m2r s rfl hsz ?_)) | (go_at_call 23; go_must (refine (HM.out _).mono ?_); rintro e w8 ⟨rfl, rfl⟩) | (go_at_call 24; go_must (refine (other_any later s _ hl hsz).mono ?_); rintro e w8 ⟨rfl, rfl⟩))
                go_roundw
                case rel => exact ⟨k + 1, by omega, by go_num, hAr.mono (by omega), hBr⟩
                case measure => simp [intOf]; omega
            · have hki : (la : Int) ≤ (k : Int) := by omega
              have hsub : (k : Int) - (la : Int) = ((k - la : Nat) : Int) := by omega
              have hix := fun w' => hbr.idx_run w' (k - la) (by omega)
              have hc0 := hbr.c0 (k - la) (by omega)
              have hsz := hbr.key (k - la) (by omega)
              obtain ⟨s, hs⟩ : ∃ s, Kb (k - la) = s := ⟨_, rfl⟩
              rw [hs] at hc0 hsz
              have hks : keyAt la Ka Kb k = s := by unfold keyAt; rw [if_neg hka]; exact hs
              clear hs har hbr
              obtain ⟨x1, hx1⟩ : ∃ x, val (A s.data.toList) = x := ⟨_, rfl⟩
              obtain ⟨x2, hx2⟩ : ∃ x, val (B s.data.toList) = x := ⟨_, rfl⟩
              obtain ⟨y, hyn⟩ : ∃ y, max x1 x2 = y := ⟨_, rfl⟩
              have HM : Hid (∀ w, Calls Try.prog 23 #[.int .u64 (x1 : Int), .int .u64 (x2 : Int)] w fun e w' => e = .returned (.int .u64 (y : Int)) ∧ w' = w) := fun w => by rw [← hyn]; exact max_any x1 x2 w
              have hwy : (Lit.int .u64 (y : Int)).wf = true := by rw [← hyn, ← hx1, ← hx2]; exact wf_max (m1r.wf.val _) (m2r.wf.val _)
              have HC : Hid (cJ later A B s.data.toList = (otherB later s && decide (0 < y))) := by show _ = _; unfold cJ otherB; rw [hx1, hx2, hyn]
              have HS : Hid (sJ A B s.data.toList = y) := by show _ = _; unfold sJ; rw [hx1, hx2, hyn]
              clear hyn
              by_cases hob : otherB later s = true
              · by_cases hy : 0 < y
                · have HF : Hid (upd (fill (cJ later A B) (sJ A B) (keysTo la Ka Kb k)) s.data.toList y = fill (cJ later A B) (sJ A B) (keysTo la Ka Kb (k + 1))) := by
                    show _ = _
                    rw [keysTo_succ, hks, fill_yes _ _ _ _ (HC.out.trans (by rw [hob]; simpa using hy)), HS.out]
                  have hyi : (0 : Int) < (y : Int) := by omega
                  clear hks
                  go_wp2_with (first | (at_lookup; first | (refine look_law _ rfl (.tmp 73) (.tmp 74) 26 rfl Try.underlying26 rfl m1r s rfl hsz ?_) | go_must (refine look_law _ rfl (.tmp 76) (.tmp 77) 26 rfl Try.underlying26 rfl m2r s rfl hsz ?_)) | (go_at_call 23; go_must (refine (HM.out _).mono ?_); rintro e w8 ⟨rfl, rfl⟩) | (go_at_call 24; go_must (refine (other_any later s _ hl hsz).mono ?_); rintro e w8 ⟨rfl, rfl⟩) | (at_mapUpdate; go_must (refine store_law _ rfl _ _ _ 25 rfl Try.underlying25 rfl hAr (by unfold maxLen; omega) s rfl hsz y rfl hwy ?_); intro w9 hA9 hg9; go_frame))
                  rw [HF.out] at hA9
                  go_wp2_with fail
                  go_roundw
                  case rel => exact ⟨k + 1, by omega, by go_num, hA9, hBr.grown hg9 hBr.size (fun j hj => by cases hj; exact Nat.le_refl _)⟩
                  case measure => simp [intOf]; omega
                · obtain rfl : y = 0 := by omega
                  have HF : Hid (fill (cJ later A B) (sJ A B) (keysTo la Ka Kb k) = fill (cJ later A B) (sJ A B) (keysTo la Ka Kb (k + 1))) := by
                    show _ = _
                    rw [keysTo_succ, hks, fill_no _ _ _ _ (HC.out.trans (by simp))]
                  rw [HF.out] at hAr
                  clear hks HF
                  go_wp2_with (first | (at_lookup; first | (refine look_law _ rfl (.tmp 73) (.tmp 74) 26 rfl Try.underlying26 rfl m1r s rfl hsz ?_) | go_must (refine look_law _ rfl (.tmp 76) (.tmp 77) 26 rfl Try.underlying26 rfl m2r s rfl hsz ?_)) | (go_at_call 23; go_must (refine (HM.out _).mono ?_); rintro e w8 ⟨rfl, rfl⟩) | (go_at_call 24; go_must (refine (other_any later s _ hl hsz).mono ?_); rintro e w8 ⟨rfl, rfl⟩))
                  go_roundw
                  case rel => exact ⟨k + 1, by omega, by go_num, hAr.mono (by omega), hBr⟩
                  case measure => simp [intOf]; omega
              · have hobf : otherB later s = false := by simpa using hob
                clear hob
                have HF : Hid (fill (cJ later A B) (sJ A B) (keysTo la Ka Kb k) = fill (cJ later A B) (sJ A B) (keysTo la Ka Kb (k + 1))) := by
                  show _ = _
                  rw [keysTo_succ, hks, fill_no _ _ _ _ (HC.out.trans (by rw [hobf]; rfl))]
                rw [HF.out] at hAr
                clear hks HF
                go_wp2_with (first | (at_lookup; first | (refine look_law _ rfl (.tmp 73) (.tmp 74) 26 rfl Try.underlying26 rfl m1r s rfl hsz ?_) | go_must (refine look_law _ rfl (.tmp 76) (.tmp 77) 26 rfl Try.underlying26 rfl m2r s rfl hsz ?_)) | (go_at_call 23; go_must (refine (HM.out _).mono ?_); rintro e w8 ⟨rfl, rfl⟩) | (go_at_call 24; go_must (refine (other_any later s _ hl hsz).mono ?_); rintro e w8 ⟨rfl, rfl⟩))
                go_roundw
                case rel => exact ⟨k + 1, by omega, by go_num, hAr.mono (by omega), hBr⟩
                case measure => simp [intOf]; omega
          · obtain rfl : k = la + lb := by omega
            have hlti : (la : Int) + (lb : Int) ≤ ((la + lb : Nat) : Int) := by omega
            have hlaw := join_law later.data.toList (ents Ka Sa la) (ents Kb Sb lb)
            rw [HA.out, HB.out, ← keysTo_all la lb Ka Kb Sa Sb] at hlaw
            have hW : MapIs wr (.map (some w7.heap.size)) (la + lb) (followsF later.data.toList (joinF A B)) := .inr ⟨_, rfl, hlaw.1 ▸ hAr⟩
            have m4r := m4.below hBr
            have m7r := m7.below hBr
            rw [hlaw.2] at m7r
            clear hlaw hAr m1r m2r
            go_wp2_with fail
            refine (same_any _ _ va vb (la + lb) (la + lb) la lb _ Ka Kb Sa Sb ba oa bb ob _ m4r hW har hbr hla hlb).mono ?_
            rintro e w8 ⟨rfl, rfl⟩
            go_wp2_with fail
            refine (same_any _ _ va vb (la + lb) (la + lb) la lb _ Ka Kb Sa Sb ba oa bb ob _ m7r hW har hbr hla hlb).mono ?_
            rintro e w8 ⟨rfl, rfl⟩
            go_wp2_with fail
            go_ret
            exact ⟨rfl, below_trans c7 hBr⟩
  · have hzi : (1048576 : Int) < (later.size : Int) := by omega
    go_enter Try.func7, Try.ntmps7
    go_wp2_with fail
    refine (bytes_join later va vb la lb Ka Kb Sa Sb ba oa bb ob _ hl ha.hold hb.hold ha.len_le hb.len_le).mono ?_
    rintro e w1 ⟨⟨ok, rfl, hok⟩, rfl⟩
    cases ok
    · clear hok
      go_wp2_with fail
      go_ret
      exact ⟨rfl, Below.refl _ _⟩
    · clear hok
      go_wp2_with fail
      go_ret
      exact ⟨rfl, Below.refl _ _⟩
end Go.Proofs.Qxb6003611a
