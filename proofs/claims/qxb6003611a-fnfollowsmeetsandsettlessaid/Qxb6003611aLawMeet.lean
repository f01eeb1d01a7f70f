/-
  The walk of 'FnFollowsMeetsAndSettles', out of the contracts of its callees.
-/
import Derived.Test.Qxb6003611aLawJoin
namespace Go.Proofs.Qxb6003611a
open Go.RowKit Go.Maps Go.WideMaps Plain

/-- The tests and the numbers of the second law. -/
def cM (later : ByteArray) (A B : List UInt8 → Option Nat) (k : List UInt8) : Bool := other later.data.toList k && decide (0 < min (val (A k)) (val (B k)))
def sM (A B : List UInt8 → Option Nat) (k : List UInt8) : Nat := min (val (A k)) (val (B k))
def cA (later : ByteArray) (A : List UInt8 → Option Nat) (k : List UInt8) : Bool := other later.data.toList k && decide (0 < val (A k))
def sA (A : List UInt8 → Option Nat) (k : List UInt8) : Nat := val (A k)
/-- The first k keys. -/
def keysA (Ka : Nat → ByteArray) (k : Nat) : List (List UInt8) := (List.range k).map fun i => (Ka i).data.toList

theorem keysA_succ (Ka : Nat → ByteArray) (k : Nat) : keysA Ka (k + 1) = keysA Ka k ++ [(Ka k).data.toList] := by
  unfold keysA; rw [List.range_succ, List.map_append]; rfl

set_option maxHeartbeats 2000000 in
set_option maxRecDepth 100000 in
theorem walk_meet (later : ByteArray) (va vb : Value) (na nb : Bool) (la lb : Nat) (Ka Kb : Nat → ByteArray) (Sa Sb : Nat → Nat) (ba oa bb ob : Nat) (w : World) (hl : later.size ≤ maxLen) (ha : Came w va na la Ka Sa ba oa) (hb : Came w vb nb lb Kb Sb bb ob) :
    Calls Try.prog 8 #[.string later, va, vb] w fun e w' => e = .returned (.bool true) ∧ Below w.heap.size w w' := by
  have hmm := @run_makeMap Try.prog
  have hra := ha.hold.len_run
  have hrb := hb.hold.len_run
  by_cases hz : later.size ≤ 1048576
  · have hzi : (later.size : Int) ≤ 1048576 := by omega
    go_enter Try.func8, Try.ntmps8
    go_wp2_with fail
    refine (bytes_meet later va vb la lb Ka Kb Sa Sb ba oa bb ob _ hl ha.hold hb.hold ha.len_le hb.len_le).mono ?_
    rintro e w1 ⟨⟨ok, rfl, hok⟩, rfl⟩
    cases ok
    · clear hok
      go_wp2_with fail
      go_ret
      exact ⟨rfl, Below.refl _ _⟩
    · obtain ⟨hla, hlb⟩ := hok rfl
      clear hok
      go_wp2_with fail
      refine (size_any va la Ka Sa ba oa _ _ ha.hold hla).mono ?_
      rintro e w2 ⟨⟨Y1, rfl⟩, rfl⟩
      go_wp2_with fail
      refine (size_any vb lb Kb Sb bb ob _ _ hb.hold hlb).mono ?_
      rintro e w2 ⟨⟨Y2, rfl⟩, rfl⟩
      by_cases hY : 1048576 < Y2
      · go_wp2_with fail
        go_ret
        exact ⟨rfl, Below.refl _ _⟩
      · have hY2 : Y2 ≤ 1048576 := by omega
        go_wp2_with fail
        refine (ha.build hla).mono ?_
        rintro e w1 ⟨r1, rfl, m1, b1⟩
        have hb1 := hb.below b1
        go_wp2_with fail
        refine (hb1.build hlb).mono ?_
        rintro e w2 ⟨r2, rfl, m2, b2⟩
        have c2 := below_trans b1 b2
        have m1 := m1.below b2
        clear b1 b2 hb1
        obtain ⟨A, hA⟩ : ∃ A, build (ents Ka Sa la) = A := ⟨_, rfl⟩
        obtain ⟨B, hB⟩ : ∃ B, build (ents Kb Sb lb) = B := ⟨_, rfl⟩
        rw [hA] at m1
        rw [hB] at m2
        have HA : Hid (build (ents Ka Sa la) = A) := hA
        have HB : Hid (build (ents Kb Sb lb) = B) := hB
        clear hA hB
        go_wp2_with fail
        refine (meet_any _ _ la lb A B _ m1 m2 (by omega)).mono ?_
        intro e w3 h3
        obtain ⟨rfl, m3, b3⟩ := h3.map
        go_wp2_with fail
        refine (follows_any later _ la _ _ hl m3 (by omega)).mono ?_
        intro e w4 h4
        obtain ⟨rfl, m4, b4⟩ := h4.map
        have m1 := m1.below (below_trans b3 b4)
        have m2 := m2.below (below_trans b3 b4)
        have c4 := below_trans c2 (below_trans b3 b4)
        clear h3 h4 m3 b3 b4 c2
        obtain ⟨fm, hfm⟩ : ∃ fm, w3.heap.size = fm := ⟨_, rfl⟩
        rw [hfm] at m4 ⊢
        clear hfm
        go_wp2_with fail
        refine (follows_any later _ la _ _ hl m1 (by omega)).mono ?_
        intro e w5 h5
        obtain ⟨rfl, m5, b5⟩ := h5.map
        have m1 := m1.below b5
        have m2 := m2.below b5
        have m4 := m4.below b5
        have c5 := below_trans c4 b5
        obtain ⟨ga, hga⟩ : ∃ ga, w4.heap.size = ga := ⟨_, rfl⟩
        rw [hga] at m5 ⊢
        clear h5 b5 c4 hga
        go_wp2_with fail
        refine (follows_any later _ lb _ _ hl m2 (by omega)).mono ?_
        intro e w6 h6
        obtain ⟨rfl, m6, b6⟩ := h6.map
        have m1 := m1.below b6
        have m2 := m2.below b6
        have m4 := m4.below b6
        have m5 := m5.below b6
        have c6 := below_trans c5 b6
        obtain ⟨gb, hgb⟩ : ∃ gb, w5.heap.size = gb := ⟨_, rfl⟩
        rw [hgb] at m6 ⊢
        clear h6 b6 c5 hgb
        go_wp2_with fail
        refine (meet_any _ _ la lb _ _ _ m5 m6 (by omega)).mono ?_
        intro e w7 h7
        obtain ⟨rfl, m7, b7⟩ := h7.map
        have m1 := m1.below b7
        have m2 := m2.below b7
        have m4 := m4.below b7
        have c7 := below_trans c6 b7
        obtain ⟨gm, hgm⟩ : ∃ gm, w6.heap.size = gm := ⟨_, rfl⟩
        rw [hgm] at m7 ⊢
        clear h7 b7 c6 hgm m5 m6
        go_wp2_with fail
        refine (follows_any later _ la _ _ hl m1 (by omega)).mono ?_
        intro e w8 h8
        obtain ⟨rfl, m8, b8⟩ := h8.map
        go_wp2_with fail
        refine (follows_any later _ la _ _ hl m8 (by omega)).mono ?_
        intro e w9 h9
        obtain ⟨rfl, m9, b9⟩ := h9.map
        have m1 := m1.below (below_trans b8 b9)
        have m2 := m2.below (below_trans b8 b9)
        have m4 := m4.below (below_trans b8 b9)
        have m7 := m7.below (below_trans b8 b9)
        have c9 := below_trans c7 (below_trans b8 b9)
        obtain ⟨hm, hhm⟩ : ∃ hm, w8.heap.size = hm := ⟨_, rfl⟩
        rw [hhm] at m9 ⊢
        clear h8 h9 b8 b9 c7 hhm m8
        have ha9 := ha.hold.below c9
        have hb9 := hb.hold.below c9
        have e1 : (w9.alloc (.map #[] 0)).heap.size = w9.heap.size + 1 := by simp
        have AM := (acc_made w9).kept (World.grownBy_alloc _ (.map #[] 0) none) (by simp)
        have AA := acc_made (w9.alloc (.map #[] 0))
        rw [e1] at AA
        clear e1
        have B9 : Below w9.heap.size w9 ((w9.alloc (.map #[] 0)).alloc (.map #[] 0)) := ((Below.refl _ _).alloc (Nat.le_refl _) _).alloc (by simp) _
        go_wp2_with fail
        go_loopw [14] (fun i wr => ∃ k : Nat, k ≤ la ∧ i = .int .i64 k ∧ Acc wr w9.heap.size k (fill (cM later A B) (sM A B) (keysA Ka k)) ∧ Acc wr (w9.heap.size + 1) k (fill (cA later A) (sA A) (keysA Ka k)) ∧ Below w9.heap.size w9 wr) (fun i _ => la - (intOf i).toNat)
        case atStart => exact ⟨0, Nat.zero_le _, rfl, by rw [show keysA Ka 0 = [] from rfl, fill_nil]; exact AM, by rw [show keysA Ka 0 = [] from rfl, fill_nil]; exact AA, B9⟩
        case round =>
          clear AM AA B9
          obtain ⟨k, hk, rfl, hMr, hAr, hBr⟩ := hrel
          have har := ha9.below hBr
          have hbr := hb9.below hBr
          by_cases hlt : k < la
          · have hki : (k : Int) < (la : Int) := by omega
            have hix := fun w' => har.idx_run w' k hlt
            have hc0 := har.c0 k hlt
            have hsz := har.key k hlt
            obtain ⟨s, hs⟩ : ∃ s, Ka k = s := ⟨_, rfl⟩
            rw [hs] at hc0 hsz
            have HK : Hid (keysA Ka (k + 1) = keysA Ka k ++ [s.data.toList]) := by show _ = _; rw [keysA_succ, hs]
            clear hs har hbr
            obtain ⟨x1, hx1⟩ : ∃ x, val (A s.data.toList) = x := ⟨_, rfl⟩
            obtain ⟨x2, hx2⟩ : ∃ x, val (B s.data.toList) = x := ⟨_, rfl⟩
            obtain ⟨y, hyn⟩ : ∃ y, min x1 x2 = y := ⟨_, rfl⟩
            have HM : Hid (∀ w, Calls Try.prog 19 #[.int .u64 (x1 : Int), .int .u64 (x2 : Int)] w fun e w' => e = .returned (.int .u64 (y : Int)) ∧ w' = w) := fun w => by rw [← hyn]; exact min_any x1 x2 w
            have hwx : (Lit.int .u64 (x1 : Int)).wf = true := by rw [← hx1]; exact m1.wf.val _
            have hwy : (Lit.int .u64 (y : Int)).wf = true := by rw [← hyn]; exact wf_min hwx (by rw [← hx2]; exact m2.wf.val _)
            have HC : Hid (cM later A B s.data.toList = (otherB later s && decide (0 < y))) := by show _ = _; unfold cM otherB; rw [hx1, hx2, hyn]
            have HS : Hid (sM A B s.data.toList = y) := by show _ = _; unfold sM; rw [hx1, hx2, hyn]
            have HC2 : Hid (cA later A s.data.toList = (otherB later s && decide (0 < x1))) := by show _ = _; unfold cA otherB; rw [hx1]
            have HS2 : Hid (sA A s.data.toList = x1) := by show _ = _; unfold sA; rw [hx1]
            have hyx : y ≤ x1 := by omega
            clear hyn
            by_cases hob : otherB later s = true
            · by_cases hx : 0 < x1
              · have hxi : (0 : Int) < (x1 : Int) := by omega
                have HF2 : Hid (upd (fill (cA later A) (sA A) (keysA Ka k)) s.data.toList x1 = fill (cA later A) (sA A) (keysA Ka (k + 1))) := by
                  show _ = _
                  rw [HK.out, fill_yes _ _ _ _ (HC2.out.trans (by rw [hob]; simpa using hx)), HS2.out]
                by_cases hy : 0 < y
                · have hyi : (0 : Int) < (y : Int) := by omega
                  have HF : Hid (upd (fill (cM later A B) (sM A B) (keysA Ka k)) s.data.toList y = fill (cM later A B) (sM A B) (keysA Ka (k + 1))) := by
                    show _ = _
                    rw [HK.out, fill_yes _ _ _ _ (HC.out.trans (by rw [hob]; simpa using hy)), HS.out]
                  go_wp2_with (first | (at_lookup; first | (refine look_law _ rfl (.tmp 70) (.tmp 71) 26 rfl Try.underlying26 rfl (m1.below (by assumption)) s rfl hsz ?_) | (refine look_law _ rfl (.tmp 73) (.tmp 74) 26 rfl Try.underlying26 rfl (m2.below (by assumption)) s rfl hsz ?_) | (refine look_law _ rfl (.tmp 82) (.tmp 83) 26 rfl Try.underlying26 rfl (m1.below (by assumption)) s rfl hsz ?_) | go_must (refine look_law _ rfl (.tmp 88) (.tmp 89) 26 rfl Try.underlying26 rfl (m1.below (by assumption)) s rfl hsz ?_)) | (go_at_call 19; go_must (refine (HM.out _).mono ?_); rintro e w12 ⟨rfl, rfl⟩) | (go_at_call 24; go_must (refine (other_any later s _ hl hsz).mono ?_); rintro e w12 ⟨rfl, rfl⟩) | (at_mapUpdate; first | (refine store_law _ rfl (.tmp 79) (.tmp 80) (.tmp 81) 25 rfl Try.underlying25 rfl hMr (by unfold maxLen; omega) s rfl hsz y rfl hwy ?_; intro w10 hM10 hg10; have hA10 := hAr.kept hg10 (by simp); have hB10 := hBr.grown hg10 hBr.size (fun j hj => by cases hj; exact Nat.le_refl _)) | go_must (refine store_law _ rfl (.tmp 86) (.tmp 87) (.tmp 90) 25 rfl Try.underlying25 rfl hA10 (by unfold maxLen; omega) s rfl hsz x1 (by rw [← hx1]; rfl) hwx ?_; intro w11 hA11 hg11; go_frame)))
                  have hM11 := hM10.kept hg11 (by simp)
                  rw [HF.out] at hM11
                  rw [HF2.out] at hA11
                  have hB11 := hB10.grown hg11 hB10.size (fun j hj => by cases hj; exact Nat.le_succ _)
                  go_wp2_with fail
                  go_roundw
                  case rel => exact ⟨k + 1, by omega, by go_num, hM11, hA11, hB11⟩
                  case measure => simp [intOf]; omega
                · obtain rfl : y = 0 := by omega
                  have HF : Hid (fill (cM later A B) (sM A B) (keysA Ka k) = fill (cM later A B) (sM A B) (keysA Ka (k + 1))) := by
                    show _ = _
                    rw [HK.out, fill_no _ _ _ _ (HC.out.trans (by simp))]
                  rw [HF.out] at hMr
                  clear HF
                  go_wp2_with (first | (at_lookup; first | (refine look_law _ rfl (.tmp 70) (.tmp 71) 26 rfl Try.underlying26 rfl (m1.below (by assumption)) s rfl hsz ?_) | (refine look_law _ rfl (.tmp 73) (.tmp 74) 26 rfl Try.underlying26 rfl (m2.below (by assumption)) s rfl hsz ?_) | (refine look_law _ rfl (.tmp 82) (.tmp 83) 26 rfl Try.underlying26 rfl (m1.below (by assumption)) s rfl hsz ?_) | go_must (refine look_law _ rfl (.tmp 88) (.tmp 89) 26 rfl Try.underlying26 rfl (m1.below (by assumption)) s rfl hsz ?_)) | (go_at_call 19; go_must (refine (HM.out _).mono ?_); rintro e w12 ⟨rfl, rfl⟩) | (go_at_call 24; go_must (refine (other_any later s _ hl hsz).mono ?_); rintro e w12 ⟨rfl, rfl⟩) | (at_mapUpdate; go_must (refine store_law _ rfl (.tmp 86) (.tmp 87) (.tmp 90) 25 rfl Try.underlying25 rfl hAr (by unfold maxLen; omega) s rfl hsz x1 (by rw [← hx1]; rfl) hwx ?_; intro w11 hA11 hg11; go_frame)))
                  have hM11 := hMr.kept hg11 (by simp)
                  rw [HF2.out] at hA11
                  have hB11 := hBr.grown hg11 hBr.size (fun j hj => by cases hj; exact Nat.le_succ _)
                  go_wp2_with fail
                  go_roundw
                  case rel => exact ⟨k + 1, by omega, by go_num, hM11.mono (by omega), hA11, hB11⟩
                  case measure => simp [intOf]; omega
              · obtain rfl : x1 = 0 := by omega
                obtain rfl : y = 0 := by omega
                have HF : Hid (fill (cM later A B) (sM A B) (keysA Ka k) = fill (cM later A B) (sM A B) (keysA Ka (k + 1))) := by
                  show _ = _
                  rw [HK.out, fill_no _ _ _ _ (HC.out.trans (by simp))]
                have HF2 : Hid (fill (cA later A) (sA A) (keysA Ka k) = fill (cA later A) (sA A) (keysA Ka (k + 1))) := by
                  show _ = _
                  rw [HK.out, fill_no _ _ _ _ (HC2.out.trans (by simp))]
                rw [HF.out] at hMr
                rw [HF2.out] at hAr
                clear HF HF2
                go_wp2_with (first | (at_lookup; first | (refine look_law _ rfl (.tmp 70) (.tmp 71) 26 rfl Try.underlying26 rfl (m1.below (by assumption)) s rfl hsz ?_) | (refine look_law _ rfl (.tmp 73) (.tmp 74) 26 rfl Try.underlying26 rfl (m2.below (by assumption)) s rfl hsz ?_) | (refine look_law _ rfl (.tmp 82) (.tmp 83) 26 rfl Try.underlying26 rfl (m1.below (by assumption)) s rfl hsz ?_) | go_must (refine look_law _ rfl (.tmp 88) (.tmp 89) 26 rfl Try.underlying26 rfl (m1.below (by assumption)) s rfl hsz ?_)) | (go_at_call 19; go_must (refine (HM.out _).mono ?_); rintro e w12 ⟨rfl, rfl⟩) | (go_at_call 24; go_must (refine (other_any later s _ hl hsz).mono ?_); rintro e w12 ⟨rfl, rfl⟩))
                go_roundw
                case rel => exact ⟨k + 1, by omega, by go_num, hMr.mono (by omega), hAr.mono (by omega), hBr⟩
                case measure => simp [intOf]; omega
            · have hobf : otherB later s = false := by simpa using hob
              clear hob
              have HF : Hid (fill (cM later A B) (sM A B) (keysA Ka k) = fill (cM later A B) (sM A B) (keysA Ka (k + 1))) := by
                show _ = _
                rw [HK.out, fill_no _ _ _ _ (HC.out.trans (by rw [hobf]; rfl))]
              have HF2 : Hid (fill (cA later A) (sA A) (keysA Ka k) = fill (cA later A) (sA A) (keysA Ka (k + 1))) := by
                show _ = _
                rw [HK.out, fill_no _ _ _ _ (HC2.out.trans (by rw [hobf]; rfl))]
              rw [HF.out] at hMr
              rw [HF2.out] at hAr
              clear HF HF2
              go_wp2_with (first | (at_lookup; first | (refine look_law _ rfl (.tmp 70) (.tmp 71) 26 rfl Try.underlying26 rfl (m1.below (by assumption)) s rfl hsz ?_) | (refine look_law _ rfl (.tmp 73) (.tmp 74) 26 rfl Try.underlying26 rfl (m2.below (by assumption)) s rfl hsz ?_) | (refine look_law _ rfl (.tmp 82) (.tmp 83) 26 rfl Try.underlying26 rfl (m1.below (by assumption)) s rfl hsz ?_) | go_must (refine look_law _ rfl (.tmp 88) (.tmp 89) 26 rfl Try.underlying26 rfl (m1.below (by assumption)) s rfl hsz ?_)) | (go_at_call 19; go_must (refine (HM.out _).mono ?_); rintro e w12 ⟨rfl, rfl⟩) | (go_at_call 24; go_must (refine (other_any later s _ hl hsz).mono ?_); rintro e w12 ⟨rfl, rfl⟩))
              go_roundw
              case rel => exact ⟨k + 1, by omega, by go_num, hMr.mono (by omega), hAr.mono (by omega), hBr⟩
              case measure => simp [intOf]; omega
          · obtain rfl : k = la := by omega
            have hlaw := meet_law later.data.toList (ents Ka Sa k) (ents Kb Sb lb)
            have hlaw2 := settle_law later.data.toList (ents Ka Sa k)
            rw [HA.out, HB.out, ents_keys] at hlaw
            rw [HA.out, ents_keys] at hlaw2
            have hW : MapIs wr (.map (some w9.heap.size)) k (followsF later.data.toList (meetF A B)) := .inr ⟨_, rfl, hlaw.1 ▸ hMr⟩
            have hW2 : MapIs wr (.map (some (w9.heap.size + 1))) k (followsF later.data.toList A) := .inr ⟨_, rfl, hlaw2.1 ▸ hAr⟩
            have m4r := m4.below hBr
            have m7r := m7.below hBr
            have m9r := m9.below hBr
            rw [hlaw.2] at m7r
            rw [hlaw2.2] at m9r
            clear hlaw hlaw2 hAr hMr
            go_wp2_with fail
            refine (same_any _ _ va vb k k k lb _ Ka Kb Sa Sb ba oa bb ob _ m4r hW har hbr hla hlb).mono ?_
            rintro e w10 ⟨rfl, rfl⟩
            go_wp2_with fail
            refine (same_any _ _ va vb k k k lb _ Ka Kb Sa Sb ba oa bb ob _ m7r hW har hbr hla hlb).mono ?_
            rintro e w10 ⟨rfl, rfl⟩
            go_wp2_with fail
            refine (same_any _ _ va _ k k k 0 _ Ka _ Sa _ ba oa 0 0 _ m9r hW2 har (ents_nil _) hla (by omega)).mono ?_
            rintro e w10 ⟨rfl, rfl⟩
            go_wp2_with fail
            go_ret
            exact ⟨rfl, below_trans c9 hBr⟩
  · have hzi : (1048576 : Int) < (later.size : Int) := by omega
    go_enter Try.func8, Try.ntmps8
    go_wp2_with fail
    refine (bytes_meet later va vb la lb Ka Kb Sa Sb ba oa bb ob _ hl ha.hold hb.hold ha.len_le hb.len_le).mono ?_
    rintro e w1 ⟨⟨ok, rfl, hok⟩, rfl⟩
    cases ok
    · clear hok
      go_wp2_with fail
      go_ret
      exact ⟨rfl, Below.refl _ _⟩
    · clear hok
      go_wp2_with fail
      go_ret
      exact ⟨rfl, Below.refl _ _⟩
end Go.Proofs.Qxb6003611a
