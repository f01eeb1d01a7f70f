/-
  The bounds on the lengths ('zzBytes_..'), by their contracts.
-/
import Derived.Test.Qxb6003611aEnts
namespace Go.Proofs.Qxb6003611a
open Go.RowKit Go.Maps Go.WideMaps Plain

/-- What the bound hands back. -/
def BytesPost (la lb : Nat) (e : Ending) : Prop := ∃ ok : Bool, e = .returned (.bool ok) ∧ (ok = true → la ≤ 1048576 ∧ lb ≤ 1048576)

theorem BytesPost.no (la lb : Nat) : BytesPost la lb (.returned (.bool false)) := ⟨false, rfl, fun h => absurd h (by decide)⟩
theorem BytesPost.yes {la lb : Nat} (h1 : la ≤ 1048576) (h2 : lb ≤ 1048576) : BytesPost la lb (.returned (.bool true)) := ⟨true, rfl, fun _ => ⟨h1, h2⟩⟩

set_option maxHeartbeats 2000000 in
set_option maxRecDepth 100000 in
theorem bytes_join (s : ByteArray) (va vb : Value) (la lb : Nat) (Ka Kb : Nat → ByteArray) (Sa Sb : Nat → Nat) (ba oa bb ob : Nat) (w : World) (hs : s.size ≤ maxLen) (ha : Ents w va la Ka Sa ba oa) (hb : Ents w vb lb Kb Sb bb ob) (hla : la ≤ maxLen) (hlb : lb ≤ maxLen) :
    Calls Try.prog 21 #[.string s, va, vb] w fun e w' => BytesPost la lb e ∧ w' = w := by
  unfold maxLen at hs hla hlb
  have hra := ha.len_run
  have hrb := hb.len_run
  by_cases h1 : s.size ≤ 1048576
  · have h1i : (s.size : Int) ≤ 1048576 := by omega
    by_cases h2 : la ≤ 1048576
    · have h2i : (la : Int) ≤ 1048576 := by omega
      by_cases h3 : s.size + la ≤ 1048576
      · have h3i : (s.size : Int) + (la : Int) ≤ 1048576 := by omega
        go_enter Try.func21, Try.ntmps21
        go_wp2
        go_loop [7, 8] (fun nv i => ∃ (k Y : Nat), k ≤ la ∧ Y ≤ 1048576 ∧ i = .int .i64 k ∧ nv = .int .i64 Y) (fun _ i => la - (intOf i).toNat)
        case atStart => exact ⟨0, s.size + la, Nat.zero_le _, by omega, rfl, by go_num⟩
        case round =>
          obtain ⟨k, Y, hk, hY, rfl, rfl⟩ := hrel
          by_cases hlt : k < la
          · have hki : (k : Int) < (la : Int) := by omega
            have hix := fun w' => ha.idx_run w' k hlt
            have hc0 := ha.c0 k hlt
            have hkz := ha.key k hlt
            unfold maxLen at hkz
            by_cases h4 : (Ka k).size ≤ 1048576
            · have h4i : ((Ka k).size : Int) ≤ 1048576 := by omega
              by_cases h5 : Y + (Ka k).size ≤ 1048576
              · have h5i : (Y : Int) + ((Ka k).size : Int) ≤ 1048576 := by omega
                go_wp2
                go_round
                case rel => exact ⟨k + 1, Y + (Ka k).size, by omega, by omega, by go_num, by go_num⟩
                case measure => simp [intOf]; omega
              · have h5i : (1048576 : Int) < (Y : Int) + ((Ka k).size : Int) := by omega
                go_wp2
                go_ret
                exact ⟨BytesPost.no _ _, rfl⟩
            · have h4i : (1048576 : Int) < ((Ka k).size : Int) := by omega
              go_wp2
              go_ret
              exact ⟨BytesPost.no _ _, rfl⟩
          · have hki : (la : Int) ≤ (k : Int) := by omega
            by_cases h6 : lb ≤ 1048576
            · have h6i : (lb : Int) ≤ 1048576 := by omega
              by_cases h7 : Y + lb ≤ 1048576
              · have h7i : (Y : Int) + (lb : Int) ≤ 1048576 := by omega
                go_wp2
                go_loop [7, 9] (fun nv i => ∃ (k Y : Nat), k ≤ lb ∧ Y ≤ 1048576 ∧ i = .int .i64 k ∧ nv = .int .i64 Y) (fun _ i => lb - (intOf i).toNat)
                case atStart => exact ⟨0, Y + lb, Nat.zero_le _, by omega, rfl, by go_num⟩
                case round =>
                  clear h7 h7i
                  obtain ⟨k2, Y2, hk2, hY2, rfl, rfl⟩ := hrel
                  by_cases hlt2 : k2 < lb
                  · have hki2 : (k2 : Int) < (lb : Int) := by omega
                    have hix := fun w' => hb.idx_run w' k2 hlt2
                    have hc0 := hb.c0 k2 hlt2
                    have hkz := hb.key k2 hlt2
                    unfold maxLen at hkz
                    by_cases h4 : (Kb k2).size ≤ 1048576
                    · have h4i : ((Kb k2).size : Int) ≤ 1048576 := by omega
                      by_cases h5 : Y2 + (Kb k2).size ≤ 1048576
                      · have h5i : (Y2 : Int) + ((Kb k2).size : Int) ≤ 1048576 := by omega
                        go_wp2
                        go_round
                        case rel => exact ⟨k2 + 1, Y2 + (Kb k2).size, by omega, by omega, by go_num, by go_num⟩
                        case measure => simp [intOf]; omega
                      · have h5i : (1048576 : Int) < (Y2 : Int) + ((Kb k2).size : Int) := by omega
                        go_wp2
                        go_ret
                        exact ⟨BytesPost.no _ _, rfl⟩
                    · have h4i : (1048576 : Int) < ((Kb k2).size : Int) := by omega
                      go_wp2
                      go_ret
                      exact ⟨BytesPost.no _ _, rfl⟩
                  · have hki2 : (lb : Int) ≤ (k2 : Int) := by omega
                    go_wp2
                    go_ret
                    exact ⟨BytesPost.yes h2 h6, rfl⟩
              · have h7i : (1048576 : Int) < (Y : Int) + (lb : Int) := by omega
                go_wp2
                go_ret
                exact ⟨BytesPost.no _ _, rfl⟩
            · have h6i : (1048576 : Int) < (lb : Int) := by omega
              go_wp2
              go_ret
              exact ⟨BytesPost.no _ _, rfl⟩
      · have h3i : (1048576 : Int) < (s.size : Int) + (la : Int) := by omega
        go_enter Try.func21, Try.ntmps21
        go_wp2
        go_ret
        exact ⟨BytesPost.no _ _, rfl⟩
    · have h2i : (1048576 : Int) < (la : Int) := by omega
      go_enter Try.func21, Try.ntmps21
      go_wp2
      go_ret
      exact ⟨BytesPost.no _ _, rfl⟩
  · have h1i : (1048576 : Int) < (s.size : Int) := by omega
    go_enter Try.func21, Try.ntmps21
    go_wp2
    go_ret
    exact ⟨BytesPost.no _ _, rfl⟩

set_option maxHeartbeats 2000000 in
set_option maxRecDepth 100000 in
theorem bytes_meet (s : ByteArray) (va vb : Value) (la lb : Nat) (Ka Kb : Nat → ByteArray) (Sa Sb : Nat → Nat) (ba oa bb ob : Nat) (w : World) (hs : s.size ≤ maxLen) (ha : Ents w va la Ka Sa ba oa) (hb : Ents w vb lb Kb Sb bb ob) (hla : la ≤ maxLen) (hlb : lb ≤ maxLen) :
    Calls Try.prog 25 #[.string s, va, vb] w fun e w' => BytesPost la lb e ∧ w' = w := by
  unfold maxLen at hs hla hlb
  have hra := ha.len_run
  have hrb := hb.len_run
  by_cases h1 : s.size ≤ 1048576
  · have h1i : (s.size : Int) ≤ 1048576 := by omega
    by_cases h2 : la ≤ 1048576
    · have h2i : (la : Int) ≤ 1048576 := by omega
      by_cases h3 : s.size + la ≤ 1048576
      · have h3i : (s.size : Int) + (la : Int) ≤ 1048576 := by omega
        go_enter Try.func25, Try.ntmps25
        go_wp2
        go_loop [7, 8] (fun nv i => ∃ (k Y : Nat), k ≤ la ∧ Y ≤ 1048576 ∧ i = .int .i64 k ∧ nv = .int .i64 Y) (fun _ i => la - (intOf i).toNat)
        case atStart => exact ⟨0, s.size + la, Nat.zero_le _, by omega, rfl, by go_num⟩
        case round =>
          obtain ⟨k, Y, hk, hY, rfl, rfl⟩ := hrel
          by_cases hlt : k < la
          · have hki : (k : Int) < (la : Int) := by omega
            have hix := fun w' => ha.idx_run w' k hlt
            have hc0 := ha.c0 k hlt
            have hkz := ha.key k hlt
            unfold maxLen at hkz
            by_cases h4 : (Ka k).size ≤ 1048576
            · have h4i : ((Ka k).size : Int) ≤ 1048576 := by omega
              by_cases h5 : Y + (Ka k).size ≤ 1048576
              · have h5i : (Y : Int) + ((Ka k).size : Int) ≤ 1048576 := by omega
                go_wp2
                go_round
                case rel => exact ⟨k + 1, Y + (Ka k).size, by omega, by omega, by go_num, by go_num⟩
                case measure => simp [intOf]; omega
              · have h5i : (1048576 : Int) < (Y : Int) + ((Ka k).size : Int) := by omega
                go_wp2
                go_ret
                exact ⟨BytesPost.no _ _, rfl⟩
            · have h4i : (1048576 : Int) < ((Ka k).size : Int) := by omega
              go_wp2
              go_ret
              exact ⟨BytesPost.no _ _, rfl⟩
          · have hki : (la : Int) ≤ (k : Int) := by omega
            by_cases h6 : lb ≤ 1048576
            · have h6i : (lb : Int) ≤ 1048576 := by omega
              by_cases h7 : Y + lb ≤ 1048576
              · have h7i : (Y : Int) + (lb : Int) ≤ 1048576 := by omega
                go_wp2
                go_loop [7, 9] (fun nv i => ∃ (k Y : Nat), k ≤ lb ∧ Y ≤ 1048576 ∧ i = .int .i64 k ∧ nv = .int .i64 Y) (fun _ i => lb - (intOf i).toNat)
                case atStart => exact ⟨0, Y + lb, Nat.zero_le _, by omega, rfl, by go_num⟩
                case round =>
                  clear h7 h7i
                  obtain ⟨k2, Y2, hk2, hY2, rfl, rfl⟩ := hrel
                  by_cases hlt2 : k2 < lb
                  · have hki2 : (k2 : Int) < (lb : Int) := by omega
                    have hix := fun w' => hb.idx_run w' k2 hlt2
                    have hc0 := hb.c0 k2 hlt2
                    have hkz := hb.key k2 hlt2
                    unfold maxLen at hkz
                    by_cases h4 : (Kb k2).size ≤ 1048576
                    · have h4i : ((Kb k2).size : Int) ≤ 1048576 := by omega
                      by_cases h5 : Y2 + (Kb k2).size ≤ 1048576
                      · have h5i : (Y2 : Int) + ((Kb k2).size : Int) ≤ 1048576 := by omega
                        go_wp2
                        go_round
                        case rel => exact ⟨k2 + 1, Y2 + (Kb k2).size, by omega, by omega, by go_num, by go_num⟩
                        case measure => simp [intOf]; omega
                      · have h5i : (1048576 : Int) < (Y2 : Int) + ((Kb k2).size : Int) := by omega
                        go_wp2
                        go_ret
                        exact ⟨BytesPost.no _ _, rfl⟩
                    · have h4i : (1048576 : Int) < ((Kb k2).size : Int) := by omega
                      go_wp2
                      go_ret
                      exact ⟨BytesPost.no _ _, rfl⟩
                  · have hki2 : (lb : Int) ≤ (k2 : Int) := by omega
                    go_wp2
                    go_ret
                    exact ⟨BytesPost.yes h2 h6, rfl⟩
              · have h7i : (1048576 : Int) < (Y : Int) + (lb : Int) := by omega
                go_wp2
                go_ret
                exact ⟨BytesPost.no _ _, rfl⟩
            · have h6i : (1048576 : Int) < (lb : Int) := by omega
              go_wp2
              go_ret
              exact ⟨BytesPost.no _ _, rfl⟩
      · have h3i : (1048576 : Int) < (s.size : Int) + (la : Int) := by omega
        go_enter Try.func25, Try.ntmps25
        go_wp2
        go_ret
        exact ⟨BytesPost.no _ _, rfl⟩
    · have h2i : (1048576 : Int) < (la : Int) := by omega
      go_enter Try.func25, Try.ntmps25
      go_wp2
      go_ret
      exact ⟨BytesPost.no _ _, rfl⟩
  · have h1i : (1048576 : Int) < (s.size : Int) := by omega
    go_enter Try.func25, Try.ntmps25
    go_wp2
    go_ret
    exact ⟨BytesPost.no _ _, rfl⟩
end Go.Proofs.Qxb6003611a
