/-
  'zzAgree', 'zzSame', by their contracts.
-/
import Derived.Test.Qxb6003611aEnts
namespace Go.Proofs.Qxb6003611a
open Go.RowKit Go.Maps Go.WideMaps Plain

set_option maxHeartbeats 1000000 in
set_option maxRecDepth 100000 in
theorem agree_any (gv wv v : Value) (N M len : Nat) (F : List UInt8 → Option Nat) (K : Nat → ByteArray) (S : Nat → Nat) (b off : Nat) (w : World) (hG : MapIs w gv N F) (hW : MapIs w wv M F) (h : Ents w v len K S b off) (hlen : len ≤ 1048576) :
    Calls Try.prog 26 #[gv, wv, v] w fun e w' => e = .returned (.bool true) ∧ w' = w := by
  have hlr := h.len_run
  go_enter Try.func26, Try.ntmps26
  go_wp2
  go_loop [7] (fun i => ∃ k : Nat, k ≤ len ∧ i = .int .i64 k) (fun i => len - (intOf i).toNat)
  case atStart => exact ⟨0, Nat.zero_le _, rfl⟩
  case round =>
    obtain ⟨k, hk, rfl⟩ := hrel
    by_cases hlt : k < len
    · have hki : (k : Int) < (len : Int) := by omega
      have hix := fun w' => h.idx_run w' k hlt
      have hc0 := h.c0 k hlt
      have hkz := h.key k hlt
      obtain ⟨y, hy⟩ : ∃ y, val (F (K k).data.toList) = y := ⟨_, rfl⟩
      obtain ⟨ok, hok⟩ : ∃ ok, (F (K k).data.toList).isSome = ok := ⟨_, rfl⟩
      cases ok
      · go_wp2_with (at_lookup; go_must (refine lookok_law _ rfl (.tmp 25) (.tmp 26) 25 rfl Try.underlying25 rfl hW (K k) rfl hkz ?_))
        go_round
        case rel => exact ⟨k + 1, by omega, by go_num⟩
        case measure => simp [intOf]; omega
      · go_wp2_with (at_lookup; first | (refine lookok_law _ rfl (.tmp 25) (.tmp 26) 25 rfl Try.underlying25 rfl hW (K k) rfl hkz ?_) | go_must (refine lookok_law _ rfl (.tmp 33) (.tmp 34) 25 rfl Try.underlying25 rfl hG (K k) rfl hkz ?_))
        go_round
        case rel => exact ⟨k + 1, by omega, by go_num⟩
        case measure => simp [intOf]; omega
    · have hki : (len : Int) ≤ (k : Int) := by omega
      go_wp2
      go_ret
      exact ⟨rfl, rfl⟩

theorem ents_nil (w : World) : Ents w (.slice none 0 0) 0 (fun _ => ByteArray.empty) (fun _ => 0) 0 0 :=
  ⟨fun w' ty => by rw [run_len_slice (P := Try.prog) (w := w') 22 ty none 0 0 (by kernel_rfl)]; rfl, fun _ k hk => absurd hk (by omega), fun k hk => absurd hk (by omega), fun k hk => absurd hk (by omega), fun k hk => absurd hk (by omega), fun k hk => absurd hk (by omega), fun h => absurd h (by omega)⟩

set_option maxHeartbeats 1000000 in
set_option maxRecDepth 100000 in
theorem same_any (gv wv va vb : Value) (N M la lb : Nat) (F : List UInt8 → Option Nat) (Ka Kb : Nat → ByteArray) (Sa Sb : Nat → Nat) (ba oa bb ob : Nat) (w : World) (hG : MapIs w gv N F) (hW : MapIs w wv M F) (ha : Ents w va la Ka Sa ba oa) (hb : Ents w vb lb Kb Sb bb ob) (hla : la ≤ 1048576) (hlb : lb ≤ 1048576) :
    Calls Try.prog 14 #[gv, wv, va, vb, .slice none 0 0] w fun e w' => e = .returned (.bool true) ∧ w' = w := by
  obtain ⟨n, hn⟩ := hG.size
  go_enter Try.func14, Try.ntmps14
  go_wp2_with (at_len; first | (refine len_law _ rfl (.tmp 11) 25 rfl Try.underlying25 rfl hG n hn ?_) | go_must (refine len_law _ rfl (.tmp 13) 25 rfl Try.underlying25 rfl hW n hn ?_))
  refine (agree_any gv wv va N M la F Ka Sa ba oa _ hG hW ha hla).mono ?_
  rintro e w2 ⟨rfl, rfl⟩
  go_wp2_with fail
  refine (agree_any gv wv vb N M lb F Kb Sb bb ob _ hG hW hb hlb).mono ?_
  rintro e w2 ⟨rfl, rfl⟩
  go_wp2_with fail
  refine (agree_any gv wv _ N M 0 F _ _ 0 0 _ hG hW (ents_nil _) (by omega)).mono ?_
  rintro e w2 ⟨rfl, rfl⟩
  go_wp2_with fail
  go_ret
  exact ⟨rfl, rfl⟩
end Go.Proofs.Qxb6003611a
