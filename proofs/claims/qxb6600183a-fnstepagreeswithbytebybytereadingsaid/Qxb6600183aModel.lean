/-
  'modelStepB1', arm by arm, and as the plain function.
-/
import Derived.Test.Qxb6600183aZZ
namespace Go.Proofs.Qxb6600183a
open Go.RowKit Plain

theorem eqU (c k : UInt8) (n : Int) (hn : n = (k.toNat : Int)) : ((c.toNat : Int) == n) = decide (c = k) := by
  subst hn
  rw [Bool.eq_iff_iff, beq_iff_eq, decide_eq_true_iff]
  constructor
  · intro h; exact UInt8.toNat_inj.1 (by omega)
  · intro h; rw [h]

set_option maxHeartbeats 1000000 in
set_option maxRecDepth 100000 in
theorem m_q_yes (l : Bool) (d : Int) (s : ByteArray) (m : Nat) (w : World) (hs : s.size ≤ 1048576) (hm : m < s.size) (c : UInt8) (hc : s[m]'hm = c) (eH : ((c.toNat : Int) == 39) = true) :
    Calls Try.prog 25 #[.bool true, .bool l, .int .i64 d, .string s, .int .i64 (m : Int)] w fun e w' => e = .returned (.tuple #[.bool false, .bool l, .int .i64 d, .int .i64 ((m + 1 : Nat) : Int)]) ∧ w' = w := by
  have hmi : (m : Int) < (s.size : Int) := by omega
  go_enter Try.func25, Try.ntmps25
  go_wp2
  exact bodyPost_ret (v := .tuple #[.bool false, .bool l, .int .i64 d, .int .i64 ((m + 1 : Nat) : Int)]) (by simp [results, Try.results25, go_sem]) rfl ⟨rfl, rfl⟩

set_option maxHeartbeats 1000000 in
set_option maxRecDepth 100000 in
theorem m_q_no (l : Bool) (d : Int) (s : ByteArray) (m : Nat) (w : World) (hs : s.size ≤ 1048576) (hm : m < s.size) (c : UInt8) (hc : s[m]'hm = c) (eH : ((c.toNat : Int) == 39) = false) :
    Calls Try.prog 25 #[.bool true, .bool l, .int .i64 d, .string s, .int .i64 (m : Int)] w fun e w' => e = .returned (.tuple #[.bool true, .bool l, .int .i64 d, .int .i64 ((m + 1 : Nat) : Int)]) ∧ w' = w := by
  have hmi : (m : Int) < (s.size : Int) := by omega
  go_enter Try.func25, Try.ntmps25
  go_wp2
  exact bodyPost_ret (v := .tuple #[.bool true, .bool l, .int .i64 d, .int .i64 ((m + 1 : Nat) : Int)]) (by simp [results, Try.results25, go_sem]) rfl ⟨rfl, rfl⟩

set_option maxHeartbeats 1000000 in
set_option maxRecDepth 100000 in
theorem m_l_10 (d : Int) (s : ByteArray) (m : Nat) (w : World) (hs : s.size ≤ 1048576) (hm : m < s.size) (c : UInt8) (hc : s[m]'hm = c) (eN : ((c.toNat : Int) == 10) = true) :
    Calls Try.prog 25 #[.bool false, .bool true, .int .i64 d, .string s, .int .i64 (m : Int)] w fun e w' => e = .returned (.tuple #[.bool false, .bool false, .int .i64 d, .int .i64 ((m + 1 : Nat) : Int)]) ∧ w' = w := by
  have hmi : (m : Int) < (s.size : Int) := by omega
  go_enter Try.func25, Try.ntmps25
  go_wp2
  exact bodyPost_ret (v := .tuple #[.bool false, .bool false, .int .i64 d, .int .i64 ((m + 1 : Nat) : Int)]) (by simp [results, Try.results25, go_sem]) rfl ⟨rfl, rfl⟩

set_option maxHeartbeats 1000000 in
set_option maxRecDepth 100000 in
theorem m_l_13 (d : Int) (s : ByteArray) (m : Nat) (w : World) (hs : s.size ≤ 1048576) (hm : m < s.size) (c : UInt8) (hc : s[m]'hm = c) (eN : ((c.toNat : Int) == 10) = false) (eR : ((c.toNat : Int) == 13) = true) :
    Calls Try.prog 25 #[.bool false, .bool true, .int .i64 d, .string s, .int .i64 (m : Int)] w fun e w' => e = .returned (.tuple #[.bool false, .bool false, .int .i64 d, .int .i64 ((m + 1 : Nat) : Int)]) ∧ w' = w := by
  have hmi : (m : Int) < (s.size : Int) := by omega
  go_enter Try.func25, Try.ntmps25
  go_wp2
  exact bodyPost_ret (v := .tuple #[.bool false, .bool false, .int .i64 d, .int .i64 ((m + 1 : Nat) : Int)]) (by simp [results, Try.results25, go_sem]) rfl ⟨rfl, rfl⟩

set_option maxHeartbeats 1000000 in
set_option maxRecDepth 100000 in
theorem m_l_no (d : Int) (s : ByteArray) (m : Nat) (w : World) (hs : s.size ≤ 1048576) (hm : m < s.size) (c : UInt8) (hc : s[m]'hm = c) (eN : ((c.toNat : Int) == 10) = false) (eR : ((c.toNat : Int) == 13) = false) :
    Calls Try.prog 25 #[.bool false, .bool true, .int .i64 d, .string s, .int .i64 (m : Int)] w fun e w' => e = .returned (.tuple #[.bool false, .bool true, .int .i64 d, .int .i64 ((m + 1 : Nat) : Int)]) ∧ w' = w := by
  have hmi : (m : Int) < (s.size : Int) := by omega
  go_enter Try.func25, Try.ntmps25
  go_wp2
  exact bodyPost_ret (v := .tuple #[.bool false, .bool true, .int .i64 d, .int .i64 ((m + 1 : Nat) : Int)]) (by simp [results, Try.results25, go_sem]) rfl ⟨rfl, rfl⟩

set_option maxHeartbeats 1000000 in
set_option maxRecDepth 100000 in
theorem m_short_deep (d : Int) (s : ByteArray) (m : Nat) (w : World) (hs : s.size ≤ 1048576) (hm : m < s.size) (c : UInt8) (hc : s[m]'hm = c) (ht : ¬ m + 1 < s.size) (hd : 0 < d)  :
    Calls Try.prog 25 #[.bool false, .bool false, .int .i64 d, .string s, .int .i64 (m : Int)] w fun e w' => e = .returned (.tuple #[.bool false, .bool false, .int .i64 d, .int .i64 ((m + 1 : Nat) : Int)]) ∧ w' = w := by
  have hmi : (m : Int) < (s.size : Int) := by omega
  have hti : ¬ (m : Int) + 1 < (s.size : Int) := by omega
  go_enter Try.func25, Try.ntmps25
  go_wp2
  exact bodyPost_ret (v := .tuple #[.bool false, .bool false, .int .i64 d, .int .i64 ((m + 1 : Nat) : Int)]) (by simp [results, Try.results25, go_sem]) rfl ⟨rfl, rfl⟩

set_option maxHeartbeats 1000000 in
set_option maxRecDepth 100000 in
theorem m_short_flat (d : Int) (s : ByteArray) (m : Nat) (w : World) (hs : s.size ≤ 1048576) (hm : m < s.size) (c : UInt8) (hc : s[m]'hm = c) (ht : ¬ m + 1 < s.size) (hd : ¬ 0 < d) (x : Bool) (eH : ((c.toNat : Int) == 39) = x) :
    Calls Try.prog 25 #[.bool false, .bool false, .int .i64 d, .string s, .int .i64 (m : Int)] w fun e w' => e = .returned (.tuple #[.bool x, .bool false, .int .i64 d, .int .i64 ((m + 1 : Nat) : Int)]) ∧ w' = w := by
  have hmi : (m : Int) < (s.size : Int) := by omega
  have hti : ¬ (m : Int) + 1 < (s.size : Int) := by omega
  go_enter Try.func25, Try.ntmps25
  go_wp2
  exact bodyPost_ret (v := .tuple #[.bool x, .bool false, .int .i64 d, .int .i64 ((m + 1 : Nat) : Int)]) (by simp [results, Try.results25, go_sem]) rfl ⟨rfl, rfl⟩

set_option maxHeartbeats 1000000 in
set_option maxRecDepth 100000 in
theorem m_open (d : Int) (s : ByteArray) (m : Nat) (w : World) (hs : s.size ≤ 1048576) (hm : m < s.size) (c : UInt8) (hc : s[m]'hm = c) (c' : UInt8) (ht : m + 1 < s.size) (hc' : s[m + 1]'ht = c') (hd0 : 0 ≤ d) (hd1 : d ≤ 4294967296) (eA : ((c.toNat : Int) == 47) = true) (eB : ((c'.toNat : Int) == 42) = true) :
    Calls Try.prog 25 #[.bool false, .bool false, .int .i64 d, .string s, .int .i64 (m : Int)] w fun e w' => e = .returned (.tuple #[.bool false, .bool false, .int .i64 (d + 1), .int .i64 ((m + 2 : Nat) : Int)]) ∧ w' = w := by
  have hmi : (m : Int) < (s.size : Int) := by omega
  have hti : (m : Int) + 1 < (s.size : Int) := by omega
  go_enter Try.func25, Try.ntmps25
  go_wp2
  exact bodyPost_ret (v := .tuple #[.bool false, .bool false, .int .i64 (d + 1), .int .i64 ((m + 2 : Nat) : Int)]) (by simp [results, Try.results25, go_sem]) rfl ⟨rfl, rfl⟩

set_option maxHeartbeats 1000000 in
set_option maxRecDepth 100000 in
theorem m_close (d : Int) (s : ByteArray) (m : Nat) (w : World) (hs : s.size ≤ 1048576) (hm : m < s.size) (c : UInt8) (hc : s[m]'hm = c) (c' : UInt8) (ht : m + 1 < s.size) (hc' : s[m + 1]'ht = c') (hd : 0 < d) (hd1 : d ≤ 4294967296) (eA : ((c.toNat : Int) == 47) = false) (eC : ((c.toNat : Int) == 42) = true) (eD : ((c'.toNat : Int) == 47) = true) :
    Calls Try.prog 25 #[.bool false, .bool false, .int .i64 d, .string s, .int .i64 (m : Int)] w fun e w' => e = .returned (.tuple #[.bool false, .bool false, .int .i64 (d - 1), .int .i64 ((m + 2 : Nat) : Int)]) ∧ w' = w := by
  have hmi : (m : Int) < (s.size : Int) := by omega
  have hti : (m : Int) + 1 < (s.size : Int) := by omega
  go_enter Try.func25, Try.ntmps25
  go_wp2
  exact bodyPost_ret (v := .tuple #[.bool false, .bool false, .int .i64 (d - 1), .int .i64 ((m + 2 : Nat) : Int)]) (by simp [results, Try.results25, go_sem]) rfl ⟨rfl, rfl⟩

set_option maxHeartbeats 1000000 in
set_option maxRecDepth 100000 in
theorem m_stay1 (d : Int) (s : ByteArray) (m : Nat) (w : World) (hs : s.size ≤ 1048576) (hm : m < s.size) (c : UInt8) (hc : s[m]'hm = c) (c' : UInt8) (ht : m + 1 < s.size) (_hc' : s[m + 1]'ht = c') (hd : 0 < d) (eA : ((c.toNat : Int) == 47) = false) (eC : ((c.toNat : Int) == 42) = false) :
    Calls Try.prog 25 #[.bool false, .bool false, .int .i64 d, .string s, .int .i64 (m : Int)] w fun e w' => e = .returned (.tuple #[.bool false, .bool false, .int .i64 d, .int .i64 ((m + 1 : Nat) : Int)]) ∧ w' = w := by
  have hmi : (m : Int) < (s.size : Int) := by omega
  have hti : (m : Int) + 1 < (s.size : Int) := by omega
  go_enter Try.func25, Try.ntmps25
  go_wp2
  exact bodyPost_ret (v := .tuple #[.bool false, .bool false, .int .i64 d, .int .i64 ((m + 1 : Nat) : Int)]) (by simp [results, Try.results25, go_sem]) rfl ⟨rfl, rfl⟩

set_option maxHeartbeats 1000000 in
set_option maxRecDepth 100000 in
theorem m_stay2 (d : Int) (s : ByteArray) (m : Nat) (w : World) (hs : s.size ≤ 1048576) (hm : m < s.size) (c : UInt8) (hc : s[m]'hm = c) (c' : UInt8) (ht : m + 1 < s.size) (hc' : s[m + 1]'ht = c') (hd : 0 < d) (eA : ((c.toNat : Int) == 47) = false) (eC : ((c.toNat : Int) == 42) = true) (eD : ((c'.toNat : Int) == 47) = false) :
    Calls Try.prog 25 #[.bool false, .bool false, .int .i64 d, .string s, .int .i64 (m : Int)] w fun e w' => e = .returned (.tuple #[.bool false, .bool false, .int .i64 d, .int .i64 ((m + 1 : Nat) : Int)]) ∧ w' = w := by
  have hmi : (m : Int) < (s.size : Int) := by omega
  have hti : (m : Int) + 1 < (s.size : Int) := by omega
  go_enter Try.func25, Try.ntmps25
  go_wp2
  exact bodyPost_ret (v := .tuple #[.bool false, .bool false, .int .i64 d, .int .i64 ((m + 1 : Nat) : Int)]) (by simp [results, Try.results25, go_sem]) rfl ⟨rfl, rfl⟩

set_option maxHeartbeats 1000000 in
set_option maxRecDepth 100000 in
theorem m_stay3 (d : Int) (s : ByteArray) (m : Nat) (w : World) (hs : s.size ≤ 1048576) (hm : m < s.size) (c : UInt8) (hc : s[m]'hm = c) (c' : UInt8) (ht : m + 1 < s.size) (hc' : s[m + 1]'ht = c') (hd : 0 < d) (eA : ((c.toNat : Int) == 47) = true) (eB : ((c'.toNat : Int) == 42) = false) (eC : ((c.toNat : Int) == 42) = false) :
    Calls Try.prog 25 #[.bool false, .bool false, .int .i64 d, .string s, .int .i64 (m : Int)] w fun e w' => e = .returned (.tuple #[.bool false, .bool false, .int .i64 d, .int .i64 ((m + 1 : Nat) : Int)]) ∧ w' = w := by
  have hmi : (m : Int) < (s.size : Int) := by omega
  have hti : (m : Int) + 1 < (s.size : Int) := by omega
  go_enter Try.func25, Try.ntmps25
  go_wp2
  exact bodyPost_ret (v := .tuple #[.bool false, .bool false, .int .i64 d, .int .i64 ((m + 1 : Nat) : Int)]) (by simp [results, Try.results25, go_sem]) rfl ⟨rfl, rfl⟩

set_option maxHeartbeats 1000000 in
set_option maxRecDepth 100000 in
theorem m_dash (d : Int) (s : ByteArray) (m : Nat) (w : World) (hs : s.size ≤ 1048576) (hm : m < s.size) (c : UInt8) (hc : s[m]'hm = c) (c' : UInt8) (ht : m + 1 < s.size) (hc' : s[m + 1]'ht = c') (hd : ¬ 0 < d) (eA : ((c.toNat : Int) == 47) = false) (eF : ((c.toNat : Int) == 45) = true) (eG : ((c'.toNat : Int) == 45) = true) :
    Calls Try.prog 25 #[.bool false, .bool false, .int .i64 d, .string s, .int .i64 (m : Int)] w fun e w' => e = .returned (.tuple #[.bool false, .bool true, .int .i64 d, .int .i64 ((m + 2 : Nat) : Int)]) ∧ w' = w := by
  have hmi : (m : Int) < (s.size : Int) := by omega
  have hti : (m : Int) + 1 < (s.size : Int) := by omega
  go_enter Try.func25, Try.ntmps25
  go_wp2
  exact bodyPost_ret (v := .tuple #[.bool false, .bool true, .int .i64 d, .int .i64 ((m + 2 : Nat) : Int)]) (by simp [results, Try.results25, go_sem]) rfl ⟨rfl, rfl⟩

set_option maxHeartbeats 1000000 in
set_option maxRecDepth 100000 in
theorem m_plain1 (d : Int) (s : ByteArray) (m : Nat) (w : World) (hs : s.size ≤ 1048576) (hm : m < s.size) (c : UInt8) (hc : s[m]'hm = c) (c' : UInt8) (ht : m + 1 < s.size) (_hc' : s[m + 1]'ht = c') (hd : ¬ 0 < d) (x : Bool) (eA : ((c.toNat : Int) == 47) = false) (eF : ((c.toNat : Int) == 45) = false) (eH : ((c.toNat : Int) == 39) = x) :
    Calls Try.prog 25 #[.bool false, .bool false, .int .i64 d, .string s, .int .i64 (m : Int)] w fun e w' => e = .returned (.tuple #[.bool x, .bool false, .int .i64 d, .int .i64 ((m + 1 : Nat) : Int)]) ∧ w' = w := by
  have hmi : (m : Int) < (s.size : Int) := by omega
  have hti : (m : Int) + 1 < (s.size : Int) := by omega
  go_enter Try.func25, Try.ntmps25
  go_wp2
  exact bodyPost_ret (v := .tuple #[.bool x, .bool false, .int .i64 d, .int .i64 ((m + 1 : Nat) : Int)]) (by simp [results, Try.results25, go_sem]) rfl ⟨rfl, rfl⟩

set_option maxHeartbeats 1000000 in
set_option maxRecDepth 100000 in
theorem m_plain2 (d : Int) (s : ByteArray) (m : Nat) (w : World) (hs : s.size ≤ 1048576) (hm : m < s.size) (c : UInt8) (hc : s[m]'hm = c) (c' : UInt8) (ht : m + 1 < s.size) (hc' : s[m + 1]'ht = c') (hd : ¬ 0 < d) (x : Bool) (eA : ((c.toNat : Int) == 47) = false) (eF : ((c.toNat : Int) == 45) = true) (eG : ((c'.toNat : Int) == 45) = false) (eH : ((c.toNat : Int) == 39) = x) :
    Calls Try.prog 25 #[.bool false, .bool false, .int .i64 d, .string s, .int .i64 (m : Int)] w fun e w' => e = .returned (.tuple #[.bool x, .bool false, .int .i64 d, .int .i64 ((m + 1 : Nat) : Int)]) ∧ w' = w := by
  have hmi : (m : Int) < (s.size : Int) := by omega
  have hti : (m : Int) + 1 < (s.size : Int) := by omega
  go_enter Try.func25, Try.ntmps25
  go_wp2
  exact bodyPost_ret (v := .tuple #[.bool x, .bool false, .int .i64 d, .int .i64 ((m + 1 : Nat) : Int)]) (by simp [results, Try.results25, go_sem]) rfl ⟨rfl, rfl⟩

set_option maxHeartbeats 1000000 in
set_option maxRecDepth 100000 in
theorem m_plain3 (d : Int) (s : ByteArray) (m : Nat) (w : World) (hs : s.size ≤ 1048576) (hm : m < s.size) (c : UInt8) (hc : s[m]'hm = c) (c' : UInt8) (ht : m + 1 < s.size) (hc' : s[m + 1]'ht = c') (hd : ¬ 0 < d) (x : Bool) (eA : ((c.toNat : Int) == 47) = true) (eB : ((c'.toNat : Int) == 42) = false) (eF : ((c.toNat : Int) == 45) = false) (eH : ((c.toNat : Int) == 39) = x) :
    Calls Try.prog 25 #[.bool false, .bool false, .int .i64 d, .string s, .int .i64 (m : Int)] w fun e w' => e = .returned (.tuple #[.bool x, .bool false, .int .i64 d, .int .i64 ((m + 1 : Nat) : Int)]) ∧ w' = w := by
  have hmi : (m : Int) < (s.size : Int) := by omega
  have hti : (m : Int) + 1 < (s.size : Int) := by omega
  go_enter Try.func25, Try.ntmps25
  go_wp2
  exact bodyPost_ret (v := .tuple #[.bool x, .bool false, .int .i64 d, .int .i64 ((m + 1 : Nat) : Int)]) (by simp [results, Try.results25, go_sem]) rfl ⟨rfl, rfl⟩

theorem at_list (s : ByteArray) (m : Nat) (hm : m < s.size) (c : UInt8) (hc : s[m]'hm = c) : s.data.toList[m]? = some c := by rw [← hc]; exact Lib.data_getElem? s m hm

/-- What 'modelStepB1' hands back. -/
def tup (r : Bool × Bool × Int × Nat) : Value := .tuple #[.bool r.1, .bool r.2.1, .int .i64 r.2.2.1, .int .i64 (r.2.2.2 : Int)]

theorem model_any (q l : Bool) (d : Int) (s : ByteArray) (m : Nat) (w : World) (hs : s.size ≤ 1048576) (hm : m < s.size) (hd0 : 0 ≤ d) (hd1 : d ≤ 4294967296) :
    Calls Try.prog 25 #[.bool q, .bool l, .int .i64 d, .string s, .int .i64 (m : Int)] w fun e w' => e = .returned (tup (mdl s.data.toList q l d m)) ∧ w' = w := by
  obtain ⟨c, hc⟩ : ∃ c, s[m]'hm = c := ⟨_, rfl⟩
  have h1 := at_list s m hm c hc
  cases q with
  | true =>
    by_cases e : c = 39
    · have := m_q_yes l d s m w hs hm c hc (by rw [eqU c 39 39 rfl]; exact decide_eq_true e)
      have e2 : mdl s.data.toList true l d m = (false, l, d, m + 1) := by simp [mdl, h1, e]
      rw [e2]; exact this
    · have := m_q_no l d s m w hs hm c hc (by rw [eqU c 39 39 rfl]; exact decide_eq_false e)
      have e2 : mdl s.data.toList true l d m = (true, l, d, m + 1) := by simp [mdl, h1, e]
      rw [e2]; exact this
  | false =>
    cases l with
    | true =>
      by_cases e : c = 10
      · have := m_l_10 d s m w hs hm c hc (by rw [eqU c 10 10 rfl]; exact decide_eq_true e)
        have e2 : mdl s.data.toList false true d m = (false, false, d, m + 1) := by simp [mdl, h1, e]
        rw [e2]; exact this
      · by_cases e' : c = 13
        · have := m_l_13 d s m w hs hm c hc (by rw [eqU c 10 10 rfl]; exact decide_eq_false e) (by rw [eqU c 13 13 rfl]; exact decide_eq_true e')
          have e2 : mdl s.data.toList false true d m = (false, false, d, m + 1) := by simp [mdl, h1, e']
          rw [e2]; exact this
        · have := m_l_no d s m w hs hm c hc (by rw [eqU c 10 10 rfl]; exact decide_eq_false e) (by rw [eqU c 13 13 rfl]; exact decide_eq_false e')
          have e2 : mdl s.data.toList false true d m = (false, true, d, m + 1) := by simp [mdl, h1, e, e']
          rw [e2]; exact this
    | false =>
      by_cases ht : m + 1 < s.size
      · obtain ⟨c', hc'⟩ : ∃ c', s[m + 1]'ht = c' := ⟨_, rfl⟩
        have h2 := at_list s (m + 1) ht c' hc'
        have P : ∀ a b, pr s.data.toList m a b = decide (c = a ∧ c' = b) := fun a b => by simp [pr, h1, h2]
        by_cases eo : c = 47 ∧ c' = 42
        · have := m_open d s m w hs hm c hc c' ht hc' hd0 hd1 (by rw [eqU c 47 47 rfl]; exact decide_eq_true eo.1) (by rw [eqU c' 42 42 rfl]; exact decide_eq_true eo.2)
          have e2 : mdl s.data.toList false false d m = (false, false, d + 1, m + 2) := by simp [mdl, P, eo]
          rw [e2]; exact this
        · by_cases hd : 0 < d
          · by_cases ec : c = 42 ∧ c' = 47
            · have := m_close d s m w hs hm c hc c' ht hc' hd hd1 (by rw [eqU c 47 47 rfl, ec.1]; rfl) (by rw [eqU c 42 42 rfl]; exact decide_eq_true ec.1) (by rw [eqU c' 47 47 rfl]; exact decide_eq_true ec.2)
              have e2 : mdl s.data.toList false false d m = (false, false, d - 1, m + 2) := by simp [mdl, P, ec, hd]
              rw [e2]; exact this
            · have e2 : mdl s.data.toList false false d m = (false, false, d, m + 1) := by simp only [mdl, P, eo, ec, hd]; simp
              rw [e2]
              by_cases eA : c = 47
              · exact m_stay3 d s m w hs hm c hc c' ht hc' hd (by rw [eqU c 47 47 rfl]; exact decide_eq_true eA) (by rw [eqU c' 42 42 rfl]; exact decide_eq_false fun h => eo ⟨eA, h⟩) (by rw [eqU c 42 42 rfl, eA]; rfl)
              · by_cases eC : c = 42
                · exact m_stay2 d s m w hs hm c hc c' ht hc' hd (by rw [eqU c 47 47 rfl]; exact decide_eq_false eA) (by rw [eqU c 42 42 rfl]; exact decide_eq_true eC) (by rw [eqU c' 47 47 rfl]; exact decide_eq_false fun h => ec ⟨eC, h⟩)
                · exact m_stay1 d s m w hs hm c hc c' ht hc' hd (by rw [eqU c 47 47 rfl]; exact decide_eq_false eA) (by rw [eqU c 42 42 rfl]; exact decide_eq_false eC)
          · by_cases ed : c = 45 ∧ c' = 45
            · have := m_dash d s m w hs hm c hc c' ht hc' hd (by rw [eqU c 47 47 rfl, ed.1]; rfl) (by rw [eqU c 45 45 rfl]; exact decide_eq_true ed.1) (by rw [eqU c' 45 45 rfl]; exact decide_eq_true ed.2)
              have e2 : mdl s.data.toList false false d m = (false, true, d, m + 2) := by simp [mdl, P, ed, hd]
              rw [e2]; exact this
            · have e2 : mdl s.data.toList false false d m = (decide (c = 39), false, d, m + 1) := by simp only [mdl, P, eo, ed, hd, h1]; simp
              rw [e2]
              by_cases eA : c = 47
              · exact m_plain3 d s m w hs hm c hc c' ht hc' hd (decide (c = 39)) (by rw [eqU c 47 47 rfl]; exact decide_eq_true eA) (by rw [eqU c' 42 42 rfl]; exact decide_eq_false fun h => eo ⟨eA, h⟩) (by rw [eqU c 45 45 rfl, eA]; rfl) (eqU c 39 39 rfl)
              · by_cases eF : c = 45
                · exact m_plain2 d s m w hs hm c hc c' ht hc' hd (decide (c = 39)) (by rw [eqU c 47 47 rfl]; exact decide_eq_false eA) (by rw [eqU c 45 45 rfl]; exact decide_eq_true eF) (by rw [eqU c' 45 45 rfl]; exact decide_eq_false fun h => ed ⟨eF, h⟩) (eqU c 39 39 rfl)
                · exact m_plain1 d s m w hs hm c hc c' ht hc' hd (decide (c = 39)) (by rw [eqU c 47 47 rfl]; exact decide_eq_false eA) (by rw [eqU c 45 45 rfl]; exact decide_eq_false eF) (eqU c 39 39 rfl)
      · have h2 : s.data.toList[m + 1]? = none := List.getElem?_eq_none (by rw [len_size]; omega)
        have P : ∀ a b, pr s.data.toList m a b = false := fun a b => by simp [pr, h2]
        by_cases hd : 0 < d
        · have e2 : mdl s.data.toList false false d m = (false, false, d, m + 1) := by simp [mdl, P, hd]
          rw [e2]
          exact m_short_deep d s m w hs hm c hc ht hd
        · have e2 : mdl s.data.toList false false d m = (decide (c = 39), false, d, m + 1) := by simp [mdl, P, hd, h1]
          rw [e2]
          exact m_short_flat d s m w hs hm c hc ht hd (decide (c = 39)) (eqU c 39 39 rfl)

end Go.Proofs.Qxb6600183a
