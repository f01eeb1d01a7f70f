/-
  Versions as plain functions: a key's bytes to its number.
-/
namespace Go.Proofs.Qxb6003611a.Plain

/-- The number at a key; nought where there is none. -/
def val (o : Option Nat) : Nat := o.getD 0

/-- One assignment. -/
def upd (F : List UInt8 → Option Nat) (k : List UInt8) (v : Nat) : List UInt8 → Option Nat := fun k' => if k' = k then some v else F k'

def nothing : List UInt8 → Option Nat := fun _ => none

/-- The entries, assigned in their order. -/
def build (es : List (List UInt8 × Nat)) : List UInt8 → Option Nat := es.foldl (fun F p => upd F p.1 p.2) nothing

theorem build_snoc (es : List (List UInt8 × Nat)) (p : List UInt8 × Nat) : build (es ++ [p]) = upd (build es) p.1 p.2 := by simp [build]

theorem foldl_dom (es : List (List UInt8 × Nat)) : ∀ (F : List UInt8 → Option Nat) (k : List UInt8), ((es.foldl (fun F p => upd F p.1 p.2) F) k).isSome = true ↔ k ∈ es.map Prod.fst ∨ (F k).isSome = true := by
  induction es with
  | nil => intro F k; simp
  | cons p es ih =>
    intro F k
    rw [List.foldl_cons, ih]
    simp only [List.map_cons, List.mem_cons, upd]
    by_cases h : k = p.1
    · simp [h]
    · simp [h]

theorem build_dom (es : List (List UInt8 × Nat)) (k : List UInt8) : (build es k).isSome = true ↔ k ∈ es.map Prod.fst := by
  unfold build
  rw [foldl_dom]
  simp [nothing]

/-- The part before the first '~'. -/
def node (s : List UInt8) : List UInt8 := s.takeWhile (fun c => decide (c ≠ 126))

/-- k names another incarnation of later's node. -/
def other (later k : List UInt8) : Bool := decide (k ≠ later) && decide (node k = node later)

def j1 (p q : Option Nat) : Option Nat := match q with | some s => some (max (val p) s) | none => p
def m1 (p q : Option Nat) : Option Nat := match p with | some s => if 0 < min s (val q) then some (min s (val q)) else none | none => none
def f1 (o : Bool) (p : Option Nat) : Option Nat := match p with | some s => if o = true ∧ 0 < s then some s else none | none => none

def joinF (v o : List UInt8 → Option Nat) : List UInt8 → Option Nat := fun k => j1 (v k) (o k)
def meetF (v o : List UInt8 → Option Nat) : List UInt8 → Option Nat := fun k => m1 (v k) (o k)
def followsF (later : List UInt8) (d : List UInt8 → Option Nat) : List UInt8 → Option Nat := fun k => f1 (other later k) (d k)

theorem pt_join (o : Bool) (p q : Option Nat) : j1 (f1 o p) (f1 o q) = f1 o (j1 p q) := by
  cases o
  · cases p <;> cases q <;> simp [j1, f1]
  · cases p with
    | none =>
      cases q with
      | none => rfl
      | some y => rcases Nat.eq_zero_or_pos y with hy | hy <;> simp [j1, f1, val, hy]
    | some x =>
      cases q with
      | none => simp [j1, f1]
      | some y =>
        rcases Nat.eq_zero_or_pos x with hx | hx <;> rcases Nat.eq_zero_or_pos y with hy | hy
        · subst hx; subst hy; simp [j1, f1, val]
        · subst hx; simp [j1, f1, val, hy]
        · subst hy; simp [j1, f1, val, hx]
        · have h : 0 < max x y := by omega
          simp [j1, f1, val, hx, hy, h]
theorem pt_meet (o : Bool) (p q : Option Nat) : m1 (f1 o p) (f1 o q) = f1 o (m1 p q) := by
  cases o
  · cases p <;> cases q <;> simp [m1, f1] <;> split <;> simp
  · cases p with
    | none => simp [m1, f1]
    | some x =>
      cases q with
      | none => rcases Nat.eq_zero_or_pos x with hx | hx <;> simp [m1, f1, val, hx]
      | some y =>
        rcases Nat.eq_zero_or_pos x with hx | hx <;> rcases Nat.eq_zero_or_pos y with hy | hy
        · subst hx; subst hy; simp [m1, f1, val]
        · subst hx; simp [m1, f1, val]
        · subst hy; simp [m1, f1, val, hx]
        · have h : 0 < min x y := by omega
          simp [m1, f1, val, hx, hy, h]
theorem pt_settle (o : Bool) (p : Option Nat) : f1 o (f1 o p) = f1 o p := by
  cases p with
  | none => rfl
  | some x =>
    by_cases h : o = true ∧ 0 < x
    · simp [f1, h]
    · simp [f1, h]

/-- A map filled key by key, where a test says yes. -/
def fill (c : List UInt8 → Bool) (s : List UInt8 → Nat) (L : List (List UInt8)) : List UInt8 → Option Nat := fun k => if k ∈ L ∧ c k = true then some (s k) else none

theorem fill_nil (c : List UInt8 → Bool) (s : List UInt8 → Nat) : fill c s [] = nothing := by funext k; simp [fill, nothing]
theorem fill_yes (c : List UInt8 → Bool) (s : List UInt8 → Nat) (L : List (List UInt8)) (k : List UInt8) (h : c k = true) : fill c s (L ++ [k]) = upd (fill c s L) k (s k) := by
  funext k'
  by_cases e : k' = k
  · subst e; simp [fill, upd, h]
  · simp [fill, upd, e]
theorem fill_no (c : List UInt8 → Bool) (s : List UInt8 → Nat) (L : List (List UInt8)) (k : List UInt8) (h : c k = false) : fill c s (L ++ [k]) = fill c s L := by
  funext k'
  by_cases e : k' = k
  · subst e; simp [fill, h]
  · simp [fill, e]

theorem build_some {es : List (List UInt8 × Nat)} {k : List UInt8} (h : k ∈ es.map Prod.fst) : ∃ x, build es k = some x := Option.isSome_iff_exists.1 ((build_dom es k).2 h)
theorem build_none {es : List (List UInt8 × Nat)} {k : List UInt8} (h : k ∉ es.map Prod.fst) : build es k = none := by
  cases hb : build es k with
  | none => rfl
  | some x => exact absurd ((build_dom es k).1 (by rw [hb]; rfl)) h

/-- The law over Join. -/
theorem join_law (later : List UInt8) (ea eb : List (List UInt8 × Nat)) :
    fill (fun k => other later k && decide (0 < max (val (build ea k)) (val (build eb k)))) (fun k => max (val (build ea k)) (val (build eb k))) (ea.map Prod.fst ++ eb.map Prod.fst) = followsF later (joinF (build ea) (build eb)) ∧
    joinF (followsF later (build ea)) (followsF later (build eb)) = followsF later (joinF (build ea) (build eb)) := by
  refine ⟨?_, funext fun k => pt_join _ _ _⟩
  funext k
  show (if k ∈ _ ∧ _ then _ else _) = f1 (other later k) (j1 (build ea k) (build eb k))
  by_cases m1 : k ∈ ea.map Prod.fst <;> by_cases m2 : k ∈ eb.map Prod.fst
  · obtain ⟨x, hx⟩ := build_some m1
    obtain ⟨y, hy⟩ := build_some m2
    simp [hx, hy, val, j1, f1, m1, -List.mem_map]
  · obtain ⟨x, hx⟩ := build_some m1
    simp [hx, build_none m2, val, j1, f1, m1, -List.mem_map]
  · obtain ⟨y, hy⟩ := build_some m2
    simp [build_none m1, hy, val, j1, f1, m2, -List.mem_map]
  · simp [build_none m1, build_none m2, j1, f1, m1, m2, -List.mem_map]

/-- The laws over Meet. -/
theorem meet_law (later : List UInt8) (ea eb : List (List UInt8 × Nat)) :
    fill (fun k => other later k && decide (0 < min (val (build ea k)) (val (build eb k)))) (fun k => min (val (build ea k)) (val (build eb k))) (ea.map Prod.fst) = followsF later (meetF (build ea) (build eb)) ∧
    meetF (followsF later (build ea)) (followsF later (build eb)) = followsF later (meetF (build ea) (build eb)) := by
  refine ⟨?_, funext fun k => pt_meet _ _ _⟩
  funext k
  show (if k ∈ _ ∧ _ then _ else _) = f1 (other later k) (m1 (build ea k) (build eb k))
  by_cases h1 : k ∈ ea.map Prod.fst
  · obtain ⟨x, hx⟩ := build_some h1
    have hv : val (build ea k) = x := by rw [hx]; rfl
    have hm1 : m1 (build ea k) (build eb k) = if 0 < min x (val (build eb k)) then some (min x (val (build eb k))) else none := by rw [hx]; rfl
    rw [hm1]
    simp only [hv, h1, true_and]
    generalize val (build eb k) = z
    by_cases hm : 0 < min x z
    · simp only [hm, if_true, f1]
      simp
    · simp only [hm, if_false, f1]
      simp
  · simp [build_none h1, m1, f1, h1, -List.mem_map]

theorem settle_law (later : List UInt8) (ea : List (List UInt8 × Nat)) :
    fill (fun k => other later k && decide (0 < val (build ea k))) (fun k => val (build ea k)) (ea.map Prod.fst) = followsF later (build ea) ∧
    followsF later (followsF later (build ea)) = followsF later (build ea) := by
  refine ⟨?_, funext fun k => pt_settle _ _⟩
  funext k
  show (if k ∈ _ ∧ _ then _ else _) = f1 (other later k) (build ea k)
  by_cases m1 : k ∈ ea.map Prod.fst
  · obtain ⟨x, hx⟩ := build_some m1
    simp [hx, val, f1, m1, -List.mem_map]
  · simp [build_none m1, f1, m1, -List.mem_map]

end Go.Proofs.Qxb6003611a.Plain
