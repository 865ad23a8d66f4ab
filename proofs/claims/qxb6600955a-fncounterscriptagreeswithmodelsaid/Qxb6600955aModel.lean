namespace Go.Proofs.Qxb6600955a

/-! The plain law: lists and integers alone. -/

/-- prune, on the list of the runs' starts, oldest first. -/
def pruneL (t mn mx : Int) : List Int → List Int
  | [] => []
  | a :: rest => if (0 ≤ mx ∧ mx < t - a) ∨ (∃ b, rest.head? = some b ∧ mn ≤ t - b) then pruneL t mn mx rest else a :: rest

/-- A run of the model is alive. -/
def aliveL (mx t lf s : Int) : Prop := ¬ (s < lf ∨ t ≤ s) ∧ ¬ (0 ≤ mx ∧ mx < t - s)

def liveEnds (mn mx t lf : Int) (S : List Int) : Prop := ∃ s, s ∈ S ∧ aliveL mx t lf s ∧ mn ≤ t - s
def liveMore (mx t lf : Int) (S : List Int) : Prop := ∃ s, s ∈ S ∧ aliveL mx t lf s ∧ (mx < 0 ∨ t - s < mx)

/-- Behind the pass at clock t, and behind each start at it. -/
structure Inv (mn mx t : Int) (L S : List Int) (lf : Int) : Prop where
  rng : ∀ s ∈ S, 0 ≤ s ∧ s ≤ t
  sorted : S.Pairwise (· < ·)
  alive : ∀ s ∈ L, lf ≤ s
  dom : ∃ D, S = D ++ L ∧ ∀ s ∈ D, s < lf ∨ (0 ≤ mx ∧ mx < t + 1 - s) ∨ ∃ h, L.head? = some h ∧ mn ≤ t + 1 - h
  lfle : lf ≤ t
  emp : L = [] → ∀ s ∈ S, s < t

theorem pruneL_split (t mn mx : Int) : ∀ L : List Int, L.Pairwise (· < ·) → ∃ X, L = X ++ pruneL t mn mx L ∧ ∀ a ∈ X, (0 ≤ mx ∧ mx < t - a) ∨ ∃ h, (pruneL t mn mx L).head? = some h ∧ mn ≤ t - h := by
  intro L
  induction L with
  | nil => intro _; exact ⟨[], rfl, by simp⟩
  | cons a rest ih =>
    intro hp
    rw [pruneL]
    split
    · rename_i hc
      obtain ⟨X, hX, hd⟩ := ih (List.pairwise_cons.1 hp).2
      refine ⟨a :: X, by rw [List.cons_append, ← hX], ?_⟩
      intro x hx
      rcases List.mem_cons.1 hx with rfl | hx
      · rcases hc with hc | ⟨b, hb, hm⟩
        · exact .inl hc
        · -- the run after it, b, has matched enough
          cases X with
          | nil =>
            simp only [List.nil_append] at hX
            exact .inr ⟨b, by rw [← hX]; exact hb, hm⟩
          | cons y Y =>
            have hyb : y = b := by
              rw [hX] at hb
              simpa using hb
            subst hyb
            rcases hd y (by simp) with h1 | h1
            · have : x < y := (List.pairwise_cons.1 hp).1 y (by rw [hX]; simp)
              exact .inl ⟨h1.1, by omega⟩
            · exact .inr h1
      · exact hd x hx
    · exact ⟨[], rfl, by simp⟩

/-- What prune leaves has an oldest run that it would not drop. -/
theorem pruneL_head (t mn mx : Int) : ∀ (L : List Int) (h : Int) (r : List Int), pruneL t mn mx L = h :: r → ¬ (0 ≤ mx ∧ mx < t - h) := by
  intro L
  induction L with
  | nil => intro h r e; simp [pruneL] at e
  | cons a rest ih =>
    intro h r e
    rw [pruneL] at e
    split at e
    · exact ih h r e
    · rename_i hc
      simp only [List.cons.injEq] at e
      rw [← e.1]
      intro hx
      exact hc (.inl hx)

/-- The youngest run of a list at the clock is never dropped. -/
theorem pruneL_last (t mn mx : Int) : ∀ L : List Int, ∃ X, pruneL t mn mx (L ++ [t]) = X ++ [t] := by
  intro L
  induction L with
  | nil =>
    refine ⟨[], ?_⟩
    show pruneL t mn mx [t] = [] ++ [t]
    rw [pruneL]
    refine if_neg ?_
    rintro (h | ⟨b, hb, _⟩)
    · omega
    · simp at hb
  | cons a rest ih =>
    simp only [List.cons_append, pruneL]
    split
    · exact ih
    · exact ⟨a :: rest, rfl⟩

/-- A mismatch at clock t. -/
theorem Inv.miss {mn mx t : Int} {L S : List Int} {lf : Int} (h : Inv mn mx (t - 1) L S lf) : Inv mn mx t [] S t ∧ ¬ liveEnds mn mx t t S ∧ ¬ liveMore mx t t S := by
  have hr : ∀ s ∈ S, 0 ≤ s ∧ s < t := fun s hs => by have := h.rng s hs; omega
  refine ⟨⟨fun s hs => by have := hr s hs; omega, h.sorted, by simp, ⟨S, by simp, fun s hs => .inl (hr s hs).2⟩, Int.le_refl _, fun _ s hs => (hr s hs).2⟩, ?_, ?_⟩
  · rintro ⟨s, hs, ha, _⟩
    have := hr s hs
    exact ha.1 (.inl this.2)
  · rintro ⟨s, hs, ha, _⟩
    have := hr s hs
    exact ha.1 (.inl this.2)

theorem sorted_last {S D L : List Int} {l : Int} (hS : S = D ++ (L ++ [l])) (hp : S.Pairwise (· < ·)) : ∀ s ∈ S, s ≤ l := by
  intro s hs
  rw [hS, ← List.append_assoc] at hs hp
  rcases List.mem_append.1 hs with h | h
  · have := (List.pairwise_append.1 hp).2.2 s h l (by simp)
    omega
  · simp at h; omega

/-- A match at clock t: what prune leaves, and what the model says. -/
theorem Inv.hit {mn mx t : Int} {L S : List Int} {lf : Int} (h : Inv mn mx (t - 1) L S lf) :
    ∃ D, S = D ++ pruneL t mn mx L ∧ (∀ s ∈ D, s < lf ∨ (0 ≤ mx ∧ mx < t - s) ∨ ∃ x, (pruneL t mn mx L).head? = some x ∧ mn ≤ t - x) ∧ (∀ s ∈ pruneL t mn mx L, lf ≤ s) := by
  obtain ⟨D, hS, hD⟩ := h.dom
  have hpL : L.Pairwise (· < ·) := by have := h.sorted; rw [hS] at this; exact (List.pairwise_append.1 this).2.1
  have hpS := h.sorted
  obtain ⟨X, hX, hd⟩ := pruneL_split t mn mx L hpL
  generalize pruneL t mn mx L = P at *
  refine ⟨D ++ X, by rw [List.append_assoc, ← hX, hS], ?_, ?_⟩
  · intro s hs
    rcases List.mem_append.1 hs with hs1 | hs1
    · rcases hD s hs1 with h1 | h1 | ⟨x, hx, hm⟩
      · exact .inl h1
      · exact .inr (.inl ⟨h1.1, by omega⟩)
      · right
        cases X with
        | nil =>
          simp only [List.nil_append] at hX
          exact .inr ⟨x, by rw [← hX]; exact hx, by omega⟩
        | cons y Y =>
          have hy : y = x := by rw [hX] at hx; simpa using hx
          subst hy
          rcases hd y (by simp) with h2 | h2
          · left
            have : s < y := by
              rw [hS] at hpS
              exact (List.pairwise_append.1 hpS).2.2 s hs1 y (by rw [hX]; simp)
            exact ⟨h2.1, by omega⟩
          · exact .inr h2
    · exact .inr (hd s hs1)
  · intro s hs
    exact h.alive s (by rw [hX]; exact List.mem_append_right _ hs)

/-- Nothing is left: the model has no run alive. -/
theorem Inv.hit_none {mn mx t : Int} {L S : List Int} {lf : Int} (h : Inv mn mx (t - 1) L S lf) (hp : pruneL t mn mx L = []) : Inv mn mx t [] S lf ∧ ¬ liveEnds mn mx t lf S ∧ ¬ liveMore mx t lf S := by
  obtain ⟨D, hS, hD, _⟩ := h.hit
  rw [hp, List.append_nil] at hS
  have hd : ∀ s ∈ S, s < lf ∨ (0 ≤ mx ∧ mx < t - s) := fun s hs => by
    rcases hD s (by rw [← hS]; exact hs) with h1 | h1 | ⟨x, hx, _⟩
    · exact .inl h1
    · exact .inr h1
    · rw [hp] at hx; simp at hx
  have hr : ∀ s ∈ S, 0 ≤ s ∧ s < t := fun s hs => by have := h.rng s hs; omega
  refine ⟨⟨fun s hs => by have := hr s hs; omega, h.sorted, by simp, ⟨S, by simp, fun s hs => ?_⟩, by have := h.lfle; omega, fun _ s hs => (hr s hs).2⟩, ?_, ?_⟩
  · rcases hd s hs with h1 | h1
    · exact .inl h1
    · exact .inr (.inl ⟨h1.1, by omega⟩)
  · rintro ⟨s, hs, ha, _⟩
    rcases hd s hs with h1 | h1
    · exact ha.1 (.inl h1)
    · exact ha.2 h1
  · rintro ⟨s, hs, ha, _⟩
    rcases hd s hs with h1 | h1
    · exact ha.1 (.inl h1)
    · exact ha.2 h1

/-- Runs are left: x the oldest, l the youngest. -/
theorem Inv.hit_some {mn mx t : Int} {L S : List Int} {lf : Int} (h : Inv mn mx (t - 1) L S lf) {x l : Int} {M : List Int} (hx : (pruneL t mn mx L).head? = some x) (hl : pruneL t mn mx L = M ++ [l]) :
    (liveEnds mn mx t lf S ↔ mn ≤ t - x) ∧ (liveMore mx t lf S ↔ (mx < 0 ∨ t - l < mx)) ∧
    ((mx < 0 ∨ t - l < mx) → Inv mn mx t (pruneL t mn mx L) S lf) ∧ (¬ (mx < 0 ∨ t - l < mx) → Inv mn mx t [] S lf) := by
  obtain ⟨D, hS, hD, hA⟩ := h.hit
  have hpS := h.sorted
  have hr : ∀ s ∈ S, 0 ≤ s ∧ s < t := fun s hs => by have := h.rng s hs; omega
  have hlast : ∀ s ∈ S, s ≤ l := sorted_last (by rw [hS, hl]) hpS
  have hxd : ¬ (0 ≤ mx ∧ mx < t - x) := by
    cases hp : pruneL t mn mx L with
    | nil => rw [hp] at hx; simp at hx
    | cons y r =>
      rw [hp] at hx
      simp at hx
      subst hx
      exact pruneL_head t mn mx L y r hp
  have hxm : x ∈ pruneL t mn mx L := List.mem_of_mem_head? hx
  have hlm : l ∈ pruneL t mn mx L := by rw [hl]; simp
  have hxS : x ∈ S := by rw [hS]; exact List.mem_append_right _ hxm
  have hlS : l ∈ S := by rw [hS]; exact List.mem_append_right _ hlm
  have hxl : x ≤ l := hlast x hxS
  have hge : ∀ s ∈ pruneL t mn mx L, x ≤ s := fun s hs => by
    cases hp : pruneL t mn mx L with
    | nil => rw [hp] at hs; simp at hs
    | cons y r =>
      rw [hp] at hx hs
      simp at hx
      subst hx
      rcases List.mem_cons.1 hs with rfl | hs
      · omega
      · have : (y :: r).Pairwise (· < ·) := by rw [hS, hp] at hpS; exact (List.pairwise_append.1 hpS).2.1
        have := (List.pairwise_cons.1 this).1 s hs
        omega
  have hDx : ∀ s ∈ D, s < x := fun s hs => by
    rw [hS] at hpS
    exact (List.pairwise_append.1 hpS).2.2 s hs x hxm
  have halive : ∀ s ∈ pruneL t mn mx L, aliveL mx t lf s := fun s hs => by
    have h1 := hA s hs
    have h2 := hr s (by rw [hS]; exact List.mem_append_right _ hs)
    have h3 := hge s hs
    exact ⟨by omega, by omega⟩
  refine ⟨⟨?_, fun hm => ⟨x, hxS, halive x hxm, hm⟩⟩, ⟨?_, fun hm => ⟨l, hlS, halive l hlm, hm⟩⟩, fun hm => ?_, fun hm => ?_⟩
  · rintro ⟨s, hs, ha, hm⟩
    rw [hS] at hs
    rcases List.mem_append.1 hs with hs | hs
    · rcases hD s hs with h1 | h1 | ⟨y, hy, hm2⟩
      · exact absurd (.inl h1) ha.1
      · exact absurd h1 ha.2
      · rw [hx] at hy
        simp at hy
        omega
    · have := hge s hs
      omega
  · rintro ⟨s, hs, ha, hm⟩
    have := hlast s hs
    rcases hm with hm | hm
    · exact .inl hm
    · exact .inr (by omega)
  · refine ⟨fun s hs => by have := hr s hs; omega, hpS, hA, ⟨D, hS, fun s hs => ?_⟩, by have := h.lfle; omega, fun e => by rw [e] at hxm; simp at hxm⟩
    rcases hD s hs with h1 | h1 | ⟨y, hy, hm2⟩
    · exact .inl h1
    · exact .inr (.inl ⟨h1.1, by omega⟩)
    · exact .inr (.inr ⟨y, hy, by omega⟩)
  · refine ⟨fun s hs => by have := hr s hs; omega, hpS, by simp, ⟨S, by simp, fun s hs => ?_⟩, by have := h.lfle; omega, fun _ s hs => (hr s hs).2⟩
    have := hlast s hs
    exact .inr (.inl ⟨by omega, by omega⟩)

/-- A run starts at clock t. -/
theorem Inv.start {mn mx t : Int} {L S : List Int} {lf : Int} (h : Inv mn mx t L S lf) (hne : ∀ s ∈ S, s < t) (t0 : 0 ≤ t) : Inv mn mx t (pruneL t mn mx (L ++ [t])) (S ++ [t]) lf := by
  obtain ⟨D, hS, hD⟩ := h.dom
  have hpS := h.sorted
  have hpS' : (S ++ [t]).Pairwise (· < ·) := by
    rw [List.pairwise_append]
    refine ⟨hpS, by simp, fun a ha b hb => ?_⟩
    simp at hb
    subst hb
    exact hne a ha
  have hpL : (L ++ [t]).Pairwise (· < ·) := by
    rw [hS, List.append_assoc] at hpS'
    exact (List.pairwise_append.1 hpS').2.1
  obtain ⟨X, hX, hd⟩ := pruneL_split t mn mx (L ++ [t]) hpL
  obtain ⟨Y, hY⟩ := pruneL_last t mn mx L
  generalize pruneL t mn mx (L ++ [t]) = P at *
  refine ⟨?_, hpS', ?_, ⟨D ++ X, by rw [List.append_assoc, ← hX, hS, List.append_assoc], ?_⟩, h.lfle, fun e => by rw [hY] at e; simp at e⟩
  · intro s hs
    rcases List.mem_append.1 hs with hs | hs
    · exact h.rng s hs
    · simp at hs; omega
  · intro s hs
    have : s ∈ L ++ [t] := by rw [hX]; exact List.mem_append_right _ hs
    rcases List.mem_append.1 this with h1 | h1
    · exact h.alive s h1
    · simp at h1; have := h.lfle; omega
  · intro s hs
    rcases List.mem_append.1 hs with hs1 | hs1
    · rcases hD s hs1 with h1 | h1 | ⟨x, hx, hm⟩
      · exact .inl h1
      · exact .inr (.inl h1)
      · right
        have hx' : (L ++ [t]).head? = some x := by
          cases L with
          | nil => simp at hx
          | cons y r => simpa using hx
        cases X with
        | nil =>
          simp only [List.nil_append] at hX
          exact .inr ⟨x, by rw [← hX]; exact hx', hm⟩
        | cons y Z =>
          have hy : y = x := by rw [hX] at hx'; simpa using hx'
          subst hy
          rcases hd y (by simp) with h2 | ⟨z, hz, hm2⟩
          · left
            have hyL : y ∈ L := List.mem_of_mem_head? hx
            have : s < y := by
              rw [hS] at hpS
              exact (List.pairwise_append.1 hpS).2.2 s hs1 y hyL
            exact ⟨h2.1, by omega⟩
          · exact .inr ⟨z, hz, by omega⟩
    · rcases hd s hs1 with h2 | ⟨z, hz, hm2⟩
      · exact .inr (.inl ⟨h2.1, by omega⟩)
      · exact .inr (.inr ⟨z, hz, by omega⟩)

theorem Inv.zero (mn mx : Int) : Inv mn mx (-1) [] [] (-1) := ⟨by simp, List.Pairwise.nil, by simp, ⟨[], rfl, by simp⟩, Int.le_refl _, by simp⟩

/-- What the law asks of start: a run starts unless the last start was at this clock. -/
theorem Inv.last {mn mx t : Int} {L S : List Int} {lf : Int} (h : Inv mn mx t L S lf) : (∀ M, L = M ++ [t] → ∃ T, S = T ++ [t]) ∧ ((∀ M, L ≠ M ++ [t]) → ∀ s ∈ S, s < t) := by
  obtain ⟨D, hS, _⟩ := h.dom
  refine ⟨fun M hM => ⟨D ++ M, by rw [hS, hM, List.append_assoc]⟩, fun hne => ?_⟩
  rcases List.eq_nil_or_concat L with e | ⟨M, l, e⟩
  · exact h.emp e
  · rw [List.concat_eq_append] at e
    have hl : l ≠ t := fun e2 => hne M (by rw [e, e2])
    have hlS : l ∈ S := by rw [hS, e]; simp
    have h1 := h.rng l hlS
    have h2 := sorted_last (by rw [hS, e]) h.sorted
    intro s hs
    have := h2 s hs
    omega
end Go.Proofs.Qxb6600955a
