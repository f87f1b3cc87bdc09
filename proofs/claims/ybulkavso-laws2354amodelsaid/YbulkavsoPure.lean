/-
  The plain side of the trie: how a text is read byte by byte, the table 'picks' of a branch, and what 'add' makes of it. No Go here.
-/
namespace Go.Proofs.Ybulkavso

/-- The byte of a text at place i, '/' behind its end. -/
def bAt (l : List UInt8) (i : Nat) : UInt8 := l.getD i 47

/-- A text without '/'. -/
def Clean (l : List UInt8) : Prop := ∀ c ∈ l, c ≠ 47

theorem bAt_lt {l : List UInt8} {i : Nat} (h : i < l.length) : bAt l i = l[i] := by
  unfold bAt; rw [List.getD, List.getElem?_eq_getElem h]; rfl

theorem bAt_ge {l : List UInt8} {i : Nat} (h : l.length ≤ i) : bAt l i = 47 := by
  unfold bAt; rw [List.getD, List.getElem?_eq_none h]; rfl

theorem bAt_clean {l : List UInt8} (hl : Clean l) {i : Nat} (h : bAt l i = 47) : l.length ≤ i := by
  rcases Nat.lt_or_ge i l.length with hi | hi
  · rw [bAt_lt hi] at h
    exact absurd h (hl _ (List.getElem_mem hi))
  · exact hi

theorem eq_of_agree {s t : List UInt8} (hs : Clean s) (ht : Clean t) (h : ∀ i, i ≤ s.length → bAt s i = bAt t i) : s = t := by
  have h1 : t.length ≤ s.length := bAt_clean ht (by rw [← h _ (Nat.le_refl _), bAt_ge (Nat.le_refl _)])
  have h2 : s.length ≤ t.length := by
    refine bAt_clean hs ?_
    rw [h _ h1, bAt_ge (Nat.le_refl _)]
  refine List.ext_getElem (by omega) fun i hi hi' => ?_
  have := h i (by omega)
  rwa [bAt_lt hi, bAt_lt hi'] at this

/-- The table of a branch of k arms: ch i is the byte that picks arm i. -/
structure Picks (P : List UInt8) (lo : UInt8) (k : Nat) (ch : Nat → UInt8) : Prop where
  fit : lo.toNat + P.length ≤ 256
  hit : ∀ i, i < k → P[(ch i - lo).toNat]? = some (UInt8.ofNat i)
  low : ∀ (j : Nat) (v : UInt8), P[j]? = some v → v.toNat < k
  small : k ≤ 256
  inj : ∀ i j, i < k → j < k → ch i = ch j → i = j

/-- The arm that a byte picks: 0 where the table has none. -/
def pickIdx (P : List UInt8) (lo c : UInt8) : Nat := (P.getD (c - lo).toNat 0).toNat

theorem Picks.idx_lt {P : List UInt8} {lo : UInt8} {k : Nat} {ch : Nat → UInt8} (h : Picks P lo k ch) (hk : 0 < k) (c : UInt8) : pickIdx P lo c < k := by
  unfold pickIdx
  rw [List.getD]
  cases hp : P[(c - lo).toNat]? with
  | none => simpa using hk
  | some v => simpa using h.low _ _ hp

theorem Picks.idx_hit {P : List UInt8} {lo : UInt8} {k : Nat} {ch : Nat → UInt8} (h : Picks P lo k ch) {i : Nat} (hi : i < k) : pickIdx P lo (ch i) = i := by
  unfold pickIdx
  rw [List.getD, h.hit i hi]
  have := h.small
  show (UInt8.ofNat i).toNat = i
  rw [UInt8.toNat_ofNat']
  omega

theorem sub_nat (a b : UInt8) : (a - b).toNat = (a.toNat + (256 - b.toNat)) % 256 := by
  rw [UInt8.toNat_sub, Nat.add_comm]

/-- A byte that the table reaches lies at lo or above, without a wrap. -/
theorem reach {P : List UInt8} {lo c : UInt8} (hf : lo.toNat + P.length ≤ 256) (h : (c - lo).toNat < P.length) : lo.toNat ≤ c.toNat ∧ (c - lo).toNat = c.toNat - lo.toNat := by
  have h1 := c.toNat_lt
  have h2 := lo.toNat_lt
  rw [sub_nat] at h ⊢
  omega

/-- What 'add' makes of the table: the new table and its new lowest byte. -/
def growP (P : List UInt8) (lo c : UInt8) (k : Nat) : List UInt8 :=
  if P = [] then [UInt8.ofNat k]
  else if c < lo then (List.replicate (lo - c).toNat 0 ++ P).set 0 (UInt8.ofNat k)
  else if P.length ≤ (c - lo).toNat then (P ++ List.replicate ((c - lo).toNat + 1 - P.length) 0).set (c - lo).toNat (UInt8.ofNat k)
  else P.set (c - lo).toNat (UInt8.ofNat k)
def growLo (P : List UInt8) (lo c : UInt8) : UInt8 := if P = [] then c else if c < lo then c else lo

theorem lt_nat {a b : UInt8} : a < b ↔ a.toNat < b.toNat := UInt8.lt_iff_toNat_lt

theorem pigeon : ∀ (m k : Nat) (f : Nat → Nat), (∀ i, i < k → f i < m) → (∀ i j, i < k → j < k → f i = f j → i = j) → k ≤ m := by
  intro m
  induction m with
  | zero => intro k f h _; rcases k with _ | k; exact Nat.le_refl _; exact absurd (h 0 (by omega)) (by omega)
  | succ m ih =>
    intro k f h hi
    rcases k with _ | k
    · omega
    -- send the value m to the value of the last place
    by_cases hm : ∃ j, j < k ∧ f j = m
    · obtain ⟨j, hj, hjm⟩ := hm
      have hk : f k ≠ m := fun e => by have := hi j k (by omega) (by omega) (by rw [hjm, e]); omega
      have := ih k (fun i => if f i = m then f k else f i) (fun i hik => by
        show (if f i = m then f k else f i) < m
        have h1 := h i (by omega)
        have h2 := h k (by omega)
        split <;> omega) (fun i l hik hlk e => by
        have e' : (if f i = m then f k else f i) = (if f l = m then f k else f l) := e
        by_cases h1 : f i = m <;> by_cases h2 : f l = m
        · exact hi i l (by omega) (by omega) (by rw [h1, h2])
        · rw [if_pos h1, if_neg h2] at e'
          have := hi k l (by omega) (by omega) e'
          omega
        · rw [if_neg h1, if_pos h2] at e'
          have := hi i k (by omega) (by omega) e'
          omega
        · rw [if_neg h1, if_neg h2] at e'
          exact hi i l (by omega) (by omega) e')
      omega
    · have := ih k f (fun i hik => by
        have h1 := h i (by omega)
        have : f i ≠ m := fun e => hm ⟨i, hik, e⟩
        omega) (fun i j hik hjk => hi i j (by omega) (by omega))
      omega

/-- A branch that a byte does not pick has room for one arm more. -/
theorem Picks.room {P : List UInt8} {lo : UInt8} {k : Nat} {ch : Nat → UInt8} (h : Picks P lo k ch) {c : UInt8} (hc : ∀ i, i < k → ch i ≠ c) : k < 256 := by
  have := pigeon 256 (k + 1) (fun i => if i = k then c.toNat else (ch i).toNat) (fun i _ => by
    show (if i = k then c.toNat else (ch i).toNat) < 256
    have := c.toNat_lt
    have := (ch i).toNat_lt
    split <;> omega) (fun i j hi hj e => by
    have e' : (if i = k then c.toNat else (ch i).toNat) = (if j = k then c.toNat else (ch j).toNat) := e
    by_cases h1 : i = k <;> by_cases h2 : j = k
    · omega
    · rw [if_pos h1, if_neg h2] at e'
      exact absurd (UInt8.toNat_inj.1 e').symm (hc j (by omega))
    · rw [if_neg h1, if_pos h2] at e'
      exact absurd (UInt8.toNat_inj.1 e') (hc i (by omega))
    · rw [if_neg h1, if_neg h2] at e'
      exact h.inj i j (by omega) (by omega) (UInt8.toNat_inj.1 e'))
  omega

theorem ofNat_nat {k : Nat} (h : k < 256) : (UInt8.ofNat k).toNat = k := by rw [UInt8.toNat_ofNat']; omega

theorem Picks.grow {P : List UInt8} {lo : UInt8} {k : Nat} {ch : Nat → UInt8} (h : Picks P lo k ch) {c : UInt8} (hc : ∀ i, i < k → ch i ≠ c) (h0 : P = [] ↔ k = 0) :
    Picks (growP P lo c k) (growLo P lo c) (k + 1) (fun i => if i = k then c else ch i) := by
  have hk := h.room hc
  have hinj : ∀ i j, i < k + 1 → j < k + 1 → (if i = k then c else ch i) = (if j = k then c else ch j) → i = j := by
    intro i j hi hj e
    by_cases h1 : i = k <;> by_cases h2 : j = k
    · omega
    · rw [if_pos h1, if_neg h2] at e
      exact absurd e.symm (hc j (by omega))
    · rw [if_neg h1, if_pos h2] at e
      exact absurd e (hc i (by omega))
    · rw [if_neg h1, if_neg h2] at e
      exact h.inj i j (by omega) (by omega) e
  have cl := c.toNat_lt
  have ll := lo.toNat_lt
  unfold growP growLo
  by_cases hP : P = []
  · have hk0 := h0.1 hP
    rw [if_pos hP, if_pos hP]
    subst hk0
    refine ⟨by simp; omega, ?_, ?_, by omega, hinj⟩
    · intro i hi
      obtain rfl : i = 0 := by omega
      simp
    · intro j v hj
      match j, hj with
      | 0, hj => simp at hj; subst hj; decide
  · rw [if_neg hP, if_neg hP]
    have hf := h.fit
    have hr : ∀ i, i < k → lo.toNat ≤ (ch i).toNat ∧ (ch i - lo).toNat = (ch i).toNat - lo.toNat ∧ (ch i - lo).toNat < P.length := by
      intro i hi
      have hx := (List.getElem?_eq_some_iff.1 (h.hit i hi)).1
      obtain ⟨h1, h2⟩ := reach h.fit hx
      exact ⟨h1, h2, hx⟩
    by_cases hlt : c < lo
    · rw [if_pos hlt, if_pos hlt]
      rw [lt_nat] at hlt
      have hd : (lo - c).toNat = lo.toNat - c.toNat := by rw [sub_nat]; omega
      refine ⟨by simp [hd]; omega, ?_, ?_, by omega, hinj⟩
      · intro i hi
        by_cases hik : i = k
        · simp only [if_pos hik]
          subst hik
          have : (c - c).toNat = 0 := by rw [sub_nat]; omega
          rw [this]
          rw [List.getElem?_set_self (by simp [hd]; omega)]
        · simp only [if_neg hik]
          obtain ⟨r1, r2, r3⟩ := hr i (by omega)
          have e : (ch i - c).toNat = (lo.toNat - c.toNat) + ((ch i).toNat - lo.toNat) := by
            have := (ch i).toNat_lt
            rw [sub_nat]; omega
          rw [e, List.getElem?_set_ne (by omega), List.getElem?_append_right (by simp [hd])]
          simp only [List.length_replicate, hd, Nat.add_sub_cancel_left]
          rw [← r2]
          exact h.hit i (by omega)
      · intro j v hj
        by_cases hj0 : j = 0
        · subst hj0
          rw [List.getElem?_set_self (by simp [hd]; omega)] at hj
          simp at hj
          subst hj
          rw [ofNat_nat hk]; omega
        · rw [List.getElem?_set_ne (by omega)] at hj
          rcases Nat.lt_or_ge j (lo - c).toNat with hl | hl
          · rw [List.getElem?_append_left (by simpa using hl), List.getElem?_replicate, if_pos hl] at hj
            simp at hj; subst hj; simp
          · rw [List.getElem?_append_right (by simpa using hl)] at hj
            have := h.low _ _ hj
            omega
    · rw [if_neg hlt, if_neg hlt]
      rw [lt_nat] at hlt
      have hd : (c - lo).toNat = c.toNat - lo.toNat := by rw [sub_nat]; omega
      by_cases hlen : P.length ≤ (c - lo).toNat
      · rw [if_pos hlen]
        refine ⟨by simp; omega, ?_, ?_, by omega, hinj⟩
        · intro i hi
          by_cases hik : i = k
          · simp only [if_pos hik]
            subst hik
            rw [List.getElem?_set_self (by simp; omega)]
          · simp only [if_neg hik]
            obtain ⟨r1, r2, r3⟩ := hr i (by omega)
            rw [List.getElem?_set_ne (by omega), List.getElem?_append_left r3]
            exact h.hit i (by omega)
        · intro j v hj
          by_cases hj0 : j = (c - lo).toNat
          · subst hj0
            rw [List.getElem?_set_self (by simp; omega)] at hj
            simp at hj
            subst hj
            rw [ofNat_nat hk]; omega
          · rw [List.getElem?_set_ne (by omega)] at hj
            rcases Nat.lt_or_ge j P.length with hl | hl
            · rw [List.getElem?_append_left hl] at hj
              have := h.low _ _ hj
              omega
            · rw [List.getElem?_append_right hl, List.getElem?_replicate] at hj
              split at hj
              · simp at hj; subst hj; simp
              · simp at hj
      · rw [if_neg hlen]
        refine ⟨by simp; omega, ?_, ?_, by omega, hinj⟩
        · intro i hi
          by_cases hik : i = k
          · simp only [if_pos hik]
            subst hik
            rw [List.getElem?_set_self (by omega)]
          · simp only [if_neg hik]
            obtain ⟨r1, r2, r3⟩ := hr i (by omega)
            have : (c - lo).toNat ≠ (ch i - lo).toNat := by
              intro e
              rw [hd, r2] at e
              exact hc i (by omega) (UInt8.toNat_inj.1 (by omega))
            rw [List.getElem?_set_ne this]
            exact h.hit i (by omega)
        · intro j v hj
          by_cases hj0 : j = (c - lo).toNat
          · subst hj0
            rw [List.getElem?_set_self (by omega)] at hj
            simp at hj
            subst hj
            rw [ofNat_nat hk]; omega
          · rw [List.getElem?_set_ne (by omega)] at hj
            have := h.low _ _ hj
            omega

theorem growP_ne (P : List UInt8) (lo c : UInt8) (k : Nat) : growP P lo c k ≠ [] := by
  unfold growP
  by_cases hP : P = []
  · rw [if_pos hP]; simp
  · rw [if_neg hP]
    split
    · intro e; have := congrArg List.length e; simp at this; exact hP this.2
    · split
      · intro e; have := congrArg List.length e; simp at this; exact hP this.1
      · intro e; have := congrArg List.length e; simp at this; exact hP this

end Go.Proofs.Ybulkavso
