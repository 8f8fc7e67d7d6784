/- A hash table that probes linearly: the plain mathematics. No Go in sight. C cells, h the home of an id, ids the cells (-1: empty). -/
import Derived.RowKit
namespace Go.Proofs.Qxb6003863aFmt

/-- How far cell j lies behind cell s, round the table. -/
def off (C j s : Nat) : Nat := (j + C - s) % C

theorem add_mod_one {a C : Nat} (ha : a < C) : (a + 1) % C = if a + 1 = C then 0 else a + 1 := by
  split
  · rename_i h; rw [h, Nat.mod_self]
  · exact Nat.mod_eq_of_lt (by omega)
theorem mod_sub {a C : Nat} (h1 : C ≤ a) (h2 : a < 2 * C) : a % C = a - C := by
  rw [Nat.mod_eq_sub_mod h1, Nat.mod_eq_of_lt (by omega)]
theorem mod_cases {a C : Nat} (h2 : a < 2 * C) : (a < C ∧ a % C = a) ∨ (C ≤ a ∧ a % C = a - C) := by
  rcases Nat.lt_or_ge a C with h | h
  · exact .inl ⟨h, Nat.mod_eq_of_lt h⟩
  · exact .inr ⟨h, mod_sub h h2⟩

theorem off_lt {C j s : Nat} (hj : j < C) : off C j s < C := Nat.mod_lt _ (by omega)
theorem off_cases {C j s : Nat} (hj : j < C) (hs : s < C) : (s ≤ j ∧ off C j s = j - s) ∨ (j < s ∧ off C j s = j + C - s) := by
  unfold off
  rcases mod_cases (a := j + C - s) (C := C) (by omega) with ⟨h1, h2⟩ | ⟨h1, h2⟩
  · exact .inr ⟨by omega, h2⟩
  · exact .inl ⟨by omega, by omega⟩
theorem at_off {C j s : Nat} (hj : j < C) (hs : s < C) : (s + off C j s) % C = j := by
  rcases off_cases hj hs with ⟨h1, h2⟩ | ⟨h1, h2⟩ <;> rw [h2]
  · rw [show s + (j - s) = j by omega]; exact Nat.mod_eq_of_lt hj
  · rw [show s + (j + C - s) = j + C by omega, Nat.add_mod_right]; exact Nat.mod_eq_of_lt hj
theorem off_at {C s k : Nat} (hs : s < C) (hk : k < C) : off C ((s + k) % C) s = k := by
  rcases mod_cases (a := s + k) (C := C) (by omega) with ⟨h1, h2⟩ | ⟨h1, h2⟩ <;> rw [h2]
  · rcases off_cases (j := s + k) (s := s) h1 hs with ⟨_, h⟩ | ⟨h, _⟩ <;> omega
  · rcases off_cases (j := s + k - C) (s := s) (by omega) hs with ⟨h, _⟩ | ⟨_, h⟩ <;> omega
theorem off_zero {C j s : Nat} (hj : j < C) (hs : s < C) (h : off C j s = 0) : j = s := by
  rcases off_cases hj hs with ⟨h1, h2⟩ | ⟨h1, h2⟩ <;> omega
theorem off_self {C s : Nat} (hs : s < C) : off C s s = 0 := by
  rcases off_cases hs hs with ⟨h1, h2⟩ | ⟨h1, h2⟩ <;> omega
theorem off_inj {C j k s : Nat} (hj : j < C) (hk : k < C) (hs : s < C) (h : off C j s = off C k s) : j = k := by
  rw [← at_off hj hs, ← at_off hk hs, h]
theorem step_at {C s k : Nat} : ((s + k) % C + 1) % C = (s + (k + 1)) % C := by
  rw [Nat.mod_add_mod, Nat.add_assoc]
/-- One step on, the goal is one step nearer. -/
theorem off_step {C j s : Nat} (hj : j < C) (hs : s < C) (hne : ¬ j = s) : off C j ((s + 1) % C) + 1 = off C j s := by
  rw [add_mod_one hs]
  split
  · rcases off_cases (s := s) hj hs with ⟨h1, h2⟩ | ⟨h1, h2⟩
    · omega
    · rcases off_cases (s := 0) hj (by omega) with ⟨h3, h4⟩ | ⟨h3, h4⟩ <;> omega
  · rcases off_cases (s := s) hj hs with ⟨h1, h2⟩ | ⟨h1, h2⟩ <;> rcases off_cases (s := s + 1) hj (by omega) with ⟨h3, h4⟩ | ⟨h3, h4⟩ <;> omega
/-- Two distances from one cell: the one beyond the other. -/
theorem off_sub {C x i e : Nat} (hx : x < C) (hi : i < C) (he : e ≤ off C x i) : off C x ((i + e) % C) + e = off C x i := by
  have hxi := off_lt (s := i) hx
  rcases mod_cases (a := i + e) (C := C) (by omega) with ⟨h1, h2⟩ | ⟨h1, h2⟩ <;> rw [h2]
  · rcases off_cases hx hi with ⟨h3, h4⟩ | ⟨h3, h4⟩ <;> rcases off_cases (s := i + e) hx h1 with ⟨h5, h6⟩ | ⟨h5, h6⟩ <;> omega
  · rcases off_cases hx hi with ⟨h3, h4⟩ | ⟨h3, h4⟩ <;> rcases off_cases (s := i + e - C) hx (by omega) with ⟨h5, h6⟩ | ⟨h5, h6⟩ <;> omega

def upd {α : Type} (f : Nat → α) (j : Nat) (x : α) : Nat → α := fun k => if k = j then x else f k
theorem upd_same {α : Type} (f : Nat → α) (j : Nat) (x : α) : upd f j x j = x := by simp [upd]
theorem upd_other {α : Type} (f : Nat → α) {j k : Nat} (x : α) (h : ¬ k = j) : upd f j x k = f k := by simp [upd, h]

/-- The filled cells among the first n. -/
def cnt (ids : Nat → Int) : Nat → Nat
  | 0 => 0
  | n + 1 => cnt ids n + if ids n = -1 then 0 else 1
theorem cnt_le (ids : Nat → Int) : ∀ n, cnt ids n ≤ n
  | 0 => Nat.le_refl _
  | n + 1 => by have := cnt_le ids n; unfold cnt; split <;> omega
theorem cnt_empty (ids : Nat → Int) : ∀ n, cnt ids n < n → ∃ j, j < n ∧ ids j = -1
  | 0, h => by omega
  | n + 1, h => by
    by_cases hn : ids n = -1
    · exact ⟨n, by omega, hn⟩
    · unfold cnt at h
      rw [if_neg hn] at h
      obtain ⟨j, hj, he⟩ := cnt_empty ids n (by omega)
      exact ⟨j, by omega, he⟩
theorem cnt_same (ids ids' : Nat → Int) : ∀ n, (∀ j, j < n → (ids j = -1 ↔ ids' j = -1)) → cnt ids n = cnt ids' n
  | 0, _ => rfl
  | n + 1, h => by
    unfold cnt
    rw [cnt_same ids ids' n (fun j hj => h j (by omega))]
    have := h n (by omega)
    by_cases hn : ids n = -1
    · rw [if_pos hn, if_pos (this.1 hn)]
    · rw [if_neg hn, if_neg (fun e => hn (this.2 e))]
theorem cnt_fill (ids : Nat → Int) (j : Nat) (x : Int) (he : ids j = -1) (hx : ¬ x = -1) : ∀ n, j < n → cnt (upd ids j x) n = cnt ids n + 1
  | 0, h => by omega
  | n + 1, h => by
    unfold cnt
    by_cases hn : n = j
    · subst hn
      rw [upd_same, if_neg hx, if_pos he, cnt_same (upd ids n x) ids n (fun k hk => by rw [upd_other _ _ (by omega)])]
    · rw [upd_other _ _ hn, cnt_fill ids j x he hx n (by omega)]
      omega
theorem cnt_clear (ids : Nat → Int) (j : Nat) (he : ¬ ids j = -1) : ∀ n, j < n → cnt (upd ids j (-1)) n + 1 = cnt ids n
  | 0, h => by omega
  | n + 1, h => by
    unfold cnt
    by_cases hn : n = j
    · subst hn
      rw [upd_same, if_pos rfl, if_neg he, cnt_same (upd ids n (-1)) ids n (fun k hk => by rw [upd_other _ _ (by omega)])]
    · rw [upd_other _ _ hn]
      have := cnt_clear ids j he n (by omega)
      omega
theorem cnt_none (ids : Nat → Int) : ∀ n, (∀ j, j < n → ids j = -1) → cnt ids n = 0
  | 0, _ => rfl
  | n + 1, h => by unfold cnt; rw [cnt_none ids n (fun j hj => h j (by omega)), if_pos (h n (by omega))]

/-- THE TABLE: no id twice; no empty cell between an id's home and its cell. -/
structure Tab (C : Nat) (h : Int → Nat) (ids : Nat → Int) : Prop where
  home : ∀ x, h x < C
  uniq : ∀ j k, j < C → k < C → ¬ ids j = -1 → ids j = ids k → j = k
  probe : ∀ j, j < C → ¬ ids j = -1 → ∀ k, k < off C j (h (ids j)) → ¬ ids ((h (ids j) + k) % C) = -1

/-- The search for x has passed k cells. -/
def Passed (C : Nat) (h : Int → Nat) (ids : Nat → Int) (x : Int) (k : Nat) : Prop := k < C ∧ ∀ t, t < k → ¬ ids ((h x + t) % C) = -1 ∧ ¬ ids ((h x + t) % C) = x

theorem passed_zero {C : Nat} {h : Int → Nat} {ids : Nat → Int} {x : Int} (hC : 0 < C) : Passed C h ids x 0 := ⟨hC, fun t ht => by omega⟩
theorem Passed.next {C : Nat} {h : Int → Nat} {ids : Nat → Int} {x : Int} {k e : Nat} (hp : Passed C h ids x k) (hx : h x < C) (he : e < C) (hee : ids e = -1) (h1 : ¬ ids ((h x + k) % C) = -1) (h2 : ¬ ids ((h x + k) % C) = x) : Passed C h ids x (k + 1) := by
  refine ⟨?_, fun t ht => ?_⟩
  · have h3 := at_off he hx
    have h4 := off_lt (s := h x) he
    have h5 : ¬ off C e (h x) < k := fun h => (hp.2 _ h).1 (by rw [h3]; exact hee)
    have h6 : ¬ off C e (h x) = k := fun h => h1 (by rw [← h, h3]; exact hee)
    omega
  · by_cases e : t = k
    · subst e; exact ⟨h1, h2⟩
    · exact hp.2 t (by omega)
/-- An id that lies in cell j is found there. -/
theorem Passed.held {C : Nat} {h : Int → Nat} {ids : Nat → Int} {x : Int} {k j : Nat} (T : Tab C h ids) (hp : Passed C h ids x k) (hs : ids ((h x + k) % C) = -1 ∨ ids ((h x + k) % C) = x) (hj : j < C) (hjx : ids j = x) (hx : ¬ x = -1) : (h x + k) % C = j := by
  have hh := T.home x
  have h3 := at_off hj hh
  have h4 := off_lt (s := h x) hj
  have hk := hp.1
  rcases Nat.lt_trichotomy k (off C j (h x)) with hlt | heq | hgt
  · exfalso
    have h5 : ¬ ids ((h x + k) % C) = -1 := by
      have := T.probe j hj (by rw [hjx]; exact hx) k (by rw [hjx]; exact hlt)
      rwa [hjx] at this
    have h6 : ids ((h x + k) % C) = x := hs.resolve_left h5
    have h7 := T.uniq _ j (Nat.mod_lt _ (by omega)) hj h5 (by rw [h6, hjx])
    have h8 := off_at hh hk
    rw [h7] at h8
    omega
  · rw [heq]; exact h3
  · exfalso
    have := (hp.2 _ hgt).2
    rw [h3] at this
    exact this hjx

/-- A new id laid into the empty cell at which its search ended. -/
theorem Tab.put {C : Nat} {h : Int → Nat} {ids : Nat → Int} {x : Int} {k : Nat} (T : Tab C h ids) (hp : Passed C h ids x k) (he : ids ((h x + k) % C) = -1) (hx : ¬ x = -1) : Tab C h (upd ids ((h x + k) % C) x) ∧ ∀ j, j < C → ¬ ids j = x := by
  have hC : 0 < C := by have := hp.1; omega
  have hno : ∀ j, j < C → ¬ ids j = x := fun j hj e => by
    have := hp.held T (.inl he) hj e hx
    rw [this, e] at he
    exact hx he
  refine ⟨⟨T.home, ?_, ?_⟩, hno⟩
  · intro i j hi hj h1 h2
    unfold upd at h1 h2
    by_cases ei : i = (h x + k) % C <;> by_cases ej : j = (h x + k) % C
    · omega
    · rw [if_pos ei, if_neg ej] at h2; exact absurd h2.symm (hno j hj)
    · rw [if_neg ei, if_pos ej] at h2; exact absurd h2 (hno i hi)
    · rw [if_neg ei] at h1 h2; rw [if_neg ej] at h2; exact T.uniq i j hi hj h1 h2
  · intro j hj h1 t ht
    by_cases ej : j = (h x + k) % C
    · rw [ej, upd_same] at ht ⊢
      rw [off_at (T.home x) hp.1] at ht
      unfold upd
      split
      · exact hx
      · exact (hp.2 t ht).1
    · rw [upd_other _ _ ej] at h1 ht ⊢
      unfold upd
      split
      · exact hx
      · exact T.probe j hj h1 t ht

/-- A HOLE at i while ids behind it are looked at, cell i + e next: what lies in cell i no longer counts; e0 is an empty cell. -/
structure Hole (C : Nat) (h : Int → Nat) (ids : Nat → Int) (i e e0 : Nat) : Prop where
  home : ∀ x, h x < C
  lt : i < C
  e1 : 1 ≤ e
  e2 : e < C
  elt : e0 < C
  emp : ids e0 = -1
  fill : ¬ ids i = -1
  uniq : ∀ a b, a < C → b < C → ¬ a = i → ¬ b = i → ¬ ids a = -1 → ids a = ids b → a = b
  betw : ∀ t, 1 ≤ t → t < e → ¬ ids ((i + t) % C) = -1
  path : ∀ x, x < C → ¬ x = i → ¬ ids x = -1 → ∀ k, k < off C x (h (ids x)) → ¬ ids ((h (ids x) + k) % C) = -1 ∧ ((h (ids x) + k) % C = i → e ≤ off C x i)

theorem Tab.hole {C : Nat} {h : Int → Nat} {ids : Nat → Int} {i e0 : Nat} (T : Tab C h ids) (hi : i < C) (hf : ¬ ids i = -1) (he : e0 < C) (hee : ids e0 = -1) : Hole C h ids i 1 e0 where
  home := T.home
  lt := hi
  e1 := Nat.le_refl _
  e2 := by
    have : ¬ e0 = i := fun e => hf (by rw [← e]; exact hee)
    omega
  elt := he
  emp := hee
  fill := hf
  uniq := fun a b ha hb _ _ h1 h2 => T.uniq a b ha hb h1 h2
  betw := fun t h1 h2 => by omega
  path := fun x hx hxi h1 k hk => ⟨T.probe x hx h1 k hk, fun _ => by
    have : ¬ off C x i = 0 := fun e => hxi (off_zero hx hi e)
    omega⟩

/-- e steps from the hole: the distance back is e. -/
theorem Hole.dist {C : Nat} {h : Int → Nat} {ids : Nat → Int} {i e e0 : Nat} (H : Hole C h ids i e e0) : off C ((i + e) % C) i = e := off_at H.lt H.e2
theorem Hole.jlt {C : Nat} {h : Int → Nat} {ids : Nat → Int} {i e e0 : Nat} (H : Hole C h ids i e e0) : (i + e) % C < C := Nat.mod_lt _ (by have := H.lt; omega)
theorem Hole.jne {C : Nat} {h : Int → Nat} {ids : Nat → Int} {i e e0 : Nat} (H : Hole C h ids i e e0) : ¬ (i + e) % C = i := fun x => by
  have h1 := H.dist
  rw [x, off_self H.lt] at h1
  have := H.e1
  omega

/-- The id in cell i + e stays: its home lies behind the hole. -/
theorem Hole.stay {C : Nat} {h : Int → Nat} {ids : Nat → Int} {i e e0 : Nat} (H : Hole C h ids i e e0) (hj : ¬ ids ((i + e) % C) = -1) (hs : off C ((i + e) % C) (h (ids ((i + e) % C))) < e) : Hole C h ids i (e + 1) e0 where
  home := H.home
  lt := H.lt
  e1 := by omega
  e2 := by
    have h1 := off_lt (s := i) H.elt
    have h2 := at_off H.elt H.lt
    have h3 : ¬ off C e0 i = 0 := fun x => H.fill (by rw [← off_zero H.elt H.lt x]; exact H.emp)
    have h4 : ¬ off C e0 i < e := fun x => H.betw _ (by omega) x (by rw [h2]; exact H.emp)
    have h5 : ¬ off C e0 i = e := fun x => hj (by rw [← x, h2]; exact H.emp)
    omega
  elt := H.elt
  emp := H.emp
  fill := H.fill
  uniq := H.uniq
  betw := fun t h1 h2 => by
    by_cases x : t = e
    · subst x; exact hj
    · exact H.betw t h1 (by omega)
  path := fun x hx hxi h1 k hk => by
    obtain ⟨p1, p2⟩ := H.path x hx hxi h1 k hk
    refine ⟨p1, fun hi => ?_⟩
    have p3 := p2 hi
    by_cases hxe : off C x i = e
    · exfalso
      have hxj : x = (i + e) % C := by rw [← hxe]; exact (at_off hx H.lt).symm
      have hhome := H.home (ids x)
      have hoff := off_lt (s := h (ids x)) hx
      have h5 := off_sub (x := x) (i := h (ids x)) (e := k) hx hhome (by omega)
      rw [hi, hxe] at h5
      rw [← hxj] at hs
      omega
    · omega

/-- The id in cell i + e moves into the hole. -/
theorem Hole.move {C : Nat} {h : Int → Nat} {ids : Nat → Int} {i e e0 : Nat} (H : Hole C h ids i e e0) (hj : ¬ ids ((i + e) % C) = -1) (hs : e ≤ off C ((i + e) % C) (h (ids ((i + e) % C)))) : Hole C h (upd ids i (ids ((i + e) % C))) ((i + e) % C) 1 e0 := by
  have hjl := H.jlt
  have hji := H.jne
  have he0i : ¬ e0 = i := fun x => H.fill (by rw [← x]; exact H.emp)
  have he0j : ¬ e0 = (i + e) % C := fun x => hj (by rw [← x]; exact H.emp)
  obtain ⟨j, hjd⟩ : ∃ j, j = (i + e) % C := ⟨_, rfl⟩
  rw [← hjd] at hj hs hjl hji he0j ⊢
  have keep : ∀ y, ¬ ids y = -1 → ¬ upd ids i (ids j) y = -1 := fun y hy => by
    unfold upd
    split
    · exact hj
    · exact hy
  refine { home := H.home, lt := hjl, e1 := Nat.le_refl _, e2 := by have := H.elt; omega, elt := H.elt, emp := by rw [upd_other _ _ he0i]; exact H.emp, fill := keep j hj, uniq := ?_, betw := fun t h1 h2 => by omega, path := ?_ }
  · intro a b ha hb haj hbj h1 h2
    unfold upd at h1 h2
    by_cases ea : a = i <;> by_cases eb : b = i
    · omega
    · rw [if_pos ea, if_neg eb] at h2
      exact absurd (H.uniq j b hjl hb hji eb hj h2).symm hbj
    · rw [if_neg ea, if_pos eb] at h2
      rw [if_neg ea] at h1
      exact absurd (H.uniq a j ha hjl ea hji h1 h2) haj
    · rw [if_neg ea] at h1 h2
      rw [if_neg eb] at h2
      exact H.uniq a b ha hb ea eb h1 h2
  · intro x hx hxj h1 k hk
    refine ⟨?_, fun _ => ?_⟩
    · by_cases ex : x = i
      · subst ex
        rw [upd_same] at hk ⊢
        apply keep
        have hd : off C x (h (ids j)) + e = off C j (h (ids j)) := by
          have hhome := H.home (ids j)
          have h5 := off_sub (x := j) (i := h (ids j)) (e := off C j (h (ids j)) - e) hjl hhome (by omega)
          have h6 := H.dist
          rw [← hjd] at h6
          -- the cell at that distance is the hole
          have h7 : (h (ids j) + (off C j (h (ids j)) - e)) % C = x := by
            apply off_inj (s := j) (Nat.mod_lt _ (by omega)) hx hjl
            have h8 := off_lt (s := h (ids j)) hjl
            have hcell : (h (ids j) + (off C j (h (ids j)) - e)) % C < C := Nat.mod_lt _ (by omega)
            rcases off_cases hjl hcell with ⟨a1, a2⟩ | ⟨a1, a2⟩ <;> rcases off_cases hjl hx with ⟨b1, b2⟩ | ⟨b1, b2⟩ <;> rcases off_cases hcell hjl with ⟨c1, c2⟩ | ⟨c1, c2⟩ <;> rcases off_cases hx hjl with ⟨d1, d2⟩ | ⟨d1, d2⟩ <;> omega
          have h9 := off_lt (s := h (ids j)) hjl
          have h10 := off_at hhome (k := off C j (h (ids j)) - e) (by omega)
          rw [h7] at h10
          omega
        exact (H.path j hjl hji hj k (by omega)).1
      · rw [upd_other _ _ ex] at h1 hk ⊢
        exact keep _ (H.path x hx ex h1 k hk).1
    · have : ¬ off C x j = 0 := fun z => hxj (off_zero hx hjl z)
      omega

/-- The search has come to an empty cell: the hole is emptied, and all is well. -/
theorem Hole.shut {C : Nat} {h : Int → Nat} {ids : Nat → Int} {i e e0 : Nat} (H : Hole C h ids i e e0) (hj : ids ((i + e) % C) = -1) : Tab C h (upd ids i (-1)) where
  home := H.home
  uniq := fun a b ha hb h1 h2 => by
    unfold upd at h1 h2
    by_cases ea : a = i
    · rw [if_pos ea] at h1; exact absurd rfl h1
    · rw [if_neg ea] at h1 h2
      by_cases eb : b = i
      · rw [if_pos eb] at h2; exact absurd h2 h1
      · rw [if_neg eb] at h2
        exact H.uniq a b ha hb ea eb h1 h2
  probe := fun x hx h1 k hk => by
    by_cases ex : x = i
    · rw [ex, upd_same] at h1; exact absurd rfl h1
    rw [upd_other _ _ ex] at h1 hk ⊢
    obtain ⟨p1, p2⟩ := H.path x hx ex h1 k hk
    by_cases ep : (h (ids x) + k) % C = i
    · exfalso
      have hle := p2 ep
      have hhome := H.home (ids x)
      have hoff := off_lt (s := h (ids x)) hx
      have h5 := off_sub (x := x) (i := h (ids x)) (e := k) hx hhome (by omega)
      rw [ep] at h5
      have hxj : ¬ off C x i = e := fun z => h1 (by
        have : x = (i + e) % C := by rw [← z]; exact (at_off hx H.lt).symm
        rw [this]; exact hj)
      have h6 := (H.path x hx ex h1 (k + e) (by omega)).1
      apply h6
      rw [← Nat.add_assoc, ← Nat.mod_add_mod, ep]
      exact hj
    · rw [upd_other _ _ ep]
      exact p1
end Go.Proofs.Qxb6003863aFmt
