/- The plain functions behind the adjacency line's grammar: blanks, fields, ids, the list of a line's ids. No Go in sight. -/
import Derived.RowKit
namespace Go.Proofs.Qxb6003863aFmt

/-- A blank: a space or a tab. -/
def bl (v : Int) : Bool := v == 32 || v == 9
def nbl (v : Int) : Bool := !bl v

/-- The first place from i on at which p fails, at most f steps on. -/
def runTo (p : Int → Bool) (c : Nat → Int) : Nat → Nat → Nat
  | 0, i => i
  | f + 1, i => if p (c i) = true then runTo p c f (i + 1) else i
def skip (p : Int → Bool) (c : Nat → Int) (n i : Nat) : Nat := runTo p c (n - i) i

theorem skip_end {p : Int → Bool} {c : Nat → Int} {n i : Nat} (h : n ≤ i) : skip p c n i = i := by
  unfold skip
  rw [show n - i = 0 by omega]
  rfl
theorem skip_hit {p : Int → Bool} {c : Nat → Int} {n i : Nat} (h : i < n) (hp : p (c i) = true) : skip p c n i = skip p c n (i + 1) := by
  unfold skip
  rw [show n - i = (n - (i + 1)) + 1 by omega]
  simp [runTo, hp]
theorem skip_miss {p : Int → Bool} {c : Nat → Int} {n i : Nat} (hp : p (c i) = false) : skip p c n i = i := by
  unfold skip
  cases h : n - i with
  | zero => rfl
  | succ f => simp [runTo, hp]
theorem runTo_bd (p : Int → Bool) (c : Nat → Int) : ∀ f i, i ≤ runTo p c f i ∧ runTo p c f i ≤ i + f
  | 0, i => ⟨Nat.le_refl _, Nat.le_refl _⟩
  | f + 1, i => by
    have := runTo_bd p c f (i + 1)
    unfold runTo
    split <;> omega
theorem skip_le (p : Int → Bool) (c : Nat → Int) (n i : Nat) : i ≤ skip p c n i := (runTo_bd p c _ i).1
theorem skip_lt {p : Int → Bool} {c : Nat → Int} {n i : Nat} (h : i ≤ n) : skip p c n i ≤ n := by
  have := (runTo_bd p c (n - i) i).2
  unfold skip
  omega
theorem runTo_stop (p : Int → Bool) (c : Nat → Int) : ∀ f i, runTo p c f i < i + f → p (c (runTo p c f i)) = false
  | 0, i, h => by simp [runTo] at h
  | f + 1, i, h => by
    unfold runTo at h ⊢
    by_cases hp : p (c i) = true
    · rw [if_pos hp] at h ⊢
      exact runTo_stop p c f (i + 1) (by omega)
    · rw [if_neg hp]
      simpa using hp
theorem skip_stop {p : Int → Bool} {c : Nat → Int} {n i : Nat} (h : i ≤ n) (hs : skip p c n i < n) : p (c (skip p c n i)) = false := by
  unfold skip at hs ⊢
  exact runTo_stop p c _ _ (by omega)
theorem runTo_all (p : Int → Bool) (c : Nat → Int) : ∀ f i j, i ≤ j → j < runTo p c f i → p (c j) = true
  | 0, i, j, h1, h2 => by simp [runTo] at h2; omega
  | f + 1, i, j, h1, h2 => by
    unfold runTo at h2
    by_cases hp : p (c i) = true
    · rw [if_pos hp] at h2
      by_cases e : j = i
      · subst e; exact hp
      · exact runTo_all p c f (i + 1) j (by omega) h2
    · rw [if_neg hp] at h2
      omega
theorem skip_all {p : Int → Bool} {c : Nat → Int} {n i j : Nat} (h1 : i ≤ j) (h2 : j < skip p c n i) : p (c j) = true := runTo_all p c _ i j h1 h2
/-- Where all from i to j pass, the two searches end at one place. -/
theorem skip_from {p : Int → Bool} {c : Nat → Int} {n : Nat} : ∀ d i, i + d ≤ n → (∀ j, i ≤ j → j < i + d → p (c j) = true) → skip p c n i = skip p c n (i + d)
  | 0, i, _, _ => rfl
  | d + 1, i, h, hp => by
    rw [skip_hit (by omega) (hp i (by omega) (by omega)), skip_from d (i + 1) (by omega) (fun j h1 h2 => hp j (by omega) (by omega))]
    rw [show i + 1 + d = i + (d + 1) by omega]

/-- An id: digits whose value stays at most 2^63 - 1; f bytes from i on, v gathered so far. -/
def idGo (c : Nat → Int) : Nat → Nat → Int → Option Int
  | 0, _, v => some v
  | f + 1, i, v => if 48 ≤ c i ∧ c i ≤ 57 ∧ v * 10 + (c i - 48) ≤ 9223372036854775807 then idGo c f (i + 1) (v * 10 + (c i - 48)) else none
def idOf (c : Nat → Int) (s e : Nat) : Option Int := idGo c (e - s) s 0

theorem idGo_hit {c : Nat → Int} {f i : Nat} {v : Int} (h : 48 ≤ c i ∧ c i ≤ 57 ∧ v * 10 + (c i - 48) ≤ 9223372036854775807) : idGo c (f + 1) i v = idGo c f (i + 1) (v * 10 + (c i - 48)) := by
  rw [idGo, if_pos h]
theorem idGo_miss {c : Nat → Int} {f i : Nat} {v : Int} (h : ¬ (48 ≤ c i ∧ c i ≤ 57 ∧ v * 10 + (c i - 48) ≤ 9223372036854775807)) : idGo c (f + 1) i v = none := by
  rw [idGo, if_neg h]
theorem idGo_bd (c : Nat → Int) : ∀ f i v r, 0 ≤ v → v ≤ 9223372036854775807 → idGo c f i v = some r → 0 ≤ r ∧ r ≤ 9223372036854775807
  | 0, i, v, r, h0, h1, h => by simp [idGo] at h; omega
  | f + 1, i, v, r, h0, h1, h => by
    by_cases hc : 48 ≤ c i ∧ c i ≤ 57 ∧ v * 10 + (c i - 48) ≤ 9223372036854775807
    · rw [idGo_hit hc] at h
      exact idGo_bd c f (i + 1) _ r (by omega) (by omega) h
    · rw [idGo_miss hc] at h
      cases h

/-- The next field from i on: where it begins and where it ends. -/
def fs (c : Nat → Int) (n i : Nat) : Nat := skip bl c n i
def fe (c : Nat → Int) (n i : Nat) : Nat := skip nbl c n (fs c n i)

/-- The ids of the fields from i on; none where one of them is no id. f: more than the bytes that are left. -/
def ids (c : Nat → Int) (n : Nat) : Nat → Nat → Option (List Int)
  | 0, _ => some []
  | f + 1, i => if fs c n i < n then (idOf c (fs c n i) (fe c n i)).bind fun v => (ids c n f (fe c n i)).map (v :: ·) else some []
def idsAt (c : Nat → Int) (n i : Nat) : Option (List Int) := ids c n (n + 1 - i) i

theorem fe_gt {c : Nat → Int} {n i : Nat} (hi : i ≤ n) (h : fs c n i < n) : fs c n i < fe c n i := by
  have h1 : bl (c (fs c n i)) = false := skip_stop hi h
  unfold fe
  rw [skip_hit h (by simp [nbl, h1])]
  have := skip_le nbl c n (fs c n i + 1)
  omega
theorem fe_le {c : Nat → Int} {n i : Nat} (hi : i ≤ n) : fe c n i ≤ n := skip_lt (skip_lt hi)

theorem ids_fuel (c : Nat → Int) (n : Nat) : ∀ f g i, i ≤ n → n < i + f → n < i + g → ids c n f i = ids c n g i
  | 0, _, i, h, h1, _ => by omega
  | _, 0, i, h, _, h2 => by omega
  | f + 1, g + 1, i, h, h1, h2 => by
    simp only [ids]
    by_cases hs : fs c n i < n
    · rw [if_pos hs, if_pos hs]
      have h3 := fe_gt h hs
      have h4 := skip_le bl c n i
      rw [ids_fuel c n f g (fe c n i) (fe_le h) (by unfold fs at h3; omega) (by unfold fs at h3; omega)]
    · rw [if_neg hs, if_neg hs]

theorem idsAt_eq {c : Nat → Int} {n i : Nat} (h : i ≤ n) : idsAt c n i = if fs c n i < n then (idOf c (fs c n i) (fe c n i)).bind fun v => (idsAt c n (fe c n i)).map (v :: ·) else some [] := by
  unfold idsAt
  rw [show n + 1 - i = (n - i) + 1 by omega]
  simp only [ids]
  by_cases hs : fs c n i < n
  · rw [if_pos hs, if_pos hs]
    have h3 := fe_gt h hs
    have h4 := skip_le bl c n i
    rw [ids_fuel c n (n - i) (n + 1 - fe c n i) (fe c n i) (fe_le h) (by unfold fs at h3; omega) (by have := @fe_le c n i h; omega)]
  · rw [if_neg hs, if_neg hs]

/-- Where the same field comes next, the same ids follow. -/
theorem idsAt_same {c : Nat → Int} {n i j : Nat} (hi : i ≤ n) (hj : j ≤ n) (h : fs c n i = fs c n j) : idsAt c n i = idsAt c n j := by
  rw [idsAt_eq hi, idsAt_eq hj]
  unfold fe
  rw [h]
theorem idsAt_blank {c : Nat → Int} {n i : Nat} (h : i < n) (hb : bl (c i) = true) : idsAt c n i = idsAt c n (i + 1) :=
  idsAt_same (by omega) (by omega) (skip_hit h hb)
theorem fs_at {c : Nat → Int} {n i : Nat} (hb : bl (c i) = false) : fs c n i = i := skip_miss hb
theorem fe_at {c : Nat → Int} {n i : Nat} (hb : bl (c i) = false) : fe c n i = skip nbl c n i := by unfold fe; rw [fs_at hb]

theorem ids_len (c : Nat → Int) (n : Nat) : ∀ f i l, i ≤ n → ids c n f i = some l → l.length ≤ n - i
  | 0, i, l, _, h => by simp [ids] at h; subst h; simp
  | f + 1, i, l, hi, h => by
    simp only [ids] at h
    by_cases hs : fs c n i < n
    · rw [if_pos hs] at h
      cases hv : idOf c (fs c n i) (fe c n i) with
      | none => rw [hv] at h; cases h
      | some v =>
        rw [hv] at h
        simp only [Option.bind_some, Option.map_eq_some_iff] at h
        obtain ⟨m, hm, rfl⟩ := h
        have := ids_len c n f (fe c n i) m (fe_le hi) hm
        have h3 := fe_gt hi hs
        have h4 := skip_le bl c n i
        have h5 := @fe_le c n i hi
        unfold fs at h3
        simp
        omega
    · rw [if_neg hs] at h
      cases h
      simp
theorem idsAt_len {c : Nat → Int} {n i : Nat} {l : List Int} (hi : i ≤ n) (h : idsAt c n i = some l) : l.length ≤ n - i := ids_len c n _ i l hi h

/-- Where a field follows: its id opens the list. -/
theorem ids_open {c : Nat → Int} {n j : Nat} {l : List Int} (hj : j ≤ n) (h : idsAt c n j = some l) (hs : fs c n j < n) : ∃ v r, l = v :: r ∧ idOf c (fs c n j) (fe c n j) = some v ∧ idsAt c n (fe c n j) = some r := by
  rw [idsAt_eq hj, if_pos hs] at h
  cases hv : idOf c (fs c n j) (fe c n j) with
  | none => rw [hv] at h; cases h
  | some v =>
    rw [hv] at h
    simp only [Option.bind_some, Option.map_eq_some_iff] at h
    obtain ⟨r, hr, rfl⟩ := h
    exact ⟨v, r, rfl, rfl, hr⟩
theorem ids_shut {c : Nat → Int} {n j : Nat} (hj : j ≤ n) (hs : ¬ fs c n j < n) : idsAt c n j = some [] := by
  rw [idsAt_eq hj, if_neg hs]
theorem ids_bad {c : Nat → Int} {n j : Nat} (hj : j ≤ n) (hs : fs c n j < n) (hi : idOf c (fs c n j) (fe c n j) = none) : idsAt c n j = none := by
  rw [idsAt_eq hj, if_pos hs, hi]; rfl
theorem ids_good {c : Nat → Int} {n j : Nat} {v : Int} (hj : j ≤ n) (hs : fs c n j < n) (hi : idOf c (fs c n j) (fe c n j) = some v) : idsAt c n j = (idsAt c n (fe c n j)).map (v :: ·) := by
  rw [idsAt_eq hj, if_pos hs, hi]; rfl
theorem fs_le {c : Nat → Int} {n j : Nat} (hj : j ≤ n) : fs c n j ≤ n := skip_lt hj
theorem fs_ge (c : Nat → Int) (n j : Nat) : j ≤ fs c n j := skip_le _ _ _ _
end Go.Proofs.Qxb6003863aFmt
