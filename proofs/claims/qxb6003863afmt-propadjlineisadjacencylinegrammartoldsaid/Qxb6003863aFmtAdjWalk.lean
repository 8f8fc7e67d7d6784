/- The walks of adjLine and ZZAdjLine. -/
import Derived.Test.Qxb6003863aFmtAdjLine
namespace Go.Proofs.Qxb6003863aFmt
open Go.RowKit Go.Extern.Stop Go.Stop Go.Extern
set_option linter.unusedVariables false

def hd0 : List Int → Int
  | [] => 0
  | u :: _ => u

/-- The line opens with a comment's sign. -/
def comment (c : Nat → Int) (n : Nat) : Prop := fs c n 0 < n ∧ c (fs c n 0) = 35

/-- What adjLine hands back, and what lies in the listed behind it. -/
def AdjRet (c : Nat → Int) (n B : Nat) (w0 : World) (a1 a2 : Option Addr) (X1 X2 : List Int) (l2 : Nat) (s0 : Int) (e : Ending) (w' : World) : Prop :=
  ∃ ids s vN vE bE, St B w0 w' a1 a2 X1 X2 l2 s ids vN vE bE ∧
    ((comment c n ∧ e = .returned .nilIface ∧ ids = [] ∧ s = s0) ∨
     (¬ comment c n ∧ idsAt c n 0 = none ∧ ∃ p, e = .returned (.iface 90 (.pointer p))) ∨
     (¬ comment c n ∧ idsAt c n 0 = some ids ∧ e = .returned .nilIface ∧ s = loops s0 ids))

theorem owns_later {w w2 : World} {base : Nat} {e : TypeId} {size : Nat} {v : Value} {n : Nat} {xs : List Value} (h : w.ownsRow base e size v n xs) (hb : Below w.heap.size w w2) : w2.ownsRow base e size v n xs := by
  refine ⟨h.1, ?_⟩
  rcases h.2 with hn | ⟨g, cap, cur, hv, hg, hh, rest⟩
  · exact .inl hn
  · have hlt : g < w.heap.size := by
      rcases Nat.lt_or_ge g w.heap.size with h | h
      · exact h
      · rw [Array.getElem?_eq_none h] at hh; cases hh
    exact .inr ⟨g, cap, cur, hv, hg, by rw [hb.block g hlt]; exact hh, rest⟩

theorem St.later {B : Nat} {w0 w w2 : World} {a1 a2 : Option Addr} {X1 X2 : List Int} {l2 : Nat} {s : Int} {ids : List Int} {vN vE : Value} {bE : Nat} (h : St B w0 w a1 a2 X1 X2 l2 s ids vN vE bE) (hb : Below w.heap.size w w2) : St B w0 w2 a1 a2 X1 X2 l2 s ids vN vE bE where
  bel := h.bel.trans (hb.mono (Nat.le_of_lt h.size))
  size := by have := h.size; have := hb.size; omega
  f0 := (hb.frozen (p := ⟨B, 0, none⟩) h.size).trans h.f0
  f1 := (hb.frozen (p := ⟨B, 1, none⟩) h.size).trans h.f1
  f2 := (hb.frozen (p := ⟨B, 2, none⟩) h.size).trans h.f2
  c0 := (hb.cell (p := ⟨B, 0, none⟩) h.size).trans h.c0
  c1 := (hb.cell (p := ⟨B, 1, none⟩) h.size).trans h.c1
  c2 := (hb.cell (p := ⟨B, 2, none⟩) h.size).trans h.c2
  nod := by
    have := h.nod
    match ids, this with
    | [], this => exact this
    | _ :: _, this => exact owns_later (w := w) this hb
  edg := ⟨h.edg.1, fun hl => owns_later (h.edg.2 hl) hb⟩
  b1 := h.b1
  b2 := by have := h.b2; have := hb.size; omega
  b3 := h.b3

theorem ids_field {c : Nat → Int} {n k : Nat} (h : k < n) (hb : bl (c k) = false) : idsAt c n k = (idOf c k (skip nbl c n k)).bind fun v => (idsAt c n (skip nbl c n k)).map (v :: ·) := by
  rw [idsAt_eq (by omega), fs_at hb, fe_at hb, if_pos h]

theorem step_none {c : Nat → Int} {n k : Nat} {ids : List Int} (H : idsAt c n 0 = (idsAt c n k).map (ids ++ ·)) (h : k < n) (hb : bl (c k) = false) (hi : idOf c k (skip nbl c n k) = none) : idsAt c n 0 = none := by
  rw [H, ids_field h hb, hi]; rfl
theorem step_some {c : Nat → Int} {n k : Nat} {ids : List Int} {v : Int} (H : idsAt c n 0 = (idsAt c n k).map (ids ++ ·)) (h : k < n) (hb : bl (c k) = false) (hi : idOf c k (skip nbl c n k) = some v) : idsAt c n 0 = (idsAt c n (skip nbl c n k)).map ((ids ++ [v]) ++ ·) := by
  rw [H, ids_field h hb, hi]
  cases idsAt c n (skip nbl c n k) <;> simp

theorem idsAt_end {c : Nat → Int} {n : Nat} : idsAt c n n = some [] := by
  rw [idsAt_eq (Nat.le_refl _), if_neg]
  unfold fs
  rw [skip_end (Nat.le_refl _)]
  omega

set_option maxRecDepth 20000 in
set_option maxHeartbeats 3200000 in
theorem adjLine26 (F : Interp) (B : Nat) (w0 w : World) (a : Option Addr) (n cap : Nat) (c : Nat → Int) (a1 a2 : Option Addr) (X1 X2 : List Int) (l2 : Nat) (s0 : Int) (vN vE : Value) (bE : Nat) (hF : F.answers w0.tape) (hB : B = w0.heap.size) (hn : n ≤ 1048576) (hnc : n ≤ cap) (hcap : cap ≤ 9223372036854775807) (hcb : ∀ j, 0 ≤ c j ∧ c j ≤ 255)
    (hr : Row .u8 w0 a n c) (hl1 : X1.length ≤ 1048576) (ha1 : a1 = none → X1.length = 0) (hr1 : Row .i64 w0 a1 X1.length (fun j => X1.getD j 0))
    (hl2 : l2 ≤ 1048576) (hX2 : X2.length = 2 * l2) (ha2 : a2 = none → l2 = 0) (hr2 : Row .i64 w0 a2 X2.length (fun j => X2.getD j 0)) (h : St B w0 w a1 a2 X1 X2 l2 s0 [] vN vE bE) :
    Calls Tryf.prog 26 #[.pointer (some ⟨B, 0, none⟩), .slice a n cap] w (AdjRet c n B w0 a1 a2 X1 X2 l2 s0) := by
  obtain ⟨i0, hi, hz0, hz1, hz2⟩ := info_parts Tryf.info2
  have HI := hid hi
  have HZ0 := hid hz0
  have HZ1 := hid hz1
  have HZ2 := hid hz2
  have HB := hid hB
  have HX := hid hX2
  have HA1 := hid ha1
  have HA2 := hid ha2
  have HCB := hid hcb
  clear hB hX2 ha2 ha1 hi hz0 hz1 hz2 hcb
  go_enter Tryf.func26, Tryf.ntmps26
  go_wp2
  go_loopw [5, 6, 7] (fun u q p wr => ∃ (k : Nat) (ids : List Int) (vN vE : Value) (bE : Nat), k ≤ n ∧ ids.length ≤ k ∧ u = .int .i64 (hd0 ids) ∧ q = .int .i64 ids.length ∧ p = .int .i64 k ∧ St B w0 wr a1 a2 X1 X2 l2 (loops s0 ids) ids vN vE bE ∧ Hid (idsAt c n 0 = (idsAt c n k).map (ids ++ ·)) ∧ Hid (ids = [] → fs c n 0 = fs c n k) ∧ Hid (ids ≠ [] → ¬ comment c n)) (fun _ _ p _ => n - (intOf p).toNat)
  case atStart => exact ⟨0, [], vN, vE, bE, Nat.zero_le _, by simp, rfl, rfl, rfl, h, by show _ = _; cases idsAt c n 0 <;> simp, fun _ => rfl, fun h => absurd rfl h⟩
  case round =>
    obtain ⟨k, ids, vN, vE, bE, hk, hik, rfl, rfl, rfl, hS, H1, H2, H3⟩ := hrel
    by_cases hlt : k < n
    · obtain ⟨b, off, rfl, hc0⟩ := hr (by omega)
      have hc : ∀ j, j < n → wr.cell? ⟨b, off + j, none⟩ = some (.int .u8 (c j)) := fun j hj => cell_later (by rw [← HB.out]; exact hS.bel) (hc0 j hj)
      have c1 := hc k hlt
      cases hbl : bl (c k) with
      | true =>
        have R := hid (idsAt_blank hlt hbl)
        clear hc hc0
        go_wp2_with (go_at_call 34; refine (isBlank34 _ _).mono ?_; rintro e w' ⟨rfl, rfl⟩)
        go_roundw
        case rel => exact ⟨k + 1, ids, vN, vE, bE, by omega, by omega, rfl, rfl, by go_num, hS, by show _ = _; rw [← R.out]; exact H1.out, fun e => by rw [H2.out e]; exact skip_hit hlt hbl, H3⟩
        case measure => simp [intOf]; omega
      | false =>
        have hE1 : k < skip nbl c n k := by rw [skip_hit hlt (by simp [nbl, hbl])]; have := skip_le nbl c n (k + 1); omega
        have hE2 : skip nbl c n k ≤ n := skip_lt hk
        have hsc := scanID35 F b off n cap k c wr (by rw [hS.bel.tape]; exact hF) hn hnc hcap hlt HCB.out hc
        match ids, hik, hS, H1, H2, H3 with
        | [], hik, hS, H1, H2, H3 =>
          have hfs : fs c n 0 = k := by rw [H2.out rfl]; exact fs_at hbl
          by_cases h35 : c k = 35
          · have HC : Hid (comment c n) := ⟨by rw [hfs]; exact hlt, by rw [hfs]; exact h35⟩
            have h35' : (c k == 35) = true := by simp [h35]
            clear hsc hc hc0 hfs h35 hE1 hE2
            go_wp2_with (go_at_call 34; refine (isBlank34 _ _).mono ?_; rintro e w' ⟨rfl, rfl⟩)
            go_ret
            exact ⟨[], _, vN, vE, bE, hS, .inl ⟨HC.out, rfl, rfl, rfl⟩⟩
          · have HC : Hid (¬ comment c n) := fun h => h35 (by have := h.2; rwa [hfs] at this)
            have h35' : (c k == 35) = false := by simp [h35]
            cases hid' : idOf c k (skip nbl c n k) with
            | none =>
              rw [hid'] at hsc
              have SC := hid hsc
              have HN := hid (step_none H1.out hlt hbl hid')
              clear hsc hc hc0 hfs h35 hid' hE1 hE2
              go_wp2_with (first | (go_at_call 34; refine (isBlank34 _ _).mono ?_; rintro e w' ⟨rfl, rfl⟩) | (go_at_call 35; refine SC.out.mono ?_; rintro e w2 ⟨x, p, rfl, hb⟩))
              go_ret
              exact ⟨[], _, vN, vE, bE, hS.later hb, .inr (.inl ⟨HC.out, HN.out, p, rfl⟩)⟩
            | some v =>
              rw [hid'] at hsc
              have SC := hid hsc
              have HN := hid (step_some H1.out hlt hbl hid')
              obtain rfl := hS.nod
              have c0 := hS.c0
              have f0 := hS.f0
              have sz := hS.size
              have hS' := hS.alloc (.cells #[.int .i64 v] 2)
              obtain ⟨E, hE⟩ : ∃ E, E = skip nbl c n k := ⟨_, rfl⟩
              rw [← hE] at SC HN hE1 hE2
              clear hsc hc hc0 hfs h35 hid' hE
              go_wp2_with (first | (go_at_call 34; refine (isBlank34 _ _).mono ?_; rintro e w' ⟨rfl, rfl⟩) | (go_at_call 35; refine SC.out.mono ?_; rintro e w2 ⟨rfl, rfl⟩) | (at_builtin; refine wpList_append_grows _ rfl _ _ 33 rfl 2 i0 (.int .i64 0) 1 8 Tryf.underlying33 HI.out HZ0.out HZ1.out HZ2.out rfl (by decide) a1 X1.length X1.length (iv X1) rfl (fun e => ⟨HA1.out e, HA1.out e⟩) (by simp) (arg_cells HB.out hr1 hS'.bel) _ 1 1 [.int .i64 v] rfl rfl (cell_one_new _ _ _) (by simp [Value.oneCell']) (by omega) (by unfold maxLen; omega) (by omega) ?_; intro v' w1 ho hg; obtain ⟨a', n', c', rfl⟩ := owns_shape ho; obtain ⟨q0, q1, q2, q3⟩ := hS'.still hg (fun k hk => by cases hk)))
              go_roundw
              case rel => exact ⟨E, [v], _, vE, _, hE2, by simp; omega, rfl, rfl, rfl, hS'.node hg ho, HN, fun e => absurd e (by simp), fun _ => HC.out⟩
              case measure => simp [intOf]; omega
        | u :: r, hik, hS, H1, H2, H3 =>
          have hcnt : (((u :: r).length : Int) == 0) = false := by simp; omega
          have hrl : r.length ≤ 1048576 := by simp at hik; omega
          cases hid' : idOf c k (skip nbl c n k) with
          | none =>
            rw [hid'] at hsc
            have SC := hid hsc
            have HN := hid (step_none H1.out hlt hbl hid')
            clear hsc hc hc0 hid' hE1 hE2
            go_wp2_with (first | (go_at_call 34; refine (isBlank34 _ _).mono ?_; rintro e w' ⟨rfl, rfl⟩) | (go_at_call 35; refine SC.out.mono ?_; rintro e w2 ⟨x, p, rfl, hb⟩))
            go_ret
            exact ⟨_, _, vN, vE, bE, hS.later hb, .inr (.inl ⟨H3.out (by simp), HN.out, p, rfl⟩)⟩
          | some v =>
            rw [hid'] at hsc
            have SC := hid hsc
            have HN := hid (step_some H1.out hlt hbl hid')
            obtain ⟨E, hE⟩ : ∃ E, E = skip nbl c n k := ⟨_, rfl⟩
            rw [← hE] at SC HN hE1 hE2
            clear hsc hc hc0 hid' hE
            go_wp2_with (first | (go_at_call 34; refine (isBlank34 _ _).mono ?_; rintro e w' ⟨rfl, rfl⟩) | (go_at_call 35; refine SC.out.mono ?_; rintro e w2 ⟨rfl, rfl⟩) | (go_at_call 39; refine (edge39 B w0 _ a1 a2 X1 X2 l2 _ u v r vN vE bE HB.out hl2 hrl HX.out HA2.out hr2 hS).mono ?_; rintro e w3 ⟨rfl, vN', vE', bE', hS3⟩))
            go_roundw
            case rel => exact ⟨E, u :: r ++ [v], vN', vE', bE', hE2, by simp at hik ⊢; omega, rfl, by simp, rfl, by rw [loops_snoc]; exact hS3, HN, fun e => absurd e (by simp), fun _ => H3.out (by simp)⟩
            case measure => simp [intOf]; omega
    · obtain rfl : k = n := by omega
      have HN : Hid (¬ comment c k) := by
        cases ids with
        | nil =>
          intro h
          have h1 := h.1
          rw [H2.out rfl] at h1
          have h2 := skip_le bl c k k
          unfold fs at h1
          omega
        | cons u r => exact H3.out (by simp)
      have HE : Hid (idsAt c k 0 = some ids) := by
        show _ = _
        rw [H1.out, idsAt_end]
        simp
      clear H1 H2 H3
      go_wp2
      go_ret
      exact ⟨ids, _, vN, vE, bE, hS, .inr (.inr ⟨HN.out, HE.out, rfl, rfl⟩)⟩
end Go.Proofs.Qxb6003863aFmt
