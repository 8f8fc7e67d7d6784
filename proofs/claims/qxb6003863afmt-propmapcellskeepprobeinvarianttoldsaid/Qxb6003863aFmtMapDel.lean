/- The walk of Delete. -/
import Derived.Test.Qxb6003863aFmtMapGrow
namespace Go.Proofs.Qxb6003863aFmt
open Go.RowKit
set_option linter.unusedVariables false

/-- As Holds, cell i left out. -/
def HoldsX (C : Nat) (ids vals : Nat → Int) (i : Nat) (y u : Int) : Prop := ∃ j, j < C ∧ ¬ j = i ∧ ids j = y ∧ vals j = u

/-- Behind Delete(x). -/
def DelPost (w : World) (B bi bv C m : Nat) (ids vals : Nat → Int) (len : Nat) (x : Int) (e : Ending) (w' : World) : Prop :=
  e = .returned (.tuple #[]) ∧ ∃ (ids' vals' : Nat → Int) (len' : Nat), Mem w' B bi bv C m ids' vals' len' ∧ Good C m ids' len' ∧ Keeps (Own3 B bi bv) w w' ∧
    (∀ y u, ¬ y = -1 → (Holds C ids' vals' y u ↔ ¬ y = x ∧ Holds C ids vals y u)) ∧ (((∃ u, Holds C ids vals x u) ∧ len' + 1 = len) ∨ ((∀ u, ¬ Holds C ids vals x u) ∧ len' = len))

theorem del_zero (B : Nat) (x : Int) (w : World) (c2 : w.cell? ⟨B, 2, none⟩ = some (.int .i64 0)) :
    Calls Tryf.prog 19 #[.pointer (some ⟨B, 0, none⟩), .int .i64 x] w fun e w' => e = .returned (.tuple #[]) ∧ w' = w := by
  go_enter Tryf.func19, Tryf.ntmps19
  go_wp2_with fail
  exact bodyPost_ret (v := .tuple #[]) (by simp [results, Tryf.results19, go_sem]) rfl ⟨rfl, rfl⟩

theorem del_none {w : World} {B bi bv C m : Nat} {ids vals : Nat → Int} {len : Nat} {x : Int} (M : Mem w B bi bv C m ids vals len) (G : Good C m ids len) (hno : ∀ u, ¬ Holds C ids vals x u) : DelPost w B bi bv C m ids vals len x (.returned (.tuple #[])) w :=
  ⟨rfl, ids, vals, len, M, G, Keeps.refl _ _, fun y u hy => ⟨fun h => ⟨fun e => hno u (by rw [← e]; exact h), h⟩, fun h => h.2⟩, .inr ⟨hno, rfl⟩⟩

theorem DelPost.drew {w : World} {B bi bv C m : Nat} {ids vals : Nat → Int} {len : Nat} {x : Int} {e : Ending} {w' : World} (h : DelPost w B bi bv C m ids vals len x e w') : DelPost w B bi bv C m ids vals len x e w'.drew := by
  obtain ⟨h1, i, v, l, M, G, K, r⟩ := h
  exact ⟨h1, i, v, l, M.drewN 1, G, K.drew, r⟩

/-- The state of the second loop. -/
structure Mid (w wr : World) (B bi bv C m : Nat) (ids vals : Nat → Int) (len : Nat) (x : Int) (i e e0 : Nat) (ids' vals' : Nat → Int) : Prop where
  hole : Hole C (hm m) ids' i e e0
  mem : Mem wr B bi bv C m ids' vals' len
  kp : Keeps (Own3 B bi bv) w wr
  cn : cnt ids' C = len
  nn : ∀ j, j < C → ids' j = -1 ∨ 0 ≤ ids' j
  cont : ∀ y u, ¬ y = -1 → (HoldsX C ids' vals' i y u ↔ ¬ y = x ∧ Holds C ids vals y u)

theorem Mid.drew {w wr : World} {B bi bv C m : Nat} {ids vals : Nat → Int} {len : Nat} {x : Int} {i e e0 : Nat} {ids' vals' : Nat → Int} (D : Mid w wr B bi bv C m ids vals len x i e e0 ids' vals') : Mid w wr.drew B bi bv C m ids vals len x i e e0 ids' vals' :=
  ⟨D.hole, D.mem.drewN 1, D.kp.drew, D.cn, D.nn, D.cont⟩

theorem Mid.start {w : World} {B bi bv C m : Nat} {ids vals : Nat → Int} {len : Nat} {x : Int} {i e0 : Nat} (M : Mem w B bi bv C m ids vals len) (G : Good C m ids len) (hi : i < C) (hix : ids i = x) (hx : ¬ x = -1) (he : e0 < C) (hee : ids e0 = -1) : Mid w w B bi bv C m ids vals len x i 1 e0 ids vals where
  hole := G.tab.hole hi (by rw [hix]; exact hx) he hee
  mem := M
  kp := Keeps.refl _ _
  cn := G.cnt
  nn := G.nn
  cont := fun y u hy => by
    constructor
    · rintro ⟨j, hj, hji, h1, h2⟩
      exact ⟨fun e => hji (G.tab.uniq j i hj hi (by rw [h1]; exact hy) (by rw [h1, e, hix])), j, hj, h1, h2⟩
    · rintro ⟨hyx, j, hj, h1, h2⟩
      exact ⟨j, hj, fun e => hyx (by rw [← h1, e, hix]), h1, h2⟩

theorem Mid.stay {w wr : World} {B bi bv C m : Nat} {ids vals : Nat → Int} {len : Nat} {x : Int} {i e e0 : Nat} {ids' vals' : Nat → Int} (D : Mid w wr B bi bv C m ids vals len x i e e0 ids' vals') (hj : ¬ ids' ((i + e) % C) = -1) (hs : off C ((i + e) % C) (hm m (ids' ((i + e) % C))) < e) : Mid w wr B bi bv C m ids vals len x i (e + 1) e0 ids' vals' :=
  ⟨D.hole.stay hj hs, D.mem, D.kp, D.cn, D.nn, D.cont⟩

theorem Mid.move {w wr : World} {B bi bv C m : Nat} {ids vals : Nat → Int} {len : Nat} {x : Int} {i e e0 : Nat} {ids' vals' : Nat → Int} (D : Mid w wr B bi bv C m ids vals len x i e e0 ids' vals') (hj : ¬ ids' ((i + e) % C) = -1) (hs : e ≤ off C ((i + e) % C) (hm m (ids' ((i + e) % C)))) :
    Mid w ((wr.setCell ⟨bi, i, none⟩ (.int .i64 (ids' ((i + e) % C)))).setCell ⟨bv, i, none⟩ (.int .i64 (vals' ((i + e) % C)))) B bi bv C m ids vals len x ((i + e) % C) 1 e0 (upd ids' i (ids' ((i + e) % C))) (upd vals' i (vals' ((i + e) % C))) := by
  have hjl := D.hole.jlt
  have hji := D.hole.jne
  have hmv := D.hole.move hj hs
  have hfill := D.hole.fill
  obtain ⟨j, hjd⟩ : ∃ j, j = (i + e) % C := ⟨_, rfl⟩
  rw [← hjd] at hj hmv hjl hji ⊢
  refine ⟨hmv, (D.mem.setId D.hole.lt _).setVal D.hole.lt _, (D.kp.setCell (.inr (.inl rfl)) _).setCell (.inr (.inr rfl)) _, ?_, fun k hk => ?_, fun y u hy => ?_⟩
  · rw [cnt_same (upd ids' i (ids' j)) ids' C (fun k hk => ?_)]
    · exact D.cn
    · unfold upd
      split
      · rename_i h; subst h; exact ⟨fun h => absurd h hj, fun h => absurd h hfill⟩
      · exact Iff.rfl
  · unfold upd
    split
    · exact D.nn j hjl
    · exact D.nn k hk
  · rw [← D.cont y u hy]
    constructor
    · rintro ⟨k, hk, hkj, h1, h2⟩
      by_cases ek : k = i
      · subst ek
        rw [upd_same] at h1 h2
        exact ⟨j, hjl, hji, h1, h2⟩
      · rw [upd_other _ _ ek] at h1 h2
        exact ⟨k, hk, ek, h1, h2⟩
    · rintro ⟨k, hk, hki, h1, h2⟩
      by_cases ek : k = j
      · subst ek
        exact ⟨i, D.hole.lt, fun h => hji h.symm, by rw [upd_same]; exact h1, by rw [upd_same]; exact h2⟩
      · exact ⟨k, hk, ek, by rw [upd_other _ _ hki]; exact h1, by rw [upd_other _ _ hki]; exact h2⟩

theorem Mid.done {w wr : World} {B bi bv C m : Nat} {ids vals : Nat → Int} {len : Nat} {x : Int} {i e e0 : Nat} {ids' vals' : Nat → Int} (D : Mid w wr B bi bv C m ids vals len x i e e0 ids' vals') (G : Good C m ids len) (hj : ids' ((i + e) % C) = -1) (hx : ∃ u, Holds C ids vals x u) (l : Nat) (hl : len = l + 1) :
    DelPost w B bi bv C m ids vals len x (.returned (.tuple #[])) (((wr.setCell ⟨bi, i, none⟩ (.int .i64 (-1))).setCell ⟨bv, i, none⟩ (.int .i64 0)).setCell ⟨B, 2, none⟩ (.int .i64 l)) := by
  refine ⟨rfl, upd ids' i (-1), upd vals' i 0, l, ((D.mem.setId D.hole.lt _).setVal D.hole.lt _).setLen l, ⟨G.pow, G.m1, G.m2, D.hole.shut hj, ?_, by have := G.half; omega, fun k hk => ?_⟩, ((D.kp.setCell (.inr (.inl rfl)) _).setCell (.inr (.inr rfl)) _).setCell (.inl rfl) _, fun y u hy => ?_, .inl ⟨hx, hl.symm⟩⟩
  · have := cnt_clear ids' i D.hole.fill C D.hole.lt
    have := D.cn
    omega
  · unfold upd
    split
    · exact .inl rfl
    · exact D.nn k hk
  · rw [← D.cont y u hy]
    constructor
    · rintro ⟨k, hk, h1, h2⟩
      by_cases ek : k = i
      · rw [ek, upd_same] at h1; exact absurd h1.symm hy
      · rw [upd_other _ _ ek] at h1 h2
        exact ⟨k, hk, ek, h1, h2⟩
    · rintro ⟨k, hk, hki, h1, h2⟩
      exact ⟨k, hk, by rw [upd_other _ _ hki]; exact h1, by rw [upd_other _ _ hki]; exact h2⟩

set_option maxRecDepth 20000 in
set_option maxHeartbeats 3200000 in
theorem del19 (B bi bv C m : Nat) (ids vals : Nat → Int) (len : Nat) (x : Int) (w : World) (M : Mem w B bi bv C m ids vals len) (G : Good C m ids len) (hx : ¬ x = -1) :
    Calls Tryf.prog 19 #[.pointer (some ⟨B, 0, none⟩), .int .i64 x] w (DelPost w B bi bv C m ids vals len x) := by
  by_cases hl : len = 0
  · have c2 := M.c2
    rw [hl] at c2
    refine (del_zero B x w c2).mono ?_
    rintro e w' ⟨rfl, rfl⟩
    refine del_none M G fun u ⟨j, hj, h1, _⟩ => hx ?_
    rw [← h1]
    exact cnt_zero ids C (by rw [G.cnt, hl]) j hj
  obtain ⟨hC1, hC2⟩ := G.pos
  obtain ⟨e0, he0, hee⟩ := G.empty
  have hh := G.tab.home x
  have hm2 := G.m2
  have HE := hide hee
  have HX := hide hx
  have c0 := M.c0
  have c1 := M.c1
  have c2 := M.c2
  have c3 := M.c3
  have hlen : ((len : Int) == 0) = false := by simp; exact hl
  have hlc := G.half
  clear hee hx
  go_enter Tryf.func19, Tryf.ntmps19
  go_wp2_with (go_at_call 29; refine (home29 B x m _ G.m1 (by omega) c3).mono ?_; rintro e w' ⟨rfl, rfl⟩)
  go_loop [5] (fun i => ∃ k : Nat, i = .int .i64 ((hm m x + k) % C : Nat) ∧ Hid (Passed C (hm m) ids x k)) (fun i => C - off C (intOf i).toNat (hm m x))
  case atStart => exact ⟨0, by rw [Nat.add_zero, Nat.mod_eq_of_lt hh], passed_zero (by omega)⟩
  case round =>
    obtain ⟨k, rfl, hp⟩ := hrel
    have hpl : (hm m x + k) % C < C := Nat.mod_lt _ (by omega)
    have hoff := off_at hh hp.out.1
    have hst := mask_step G.pow (by omega) ((hm m x + k) % C)
    have hst0 := hst
    rw [step_at] at hst
    obtain ⟨p, hpd⟩ : ∃ p, p = (hm m x + k) % C := ⟨_, rfl⟩
    rw [← hpd] at hpl hoff hst hst0 ⊢
    have HP := hide hpd
    have ci := M.ci p hpl
    have pi : (p : Int) < (C : Int) := by omega
    clear hpd
    by_cases hxx : ids p = x
    · have t1 : (ids p != x) = false := by simp [hxx]
      have D0 := Mid.start M G hpl hxx HX.out he0 HE.out
      have HS : Hid (∃ u, Holds C ids vals x u) := ⟨vals p, p, hpl, hxx, rfl⟩
      obtain ⟨q, hqd⟩ : ∃ q, q = (p + 1) % C := ⟨_, rfl⟩
      rw [← hqd] at hst0
      have HQ := hide hqd
      clear hxx hst hqd
      go_wp2_with fail
      clear c0 c1 c2 c3 ci t1 hst0
      go_loopw [5, 6] (fun a b wr => ∃ (i e : Nat) (ids' vals' : Nat → Int), a = .int .i64 i ∧ b = .int .i64 ((i + e) % C : Nat) ∧ Mid w' wr B bi bv C m ids vals len x i e e0 ids' vals') (fun _ b _ => off C e0 (intOf b).toNat)
      case atStart => exact ⟨p, 1, ids, vals, rfl, by rw [← HQ.out], D0⟩
      case round =>
        obtain ⟨i, e, ids', vals', rfl, rfl, D⟩ := hrel
        clear D0 hp HP HQ pi hoff hpl HE he0 hlen
        have hjl := D.hole.jlt
        have hil := D.hole.lt
        have hel := D.hole.elt
        have b0 := D.mem.c0
        have b1 := D.mem.c1
        have b2 := D.mem.c2
        have b3 := D.mem.c3
        have g2 := D.mem.fB 2
        have ii := D.mem.ci i hil
        have vi := D.mem.cv i hil
        have fi := D.mem.fi i
        have fv := D.mem.fv i
        have n1 := D.mem.n1
        have n2 := D.mem.n2
        have n3 := D.mem.n3
        have ij := D.mem.ci _ hjl
        have vj := D.mem.cv _ hjl
        have hst := mask_step G.pow (by omega) ((i + e) % C)
        have hdist := D.hole.dist
        have hmi := mask_off G.pow (by omega) hjl hil
        rw [hdist] at hmi
        have hmh := mask_off G.pow (by omega) hjl (D.hole.home (ids' ((i + e) % C)))
        have D' := hide D
        have hii : (i : Int) < (C : Int) := by omega
        obtain ⟨j, hjd⟩ : ∃ j, j = (i + e) % C := ⟨_, rfl⟩
        have HJ := hide hjd
        rw [← hjd] at hjl ij vj hst hmi hmh ⊢
        have hji : (j : Int) < (C : Int) := by omega
        have jne : ¬ j = i := by rw [hjd]; exact D.hole.jne
        clear hjd hdist D
        by_cases hem : ids' j = -1
        · have t1 : (ids' j != -1) = false := by simp [hem]
          have HEM : Hid (ids' ((i + e) % C) = -1) := by rw [← HJ.out]; exact hem
          obtain ⟨l, hl1⟩ : ∃ l, len = l + 1 := ⟨len - 1, by omega⟩
          subst hl1
          clear hem hst hmi hmh vj
          go_wp2_with fail
          go_region
          all_goals go_wp2_with fail
          go_end0
          exact (D'.out.done G HEM.out HS.out l rfl).drew
        · have t1 : (ids' j != -1) = true := by simp [hem]
          have hej : ¬ e0 = j := fun h => hem (by rw [← h]; exact D'.out.hole.emp)
          have hofs := off_step hel hjl hej
          obtain ⟨q, hqd⟩ : ∃ q, q = (j + 1) % C := ⟨_, rfl⟩
          rw [← hqd] at hst hofs
          have HQ := hide hqd
          have HEM : Hid (¬ ids' ((i + e) % C) = -1) := by rw [← HJ.out]; exact hem
          clear hqd hem
          obtain ⟨h, hhd⟩ : ∃ h, h = hm m (ids' j) := ⟨_, rfl⟩
          have HH := hide hhd
          have hhome := hide (home29 B (ids' j) m wr G.m1 (by omega) b3)
          rw [← hhd] at hmh hhome
          have hhl : h < C := by rw [hhd]; exact D'.out.hole.home _
          clear hhd
          by_cases hs : e ≤ off C j h
          · have hs' : (e : Int) ≤ (off C j h : Int) := by omega
            have DM := (D'.out.move HEM.out (by rw [← HJ.out, ← HH.out]; exact hs)).drew
            rw [← HJ.out] at DM
            obtain ⟨o, ho⟩ : ∃ o, o = off C j h := ⟨_, rfl⟩
            rw [← ho] at hmh hs'
            clear ho hs
            go_wp2_with (go_at_call 29; refine hhome.out.mono ?_; rintro e w' ⟨rfl, rfl⟩)
            go_region
            all_goals go_wp2_with fail
            go_roundw
            case rel => exact ⟨j, 1, _, _, rfl, by rw [← HQ.out], DM⟩
            case measure => simp only [intOf, Int.toNat_natCast]; omega
          · have hs' : (off C j h : Int) < (e : Int) := by omega
            have DM := D'.out.stay HEM.out (by rw [← HJ.out, ← HH.out]; omega)
            have HQ' : Hid (q = (i + (e + 1)) % C) := by rw [HQ.out, HJ.out]; exact step_at
            obtain ⟨o, ho⟩ : ∃ o, o = off C j h := ⟨_, rfl⟩
            rw [← ho] at hmh hs'
            clear ho hs
            go_wp2_with (go_at_call 29; refine hhome.out.mono ?_; rintro e w' ⟨rfl, rfl⟩)
            go_roundw
            case rel => exact ⟨i, e + 1, _, _, rfl, by rw [← HQ'.out], DM⟩
            case measure => simp only [intOf, Int.toNat_natCast]; omega
    · have t1 : (ids p != x) = true := by simp [hxx]
      by_cases hem : ids p = -1
      · have t2 : (ids p == -1) = true := by simp [hem]
        have hno : Hid (∀ u, ¬ Holds C ids vals x u) := fun u ⟨j, hj, h1, _⟩ => by
          have h2 := hp.out.held G.tab (.inl (by rw [← HP.out]; exact hem)) hj h1 HX.out
          rw [← HP.out] at h2
          rw [← h2, hem] at h1
          exact HX.out h1.symm
        clear hem hst hst0 hxx
        go_wp2_with fail
        exact bodyPost_ret (v := .tuple #[]) (by simp [results, Tryf.results19, go_sem]) rfl (del_none M G hno.out)
      · have t2 : (ids p == -1) = false := by simp [hem]
        have hp' := hide (hp.out.next hh he0 HE.out (by rw [← HP.out]; exact hem) (by rw [← HP.out]; exact hxx))
        have hoff' := off_at hh hp'.out.1
        obtain ⟨q, hqd⟩ : ∃ q, q = (hm m x + (k + 1)) % C := ⟨_, rfl⟩
        rw [← hqd] at hst hoff'
        have HQ := hide hqd
        clear hem hxx hqd hst0
        go_wp2_with fail
        go_round
        case rel => exact ⟨k + 1, by rw [← HQ.out], hp'⟩
        case measure =>
          have := hp'.out.1
          simp only [intOf, Int.toNat_natCast]
          omega
end Go.Proofs.Qxb6003863aFmt
