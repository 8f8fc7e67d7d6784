/- The walks of grow and of Put where the table must grow. -/
import Derived.Test.Qxb6003863aFmtMapHash
namespace Go.Proofs.Qxb6003863aFmt
open Go.RowKit
set_option linter.unusedVariables false

/-- A Map of whatever make, ahead of a rehash: its fields and its old rows. -/
structure Pre (w : World) (B : Nat) (aI aV : Option Addr) (n : Nat) (ids vals : Nat → Int) (len : Nat) (s : Int) : Prop where
  c0 : w.cell? ⟨B, 0, none⟩ = some (.slice aI n n)
  c1 : w.cell? ⟨B, 1, none⟩ = some (.slice aV n n)
  c2 : w.cell? ⟨B, 2, none⟩ = some (.int .i64 len)
  c3 : w.cell? ⟨B, 3, none⟩ = some (.int .u64 s)
  fB : ∀ j, w.frozen? ⟨B, j, none⟩ = false
  oI : Old w B aI n ids
  oV : Old w B aV n vals
  hn : n ≤ 16777216
  hlen : len = cnt ids n
  nn : ∀ j, j < n → ids j = -1 ∨ 0 ≤ ids j
  uniq : ∀ j k, j < n → k < n → ¬ ids j = -1 → ids j = ids k → j = k

theorem Pre.drewN {w : World} {B : Nat} {aI aV : Option Addr} {n : Nat} {ids vals : Nat → Int} {len : Nat} {s : Int} (h : Pre w B aI aV n ids vals len s) (k : Nat) : Pre (w.drewN k) B aI aV n ids vals len s :=
  ⟨h.c0, h.c1, h.c2, h.c3, h.fB, h.oI, h.oV, h.hn, h.hlen, h.nn, h.uniq⟩

theorem Pre.rehash {w : World} {B : Nat} {aI aV : Option Addr} {n : Nat} {ids vals : Nat → Int} {len : Nat} {s : Int} (h : Pre w B aI aV n ids vals len s) (C m : Nat) (hT : TabAt w) (hB1 : ¬ B = 1) (hC : C = 2 ^ m) (hm1 : 3 ≤ m) (hm2 : m ≤ 24) (half : 2 * len ≤ C) :
    Calls Tryf.prog 30 #[.pointer (some ⟨B, 0, none⟩), .int .i64 C] w (HashPost w B n ids vals len C m) :=
  rehash30 B aI aV n ids vals len s C m w h.c0 h.c1 h.c2 h.c3 h.fB h.oI h.oV h.hn h.hlen h.nn h.uniq hT hB1 hC hm1 hm2 half

theorem Mem.pre {w : World} {B bi bv C m : Nat} {ids vals : Nat → Int} {len : Nat} (M : Mem w B bi bv C m ids vals len) (G : Good C m ids len) : Pre w B (some ⟨bi, 0, none⟩) (some ⟨bv, 0, none⟩) C ids vals len ((64 - m : Nat) : Int) :=
  ⟨M.c0, M.c1, M.c2, M.c3, M.fB, fun _ => ⟨bi, rfl, M.n1, M.ci⟩, fun _ => ⟨bv, rfl, M.n2, M.cv⟩, G.pos.2, G.cnt.symm, G.nn, G.tab.uniq⟩

set_option maxHeartbeats 800000 in
theorem grow28 (B : Nat) (aI aV : Option Addr) (n : Nat) (ids vals : Nat → Int) (len : Nat) (s : Int) (C m : Nat) (w : World) (h : Pre w B aI aV n ids vals len s) (hT : TabAt w) (hB1 : ¬ B = 1) (hC : C = 2 ^ m) (hm1 : 3 ≤ m) (hm2 : m ≤ 24) (half : 2 * len ≤ C) (hmax : (n = 0 ∧ C = 8) ∨ (8 ≤ n ∧ C = 2 * n)) :
    Calls Tryf.prog 28 #[.pointer (some ⟨B, 0, none⟩)] w (HashPost w B n ids vals len C m) := by
  have H := hide (h.rehash C m hT hB1 hC hm1 hm2 half)
  have c0 := h.c0
  have hn := h.hn
  clear hC half h hT
  rcases hmax with ⟨h1, h2⟩ | ⟨h1, h2⟩
  · subst h1
    subst h2
    have H8 : Hid (Calls Tryf.prog 30 #[.pointer (some ⟨B, 0, none⟩), .int .i64 8] w (HashPost w B 0 ids vals len 8 m)) := H.out
    clear H
    go_enter Tryf.func28, Tryf.ntmps28
    go_wp2_with (go_at_call 30; refine H8.out.mono ?_; rintro e w' ⟨rfl, hp⟩)
    go_end0
    exact ⟨rfl, hp⟩
  · subst h2
    have e2 : ((2 * n : Nat) : Int) = 2 * (n : Int) := by omega
    rw [e2] at H
    clear e2
    go_enter Tryf.func28, Tryf.ntmps28
    go_wp2_with (go_at_call 30; refine H.out.mono ?_; rintro e w' ⟨rfl, hp⟩)
    go_end0
    exact ⟨rfl, hp⟩

/-- A content with x laid to v. -/
def fput (f : Int → Int → Prop) (x v : Int) : Int → Int → Prop := fun y u => if y = x then u = v else f y u

/-- Behind a Put that had to grow the table. -/
def GrowPost (w : World) (B n : Nat) (ids vals : Nat → Int) (len C m : Nat) (x v : Int) (e : Ending) (w' : World) : Prop :=
  e = .returned (.tuple #[]) ∧ ∃ (bi bv : Nat) (ids' vals' : Nat → Int) (len' : Nat), Mem w' B bi bv C m ids' vals' len' ∧ Good C m ids' len' ∧ w.heap.size ≤ bi ∧ w.heap.size ≤ bv ∧ Keeps (fun i => i = B) w w' ∧
    (∀ y u, ¬ y = -1 → (Holds C ids' vals' y u ↔ if y = x then u = v else Holds n ids vals y u)) ∧ (((∀ u, ¬ Holds n ids vals x u) ∧ len' = len + 1) ∨ ((∃ u, Holds n ids vals x u) ∧ len' = len))

set_option maxRecDepth 20000 in
set_option maxHeartbeats 1600000 in
theorem putB (B : Nat) (aI aV : Option Addr) (n : Nat) (ids vals : Nat → Int) (len : Nat) (s : Int) (C m : Nat) (x v : Int) (w : World) (h : Pre w B aI aV n ids vals len s) (hT : TabAt w) (hB1 : ¬ B = 1) (hC : C = 2 ^ m) (hm1 : 3 ≤ m) (hm2 : m ≤ 24) (hmax : (n = 0 ∧ C = 8) ∨ (8 ≤ n ∧ C = 2 * n))
    (hx : 0 ≤ x) (hfull : n < 2 * (len + 1)) (hr : 2 * (len + 1) ≤ C) (hl : len ≤ 16777216) :
    Calls Tryf.prog 17 #[.pointer (some ⟨B, 0, none⟩), .int .i64 x, .int .i64 v] w (GrowPost w B n ids vals len C m x v) := by
  have H := hide (fun k => grow28 B aI aV n ids vals len s C m (w.drewN k) (h.drewN k) hT hB1 hC hm1 hm2 (by omega) hmax)
  have c0 := h.c0
  have c2 := h.c2
  have hn := h.hn
  have hful : (n : Int) < (2 : Int) * ((len : Int) + 1) := by omega
  have HX : Hid (¬ x = -1) := by show ¬ _; omega
  clear h hT hC hmax
  go_enter Tryf.func17, Tryf.ntmps17
  go_wp2_with fail
  go_quiet (fail)
  go_wp2_with (first | (go_at_call 28; refine (H.out _).mono ?_; rintro e w1 ⟨rfl, bi, bv, ids1, vals1, M, G, gi, gv, K, hh1⟩; have b0 := M.c0; have b3 := M.c3; have hC12 := G.pos; have m12 := G.m2) | (go_at_call 29; refine (home29 B x m _ G.m1 (by omega) b3).mono ?_; rintro e w' ⟨rfl, rfl⟩))
  obtain ⟨e0, he0, hee⟩ := G.empty
  have hh := G.tab.home x
  have HE := hide hee
  have b1 := M.c1
  have b2 := M.c2
  have fB := M.fB 2
  have HH := hide hh1
  have HK : Hid (∀ wz, Keeps (Own3 B bi bv) w' wz → Keeps (fun i => i = B) w wz) := fun wz kz => (Keeps.trans (r := fun i => i = B) ⟨K.os, K.tape, K.output, K.size, K.block⟩ kz (fun _ _ h => h) (fun i hi h => by
    rcases h with h | h | h
    · exact h
    · have : w.heap.size ≤ bi := gi
      omega
    · have : w.heap.size ≤ bv := gv
      omega))
  have GI : Hid (w.heap.size ≤ bi) := gi
  have GV : Hid (w.heap.size ≤ bv) := gv
  clear hee hh1 H c0 c2 K gi gv
  go_loop [7] (fun i => ∃ k : Nat, i = .int .i64 ((hm m x + k) % C : Nat) ∧ Hid (Passed C (hm m) ids1 x k)) (fun i => C - off C (intOf i).toNat (hm m x))
  case atStart => exact ⟨0, by rw [Nat.add_zero, Nat.mod_eq_of_lt hh], passed_zero (by omega)⟩
  case round =>
    obtain ⟨k, rfl, hp⟩ := hrel
    have hpl : (hm m x + k) % C < C := Nat.mod_lt _ (by omega)
    have hoff := off_at hh hp.out.1
    have hst := mask_step G.pow (by omega) ((hm m x + k) % C)
    rw [step_at] at hst
    obtain ⟨p, hpd⟩ : ∃ p, p = (hm m x + k) % C := ⟨_, rfl⟩
    rw [← hpd] at hpl hoff hst ⊢
    have HP := hide hpd
    have ci := M.ci p hpl
    have cv := M.cv p hpl
    have fi := M.fi p
    have fv := M.fv p
    have n1 := M.n1
    have n2 := M.n2
    have n3 := M.n3
    have pi : (p : Int) < (C : Int) := by omega
    clear hpd
    by_cases hem : ids1 p = -1
    · have t1 : (ids1 p != -1) = false := by simp [hem]
      have t3 : (ids1 p == -1) = true := by simp [hem]
      have hpn := hide (G.putNew (vals := vals1) v hp.out (by rw [← HP.out]; exact hem) hx hr)
      rw [← HP.out] at hpn
      have M' := hide (((M.setId hpl x).setLen (len + 1)).setVal hpl v)
      clear hem hst
      go_wp2_with fail
      go_end0
      have kp : Keeps (Own3 B bi bv) w' (((World.setCell w' ⟨bi, p, none⟩ (.int .i64 x)).setCell ⟨B, 2, none⟩ (.int .i64 ((len + 1 : Nat) : Int))).setCell ⟨bv, p, none⟩ (.int .i64 v)) :=
        (((Keeps.refl _ w').setCell (.inr (.inl rfl)) _).setCell (.inl rfl) _).setCell (.inr (.inr rfl)) _
      refine ⟨rfl, bi, bv, _, _, len + 1, M'.out, hpn.out.1, GI.out, GV.out, HK.out _ kp, fun y u hy => ?_, .inl ⟨fun u hu => hpn.out.2.2 u ((HH.out x u HX.out).2 hu), rfl⟩⟩
      rw [hpn.out.2.1 y u hy, HH.out y u hy]
    · have t1 : (ids1 p != -1) = true := by simp [hem]
      by_cases hxx : ids1 p = x
      · have t2 : (ids1 p != x) = false := by simp [hxx]
        have t3 : (ids1 p == -1) = false := by simp [hem]
        have hpo := hide (G.putOld (vals := vals1) v hpl hxx)
        have M' := hide (M.setVal hpl v)
        clear hem hxx hst
        go_wp2_with fail
        go_end0
        have kp : Keeps (Own3 B bi bv) w' (World.setCell w' ⟨bv, p, none⟩ (.int .i64 v)) := (Keeps.refl _ w').setCell (.inr (.inr rfl)) _
        obtain ⟨u0, hu0⟩ := hpo.out.2
        refine ⟨rfl, bi, bv, _, _, len, M'.out, G, GI.out, GV.out, HK.out _ kp, fun y u hy => ?_, .inr ⟨⟨u0, (HH.out x u0 HX.out).1 hu0⟩, rfl⟩⟩
        rw [hpo.out.1 y u hy, HH.out y u hy]
      · have t2 : (ids1 p != x) = true := by simp [hxx]
        have hp' := hide (hp.out.next hh he0 HE.out (by rw [← HP.out]; exact hem) (by rw [← HP.out]; exact hxx))
        have hoff' := off_at hh hp'.out.1
        obtain ⟨q, hqd⟩ : ∃ q, q = (hm m x + (k + 1)) % C := ⟨_, rfl⟩
        rw [← hqd] at hst hoff'
        have HQ := hide hqd
        clear hem hxx hqd
        go_wp2_with fail
        go_round
        case rel => exact ⟨k + 1, by rw [← HQ.out], hp'⟩
        case measure =>
          have := hp'.out.1
          simp only [intOf, Int.toNat_natCast]
          omega
end Go.Proofs.Qxb6003863aFmt
