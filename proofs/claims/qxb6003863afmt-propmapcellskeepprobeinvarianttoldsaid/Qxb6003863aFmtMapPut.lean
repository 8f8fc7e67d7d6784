/- The walk of Put where the table has room. -/
import Derived.Test.Qxb6003863aFmtMapMem
namespace Go.Proofs.Qxb6003863aFmt
open Go.RowKit
set_option linter.unusedVariables false

def Own3 (B bi bv : Nat) : Nat → Prop := fun k => k = B ∨ k = bi ∨ k = bv

/-- Behind Put(x, v): the table holds x with v, and what it held besides. -/
def PutPost (w : World) (B bi bv C m : Nat) (ids vals : Nat → Int) (len : Nat) (x v : Int) (e : Ending) (w' : World) : Prop :=
  e = .returned (.tuple #[]) ∧ ∃ (ids' vals' : Nat → Int) (len' : Nat), Mem w' B bi bv C m ids' vals' len' ∧ Good C m ids' len' ∧ Keeps (Own3 B bi bv) w w' ∧
    (∀ y u, ¬ y = -1 → (Holds C ids' vals' y u ↔ if y = x then u = v else Holds C ids vals y u)) ∧ (((∀ u, ¬ Holds C ids vals x u) ∧ len' = len + 1) ∨ ((∃ u, Holds C ids vals x u) ∧ len' = len))

set_option maxRecDepth 20000 in
set_option maxHeartbeats 1600000 in
theorem putA (B bi bv C m : Nat) (ids vals : Nat → Int) (len : Nat) (x v : Int) (w : World) (M : Mem w B bi bv C m ids vals len) (G : Good C m ids len) (hx : 0 ≤ x) (hr : 2 * (len + 1) ≤ C) :
    Calls Tryf.prog 17 #[.pointer (some ⟨B, 0, none⟩), .int .i64 x, .int .i64 v] w (PutPost w B bi bv C m ids vals len x v) := by
  obtain ⟨hC1, hC2⟩ := G.pos
  obtain ⟨e0, he0, hee⟩ := G.empty
  have hh := G.tab.home x
  have HE := hide hee
  have c0 := M.c0
  have c1 := M.c1
  have c2 := M.c2
  have c3 := M.c3
  have fB := M.fB 2
  clear hee
  have hr' : (2 : Int) * ((len : Int) + 1) ≤ (C : Int) := by omega
  go_enter Tryf.func17, Tryf.ntmps17
  go_wp2_with fail
  go_quiet (fail)
  go_wp2_with (go_at_call 29; refine (home29 B x m _ G.m1 (by have := G.m2; omega) (by simpa using c3)).mono ?_; rintro e w' ⟨rfl, rfl⟩)
  go_loop [7] (fun i => ∃ k : Nat, i = .int .i64 ((hm m x + k) % C : Nat) ∧ Hid (Passed C (hm m) ids x k)) (fun i => C - off C (intOf i).toNat (hm m x))
  case atStart => exact ⟨0, by rw [Nat.add_zero, Nat.mod_eq_of_lt hh], passed_zero (by omega)⟩
  case round =>
    obtain ⟨k, rfl, hp⟩ := hrel
    have hpl : (hm m x + k) % C < C := Nat.mod_lt _ (by omega)
    have hoff := off_at hh hp.out.1
    have hst := mask_step G.pow (by have := G.m2; omega) ((hm m x + k) % C)
    rw [step_at] at hst
    obtain ⟨p, hpd⟩ : ∃ p, p = (hm m x + k) % C := ⟨_, rfl⟩
    rw [← hpd] at hpl hoff hst ⊢
    have HP := hide hpd
    have ci := M.ci p hpl
    have cv := M.cv p hpl
    have fi := M.fi p
    have fv := M.fv p
    have n1 := M.n1
    have n2 := M.n2
    have n3 := M.n3
    have pi : (p : Int) < (C : Int) := by omega
    clear hpd
    by_cases hem : ids p = -1
    · have t1 : (ids p != -1) = false := by simp [hem]
      have t3 : (ids p == -1) = true := by simp [hem]
      have hpn := hide (G.putNew (vals := vals) v hp.out (by rw [← HP.out]; exact hem) hx hr)
      rw [← HP.out] at hpn
      have M' := hide ((((M.drewN nq).setId hpl x).setLen (len + 1)).setVal hpl v)
      clear hem hst
      go_wp2_with fail
      go_end0
      have kp : Keeps (Own3 B bi bv) w ((((w.setCell ⟨bi, p, none⟩ (.int .i64 x)).setCell ⟨B, 2, none⟩ (.int .i64 ((len + 1 : Nat) : Int))).setCell ⟨bv, p, none⟩ (.int .i64 v)).drewN nq) :=
        ((((Keeps.refl _ w).setCell (.inr (.inl rfl)) _).setCell (.inl rfl) _).setCell (.inr (.inr rfl)) _).drewN nq
      exact ⟨rfl, _, _, len + 1, M'.out, hpn.out.1, kp, hpn.out.2.1, .inl ⟨hpn.out.2.2, rfl⟩⟩
    · have t1 : (ids p != -1) = true := by simp [hem]
      by_cases hxx : ids p = x
      · have t2 : (ids p != x) = false := by simp [hxx]
        have t3 : (ids p == -1) = false := by simp [hem]
        have hpo := hide (G.putOld (vals := vals) v hpl hxx)
        have M' := hide ((M.drewN nq).setVal hpl v)
        clear hem hxx hst
        go_wp2_with fail
        go_end0
        have kp : Keeps (Own3 B bi bv) w ((w.setCell ⟨bv, p, none⟩ (.int .i64 v)).drewN nq) := ((Keeps.refl _ w).setCell (.inr (.inr rfl)) _).drewN nq
        exact ⟨rfl, _, _, len, M'.out, G, kp, hpo.out.1, .inr ⟨hpo.out.2, rfl⟩⟩
      · have t2 : (ids p != x) = true := by simp [hxx]
        have hp' := hide (hp.out.next hh he0 HE.out (by rw [← HP.out]; exact hem) (by rw [← HP.out]; exact hxx))
        have hoff' := off_at hh hp'.out.1
        obtain ⟨q, hqd⟩ : ∃ q, q = (hm m x + (k + 1)) % C := ⟨_, rfl⟩
        rw [← hqd] at hst hoff'
        have HQ := hide hqd
        clear hem hxx hqd
        go_wp2_with fail
        go_round
        case rel => exact ⟨k + 1, by rw [← HQ.out], hp'⟩
        case measure =>
          have := hp'.out.1
          simp only [intOf, Int.toNat_natCast]
          omega
end Go.Proofs.Qxb6003863aFmt
