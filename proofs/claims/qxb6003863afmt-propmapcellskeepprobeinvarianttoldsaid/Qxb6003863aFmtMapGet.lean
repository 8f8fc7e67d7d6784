/- The walk of Get. -/
import Derived.Test.Qxb6003863aFmtMapPut
namespace Go.Proofs.Qxb6003863aFmt
open Go.RowKit
set_option linter.unusedVariables false

theorem cnt_zero (ids : Nat → Int) : ∀ n, cnt ids n = 0 → ∀ j, j < n → ids j = -1
  | 0, _, j, hj => by omega
  | n + 1, h, j, hj => by
    unfold cnt at h
    by_cases hn : ids n = -1
    · by_cases e : j = n
      · subst e; exact hn
      · exact cnt_zero ids n (by omega) j (by omega)
    · rw [if_neg hn] at h; omega

/-- What Get hands back. -/
def GetPost (C : Nat) (ids vals : Nat → Int) (x : Int) (w : World) (e : Ending) (w' : World) : Prop :=
  w' = w ∧ ((¬ x = -1 ∧ ∃ u, Holds C ids vals x u ∧ e = .returned (.tuple #[.int .i64 u, .bool true])) ∨ ((¬ x = -1 → ∀ u, ¬ Holds C ids vals x u) ∧ e = .returned (.tuple #[.int .i64 0, .bool false])))

theorem get_zero (B : Nat) (x : Int) (w : World) (c2 : w.cell? ⟨B, 2, none⟩ = some (.int .i64 0)) :
    Calls Tryf.prog 18 #[.pointer (some ⟨B, 0, none⟩), .int .i64 x] w fun e w' => e = .returned (.tuple #[.int .i64 0, .bool false]) ∧ w' = w := by
  go_enter Tryf.func18, Tryf.ntmps18
  go_wp2_with fail
  go_ret2
  exact ⟨rfl, rfl⟩

set_option maxRecDepth 20000 in
set_option maxHeartbeats 1600000 in
theorem get18 (B bi bv C m : Nat) (ids vals : Nat → Int) (len : Nat) (x : Int) (w : World) (M : Mem w B bi bv C m ids vals len) (G : Good C m ids len) :
    Calls Tryf.prog 18 #[.pointer (some ⟨B, 0, none⟩), .int .i64 x] w (GetPost C ids vals x w) := by
  by_cases hl : len = 0
  · have c2 := M.c2
    rw [hl] at c2
    refine (get_zero B x w c2).mono ?_
    rintro e w' ⟨rfl, rfl⟩
    refine ⟨rfl, .inr ⟨fun hx u ⟨j, hj, h1, _⟩ => hx ?_, rfl⟩⟩
    rw [← h1]
    exact cnt_zero ids C (by rw [G.cnt, hl]) j hj
  obtain ⟨hC1, hC2⟩ := G.pos
  obtain ⟨e0, he0, hee⟩ := G.empty
  have hh := G.tab.home x
  have HE := hide hee
  have c0 := M.c0
  have c1 := M.c1
  have c2 := M.c2
  have c3 := M.c3
  clear hee
  have hlen : (0 : Int) < (len : Int) := by omega
  have hlc := G.half
  go_enter Tryf.func18, Tryf.ntmps18
  go_wp2_with (go_at_call 29; refine (home29 B x m _ G.m1 (by have := G.m2; omega) c3).mono ?_; rintro e w' ⟨rfl, rfl⟩)
  go_loop [7] (fun i => ∃ k : Nat, i = .int .i64 ((hm m x + k) % C : Nat) ∧ Hid (Passed C (hm m) ids x k)) (fun i => C - off C (intOf i).toNat (hm m x))
  case atStart => exact ⟨0, by rw [Nat.add_zero, Nat.mod_eq_of_lt hh], passed_zero (by omega)⟩
  case round =>
    obtain ⟨k, rfl, hp⟩ := hrel
    have hpl : (hm m x + k) % C < C := Nat.mod_lt _ (by omega)
    have hoff := off_at hh hp.out.1
    have hst := mask_step G.pow (by have := G.m2; omega) ((hm m x + k) % C)
    rw [step_at] at hst
    obtain ⟨p, hpd⟩ : ∃ p, p = (hm m x + k) % C := ⟨_, rfl⟩
    rw [← hpd] at hpl hoff hst ⊢
    have HP := hide hpd
    have ci := M.ci p hpl
    have cv := M.cv p hpl
    have pi : (p : Int) < (C : Int) := by omega
    clear hpd
    by_cases hem : ids p = -1
    · have t1 : (ids p != -1) = false := by simp [hem]
      have hno : Hid (¬ x = -1 → ∀ u, ¬ Holds C ids vals x u) := fun hx u ⟨j, hj, h1, _⟩ => by
        have h2 := hp.out.held G.tab (.inl (by rw [← HP.out]; exact hem)) hj h1 hx
        rw [← HP.out] at h2
        rw [← h2, hem] at h1
        exact hx h1.symm
      clear hem hst
      go_wp2_with fail
      go_ret2
      exact ⟨rfl, .inr ⟨hno.out, rfl⟩⟩
    · have t1 : (ids p != -1) = true := by simp [hem]
      by_cases hxx : ids p = x
      · have t2 : (ids p == x) = true := by simp [hxx]
        have hx1 : Hid (¬ x = -1) := by rw [← hxx]; exact hem
        have hx2 : Hid (Holds C ids vals x (vals p)) := ⟨p, hpl, hxx, rfl⟩
        clear hem hxx hst
        go_wp2_with fail
        go_ret2
        exact ⟨rfl, .inl ⟨hx1.out, _, hx2.out, rfl⟩⟩
      · have t2 : (ids p == x) = false := by simp [hxx]
        have hp' := hide (hp.out.next hh he0 HE.out (by rw [← HP.out]; exact hem) (by rw [← HP.out]; exact hxx))
        have hoff' := off_at hh hp'.out.1
        obtain ⟨q, hqd⟩ : ∃ q, q = (hm m x + (k + 1)) % C := ⟨_, rfl⟩
        rw [← hqd] at hst hoff'
        have HQ := hide hqd
        clear hem hxx hqd
        go_wp2_with fail
        go_round
        case rel => exact ⟨k + 1, by rw [← HQ.out], hp'⟩
        case measure =>
          have := hp'.out.1
          simp only [intOf, Int.toNat_natCast]
          omega
end Go.Proofs.Qxb6003863aFmt
