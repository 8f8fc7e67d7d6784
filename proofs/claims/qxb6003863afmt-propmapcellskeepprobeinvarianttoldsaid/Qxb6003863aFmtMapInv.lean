/- pnc1MapInv, pnc1Cut and the small functions they call. -/
import Derived.Test.Qxb6003863aFmtMapMain
namespace Go.Proofs.Qxb6003863aFmt
open Go.RowKit
set_option linter.unusedVariables false

theorem ids31 (B : Nat) (s : Option Addr) (n c : Nat) (w : World) (c0 : w.cell? ⟨B, 0, none⟩ = some (.slice s n c)) :
    Calls Tryf.prog 31 #[.pointer (some ⟨B, 0, none⟩)] w fun e w' => e = .returned (.slice s n c) ∧ w' = w := by
  go_enter Tryf.func31, Tryf.ntmps31
  go_wp2
  go_ret
  exact ⟨rfl, rfl⟩
theorem len32 (B : Nat) (n : Int) (w : World) (c2 : w.cell? ⟨B, 2, none⟩ = some (.int .i64 n)) :
    Calls Tryf.prog 32 #[.pointer (some ⟨B, 0, none⟩)] w fun e w' => e = .returned (.int .i64 n) ∧ w' = w := by
  go_enter Tryf.func32, Tryf.ntmps32
  go_wp2
  go_ret
  exact ⟨rfl, rfl⟩
theorem home33 (B : Nat) (x : Int) (m : Nat) (w : World) (hm1 : 3 ≤ m) (hm2 : m ≤ 40) (c3 : w.cell? ⟨B, 3, none⟩ = some (.int .u64 ((64 - m : Nat) : Int))) :
    Calls Tryf.prog 33 #[.pointer (some ⟨B, 0, none⟩), .int .i64 x] w fun e w' => e = .returned (.int .i64 (hm m x)) ∧ w' = w := by
  have H := hide (home29 B x m w hm1 hm2 c3)
  clear c3
  go_enter Tryf.func33, Tryf.ntmps33
  go_wp2_with (go_at_call 29; refine H.out.mono ?_; rintro e w' ⟨rfl, rfl⟩)
  go_ret
  exact ⟨rfl, rfl⟩

/-- How often x stands among the first n. -/
def eqc (ids : Nat → Int) (x : Int) : Nat → Nat
  | 0 => 0
  | n + 1 => eqc ids x n + if ids n = x then 1 else 0
theorem eqc_one (ids : Nat → Int) (x : Int) (p : Nat) (C : Nat) (hp : ids p = x) (hu : ∀ k, k < C → ids k = x → k = p) : ∀ n, n ≤ C → eqc ids x n = if p < n then 1 else 0
  | 0, _ => by simp [eqc]
  | n + 1, h => by
    unfold eqc
    rw [eqc_one ids x p C hp hu n (by omega)]
    by_cases e : ids n = x
    · have := hu n (by omega) e
      subst this
      simp [e]
    · rw [if_neg e]
      have : ¬ p = n := fun h => e (h ▸ hp)
      by_cases h2 : p < n
      · rw [if_pos h2, if_pos (by omega)]
      · rw [if_neg h2, if_neg (by omega)]
theorem eqc_le (ids : Nat → Int) (x : Int) : ∀ n, eqc ids x n ≤ n
  | 0 => Nat.le_refl _
  | n + 1 => by have := eqc_le ids x n; unfold eqc; split <;> omega

def InvPost (w : World) (e : Ending) (w' : World) : Prop := e = .returned (.bool true) ∧ Keeps (fun _ => False) w w'

set_option maxHeartbeats 800000 in
theorem inv_zero (B : Nat) (aK : Option Addr) (cK : Nat) (w : World) (z : Zero w B) : Calls Tryf.prog 22 #[.pointer (some ⟨B, 0, none⟩), .slice aK 0 cK] w (InvPost w) := by
  have H1 := hide (ids31 B none 0 0 w z.c0)
  have H2 := hide (len32 B 0 w z.c2)
  have H3 := hide (len21 B 0 w z.c2)
  clear z
  go_enter Tryf.func22, Tryf.ntmps22
  go_wp2_with (first | (go_at_call 31; refine H1.out.mono ?_; rintro e w' ⟨rfl, rfl⟩) | (go_at_call 32; refine H2.out.mono ?_; rintro e w' ⟨rfl, rfl⟩) | (go_at_call 21; refine H3.out.mono ?_; rintro e w' ⟨rfl, rfl⟩))
  go_ret
  exact ⟨rfl, Keeps.refl _ _⟩

set_option maxRecDepth 20000 in
set_option maxHeartbeats 3000000 in
theorem inv22 (B bi bv C m : Nat) (ids vals : Nat → Int) (n : Nat) (K : List Int) (aK : Option Addr) (cK : Nat) (w : World) (M : Mem w B bi bv C m ids vals n) (G : Good C m ids n) (hK : K.length = n) (hn : n ≤ 1048576) (rK : Keys w aK K)
    (hin : ∀ j, j < C → ¬ ids j = -1 → ∃ z : Nat, idx (ids j) K = z) (hof : ∀ i, i < n → ∃ p, p < C ∧ ids p = at0 K i ∧ ¬ ids p = -1) :
    Calls Tryf.prog 22 #[.pointer (some ⟨B, 0, none⟩), .slice aK n cK] w (InvPost w) := by
  obtain ⟨hC1, hC2⟩ := G.pos
  have hlc := G.half
  have hm2 := G.m2
  have HG := hide G
  have HM := hide M
  have HK := hide hK
  have RK := hide rK
  have HIN := hide hin
  have HOF := hide hof
  have H1 := hide (ids31 B _ C C w M.c0)
  have H2 := hide (len32 B n w M.c2)
  have H3 := hide (len21 B n w M.c2)
  have hmk := i64_mask G.pow (by omega) (C : Int)
  rw [Int.emod_self] at hmk
  have lbi := World.block_lt_of_cell? _ _ (M.ci 0 (by omega))
  have HBI := hide lbi
  clear G M hK rK hin hof lbi
  go_enter Tryf.func22, Tryf.ntmps22
  go_wp2_with (first | (go_at_call 31; refine H1.out.mono ?_; rintro e w' ⟨rfl, hw'⟩; obtain rfl : w = w' := hw'.symm) | (go_at_call 32; refine H2.out.mono ?_; rintro e w' ⟨rfl, hw'⟩; obtain rfl : w = w' := hw'.symm) | (go_at_call 21; refine H3.out.mono ?_; rintro e w' ⟨rfl, hw'⟩; obtain rfl : w = w' := hw'.symm))
  go_loop [9] (fun p => ∃ j : Nat, j ≤ C ∧ p = .int .i64 j) (fun p => C - (intOf p).toNat)
  case atStart => exact ⟨0, Nat.zero_le _, rfl⟩
  case round =>
    obtain ⟨j, hj, rfl⟩ := hrel
    clear hmk
    by_cases hlt : j < C
    · have ci := HM.out.ci j hlt
      have hji : (j : Int) < (C : Int) := by omega
      obtain ⟨x, hx⟩ : ∃ x, x = ids j := ⟨_, rfl⟩
      rw [← hx] at ci
      have HX := hide hx
      clear hx
      by_cases hem : x = -1
      · have t1 : (x == -1) = true := by simp [hem]
        clear hem
        go_wp2_with fail
        go_round
        case rel => exact ⟨j + 1, by omega, by go_num⟩
        case measure => simp [intOf]; omega
      · have t1 : (x == -1) = false := by simp [hem]
        obtain ⟨z, hz⟩ := HIN.out j hlt (by rw [← HX.out]; exact hem)
        rw [← HX.out] at hz
        have HI := hide (index16 aK n cK K x w HK.out hn RK.out)
        rw [hz] at HI
        have HH := hide (home33 B x m w HG.out.m1 (by omega) HM.out.c3)
        have hhl := HG.out.tab.home x
        have hpr := hide (HG.out.tab.probe j hlt (by rw [← HX.out]; exact hem))
        rw [← HX.out] at hpr
        obtain ⟨h, hhd⟩ : ∃ h, h = hm m x := ⟨_, rfl⟩
        rw [← hhd] at HH hhl hpr
        have hmo := mask_off HG.out.pow (by omega) hlt hhl
        have hol : off C j h < C := Nat.mod_lt _ (by omega)
        obtain ⟨o, ho⟩ : ∃ o, o = off C j h := ⟨_, rfl⟩
        rw [← ho] at hmo hpr hol
        clear hhd ho hz hem
        go_wp2_with (first | (go_at_call 16; refine HI.out.mono ?_; rintro e w' ⟨rfl, hw'⟩; obtain rfl : w = w' := hw'.symm) | (go_at_call 33; refine HH.out.mono ?_; rintro e w' ⟨rfl, hw'⟩; obtain rfl : w = w' := hw'.symm))
        clear hmo
        go_loop [13] (fun p => ∃ k : Nat, k ≤ o ∧ p = .int .i64 k) (fun p => o - (intOf p).toNat)
        case atStart => exact ⟨0, Nat.zero_le _, rfl⟩
        case round =>
          obtain ⟨k, hk, rfl⟩ := hrel
          by_cases hko : k < o
          · have hst := i64_mask HG.out.pow (by omega) ((h : Int) + (k : Int))
            have hq : ((h : Int) + (k : Int)) % (C : Int) = (((h + k) % C : Nat) : Int) := by rw [Int.natCast_emod]; rfl
            rw [hq] at hst
            have hql : (h + k) % C < C := Nat.mod_lt _ (by omega)
            have hne := hpr.out k hko
            have cq := HM.out.ci _ hql
            obtain ⟨q, hqd⟩ : ∃ q, q = (h + k) % C := ⟨_, rfl⟩
            rw [← hqd] at hst hql hne cq
            have t2 : (ids q == -1) = false := by simp [hne]
            have hqi : (q : Int) < (C : Int) := by omega
            clear hq hqd hne
            go_wp2_with fail
            go_round
            case rel => exact ⟨k + 1, by omega, by go_num⟩
            case measure => simp [intOf]; omega
          · go_wp2_with fail
            go_round
            case rel => exact ⟨j + 1, by omega, by go_num⟩
            case measure => simp [intOf]; omega
    · go_wp2_with fail
      go_loopw [14] (fun p wr => ∃ i : Nat, i ≤ n ∧ p = .int .i64 i ∧ Hid (Keeps (fun _ => False) w wr)) (fun p _ => n - (intOf p).toNat)
      case atStart => exact ⟨0, Nat.zero_le _, rfl, Keeps.refl _ _⟩
      case round =>
        obtain ⟨i, hi, rfl, HKP⟩ := hrel
        by_cases hin : i < n
        · obtain ⟨b, off, rfl, hc⟩ := RK.out (by rw [HK.out]; omega)
          have c1 := hc i (by rw [HK.out]; exact hin)
          obtain ⟨p, hpl, hpx, hp1⟩ := HOF.out i hin
          obtain ⟨x, hx⟩ : ∃ x, x = at0 K i := ⟨_, rfl⟩
          rw [show K.getD i 0 = x from hx.symm] at c1
          rw [← hx] at hpx
          have HE := hide (eqc_one ids x p C hpx (fun k hk e => (HG.out.tab.uniq p k hpl hk hp1 (by rw [hpx, e])).symm) C (Nat.le_refl _))
          rw [if_pos hpl] at HE
          have lb := World.block_lt_of_cell? _ _ c1
          have hii : (i : Int) < (n : Int) := by omega
          have HC1 := hide c1
          have HLB := hide lb
          clear hc hpl hpx hp1 hx c1 lb
          go_wp2_with fail
          go_loopw [15, 16] (fun p q wr => ∃ c j : Nat, j ≤ C ∧ q = .int .i64 j ∧ p = .int .i64 c ∧ Hid (c = eqc ids x j) ∧ Hid (Keeps (fun _ => False) w wr)) (fun _ q _ => C - (intOf q).toNat)
          case atStart => exact ⟨0, 0, Nat.zero_le _, rfl, rfl, rfl, HKP⟩
          case round =>
            obtain ⟨c, j', hj', rfl, rfl, HCE, HKP'⟩ := hrel
            rename_i wr'
            by_cases hjc : j' < C
            · have d1 := (HKP'.out.cell HLB.out (fun h => h)).trans HC1.out
              have d2 := (HKP'.out.cell HBI.out (fun h => h)).trans (HM.out.ci j' hjc)
              have hle : c ≤ 16777216 := by have := eqc_le ids x j'; have := HCE.out; omega
              have hji : (j' : Int) < (C : Int) := by omega
              by_cases he : ids j' = x
              · have t1 : (ids j' == x) = true := by simp [he]
                have HC2 : Hid (c + 1 = eqc ids x (j' + 1)) := hide (by unfold eqc; rw [if_pos he, ← HCE.out])
                clear he
                go_wp2_with fail
                go_region
                all_goals go_wp2_with fail
                go_roundw
                case rel => exact ⟨c + 1, j' + 1, by omega, by go_num, by go_num, HC2, HKP'.out.drew⟩
                case measure => simp [intOf]; omega
              · have t1 : (ids j' == x) = false := by simp [he]
                have HC2 : Hid (c = eqc ids x (j' + 1)) := hide (by unfold eqc; rw [if_neg he, ← HCE.out]; rfl)
                clear he
                go_wp2_with fail
                go_region
                all_goals go_wp2_with fail
                go_roundw
                case rel => exact ⟨c, j' + 1, by omega, by go_num, rfl, HC2, HKP'.out.drew⟩
                case measure => simp [intOf]; omega
            · obtain rfl : j' = C := by omega
              obtain rfl : c = 1 := by rw [HCE.out, HE.out]
              go_wp2_with fail
              go_roundw
              case rel => exact ⟨i + 1, by omega, by go_num, HKP'⟩
              case measure => simp [intOf]; omega
        · go_wp2_with fail
          go_ret
          exact ⟨rfl, HKP.out⟩

/-- The Map's invariant, by its content. -/
theorem inv_is {w0 wr : World} {B len : Nat} {S : Nat → Prop} {f : Int → Int → Prop} {K U V : List Int} {kv vv : Value} (L : Ls w0 wr B S f len K U kv vv) (h : Kv K V f) (hK : K.length = len) (hl : len ≤ 1048576) :
    Calls Tryf.prog 22 #[.pointer (some ⟨B, 0, none⟩), kv] wr (InvPost wr) := by
  subst hK
  obtain ⟨aK, cK, rfl, e1, rK, _⟩ := keys_of L.ok
  rcases L.map with ⟨z, _, e0, _⟩ | ⟨bi, bv, C, m, ids, vals, M, G, _, hf⟩
  · rw [e0]
    exact inv_zero B aK cK wr z
  · refine inv22 B bi bv C m ids vals K.length K aK cK wr M G rfl hl rK (fun j hj hem => ?_) (fun i hi => ?_)
    · obtain ⟨i, hi, hi1, _⟩ := (h.ff _ _ hem).1 ((hf (ids j) (vals j) hem).1 ⟨j, hj, rfl, rfl⟩)
      rcases idx_cases (ids j) K with ⟨_, hno⟩ | ⟨z, hz, _⟩
      · exact absurd hi1 (hno i hi)
      · exact ⟨z, hz⟩
    · have hn := h.nn i hi
      obtain ⟨p, hp, hp1, _⟩ := (hf _ _ (by omega)).2 (h.at hi)
      exact ⟨p, hp, hp1, by rw [hp1]; omega⟩

set_option maxHeartbeats 800000 in
theorem cut23 (g cK m j : Nat) (kx : Int) (kj : Int) (w : World) (hm : m < 1048576) (hj : j < m + 1) (hc : m + 1 ≤ cK) (c1 : w.cell? ⟨g, m, none⟩ = some (.int .i64 kx)) (c2 : w.cell? ⟨g, j, none⟩ = some (.int .i64 kj)) (f1 : w.frozen? ⟨g, j, none⟩ = false) :
    Calls Tryf.prog 23 #[.slice (some ⟨g, 0, none⟩) (m + 1) cK, .int .i64 j] w fun e w' => e = .returned (.slice (some ⟨g, 0, none⟩) m cK) ∧ w' = w.setCell ⟨g, j, none⟩ (.int .i64 kx) := by
  go_enter Tryf.func23, Tryf.ntmps23
  go_wp2_with fail
  go_ret
  exact ⟨rfl, rfl⟩
end Go.Proofs.Qxb6003863aFmt
