/- The walk of PropAdjLineIsAdjacencyLineGrammar. -/
import Derived.Test.Qxb6003863aFmtAdjPre
import Derived.Deep.RegionWith
import Derived.Deep.RegionHeld3
import Derived.Deep.DeepCutAuto
namespace Go.Proofs.Qxb6003863aFmt
open Go.RowKit Go.Extern.Stop Go.Stop Go.Extern
set_option linter.unusedVariables false

set_option maxRecDepth 20000 in
set_option maxHeartbeats 1600000 in
theorem adj_long (a a1 a2 : Option Addr) (n cap l1 c1 l2 c2 : Nat) (s0 : Int) (w : World) (hn : n ≤ maxLen) (hl1 : l1 ≤ maxLen) (hl2 : l2 ≤ maxLen) (h : ¬ (n ≤ 1048576 ∧ l1 ≤ 1048576 ∧ l2 ≤ 1048576)) :
    Calls Tryf.prog 4 #[.slice a n cap, .slice a1 l1 c1, .slice a2 l2 c2, .int .i64 s0] w fun e w' => e = .returned (.bool true) ∧ Below w.heap.size w w' := by
  unfold maxLen at hn hl1 hl2
  by_cases h1 : 1048576 < n
  · have d1 : decide ((1048576 : Int) < (n : Int)) = true := decide_eq_true (by omega)
    go_enter Tryf.func4, Tryf.ntmps4
    go_wp2
    go_ret
    exact ⟨rfl, Below.refl _ _⟩
  have d1 : decide ((1048576 : Int) < (n : Int)) = false := decide_eq_false (by omega)
  by_cases h2 : 1048576 < l1
  · have d2 : decide ((1048576 : Int) < (l1 : Int)) = true := decide_eq_true (by omega)
    go_enter Tryf.func4, Tryf.ntmps4
    go_wp2
    go_ret
    exact ⟨rfl, Below.refl _ _⟩
  have d2 : decide ((1048576 : Int) < (l1 : Int)) = false := decide_eq_false (by omega)
  have h3 : 1048576 < l2 := by omega
  go_enter Tryf.func4, Tryf.ntmps4
  go_wp2
  go_ret
  exact ⟨rfl, Below.refl _ _⟩

theorem getD_mid (A : List Int) (x : Int) (B : List Int) (k : Nat) (h : A.length = k) : (A ++ x :: B).getD k 0 = x := by
  subst h; simp
theorem eds_at (X2 : List Int) (l2 : Nat) (hX : X2.length = 2 * l2) (u v : Int) (pre rest : List Int) : fn (X2 ++ eds (u :: (pre ++ v :: rest))) (2 * (l2 + pre.length)) = u ∧ fn (X2 ++ eds (u :: (pre ++ v :: rest))) (2 * (l2 + pre.length) + 1) = v := by
  have e : eds (u :: (pre ++ v :: rest)) = eds (u :: pre) ++ (u :: v :: eds (u :: rest)) := by simp [eds]
  have hl : (X2 ++ eds (u :: pre)).length = 2 * (l2 + pre.length) := by rw [List.length_append, eds_len, hX]; omega
  rw [e]
  constructor
  · rw [← List.append_assoc]
    exact getD_mid _ _ _ _ hl
  · rw [show X2 ++ (eds (u :: pre) ++ u :: v :: eds (u :: rest)) = ((X2 ++ eds (u :: pre)) ++ [u]) ++ v :: eds (u :: rest) by simp]
    exact getD_mid _ _ _ _ (by rw [List.length_append, hl]; rfl)
theorem fn_left (A B : List Int) (j : Nat) (h : j < A.length) : fn (A ++ B) j = fn A j := by
  simp [fn, List.getElem?_append_left h]
theorem Row.drewN {kd : IntKind} {w : World} {a : Option Addr} {m : Nat} {x : Nat → Int} (h : Row kd w a m x) (k : Nat) : Row kd (w.drewN k) a m x := h.later ⟨rfl, rfl, rfl, Nat.le_refl _, fun _ _ => rfl⟩
theorem below_drewN' {B : Nat} {a w : World} (h : Below B a w) (n : Nat) : Below B a (w.drewN n) := ⟨h.os, h.tape, h.output, h.size, h.block⟩

set_option maxRecDepth 20000 in
set_option maxHeartbeats 4000000 in
theorem adj_main (F : Interp) (a a1 a2 : Option Addr) (n cap l1 c1 l2 c2 : Nat) (s0 : Int) (c : Nat → Int) (X1 X2 : List Int) (w : World) (hF : F.answers w.tape) (hn : n ≤ 1048576) (hnc : n ≤ cap) (hcap : cap ≤ 9223372036854775807) (hcb : ∀ j, 0 ≤ c j ∧ c j ≤ 255) (hr : Row .u8 w a n c)
    (hX1 : X1.length = l1) (hl1 : l1 ≤ 1048576) (hlc1 : l1 ≤ c1) (hc1 : c1 ≤ 9223372036854775807) (ha1 : a1 = none → l1 = 0 ∧ c1 = 0) (hr1 : Row .i64 w a1 l1 (fn X1))
    (hX2 : X2.length = 2 * l2) (hl2 : l2 ≤ 1048576) (hlc2 : l2 ≤ c2) (hc2 : c2 ≤ 9223372036854775807) (ha2 : a2 = none → l2 = 0 ∧ c2 = 0) (hr2 : Row .i64 w a2 (2 * l2) (fn X2)) :
    Calls Tryf.prog 4 #[.slice a n cap, .slice a1 l1 c1, .slice a2 l2 c2, .int .i64 s0] w fun e w' => e = .returned (.bool true) ∧ Below w.heap.size w w' := by
  have bd : Below w.heap.size w w.drew := (Below.refl _ _).drew
  have H := hid (zzAdj11 F w.drew a n cap c a1 a2 X1 X2 l1 l2 s0 hF hn hnc hcap hcb (hr.later bd) hX1 hl1 (fun e => (ha1 e).1) (by rw [hX1]; exact hr1.later bd) hl2 hX2 (fun e => (ha2 e).1) (by rw [hX2]; exact hr2.later bd))
  have HX1 := hid hX1
  have HX2 := hid hX2
  have HCB := hid hcb
  have d1 : decide ((1048576 : Int) < (n : Int)) = false := decide_eq_false (by omega)
  have d2 : decide ((1048576 : Int) < (l1 : Int)) = false := decide_eq_false (by omega)
  clear hX1 hX2 ha1 ha2 hcb bd
  go_enter Tryf.func4, Tryf.ntmps4
  go_wp2
  go_region_with (go_at_call 11; refine H.out.mono ?_; rintro e w1 ⟨aN, nN, cN, aE, nE, cE, s, err, rfl, hb0, hO⟩)
  have hb : Below w.heap.size w w1 := ⟨hb0.os, hb0.tape, hb0.output, hb0.size, hb0.block⟩
  have hrw := hr.later hb
  have hr1w := hr1.later hb
  have hr2w := hr2.later hb
  have NF := hid (fun (j : Nat) (hj : j ≤ n) (W : World) (hW : Below w.heap.size w W) => nextField8 a n cap j c W hn hj (hr.later hW))
  have NF0 := hid (show Calls Tryf.prog 8 #[.slice a n cap, .int .i64 0] w1 fun e w' => e = .returned (.tuple #[.int .i64 (fs c n 0), .int .i64 (fe c n 0)]) ∧ w' = w1 from nextField8 a n cap 0 c w1 hn (Nat.zero_le _) hrw)
  have hO' := hid hO
  clear hO hb0 H hr hr1 hr2
  rcases hO'.out with ⟨hncm, hnone, p, herr⟩ | ⟨ids, hids, herr, hs, e1, e2, e3, e4⟩
  · -- an error came back
    have hS : fs c n 0 < n := by
      rcases Nat.lt_or_ge (fs c n 0) n with h | h
      · exact h
      · rw [ids_shut (Nat.zero_le _) (by omega)] at hnone; cases hnone
    obtain ⟨b, off, rfl, hc⟩ := hrw (by omega)
    have cS := hc _ hS
    have hS1 : ((fs c n 0 : Int) == (n : Int)) = false := by simp; omega
    have hS2 : (c (fs c n 0) == 35) = false := by simp; intro h; exact hncm ⟨hS, h⟩
    have HN := hid hnone
    have HCell := hid hc
    subst herr
    have hfe0 := @fe_le c n 0 (Nat.zero_le _)
    clear hO' hncm hnone hc hrw hr1w hr2w
    go_wp2_with (first | (go_at_call 8; refine NF0.out.mono ?_; rintro e w' ⟨rfl, rfl⟩))
    go_loop [15, 16] (fun x y => ∃ (j : Nat) (l : List Int), j ≤ n ∧ x = .int .i64 (fs c n j) ∧ y = .int .i64 (fe c n j) ∧ Hid (idsAt c n 0 = (idsAt c n j).map (l ++ ·))) (fun x _ => n - (intOf x).toNat)
    case atStart => exact ⟨0, [], Nat.zero_le _, rfl, rfl, by show _ = _; cases idsAt c n 0 <;> simp⟩
    case round =>
      obtain ⟨j, l, hj, rfl, rfl, HL⟩ := hrel
      clear cS hS1 hS2 hS hfe0
      by_cases hlt : fs c n j < n
      · have hgt := fe_gt hj hlt
        have hle := @fe_le c n j hj
        have hz := fun W (hW : ∀ i, i < n → W.cell? ⟨b, off + i, none⟩ = some (.int .u8 (c i))) => zzID9 b (off + fs c n j) (fe c n j - fs c n j) (cap - fs c n j) (fs c n j) c W (by omega) (by omega) HCB.out (fun t ht => by rw [Nat.add_assoc]; exact hW _ (by omega))
        have hfn := fs_ge c n (fe c n j)
        obtain ⟨S1, hS1⟩ : ∃ S1, S1 = fs c n j := ⟨_, rfl⟩
        obtain ⟨E1, hE1⟩ : ∃ E1, E1 = fe c n j := ⟨_, rfl⟩
        rw [← hS1] at hz hlt hgt ⊢
        rw [← hE1] at hz hgt hle hfn ⊢
        have HS := hid hS1
        have HE := hid hE1
        have hcs : ¬ cap = S1 := by omega
        cases hid' : idOf c S1 E1 with
        | none =>
          rw [show idGo c (E1 - S1) S1 0 = none from hid'] at hz
          simp only [idRes] at hz
          have ZI := hid (hz _ HCell.out)
          clear hz hS1 hE1 hid' NF NF0 HN
          go_wp2_with (first | (go_at_call 9; refine ZI.out.mono ?_; rintro e w' ⟨rfl, rfl⟩))
          go_ret
          exact ⟨rfl, hb⟩
        | some v =>
          rw [show idGo c (E1 - S1) S1 0 = some v from hid'] at hz
          simp only [idRes] at hz
          have ZI := hid (hz _ HCell.out)
          have HL' : Hid (idsAt c n 0 = (idsAt c n E1).map ((l ++ [v]) ++ ·)) := by
            have h2 := ids_good (v := v) hj (by rw [← hS1]; exact hlt) (by rw [← hS1, ← hE1]; exact hid')
            show _ = _
            rw [HL.out, h2, ← hE1]
            cases idsAt c n E1 <;> simp
          clear hz hS1 hE1 hid' NF0 HN HL
          go_wp2_with (first | (go_at_call 9; refine ZI.out.mono ?_; rintro e w' ⟨rfl, rfl⟩) | (go_at_call 8; refine (NF.out E1 hle _ hb).mono ?_; rintro e w' ⟨rfl, rfl⟩))
          go_round
          case rel => exact ⟨E1, l ++ [v], hle, rfl, rfl, HL'⟩
          case measure => simp [intOf]; omega
      · exfalso
        have h1 := HL.out
        rw [ids_shut hj hlt, HN.out] at h1
        cases h1
  · cases ids with
    | nil =>
      obtain rfl : nN = l1 := by rw [e1, ← HX1.out]; simp
      obtain rfl : nE = l2 := by have h1 := HX2.out; rw [show X2 ++ eds [] = X2 by simp [eds]] at e3; omega
      have R1 : Row .i64 w1 aN nN (fn X1) := by simpa using e2
      have R2 : Row .i64 w1 aE (2 * nE) (fn X2) := by simpa [eds] using e4
      subst herr
      subst hs
      by_cases hS : fs c n 0 = n
      · have hS' : ((fs c n 0 : Int) == (n : Int)) = true := by simp [hS]
        have P1 := hid (ints12 aN nN cN (fn X1) a1 nN c1 (fn X1) w1 (by omega) (by omega) R1 hr1w (fun _ _ => rfl))
        have P2 := hid (fun k => edges13 aE nE cE (fn X2) a2 nE c2 (fn X2) (w1.drewN k) (by omega) (by omega) (R2.drewN k) (hr2w.drewN k) (fun _ _ => rfl))
        clear hO' hids hS e1 e2 e3 e4 R1 R2 hr1w hr2w hrw
        go_wp2_with (first | (go_at_call 8; refine NF0.out.mono ?_; rintro e w' ⟨rfl, rfl⟩) | (go_at_call 12; refine P1.out.mono ?_; rintro e w2 ⟨rfl, k2, rfl⟩) | (go_at_call 13; refine (P2.out _).mono ?_; rintro e w3 ⟨rfl, k3, rfl⟩))
        go_ret
        exact ⟨rfl, below_drewN' hb _⟩
      · have hlt : fs c n 0 < n := by have := @fs_le c n 0 (Nat.zero_le _); omega
        have hcm : c (fs c n 0) = 35 := by
          rcases hids with ⟨h, _⟩ | ⟨h1, h2⟩
          · exact h.2
          · obtain ⟨v, r, h, _⟩ := ids_open (Nat.zero_le _) h2 hlt
            cases h
        obtain ⟨b, off, rfl, hc⟩ := hrw (by omega)
        have cS := hc _ hlt
        have hS1 : ((fs c n 0 : Int) == (n : Int)) = false := by simp; omega
        have hS2 : (c (fs c n 0) == 35) = true := by simp [hcm]
        have P1 := hid (ints12 aN nN cN (fn X1) a1 nN c1 (fn X1) w1 (by omega) (by omega) R1 hr1w (fun _ _ => rfl))
        have P2 := hid (fun k => edges13 aE nE cE (fn X2) a2 nE c2 (fn X2) (w1.drewN k) (by omega) (by omega) (R2.drewN k) (hr2w.drewN k) (fun _ _ => rfl))
        clear hO' hids hS e1 e2 e3 e4 R1 R2 hr1w hr2w hrw hcm hc
        go_wp2_with (first | (go_at_call 8; refine NF0.out.mono ?_; rintro e w' ⟨rfl, rfl⟩) | (go_at_call 12; refine P1.out.mono ?_; rintro e w2 ⟨rfl, k2, rfl⟩) | (go_at_call 13; refine (P2.out _).mono ?_; rintro e w3 ⟨rfl, k3, rfl⟩))
        go_ret
        exact ⟨rfl, below_drewN' hb _⟩
    | cons u r =>
      obtain ⟨hncm, hsome⟩ : ¬ comment c n ∧ idsAt c n 0 = some (u :: r) := by
        rcases hids with ⟨_, h⟩ | h
        · cases h
        · exact h
      have hS : fs c n 0 < n := by
        rcases Nat.lt_or_ge (fs c n 0) n with h | h
        · exact h
        · rw [ids_shut (Nat.zero_le _) (by omega)] at hsome; cases hsome
      obtain ⟨b, off, rfl, hc⟩ := hrw (by omega)
      have cS := hc _ hS
      have hS1 : ((fs c n 0 : Int) == (n : Int)) = false := by simp; omega
      have hS2 : (c (fs c n 0) == 35) = false := by simp; intro h; exact hncm ⟨hS, h⟩
      obtain ⟨v0, r0, hv0, hid0, hrest⟩ := ids_open (Nat.zero_le _) hsome hS
      obtain ⟨rfl, rfl⟩ : u = v0 ∧ r = r0 := by simpa using hv0
      have hrl := idsAt_len (Nat.zero_le _) hsome
      simp at hrl
      obtain rfl : nN = l1 + 1 := by rw [e1, ← HX1.out]; simp
      have hnE : nE = l2 + r.length := by rw [List.length_append, HX2.out, eds_len] at e3; omega
      have hnE1 : nE ≤ 2097152 := by omega
      have hnE2 : l2 ≤ nE := by omega
      have R1 : Row .i64 w1 aN (l1 + 1) (fn (X1 ++ [u])) := by simpa using e2
      have P1 := hid (ints12 aN (l1 + 1) cN (fn (X1 ++ [u])) a1 l1 c1 (fn X1) w1 (by omega) (by omega) R1 hr1w (fun j hj => fn_left _ _ _ (by rw [HX1.out]; exact hj)))
      have P2 := hid (fun k => edges13 aE nE cE _ a2 l2 c2 (fn X2) (w1.drewN k) (by omega) (by omega) (e4.drewN k) (hr2w.drewN k) (fun j hj => fn_left _ _ _ (by rw [HX2.out]; exact hj)))
      obtain ⟨bN, oN, rfl, hcN⟩ := R1 (by omega)
      have cN' := hcN l1 (by omega)
      rw [show fn (X1 ++ [u]) l1 = u from getD_mid _ _ _ _ HX1.out] at cN'
      have hgt0 := fe_gt (Nat.zero_le _) hS
      have hle0 := @fe_le c n 0 (Nat.zero_le _)
      have hz0 : Hid (Calls Tryf.prog 9 #[.slice (some ⟨b, off + fs c n 0, none⟩) (fe c n 0 - fs c n 0) (cap - fs c n 0)] w1 fun e w' => e = .returned (.tuple #[.int .i64 u, .bool true]) ∧ w' = w1) := by
        have h := zzID9 b (off + fs c n 0) (fe c n 0 - fs c n 0) (cap - fs c n 0) (fs c n 0) c w1 (by omega) (by omega) HCB.out (fun t ht => by rw [Nat.add_assoc]; exact hc _ (by omega))
        rw [show idGo c (fe c n 0 - fs c n 0) (fs c n 0) 0 = some u from hid0] at h
        exact h
      have hcs0 : ¬ cap = fs c n 0 := by omega
      have HSome := hid hsome
      have HCell := hid hc
      subst herr
      have HSl := hid hs
      have HR := hid hrest
      have HE4 := hid e4
      have HnE := hid hnE
      clear hO' hncm hsome hc hrw hr1w hr2w hids e1 e2 e3 e4 hs hrest hv0 hcN hid0 hnE
      go_wp2_with (first | (go_at_call 8; refine NF0.out.mono ?_; rintro e w' ⟨rfl, rfl⟩))
      go_loop [15, 16] (fun x y => ∃ (j : Nat) (l : List Int), j ≤ n ∧ x = .int .i64 (fs c n j) ∧ y = .int .i64 (fe c n j) ∧ Hid (idsAt c n 0 = (idsAt c n j).map (l ++ ·))) (fun x _ => n - (intOf x).toNat)
      case atStart => exact ⟨0, [], Nat.zero_le _, rfl, rfl, by show _ = _; cases idsAt c n 0 <;> simp⟩
      case round =>
        obtain ⟨j, l, hj, rfl, rfl, HL⟩ := hrel
        by_cases hlt : fs c n j < n
        · have hgt := fe_gt hj hlt
          have hle := @fe_le c n j hj
          have hz := fun W (hW : ∀ i, i < n → W.cell? ⟨b, off + i, none⟩ = some (.int .u8 (c i))) => zzID9 b (off + fs c n j) (fe c n j - fs c n j) (cap - fs c n j) (fs c n j) c W (by omega) (by omega) HCB.out (fun t ht => by rw [Nat.add_assoc]; exact hW _ (by omega))
          have hfn := fs_ge c n (fe c n j)
          clear cS hS1 hS2 hS P1 P2 cN' hgt0 hle0 hz0 hcs0 NF0
          obtain ⟨S1, hS1⟩ : ∃ S1, S1 = fs c n j := ⟨_, rfl⟩
          obtain ⟨E1, hE1⟩ : ∃ E1, E1 = fe c n j := ⟨_, rfl⟩
          rw [← hS1] at hz hlt hgt ⊢
          rw [← hE1] at hz hgt hle hfn ⊢
          have hcs : ¬ cap = S1 := by omega
          cases hid' : idOf c S1 E1 with
          | none =>
            exfalso
            have h1 := HL.out
            rw [ids_bad hj (by rw [← hS1]; exact hlt) (by rw [← hS1, ← hE1]; exact hid'), HSome.out] at h1
            cases h1
          | some v =>
            rw [show idGo c (E1 - S1) S1 0 = some v from hid'] at hz
            simp only [idRes] at hz
            have ZI := hid (hz _ HCell.out)
            have HL' : Hid (idsAt c n 0 = (idsAt c n E1).map ((l ++ [v]) ++ ·)) := by
              have h2 := ids_good (v := v) hj (by rw [← hS1]; exact hlt) (by rw [← hS1, ← hE1]; exact hid')
              show _ = _
              rw [HL.out, h2, ← hE1]
              cases idsAt c n E1 <;> simp
            clear hz hS1 hE1 hid' HL
            go_wp2_with (first | (go_at_call 9; refine ZI.out.mono ?_; rintro e w' ⟨rfl, rfl⟩) | (go_at_call 8; refine (NF.out E1 hle _ hb).mono ?_; rintro e w' ⟨rfl, rfl⟩))
            go_round
            case rel => exact ⟨E1, l ++ [v], hle, rfl, rfl, HL'⟩
            case measure => simp [intOf]; omega
        · clear HL
          go_wp2_with (first | (go_at_call 9; refine hz0.out.mono ?_; rintro e w' ⟨rfl, rfl⟩) | (go_at_call 12; refine P1.out.mono ?_; rintro e w2 ⟨rfl, k2, rfl⟩) | (go_at_call 13; refine (P2.out _).mono ?_; rintro e w3 ⟨rfl, k3, rfl⟩) | (go_at_call 8; refine (NF.out (fe c n 0) hle0 _ (below_drewN' hb _)).mono ?_; rintro e w' ⟨rfl, rfl⟩))
          clear cS hS1 hS2 hS P1 P2 cN' hgt0 hz0 hcs0 NF0 hlt
          go_loop [21, 22, 23, 24] (fun k lp x y => ∃ (j q : Nat) (pre rest : List Int), j ≤ n ∧ q ≤ nE ∧ k = .int .i64 q ∧ lp = .int .i64 (loops s0 (u :: pre)) ∧ x = .int .i64 (fs c n j) ∧ y = .int .i64 (fe c n j) ∧ Hid (q = l2 + pre.length) ∧ Hid (r = pre ++ rest) ∧ Hid (idsAt c n j = some rest)) (fun _ _ x _ => n - (intOf x).toNat)
          case atStart => exact ⟨fe c n 0, l2, [], r, hle0, hnE2, rfl, rfl, rfl, rfl, rfl, rfl, HR⟩
          case round =>
            obtain ⟨j, q, pre, rest, hj, hq, rfl, rfl, rfl, rfl, HQ, HP, HI⟩ := hrel
            by_cases hlt : fs c n j < n
            · have hgt := fe_gt hj hlt
              have hle := @fe_le c n j hj
              obtain ⟨v, rest', hv, hid', hrest⟩ := ids_open hj HI.out hlt
              have hz : ∀ W : World, (∀ i, i < n → W.cell? ⟨b, off + i, none⟩ = some (.int .u8 (c i))) → Calls Tryf.prog 9 #[.slice (some ⟨b, off + fs c n j, none⟩) (fe c n j - fs c n j) (cap - fs c n j)] W fun e w' => e = .returned (.tuple #[.int .i64 v, .bool true]) ∧ w' = W := fun W hW => by
                have h := zzID9 b (off + fs c n j) (fe c n j - fs c n j) (cap - fs c n j) (fs c n j) c W (by omega) (by omega) HCB.out (fun t ht => by rw [Nat.add_assoc]; exact hW _ (by omega))
                rw [show idGo c (fe c n j - fs c n j) (fs c n j) 0 = some v from hid'] at h
                exact h
              subst hv
              have hlen : r.length = pre.length + (rest'.length + 1) := by rw [HP.out]; simp
              have hqn : q < nE := by have := HQ.out; have := HnE.out; omega
              obtain ⟨bE, oE, rfl, hcE⟩ := HE4.out (by omega)
              have cU := hcE (2 * q) (by omega)
              have cV := hcE (2 * q + 1) (by omega)
              have hed := eds_at X2 l2 HX2.out u v pre rest'
              rw [← HP.out, ← HQ.out] at hed
              rw [hed.1, Nat.mul_comm 2 q] at cU
              rw [hed.2, Nat.mul_comm 2 q, ← Nat.add_assoc] at cV
              have ZI := hid hz
              have hfn := fs_ge c n (fe c n j)
              have HI' := hid hrest
              have HP' : Hid (r = (pre ++ [v]) ++ rest') := by rw [HP.out]; simp [Hid]
              have HQ' : Hid (q + 1 = l2 + (pre ++ [v]).length) := by rw [HQ.out]; simp [Hid]; omega
              have hlp := loops_snoc s0 u pre v
              have d1 : decide ((nE : Int) ≤ (q : Int)) = false := decide_eq_false (by omega)
              have hqi : (q : Int) < (nE : Int) := by omega
              obtain ⟨S1, hS1⟩ : ∃ S1, S1 = fs c n j := ⟨_, rfl⟩
              obtain ⟨E1, hE1⟩ : ∃ E1, E1 = fe c n j := ⟨_, rfl⟩
              rw [← hS1] at ZI hlt hgt ⊢
              rw [← hE1] at ZI hgt hle hfn HI' ⊢
              have hcs : ¬ cap = S1 := by omega
              clear hz hid' hrest hcE hed HI hS1 hE1 hlen HP HQ HE4
              by_cases hvu : v = u
              · rw [if_pos hvu] at hlp
                have HLP := hid hlp
                clear hlp
                subst hvu
                go_wp2_with (first | (go_at_call 9; refine (ZI.out _ (by exact fun i hi => HCell.out i hi)).mono ?_; rintro e w' ⟨rfl, rfl⟩) | (go_at_call 8; refine (NF.out E1 hle _ (below_drewN' hb _)).mono ?_; rintro e w' ⟨rfl, rfl⟩))
                go_round
                case rel => exact ⟨E1, q + 1, pre ++ [v], rest', hle, by omega, by go_num, by rw [show (v :: (pre ++ [v])) = v :: pre ++ [v] from rfl, HLP.out], rfl, rfl, HQ', HP', HI'⟩
                case measure => simp [intOf]; omega
              · rw [if_neg hvu] at hlp
                have HLP := hid hlp
                have hvu' : (v == u) = false := by simp [hvu]
                clear hlp
                go_wp2_with (first | (go_at_call 9; refine (ZI.out _ (by exact fun i hi => HCell.out i hi)).mono ?_; rintro e w' ⟨rfl, rfl⟩) | (go_at_call 8; refine (NF.out E1 hle _ (below_drewN' hb _)).mono ?_; rintro e w' ⟨rfl, rfl⟩))
                go_round
                case rel => exact ⟨E1, q + 1, pre ++ [v], rest', hle, by omega, by go_num, by rw [show (u :: (pre ++ [v])) = u :: pre ++ [v] from rfl, HLP.out], rfl, rfl, HQ', HP', HI'⟩
                case measure => simp [intOf]; omega
            · have hr0 : rest = [] := by
                have h1 := HI.out
                rw [ids_shut hj hlt] at h1
                simpa using h1.symm
              have hpre : r = pre := by rw [HP.out, hr0, List.append_nil]
              have hqe : ((q : Int) == (nE : Int)) = true := by have h1 := HQ.out; have h2 := HnE.out; rw [hpre] at h2; simp; omega
              have hse : (s == loops s0 (u :: pre)) = true := by rw [HSl.out, hpre]; simp
              clear HI HP HQ hpre hr0
              go_wp2
              go_ret
              exact ⟨rfl, below_drewN' hb _⟩
end Go.Proofs.Qxb6003863aFmt
