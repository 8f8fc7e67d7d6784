/- The walk of PropMapCellsKeepProbeInvariant. -/
import Derived.Test.Qxb6003863aFmtMapInv
namespace Go.Proofs.Qxb6003863aFmt
open Go.RowKit
set_option linter.unusedVariables false

theorem Ls.keep {w0 wr w' : World} {B len : Nat} {S : Nat → Prop} {f : Int → Int → Prop} {K V : List Int} {kv vv : Value} (L : Ls w0 wr B S f len K V kv vv) (k : Keeps (fun _ => False) wr w') : Ls w0 w' B S f len K V kv vv :=
  L.other k (fun _ _ h => h) (fun _ _ h => h) (fun _ _ h => h) (fun _ _ h => h)
theorem Ls.cutK {w0 wr : World} {B len g cK m : Nat} {kx : Int} {S : Nat → Prop} {f : Int → Int → Prop} {K V : List Int} {vv : Value} (L : Ls w0 wr B S f len K V (.slice (some ⟨g, 0, none⟩) K.length cK) vv) (hK : K.length = m + 1) (hk : kx = at0 K m) (j : Nat) :
    Ls w0 (wr.setCell ⟨g, j, none⟩ (.int .i64 kx)) B S f len ((K.set j (at0 K m)).take m) V (.slice (some ⟨g, 0, none⟩) m cK) vv := by
  subst hk
  exact (L.setK j (at0 K m)).popK (n := m) (by rw [List.length_set]; exact hK)
theorem get_any (w : World) (B : Nat) (S : Nat → Prop) (f : Int → Int → Prop) (len : Nat) (x : Int) (h : MapIs w B S f len) :
    Calls Tryf.prog 18 #[.pointer (some ⟨B, 0, none⟩), .int .i64 x] w fun e w' => (∃ a b, e = .returned (.tuple #[a, b])) ∧ w' = w := by
  refine (get_is w B S f len x h).mono ?_
  rintro e w' ⟨rfl, ⟨_, u, _, he⟩ | ⟨_, he⟩⟩
  · exact ⟨⟨_, _, he⟩, rfl⟩
  · exact ⟨⟨_, _, he⟩, rfl⟩

set_option maxRecDepth 20000 in
set_option maxHeartbeats 4000000 in
theorem map6 (a : Option Addr) (n cap : Nat) (op : Nat → Op4) (w : World) (hs : Script w a n op) (hT : TabAt w) :
    Calls Tryf.prog 6 #[.slice a n cap] w (MapPost w) := by
  have HS := hide hs
  have HT := hide hT
  have h1 : Hid (1 < w.heap.size) := World.block_lt_of_cell? _ _ (hT 0 (by omega))
  obtain ⟨i0, hi0, hi1, hi2, hi3⟩ := info2x
  have HI := hide hi0
  have HI1 := hide hi1
  have HI2 := hide hi2
  have HI3 := hide hi3
  clear hs hT hi0 hi1 hi2 hi3
  go_enter Tryf.func6, Tryf.ntmps6
  by_cases hn : n ≤ 1048576
  · have HF := hide (fits14 a n cap op w hn HS.out)
    go_wp2_with (go_at_call 14; refine HF.out.mono ?_; rintro e w1 ⟨r, rfl, hr, hb⟩; have HR := hide hr; have HB := hide hb; clear hr hb; cases r)
    · go_ret
      exact ⟨rfl, HB.out⟩
    · go_wp2_with (go_at_call 22; refine (inv_is (Ls.start w w1 HB.out) Kv.start rfl (by simp)).mono ?_; rintro e w2 ⟨rfl, kp⟩; have HL0 := hide ((Ls.start w w1 HB.out).keep kp); clear kp)
      go_loopw [4, 5] (fun p r wr => ∃ (i len : Nat) (K V : List Int) (S : Nat → Prop) (f : Int → Int → Prop), r = .int .i64 i ∧ Hid (Ls w wr w1.heap.size S f len K [] p (.slice none 0 0)) ∧ Hid (Kv K V f) ∧ K.length = len ∧ Hid (len ≤ i) ∧ i ≤ n) (fun _ r _ => n - (intOf r).toNat)
      case atStart => exact ⟨0, 0, [], [], _, _, rfl, HL0, Kv.start, rfl, Nat.le_refl 0, Nat.zero_le _⟩
      case round =>
        obtain ⟨i, len, K, V, S, f, rfl, HL, HK, rfl, HKi, hi⟩ := hrel
        by_cases hlt : i < n
        · have HFit := hide (HR.out trivial i hlt)
          have hii : (i : Int) < (n : Int) := by omega
          have HKn : Hid (K.length ≤ 1048576) := Nat.le_trans HKi.out (by omega)
          have HKm : Hid (K.length + 1 ≤ 1048576) := Nat.le_trans (Nat.succ_le_succ HKi.out) (by omega)
          have hB1 : Hid (¬ w1.heap.size = 1) := by have h1 := h1.out; have := HB.out.size; exact fun e => by omega
          have HOB := hide (HL.out.held (Nat.le_refl _))
          obtain ⟨b, off, rfl, hc⟩ := (HS.out.later HL.out.bel) (by omega)
          obtain ⟨c0, c1, c2, c3⟩ := hc i hlt
          obtain ⟨o, ho⟩ : ∃ o, o = op i := ⟨_, rfl⟩
          rw [← ho] at c0 c1 c2 c3 HFit
          obtain ⟨k, v, x, oa, on, oc⟩ := o
          dsimp only at c0 c1 c2 c3 HFit
          clear hc ho
          obtain ⟨aK, cK, rfl, e1, _, _⟩ := keys_of HL.out.ok
          clear e1
          have HO := hide (HL.out.alloc (.cells #[.int .i64 k, .int .i64 v, .int .i64 x, .slice oa on oc] 50))
          have HH : Hid (Held (wr.alloc (.cells #[.int .i64 k, .int .i64 v, .int .i64 x, .slice oa on oc] 50)) wr.heap.size k v x) := ⟨by simp, by simp, by simp⟩
          have HA := hide (fun z (hz : idx v K = z) => HO.out.index HKn.out v z hz)
          rcases HFit.out with ⟨rfl, hv⟩ | rfl | rfl | ⟨rfl, hv⟩ | ⟨rfl, hx0, hx1⟩
          · rcases idx_cases v K with ⟨hz, hno⟩ | ⟨j, hz, hj, hjv, _⟩
            · have HZ := hide hz
              have HN := hide (HK.out.new (v := x) hv hno)
              have HNO : Hid (∀ u, ¬ f v u) := fun u hu => by
                obtain ⟨j, hj, e1, _⟩ := (HK.out.ff v u (by omega)).1 hu
                exact hno j hj e1
              have HP := hide (put_is _ _ _ _ _ v x HO.out.map hv HKn.out (HO.out.tab HT.out) hB1.out)
              clear hz hno hv
              go_wp2_with (first | (go_at_call 16; refine (HA.out _ HZ.out).mono ?_; rintro e w3 ⟨rfl, rfl⟩) | (go_at_call 17; refine HP.out.mono ?_; rintro e w3 ⟨rfl, S', len', M, kp, hs, hl⟩; have HL3 := hide (HO.out.mapop kp (new_len HNO.out hl M) hs); have HH3 := hide (HH.out.later kp HOB.out.1); obtain ⟨d0, d1, d2⟩ := HH3.out; clear M kp hs hl) | (at_builtin; refine wpList_append_lies _ rfl (.tmp 42) (.tmp 45) 33 rfl w.heap.size 2 i0 (.int .i64 0) 1 8 Tryf.underlying33 HI.out HI1.out HI2.out HI3.out rfl (by decide) _ _ _ rfl (HL3.out.alloc _).ok ⟨w3.heap.size, 0, none⟩ 1 1 [.int .i64 v] rfl rfl (cell_one_new _ _ _) (by simp [Value.oneCell']) (by omega) (by have := HKn.out; unfold maxLen; omega) (by have := HKn.out; omega) (by exact (HL3.out.alloc _).size) _ rfl ?_; intro g cap w5 ho hg hat _; have HL5 := hide ((HL3.out.alloc _).appK hg ho hat); clear ho hg hat) | (go_at_call 22; refine (inv_is HL5.out HN.out (by simp) HKm.out).mono ?_; rintro e w7 ⟨rfl, kp⟩; have HLE := hide (HL5.out.keep kp); clear kp))
              go_roundw
              case rel => exact ⟨i + 1, _, _, _, _, _, by go_num, HLE, HN, by simp, Nat.succ_le_succ HKi.out, by omega⟩
              case measure => simp [intOf]; omega
            · have HZ := hide hz
              have HN := hide (HK.out.set (v := x) hj hjv)
              have HIN : Hid (∃ u, f v u) := ⟨_, by have := HK.out.at hj; rwa [show at0 K j = v from hjv] at this⟩
              have HP := hide (put_is _ _ _ _ _ v x HO.out.map hv HKn.out (HO.out.tab HT.out) hB1.out)
              clear hz hj hjv hv
              go_wp2_with (first | (go_at_call 16; refine (HA.out _ HZ.out).mono ?_; rintro e w3 ⟨rfl, rfl⟩) | (go_at_call 17; refine HP.out.mono ?_; rintro e w3 ⟨rfl, S', len', M, kp, hs, hl⟩; have HL3 := hide (HO.out.mapop kp (old_len HIN.out hl M) hs); clear M kp hs hl) | (go_at_call 22; refine (inv_is HL3.out HN.out rfl HKn.out).mono ?_; rintro e w7 ⟨rfl, kp⟩; have HLE := hide (HL3.out.keep kp); clear kp))
              go_roundw
              case rel => exact ⟨i + 1, _, _, _, _, _, by go_num, HLE, HN, rfl, Nat.le_succ_of_le HKi.out, by omega⟩
              case measure => simp [intOf]; omega
          · have HG := hide (get_any _ _ _ _ _ v HO.out.map)
            go_wp2_with (first | (go_at_call 16; refine (HA.out _ rfl).mono ?_; rintro e w3 ⟨rfl, rfl⟩) | (go_at_call 18; refine HG.out.mono ?_; rintro e w3 ⟨⟨ga, gb, rfl⟩, rfl⟩) | (go_at_call 22; refine (inv_is HO.out HK.out rfl HKn.out).mono ?_; rintro e w7 ⟨rfl, kp⟩; have HLE := hide (HO.out.keep kp); clear kp))
            go_roundw
            case rel => exact ⟨i + 1, _, K, V, S, f, by go_num, HLE, HK, rfl, Nat.le_succ_of_le HKi.out, by omega⟩
            case measure => simp [intOf]; omega
          · have HLN := hide (len_is _ _ _ _ _ HO.out.map)
            go_wp2_with (first | (go_at_call 16; refine (HA.out _ rfl).mono ?_; rintro e w3 ⟨rfl, rfl⟩) | (go_at_call 21; refine HLN.out.mono ?_; rintro e w3 ⟨rfl, rfl⟩) | (go_at_call 22; refine (inv_is HO.out HK.out rfl HKn.out).mono ?_; rintro e w7 ⟨rfl, kp⟩; have HLE := hide (HO.out.keep kp); clear kp))
            go_roundw
            case rel => exact ⟨i + 1, _, K, V, S, f, by go_num, HLE, HK, rfl, Nat.le_succ_of_le HKi.out, by omega⟩
            case measure => simp [intOf]; omega
          · rcases idx_cases v K with ⟨hz, hno⟩ | ⟨j, hz, hj, hjv, _⟩
            · have HZ := hide hz
              have HN := hide (HK.out.gone hno)
              have HNO : Hid (∀ u, ¬ f v u) := fun u hu => by
                obtain ⟨j, hj, e1, _⟩ := (HK.out.ff v u hv).1 hu
                exact hno j hj e1
              have HP := hide (del_is _ _ _ _ _ v HO.out.map hv)
              clear hz hno hv
              go_wp2_with (first | (go_at_call 16; refine (HA.out _ HZ.out).mono ?_; rintro e w3 ⟨rfl, rfl⟩) | (go_at_call 19; refine HP.out.mono ?_; rintro e w3 ⟨rfl, len', M, kp, hl⟩; have HL3 := hide (HO.out.mapop kp (gone_len HNO.out hl M) (fun k hk => .inl hk)); clear M kp hl) | (go_at_call 22; refine (inv_is HL3.out HN.out rfl HKn.out).mono ?_; rintro e w7 ⟨rfl, kp⟩; have HLE := hide (HL3.out.keep kp); clear kp))
              go_roundw
              case rel => exact ⟨i + 1, _, K, _, S, _, by go_num, HLE, HN, rfl, Nat.le_succ_of_le HKi.out, by omega⟩
              case measure => simp [intOf]; omega
            · have HZ := hide hz
              have HIN : Hid (∃ u, f v u) := ⟨_, by have := HK.out.at hj; rwa [show at0 K j = v from hjv] at this⟩
              have HP := hide (del_is _ _ _ _ _ v HO.out.map hv)
              obtain ⟨m, hm⟩ : ∃ m, K.length = m + 1 := ⟨K.length - 1, by omega⟩
              have HN := hide (HK.out.cut hj hjv hm)
              have HM := hide hm
              have hjm : j < m + 1 := by omega
              obtain ⟨g, ck', hform, _, hgl⟩ := HL.out.ok.form (by omega)
              obtain ⟨rfl, rfl⟩ : aK = some ⟨g, 0, none⟩ ∧ cK = ck' := by simpa using hform
              obtain ⟨kx, hkx⟩ : ∃ kx, kx = at0 K m := ⟨_, rfl⟩
              have HKX := hide hkx
              have hmb : m + 1 ≤ 1048576 := by have := HKn.out; omega
              have hcK : m + 1 ≤ cK := by omega
              rw [hm]
              rw [hm] at HA
              clear hz hj hjv hv hform hkx
              go_wp2_with (first | (go_at_call 16; refine (HA.out _ HZ.out).mono ?_; rintro e w3 ⟨rfl, rfl⟩) | (go_at_call 19; refine HP.out.mono ?_; rintro e w3 ⟨rfl, len', M, kp, hl⟩; have HL3 := hide (HO.out.mapop kp (cut_len HIN.out hl HM.out M) (fun k hk => .inl hk)); have c10 := HL3.out.ok.cellAt m (by omega); have c11 := HL3.out.ok.cellAt j (by omega); rw [ints_at (by omega)] at c10 c11; rw [← HKX.out] at c10; have f10 := HL3.out.ok.frozenAt j; have HCU := hide (cut23 g cK m j kx _ _ (by omega) hjm hcK c10 c11 f10); clear M kp hl) | (go_at_call 23; refine HCU.out.mono ?_; rintro e w4 ⟨rfl, hw⟩; have HL4 := hide (hw ▸ HL3.out.cutK HM.out HKX.out j : Ls w w4 _ _ _ _ _ _ _ _); clear hw) | (go_at_call 22; refine (inv_is HL4.out HN.out (by rw [List.length_take, List.length_set]; have := HM.out; omega) (by omega)).mono ?_; rintro e w7 ⟨rfl, kp⟩; have HLE := hide (HL4.out.keep kp); clear kp))
              go_roundw
              case rel => exact ⟨i + 1, m, _, _, S, _, by go_num, HLE, HN, by rw [List.length_take, List.length_set]; have := HM.out; omega, (by have := HKi.out; exact hide (by omega)), by omega⟩
              case measure => simp [intOf]; omega
          · obtain ⟨y, rfl⟩ : ∃ y : Nat, x = y := ⟨x.toNat, by omega⟩
            have hy : y < 1048576 := by omega
            have HRM := hide (room_is _ _ _ _ _ y HO.out.map HKn.out hy (HO.out.tab HT.out) hB1.out)
            clear hx0 hx1 hy
            go_wp2_with (first | (go_at_call 16; refine (HA.out _ rfl).mono ?_; rintro e w3 ⟨rfl, rfl⟩) | (go_at_call 20; refine HRM.out.mono ?_; rintro e w3 ⟨rfl, S', M, kp, hs⟩; have HL3 := hide (HO.out.mapop kp M hs); clear M kp hs) | (go_at_call 22; refine (inv_is HL3.out HK.out rfl HKn.out).mono ?_; rintro e w7 ⟨rfl, kp⟩; have HLE := hide (HL3.out.keep kp); clear kp))
            go_roundw
            case rel => exact ⟨i + 1, _, K, V, S', f, by go_num, HLE, HK, rfl, Nat.le_succ_of_le HKi.out, by omega⟩
            case measure => simp [intOf]; omega
        · go_wp2
          go_ret
          exact ⟨rfl, HL.out.bel⟩
  · go_wp2
    go_ret
    exact ⟨rfl, Below.refl _ _⟩
end Go.Proofs.Qxb6003863aFmt
