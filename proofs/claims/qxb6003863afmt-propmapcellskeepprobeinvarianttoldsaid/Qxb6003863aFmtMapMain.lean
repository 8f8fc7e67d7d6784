/- The walk of PropMapAnswersAsPartialFunction. -/
import Derived.Test.Qxb6003863aFmtMapList
namespace Go.Proofs.Qxb6003863aFmt
open Go.RowKit
set_option linter.unusedVariables false

theorem Ls.agrees {w0 wr : World} {B len : Nat} {S : Nat → Prop} {f : Int → Int → Prop} {K V : List Int} {kv vv : Value} (L : Ls w0 wr B S f len K V kv vv) (h : Kv K V f) (hK : K.length = len) (hl : len ≤ 1048576) :
    Calls Tryf.prog 15 #[.pointer (some ⟨B, 0, none⟩), kv, vv] wr fun e w' => e = .returned (.bool true) ∧ w' = wr := by
  subst hK
  obtain ⟨aK, cK, rfl, e1, rK, _⟩ := keys_of L.ok
  obtain ⟨aV, cV, e0, e2, rV, _⟩ := keys_of L.ov
  rw [h.len] at e0
  subst e0
  exact agrees15 wr B S f K V aK aV K.length cK cV L.map h rfl hl rK rV
theorem Ls.index {w0 wr : World} {B len : Nat} {S : Nat → Prop} {f : Int → Int → Prop} {K V : List Int} {kv vv : Value} (L : Ls w0 wr B S f len K V kv vv) (hl : K.length ≤ 1048576) (x z : Int) (hz : idx x K = z) :
    Calls Tryf.prog 16 #[kv, .int .i64 x] wr fun e w' => e = .returned (.int .i64 z) ∧ w' = wr := by
  obtain ⟨aK, cK, rfl, e1, rK, _⟩ := keys_of L.ok
  rw [← hz]
  exact index16 aK K.length cK K x wr rfl hl rK

/-- A block of four cells that holds the round's step. -/
structure Held (w : World) (o : Nat) (k v x : Int) : Prop where
  c0 : w.cell? ⟨o, 0, none⟩ = some (.int .i64 k)
  c1 : w.cell? ⟨o, 1, none⟩ = some (.int .i64 v)
  c2 : w.cell? ⟨o, 2, none⟩ = some (.int .i64 x)
theorem Held.later {p : Nat → Prop} {w w' : World} {o : Nat} {k v x : Int} (h : Held w o k v x) (kp : Keeps p w w') (ho : ¬ p o) : Held w' o k v x :=
  have l := World.block_lt_of_cell? _ _ h.c0
  ⟨(kp.cell l ho).trans h.c0, (kp.cell l ho).trans h.c1, (kp.cell l ho).trans h.c2⟩

theorem Held.alloc {w : World} {o : Nat} {k v x : Int} {c : Obj} (h : Held w o k v x) : Held (w.alloc c) o k v x := h.later ((Keeps.refl (fun _ => False) w).alloc c) (fun h => h)
theorem Ls.held {w0 wr : World} {B len o : Nat} {S : Nat → Prop} {f : Int → Int → Prop} {K V : List Int} {kv vv : Value} (L : Ls w0 wr B S f len K V kv vv) (ho : wr.heap.size ≤ o) : ¬ S o ∧ ¬ kv.ownBlock = some o ∧ ¬ vv.ownBlock = some o :=
  ⟨fun h => by have := L.map.lt o h; omega, fun h => by have := (L.klt o h).2; omega, fun h => by have := (L.vlt o h).2; omega⟩
theorem Ls.tab {w0 wr : World} {B len : Nat} {S : Nat → Prop} {f : Int → Int → Prop} {K V : List Int} {kv vv : Value} (L : Ls w0 wr B S f len K V kv vv) (h : TabAt w0) : TabAt wr := fun j hj => cell_later L.bel (h j hj)

theorem Ls.start (w w1 : World) (hb : Below w.heap.size w w1) : Ls w (w1.alloc (.cells #[.slice none 0 0, .slice none 0 0, .int .i64 0, .int .u64 0] 46)) w1.heap.size (fun k => k = w1.heap.size) (fun _ _ => False) ([] : List Int).length [] [] (.slice none 0 0) (.slice none 0 0) where
  bel := hb.alloc hb.size _
  map := .inl ⟨⟨by simp, by simp, by simp, by simp, fun j => by simp⟩, fun k => Iff.rfl, rfl, fun _ _ _ h => h⟩
  hS := fun k hk => by rw [hk]; exact hb.size
  ok := ⟨rfl, .inl ⟨rfl, rfl⟩⟩
  ov := ⟨rfl, .inl ⟨rfl, rfl⟩⟩
  dk := fun g hg => by cases hg
  dv := fun g hg => by cases hg
  dkv := fun g hg => by cases hg
theorem Kv.start : Kv [] [] (fun _ _ => False) := ⟨rfl, fun a b ha => by simp at ha, fun a ha => by simp at ha, fun y u _ => ⟨fun h => h.elim, fun ⟨j, hj, _⟩ => by simp at hj⟩⟩

theorem new_len {w : World} {B len len' : Nat} {S : Nat → Prop} {f f' : Int → Int → Prop} {x : Int} (hno : ∀ u, ¬ f x u) (hl : ((∀ u, ¬ f x u) ∧ len' = len + 1) ∨ ((∃ u, f x u) ∧ len' = len)) (M : MapIs w B S f' len') : MapIs w B S f' (len + 1) := by
  rcases hl with ⟨_, rfl⟩ | ⟨⟨u, hu⟩, _⟩
  · exact M
  · exact absurd hu (hno u)
theorem old_len {w : World} {B len len' : Nat} {S : Nat → Prop} {f f' : Int → Int → Prop} {x : Int} (hin : ∃ u, f x u) (hl : ((∀ u, ¬ f x u) ∧ len' = len + 1) ∨ ((∃ u, f x u) ∧ len' = len)) (M : MapIs w B S f' len') : MapIs w B S f' len := by
  rcases hl with ⟨h, _⟩ | ⟨_, rfl⟩
  · obtain ⟨u, hu⟩ := hin; exact absurd hu (h u)
  · exact M
theorem info2x : ∃ i0, Tryf.prog.info? 2 = some i0 ∧ i0.zero = some (.int .i64 0) ∧ i0.size = 1 ∧ i0.bytes = 8 := by
  have h := Tryf.info2m
  cases e : Tryf.prog.info? 2 with
  | none => rw [e] at h; cases h
  | some i0 => rw [e] at h; simp at h; exact ⟨i0, rfl, h.1, h.2.1, h.2.2⟩

theorem Ls.putV {w0 wr : World} {B len g cap : Nat} {S : Nat → Prop} {f : Int → Int → Prop} {K V : List Int} {kv : Value} (L : Ls w0 wr B S f len K V kv (.slice (some ⟨g, 0, none⟩) V.length cap)) (j : Nat) (x : Int) : Ls w0 (wr.setCell ⟨g, j, none⟩ (.int .i64 x)) B S f len K (V.set j x) kv (.slice (some ⟨g, 0, none⟩) V.length cap) := by
  have h := L.setV j x
  rw [List.length_set] at h
  exact h
theorem Ls.putK {w0 wr : World} {B len g cap : Nat} {S : Nat → Prop} {f : Int → Int → Prop} {K V : List Int} {vv : Value} (L : Ls w0 wr B S f len K V (.slice (some ⟨g, 0, none⟩) K.length cap) vv) (j : Nat) (x : Int) : Ls w0 (wr.setCell ⟨g, j, none⟩ (.int .i64 x)) B S f len (K.set j x) V (.slice (some ⟨g, 0, none⟩) K.length cap) vv := by
  have h := L.setK j x
  rw [List.length_set] at h
  exact h
theorem Ls.cut {w0 wr : World} {B len g cK g' cV m : Nat} {kx vx : Int} {S : Nat → Prop} {f : Int → Int → Prop} {K V : List Int} (L : Ls w0 wr B S f len K V (.slice (some ⟨g, 0, none⟩) K.length cK) (.slice (some ⟨g', 0, none⟩) V.length cV)) (hK : K.length = m + 1) (hV : V.length = m + 1) (hk : kx = at0 K m) (hv : vx = at0 V m) (j : Nat) :
    Ls w0 ((wr.setCell ⟨g, j, none⟩ (.int .i64 kx)).setCell ⟨g', j, none⟩ (.int .i64 vx)) B S f len ((K.set j (at0 K m)).take m) ((V.set j (at0 V m)).take m) (.slice (some ⟨g, 0, none⟩) m cK) (.slice (some ⟨g', 0, none⟩) m cV) := by
  subst hk hv
  exact (((L.setK j (at0 K m)).popK (n := m) (by rw [List.length_set]; exact hK)).setV j (at0 V m)).popV (by rw [List.length_set]; exact hV)
theorem gone_len {w : World} {B len len' : Nat} {S : Nat → Prop} {f f' : Int → Int → Prop} {x : Int} (hno : ∀ u, ¬ f x u) (hl : ((∃ u, f x u) ∧ len' + 1 = len) ∨ ((∀ u, ¬ f x u) ∧ len' = len)) (M : MapIs w B S f' len') : MapIs w B S f' len := by
  rcases hl with ⟨⟨u, hu⟩, _⟩ | ⟨_, rfl⟩
  · exact absurd hu (hno u)
  · exact M
theorem cut_len {w : World} {B len len' m : Nat} {S : Nat → Prop} {f f' : Int → Int → Prop} {x : Int} (hin : ∃ u, f x u) (hl : ((∃ u, f x u) ∧ len' + 1 = len) ∨ ((∀ u, ¬ f x u) ∧ len' = len)) (hm : len = m + 1) (M : MapIs w B S f' len') : MapIs w B S f' m := by
  rcases hl with ⟨_, h⟩ | ⟨h, _⟩
  · obtain rfl : len' = m := by omega
    exact M
  · obtain ⟨u, hu⟩ := hin; exact absurd hu (h u)
theorem ints_at {V : List Int} {j : Nat} (h : j < V.length) : (ints V)[j]? = some (.int .i64 (at0 V j)) := by simp [ints, at0, h]

def MapPost (w : World) (e : Ending) (w' : World) : Prop := e = .returned (.bool true) ∧ Below w.heap.size w w'

set_option maxRecDepth 20000 in
set_option maxHeartbeats 4000000 in
theorem map5 (a : Option Addr) (n cap : Nat) (op : Nat → Op4) (w : World) (hs : Script w a n op) (hT : TabAt w) :
    Calls Tryf.prog 5 #[.slice a n cap] w (MapPost w) := by
  have HS := hide hs
  have HT := hide hT
  have h1 : Hid (1 < w.heap.size) := World.block_lt_of_cell? _ _ (hT 0 (by omega))
  obtain ⟨i0, hi0, hi1, hi2, hi3⟩ := info2x
  have HI := hide hi0
  have HI1 := hide hi1
  have HI2 := hide hi2
  have HI3 := hide hi3
  clear hs hT hi0 hi1 hi2 hi3
  go_enter Tryf.func5, Tryf.ntmps5
  by_cases hn : n ≤ 1048576
  · have HF := hide (fits14 a n cap op w hn HS.out)
    go_wp2_with (go_at_call 14; refine HF.out.mono ?_; rintro e w1 ⟨r, rfl, hr, hb⟩; have HR := hide hr; have HB := hide hb; clear hr hb; cases r)
    · go_ret
      exact ⟨rfl, HB.out⟩
    · go_wp2_with (go_at_call 15; refine ((Ls.start w w1 HB.out).agrees Kv.start rfl (by simp)).mono ?_; rintro e w2 ⟨rfl, hw⟩; have HL0 := hide (hw ▸ Ls.start w w1 HB.out : Ls w w2 _ _ _ _ _ _ _ _); clear hw)
      go_loopw [4, 5, 6] (fun p q r wr => ∃ (i len : Nat) (K V : List Int) (S : Nat → Prop) (f : Int → Int → Prop), r = .int .i64 i ∧ Hid (Ls w wr w1.heap.size S f len K V p q) ∧ Hid (Kv K V f) ∧ K.length = len ∧ Hid (len ≤ i) ∧ i ≤ n) (fun _ _ r _ => n - (intOf r).toNat)
      case atStart => exact ⟨0, 0, [], [], _, _, rfl, HL0, Kv.start, rfl, Nat.le_refl 0, Nat.zero_le _⟩
      case round =>
        obtain ⟨i, len, K, V, S, f, rfl, HL, HK, rfl, HKi, hi⟩ := hrel
        by_cases hlt : i < n
        · have HFit := hide (HR.out trivial i hlt)
          have hii : (i : Int) < (n : Int) := by omega
          have HKn : Hid (K.length ≤ 1048576) := Nat.le_trans HKi.out (by omega)
          have HKm : Hid (K.length + 1 ≤ 1048576) := Nat.le_trans (Nat.succ_le_succ HKi.out) (by omega)
          have hB1 : Hid (¬ w1.heap.size = 1) := by have h1 := h1.out; have := HB.out.size; exact fun e => by omega
          have HOB := hide (HL.out.held (Nat.le_refl _))
          obtain ⟨b, off, rfl, hc⟩ := (HS.out.later HL.out.bel) (by omega)
          obtain ⟨c0, c1, c2, c3⟩ := hc i hlt
          obtain ⟨o, ho⟩ : ∃ o, o = op i := ⟨_, rfl⟩
          rw [← ho] at c0 c1 c2 c3 HFit
          obtain ⟨k, v, x, oa, on, oc⟩ := o
          dsimp only at c0 c1 c2 c3 HFit
          clear hc ho
          obtain ⟨aK, cK, rfl, e1, _, _⟩ := keys_of HL.out.ok
          obtain ⟨aV, cV, rfl, e2, _, _⟩ := keys_of HL.out.ov
          clear e1 e2
          have HO := hide (HL.out.alloc (.cells #[.int .i64 k, .int .i64 v, .int .i64 x, .slice oa on oc] 50))
          have HH : Hid (Held (wr.alloc (.cells #[.int .i64 k, .int .i64 v, .int .i64 x, .slice oa on oc] 50)) wr.heap.size k v x) := ⟨by simp, by simp, by simp⟩
          have HA := hide (fun z (hz : idx v K = z) => HO.out.index HKn.out v z hz)
          rcases HFit.out with ⟨rfl, hv⟩ | rfl | rfl | ⟨rfl, hv⟩ | ⟨rfl, hx0, hx1⟩
          · rcases idx_cases v K with ⟨hz, hno⟩ | ⟨j, hz, hj, hjv, _⟩
            · have HZ := hide hz
              have HN := hide (HK.out.new (v := x) hv hno)
              have HNO : Hid (∀ u, ¬ f v u) := fun u hu => by
                obtain ⟨j, hj, e1, _⟩ := (HK.out.ff v u (by omega)).1 hu
                exact hno j hj e1
              have HP := hide (put_is _ _ _ _ _ v x HO.out.map hv HKn.out (HO.out.tab HT.out) hB1.out)
              clear hz hno hv
              go_wp2_with (first | (go_at_call 16; refine (HA.out _ HZ.out).mono ?_; rintro e w3 ⟨rfl, rfl⟩) | (go_at_call 17; refine HP.out.mono ?_; rintro e w3 ⟨rfl, S', len', M, kp, hs, hl⟩; have HL3 := hide (HO.out.mapop kp (new_len HNO.out hl M) hs); have HH3 := hide (HH.out.later kp HOB.out.1); obtain ⟨d0, d1, d2⟩ := HH3.out; clear M kp hs hl) | (at_builtin; refine wpList_append_lies _ rfl (.tmp 47) (.tmp 50) 33 rfl w.heap.size 2 i0 (.int .i64 0) 1 8 Tryf.underlying33 HI.out HI1.out HI2.out HI3.out rfl (by decide) _ _ _ rfl (HL3.out.alloc _).ok ⟨w3.heap.size, 0, none⟩ 1 1 [.int .i64 v] rfl rfl (cell_one_new _ _ _) (by simp [Value.oneCell']) (by omega) (by have := HKn.out; unfold maxLen; omega) (by have := HKn.out; omega) (by exact (HL3.out.alloc _).size) _ rfl ?_; intro g cap w5 ho hg hat _; have HL5 := hide ((HL3.out.alloc _).appK hg ho hat); obtain ⟨_, _, f2⟩ := HH3.out.alloc.later (keeps_grown hg) HOB.out.2.1; clear ho hg hat) | (at_builtin; refine wpList_append_lies _ rfl (.tmp 52) (.tmp 55) 33 rfl w.heap.size 2 i0 (.int .i64 0) 1 8 Tryf.underlying33 HI.out HI1.out HI2.out HI3.out rfl (by decide) _ _ _ rfl (HL5.out.alloc _).ov ⟨w5.heap.size, 0, none⟩ 1 1 [.int .i64 x] rfl rfl (cell_one_new _ _ _) (by simp [Value.oneCell']) (by omega) (by have := HKn.out; rw [HK.out.len]; unfold maxLen; omega) (by have := HKn.out; rw [HK.out.len]; omega) (by exact (HL5.out.alloc _).size) _ rfl ?_; intro g' cap' w6 ho hg hat _; have HL6 := hide ((HL5.out.alloc _).appV hg ho hat); clear ho hg hat) | (go_at_call 15; refine (HL6.out.agrees HN.out (by simp) HKm.out).mono ?_; rintro e w7 ⟨rfl, rfl⟩))
              go_roundw
              case rel => exact ⟨i + 1, _, _, _, _, _, by go_num, HL6, HN, by simp, Nat.succ_le_succ HKi.out, by omega⟩
              case measure => simp [intOf]; omega
            · have HZ := hide hz
              have HN := hide (HK.out.set (v := x) hj hjv)
              have HIN : Hid (∃ u, f v u) := ⟨_, by have := HK.out.at hj; rwa [show at0 K j = v from hjv] at this⟩
              have HP := hide (put_is _ _ _ _ _ v x HO.out.map hv HKn.out (HO.out.tab HT.out) hB1.out)
              have hjV : j < V.length := by rw [HK.out.len]; exact hj
              obtain ⟨g, cap', hform, _, hgl⟩ := HL.out.ov.form (by omega)
              obtain ⟨rfl, rfl⟩ : aV = some ⟨g, 0, none⟩ ∧ cV = cap' := by simpa using hform
              have hjj : (j : Int) < (V.length : Int) := by omega
              have HJ := hide hjV
              clear hz hj hjv hv hform hjV
              go_wp2_with (first | (go_at_call 16; refine (HA.out _ HZ.out).mono ?_; rintro e w3 ⟨rfl, rfl⟩) | (go_at_call 17; refine HP.out.mono ?_; rintro e w3 ⟨rfl, S', len', M, kp, hs, hl⟩; have HL3 := hide (HO.out.mapop kp (old_len HIN.out hl M) hs); have HH3 := hide (HH.out.later kp HOB.out.1); obtain ⟨d0, d1, d2⟩ := HH3.out; have cv := HL3.out.ov.cellAt j (by have := HJ.out; omega); rw [ints_at HJ.out] at cv; have fv := HL3.out.ov.frozenAt j; clear M kp hs hl) | (go_at_call 15; refine ((HL3.out.putV j x).agrees HN.out rfl HKn.out).mono ?_; rintro e w7 ⟨rfl, rfl⟩))
              go_roundw
              case rel => exact ⟨i + 1, _, _, _, _, _, by go_num, HL3.out.putV j x, HN, rfl, Nat.le_succ_of_le HKi.out, by omega⟩
              case measure => simp [intOf]; omega
          · rcases idx_cases v K with ⟨hz, hno⟩ | ⟨j, hz, hj, hjv, _⟩
            · have HZ := hide hz
              have HG := hide (get_absent _ _ _ _ _ v HO.out.map (fun hv u hu => by obtain ⟨j, hj, e1, _⟩ := (HK.out.ff v u hv).1 hu; exact hno j hj e1))
              have HAG := hide (HO.out.agrees HK.out rfl HKn.out)
              clear hz hno
              go_wp2_with (first | (go_at_call 16; refine (HA.out _ HZ.out).mono ?_; rintro e w3 ⟨rfl, rfl⟩) | (go_at_call 18; refine HG.out.mono ?_; rintro e w3 ⟨rfl, rfl⟩) | (go_at_call 15; refine HAG.out.mono ?_; rintro e w3 ⟨rfl, rfl⟩))
              go_roundw
              case rel => exact ⟨i + 1, _, K, V, S, f, by go_num, HO, HK, rfl, Nat.le_succ_of_le HKi.out, by omega⟩
              case measure => simp [intOf]; omega
            · have HZ := hide hz
              have hv1 : ¬ v = -1 := by have := HK.out.nn j hj; have hh : at0 K j = v := hjv; omega
              have HG := hide (get_found _ _ _ _ _ v (at0 V j) HO.out.map hv1 (by have := HK.out.at hj; rwa [show at0 K j = v from hjv] at this) (fun u hu => HK.out.uniq hv1 hu (by have := HK.out.at hj; rwa [show at0 K j = v from hjv] at this)))
              have HAG := hide (HO.out.agrees HK.out rfl HKn.out)
              have hjV : j < V.length := by rw [HK.out.len]; exact hj
              obtain ⟨g, cap', hform, _, hgl⟩ := HL.out.ov.form (by omega)
              obtain ⟨rfl, rfl⟩ : aV = some ⟨g, 0, none⟩ ∧ cV = cap' := by simpa using hform
              have cv : wr.cell? ⟨g, j, none⟩ = some (.int .i64 (at0 V j)) := by
                rw [HL.out.ov.cellAt j (by omega)]
                simp [ints, at0, hjV]
              have hjj : (j : Int) < (V.length : Int) := by omega
              obtain ⟨u, hu⟩ : ∃ u, u = at0 V j := ⟨_, rfl⟩
              rw [← hu] at cv HG
              clear hz hj hjv hv1 hform hu hjV
              go_wp2_with (first | (go_at_call 16; refine (HA.out _ HZ.out).mono ?_; rintro e w3 ⟨rfl, rfl⟩) | (go_at_call 18; refine HG.out.mono ?_; rintro e w3 ⟨rfl, rfl⟩) | (go_at_call 15; refine HAG.out.mono ?_; rintro e w3 ⟨rfl, rfl⟩))
              go_roundw
              case rel => exact ⟨i + 1, _, K, V, S, f, by go_num, HO, HK, rfl, Nat.le_succ_of_le HKi.out, by omega⟩
              case measure => simp [intOf]; omega
          · have HAG := hide (HO.out.agrees HK.out rfl HKn.out)
            have HLN := hide (len_is _ _ _ _ _ HO.out.map)
            go_wp2_with (first | (go_at_call 16; refine (HA.out _ rfl).mono ?_; rintro e w3 ⟨rfl, rfl⟩) | (go_at_call 21; refine HLN.out.mono ?_; rintro e w3 ⟨rfl, rfl⟩) | (go_at_call 15; refine HAG.out.mono ?_; rintro e w3 ⟨rfl, rfl⟩))
            go_roundw
            case rel => exact ⟨i + 1, _, K, V, S, f, by go_num, HO, HK, rfl, Nat.le_succ_of_le HKi.out, by omega⟩
            case measure => simp [intOf]; omega
          · rcases idx_cases v K with ⟨hz, hno⟩ | ⟨j, hz, hj, hjv, _⟩
            · have HZ := hide hz
              have HN := hide (HK.out.gone hno)
              have HNO : Hid (∀ u, ¬ f v u) := fun u hu => by
                obtain ⟨j, hj, e1, _⟩ := (HK.out.ff v u hv).1 hu
                exact hno j hj e1
              have HP := hide (del_is _ _ _ _ _ v HO.out.map hv)
              clear hz hno hv
              go_wp2_with (first | (go_at_call 16; refine (HA.out _ HZ.out).mono ?_; rintro e w3 ⟨rfl, rfl⟩) | (go_at_call 19; refine HP.out.mono ?_; rintro e w3 ⟨rfl, len', M, kp, hl⟩; have HL3 := hide (HO.out.mapop kp (gone_len HNO.out hl M) (fun k hk => .inl hk)); clear M kp hl) | (go_at_call 15; refine (HL3.out.agrees HN.out rfl HKn.out).mono ?_; rintro e w4 ⟨rfl, rfl⟩))
              go_roundw
              case rel => exact ⟨i + 1, _, K, V, S, _, by go_num, HL3, HN, rfl, Nat.le_succ_of_le HKi.out, by omega⟩
              case measure => simp [intOf]; omega
            · have HZ := hide hz
              have HIN : Hid (∃ u, f v u) := ⟨_, by have := HK.out.at hj; rwa [show at0 K j = v from hjv] at this⟩
              have HP := hide (del_is _ _ _ _ _ v HO.out.map hv)
              obtain ⟨m, hm⟩ : ∃ m, K.length = m + 1 := ⟨K.length - 1, by omega⟩
              have hVm : V.length = m + 1 := by rw [HK.out.len, hm]
              have HN := hide (HK.out.cut hj hjv hm)
              have HM := hide hm
              have HVM := hide hVm
              have hjm : j < m + 1 := by omega
              obtain ⟨g, ck', hform, _, hgl⟩ := HL.out.ok.form (by omega)
              obtain ⟨rfl, rfl⟩ : aK = some ⟨g, 0, none⟩ ∧ cK = ck' := by simpa using hform
              obtain ⟨g', cv', hform', _, hgl'⟩ := HL.out.ov.form (by omega)
              obtain ⟨rfl, rfl⟩ : aV = some ⟨g', 0, none⟩ ∧ cV = cv' := by simpa using hform'
              have hgg : ¬ g' = g := fun e => HL.out.dkv g rfl (by rw [e]; rfl)
              obtain ⟨kx, hkx⟩ : ∃ kx, kx = at0 K m := ⟨_, rfl⟩
              obtain ⟨vx, hvx⟩ : ∃ vx, vx = at0 V m := ⟨_, rfl⟩
              have HKX := hide hkx
              have HVX := hide hvx
              have hmb : m + 1 ≤ 1048576 := by have := HKn.out; omega
              have hcK : m + 1 ≤ cK := by omega
              have hcV : m + 1 ≤ cV := by omega
              rw [hm, hVm]
              rw [hm] at HA
              clear hz hj hjv hv hform hform' hkx hvx
              go_wp2_with (first | (go_at_call 16; refine (HA.out _ HZ.out).mono ?_; rintro e w3 ⟨rfl, rfl⟩) | (go_at_call 19; refine HP.out.mono ?_; rintro e w3 ⟨rfl, len', M, kp, hl⟩; have HL3 := hide (HO.out.mapop kp (cut_len HIN.out hl HM.out M) (fun k hk => .inl hk)); have c10 := HL3.out.ok.cellAt m (by omega); have c11 := HL3.out.ok.cellAt j (by omega); have c12 := HL3.out.ov.cellAt m (by omega); have c13 := HL3.out.ov.cellAt j (by omega); rw [ints_at (by omega)] at c10 c11 c12 c13; rw [← HKX.out] at c10; rw [← HVX.out] at c12; have f10 := HL3.out.ok.frozenAt j; have f11 := HL3.out.ov.frozenAt j; clear M kp hl) | (go_at_call 15; refine ((HL3.out.cut HM.out HVM.out HKX.out HVX.out j).agrees HN.out (by rw [List.length_take, List.length_set]; have := HM.out; omega) (by omega)).mono ?_; rintro e w4 ⟨rfl, rfl⟩))
              go_roundw
              case rel => exact ⟨i + 1, m, _, _, S, _, by go_num, HL3.out.cut HM.out HVM.out HKX.out HVX.out j, HN, by rw [List.length_take, List.length_set]; have := HM.out; omega, (by have := HKi.out; exact hide (by omega)), by omega⟩
              case measure => simp [intOf]; omega
          · obtain ⟨y, rfl⟩ : ∃ y : Nat, x = y := ⟨x.toNat, by omega⟩
            have hy : y < 1048576 := by omega
            have HRM := hide (room_is _ _ _ _ _ y HO.out.map HKn.out hy (HO.out.tab HT.out) hB1.out)
            clear hx0 hx1 hy
            go_wp2_with (first | (go_at_call 16; refine (HA.out _ rfl).mono ?_; rintro e w3 ⟨rfl, rfl⟩) | (go_at_call 20; refine HRM.out.mono ?_; rintro e w3 ⟨rfl, S', M, kp, hs⟩; have HL3 := hide (HO.out.mapop kp M hs); clear M kp hs) | (go_at_call 15; refine (HL3.out.agrees HK.out rfl HKn.out).mono ?_; rintro e w4 ⟨rfl, rfl⟩))
            go_roundw
            case rel => exact ⟨i + 1, _, K, V, S', f, by go_num, HL3, HK, rfl, Nat.le_succ_of_le HKi.out, by omega⟩
            case measure => simp [intOf]; omega
        · go_wp2
          go_ret
          exact ⟨rfl, HL.out.bel⟩
  · go_wp2
    go_ret
    exact ⟨rfl, Below.refl _ _⟩
end Go.Proofs.Qxb6003863aFmt
