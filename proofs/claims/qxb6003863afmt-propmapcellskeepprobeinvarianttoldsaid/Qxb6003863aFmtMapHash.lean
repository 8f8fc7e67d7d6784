/- The walk of rehash. -/
import Derived.Test.Qxb6003863aFmtMapGet
import Derived.Deep.DeepCutAuto
namespace Go.Proofs.Qxb6003863aFmt
open Go.RowKit
set_option linter.unusedVariables false

theorem Tryf.info2m : (Tryf.prog.info? 2).map (fun i => (i.zero, i.size, i.bytes)) = some (some (.int .i64 0), 1, 8) := by kernel_rfl

theorem TabAt.later {p : Nat → Prop} {w w' : World} (h : TabAt w) (k : Keeps p w w') (h1 : ¬ p 1) : TabAt w' := fun j hj =>
  (k.cell (World.block_lt_of_cell? _ _ (h j hj)) h1).trans (h j hj)

/-- The old row of n numbers at a, in a block that is not B. -/
def Old (w : World) (B : Nat) (a : Option Addr) (n : Nat) (x : Nat → Int) : Prop := 0 < n → ∃ b, a = some ⟨b, 0, none⟩ ∧ ¬ b = B ∧ ∀ j, j < n → w.cell? ⟨b, j, none⟩ = some (.int .i64 (x j))

theorem Old.later {w w' : World} {B : Nat} {a : Option Addr} {n : Nat} {x : Nat → Int} (h : Old w B a n x) (k : Keeps (fun i => i = B) w w') : Old w' B a n x := fun h0 => by
  obtain ⟨b, e, hb, hc⟩ := h h0
  exact ⟨b, e, hb, fun j hj => (k.cell (World.block_lt_of_cell? _ _ (hc j hj)) hb).trans (hc j hj)⟩

/-- Behind the two makes and the three stores of rehash. -/
structure Fr (w wc : World) (B bi bv C : Nat) (s : Int) : Prop where
  c0 : wc.cell? ⟨B, 0, none⟩ = some (.slice (some ⟨bi, 0, none⟩) C C)
  c1 : wc.cell? ⟨B, 1, none⟩ = some (.slice (some ⟨bv, 0, none⟩) C C)
  c2 : wc.cell? ⟨B, 2, none⟩ = some (.int .i64 0)
  c3 : wc.cell? ⟨B, 3, none⟩ = some (.int .u64 s)
  ci : ∀ j, j < C → wc.cell? ⟨bi, j, none⟩ = some (.int .i64 0)
  cv : ∀ j, j < C → wc.cell? ⟨bv, j, none⟩ = some (.int .i64 0)
  fB : ∀ j, wc.frozen? ⟨B, j, none⟩ = false
  fi : ∀ j, wc.frozen? ⟨bi, j, none⟩ = false
  fv : ∀ j, wc.frozen? ⟨bv, j, none⟩ = false
  n1 : ¬ bi = B
  n2 : ¬ bv = B
  n3 : ¬ bi = bv
  gi : w.heap.size ≤ bi
  gv : w.heap.size ≤ bv
  kp : Keeps (fun i => i = B) w wc

theorem made_cell (C j : Nat) (hj : j < C) : (madeCells #[Value.int .i64 0] C)[j]? = some (.int .i64 0) := by
  rw [← Array.getElem?_toList, toList_madeCells_one]
  simp [hj]

theorem fr_mk (w : World) (k B x y C : Nat) (s : Int) (u0 u1 u2 : Value) (hxy : (x = w.heap.size ∧ y = w.heap.size + 1) ∨ (x = w.heap.size + 1 ∧ y = w.heap.size))
    (c0 : w.cell? ⟨B, 0, none⟩ = some u0) (c1 : w.cell? ⟨B, 1, none⟩ = some u1) (c2 : w.cell? ⟨B, 2, none⟩ = some u2) (c3 : w.cell? ⟨B, 3, none⟩ = some (.int .u64 s)) (fB : ∀ j, w.frozen? ⟨B, j, none⟩ = false) :
    Fr w ((((((w.drewN k).alloc (.cells (madeCells #[.int .i64 0] C) 2)).setCell ⟨B, 0, none⟩ (.slice (some ⟨x, 0, none⟩) C C)).setCell ⟨B, 1, none⟩ (.slice (some ⟨y, 0, none⟩) C C)).setCell ⟨B, 2, none⟩ (.int .i64 0)).alloc (.cells (madeCells #[.int .i64 0] C) 2)) B x y C s := by
  have lB : B < w.heap.size := World.block_lt_of_cell? _ _ c0
  obtain ⟨O, hO⟩ : ∃ O, O = Obj.cells (madeCells #[.int .i64 0] C) 2 := ⟨_, rfl⟩
  rw [← hO]
  obtain ⟨wa, hwa⟩ : ∃ wa, wa = (w.drewN k).alloc O := ⟨_, rfl⟩
  have qa : ∀ j, wa.cell? ⟨B, j, none⟩ = w.cell? ⟨B, j, none⟩ := fun j => by rw [hwa]; exact World.cell?_alloc_past (w := w.drewN k) O B j lB
  have qf : ∀ j, wa.frozen? ⟨B, j, none⟩ = false := fun j => by rw [hwa]; exact (World.frozen?_alloc_past (w := w.drewN k) O B j lB).trans (fB j)
  have sz : wa.heap.size = w.heap.size + 1 := by rw [hwa]; simp [World.drewN]
  have za : ∀ j, j < C → wa.cell? ⟨w.heap.size, j, none⟩ = some (.int .i64 0) := fun j hj => by
    rw [hwa, hO]
    exact (World.cell?_alloc_at (w := w.drewN k) _ _ _ _ rfl).trans (made_cell C j hj)
  have zf : ∀ j, wa.frozen? ⟨w.heap.size, j, none⟩ = false := fun j => by
    rw [hwa, hO]
    exact World.frozen?_alloc_at (w := w.drewN k) _ _ _ _ rfl
  rw [← hwa]
  obtain ⟨wb, hwb⟩ : ∃ wb, wb = ((wa.setCell ⟨B, 0, none⟩ (.slice (some ⟨x, 0, none⟩) C C)).setCell ⟨B, 1, none⟩ (.slice (some ⟨y, 0, none⟩) C C)).setCell ⟨B, 2, none⟩ (.int .i64 0) := ⟨_, rfl⟩
  have szb : wb.heap.size = w.heap.size + 1 := by rw [hwb]; simp only [World.setCell, Array.size_modify]; exact sz
  have b0 : wb.cell? ⟨B, 0, none⟩ = some (.slice (some ⟨x, 0, none⟩) C C) := by
    rw [hwb, cell_off' _ (by omega), cell_off' _ (by omega)]
    exact World.cell?_setCell_same _ _ _ ((qa 0).trans c0)
  have b1 : wb.cell? ⟨B, 1, none⟩ = some (.slice (some ⟨y, 0, none⟩) C C) := by
    rw [hwb, cell_off' _ (by omega)]
    exact World.cell?_setCell_same _ _ _ ((cell_off' _ (by omega)).trans ((qa 1).trans c1))
  have b2 : wb.cell? ⟨B, 2, none⟩ = some (.int .i64 0) := by
    rw [hwb]
    exact World.cell?_setCell_same _ _ _ ((cell_off' _ (by omega)).trans ((cell_off' _ (by omega)).trans ((qa 2).trans c2)))
  have b3 : wb.cell? ⟨B, 3, none⟩ = some (.int .u64 s) := by
    rw [hwb, cell_off' _ (by omega), cell_off' _ (by omega), cell_off' _ (by omega)]
    exact (qa 3).trans c3
  have bf : ∀ j, wb.frozen? ⟨B, j, none⟩ = false := fun j => by rw [hwb, World.frozen?_setCell, World.frozen?_setCell, World.frozen?_setCell]; exact qf j
  have bz : ∀ j, j < C → wb.cell? ⟨w.heap.size, j, none⟩ = some (.int .i64 0) := fun j hj => by
    rw [hwb, cell_far _ (by omega), cell_far _ (by omega), cell_far _ (by omega)]
    exact za j hj
  have bzf : ∀ j, wb.frozen? ⟨w.heap.size, j, none⟩ = false := fun j => by rw [hwb, World.frozen?_setCell, World.frozen?_setCell, World.frozen?_setCell]; exact zf j
  have kb : Keeps (fun i => i = B) w wb := by
    rw [hwb, hwa]
    have k1 : Keeps (fun i => i = B) w ((w.drewN k).alloc O) := ((Keeps.refl _ w).drewN k).alloc O
    have k2 := k1.setCell (c := ⟨B, 0, none⟩) rfl (.slice (some ⟨x, 0, none⟩) C C)
    have k3 := k2.setCell (c := ⟨B, 1, none⟩) rfl (.slice (some ⟨y, 0, none⟩) C C)
    exact k3.setCell (c := ⟨B, 2, none⟩) rfl (.int .i64 0)
  rw [← hwb]
  have past : ∀ b j, b < w.heap.size + 1 → (wb.alloc O).cell? ⟨b, j, none⟩ = wb.cell? ⟨b, j, none⟩ := fun b j hb => World.cell?_alloc_past _ _ _ (by rw [szb]; exact hb)
  have pastf : ∀ b j, b < w.heap.size + 1 → (wb.alloc O).frozen? ⟨b, j, none⟩ = wb.frozen? ⟨b, j, none⟩ := fun b j hb => World.frozen?_alloc_past _ _ _ (by rw [szb]; exact hb)
  have new : ∀ j, j < C → (wb.alloc O).cell? ⟨w.heap.size + 1, j, none⟩ = some (.int .i64 0) := fun j hj => by
    rw [hO, World.cell?_alloc_at _ _ _ _ szb.symm]
    exact made_cell C j hj
  have newf : ∀ j, (wb.alloc O).frozen? ⟨w.heap.size + 1, j, none⟩ = false := fun j => by
    rw [hO]
    exact World.frozen?_alloc_at _ _ _ _ szb.symm
  have old : ∀ j, j < C → (wb.alloc O).cell? ⟨w.heap.size, j, none⟩ = some (.int .i64 0) := fun j hj => (past _ _ (by omega)).trans (bz j hj)
  have oldf : ∀ j, (wb.alloc O).frozen? ⟨w.heap.size, j, none⟩ = false := fun j => (pastf _ _ (by omega)).trans (bzf j)
  have a0 := (past B 0 (by omega)).trans b0
  have a1 := (past B 1 (by omega)).trans b1
  have a2 := (past B 2 (by omega)).trans b2
  have a3 := (past B 3 (by omega)).trans b3
  have af : ∀ j, (wb.alloc O).frozen? ⟨B, j, none⟩ = false := fun j => (pastf B j (by omega)).trans (bf j)
  rcases hxy with ⟨h1, h2⟩ | ⟨h1, h2⟩
  · exact ⟨a0, a1, a2, a3, fun j hj => by rw [h1]; exact old j hj, fun j hj => by rw [h2]; exact new j hj, af, fun j => by rw [h1]; exact oldf j, fun j => by rw [h2]; exact newf j, by omega, by omega, by omega, by omega, by omega, kb.alloc O⟩
  · exact ⟨a0, a1, a2, a3, fun j hj => by rw [h1]; exact new j hj, fun j hj => by rw [h2]; exact old j hj, af, fun j => by rw [h1]; exact newf j, fun j => by rw [h2]; exact oldf j, by omega, by omega, by omega, by omega, by omega, kb.alloc O⟩

theorem Fr.mem {w wc : World} {B bi bv C : Nat} {s : Int} (h : Fr w wc B bi bv C s) (m : Nat) (hm : m ≤ 64) : Mem (wc.setCell ⟨B, 3, none⟩ (.int .u64 (64 - (m : Int)))) B bi bv C m (fun _ => 0) (fun _ => 0) 0 where
  c0 := (cell_off' _ (by omega)).trans h.c0
  c1 := (cell_off' _ (by omega)).trans h.c1
  c2 := (cell_off' _ (by omega)).trans h.c2
  c3 := by
    rw [show ((64 - m : Nat) : Int) = 64 - (m : Int) by omega]
    exact World.cell?_setCell_same _ _ _ h.c3
  ci := fun j hj => (cell_far _ h.n1).trans (h.ci j hj)
  cv := fun j hj => (cell_far _ h.n2).trans (h.cv j hj)
  fB := fun j => by rw [World.frozen?_setCell]; exact h.fB j
  fi := fun j => by rw [World.frozen?_setCell]; exact h.fi j
  fv := fun j => by rw [World.frozen?_setCell]; exact h.fv j
  n1 := h.n1
  n2 := h.n2
  n3 := h.n3

theorem good_empty {C m : Nat} {f : Nat → Int} (hC : C = 2 ^ m) (hm1 : 3 ≤ m) (hm2 : m ≤ 24) (hf : ∀ j, j < C → f j = -1) : Good C m f 0 where
  pow := hC
  m1 := hm1
  m2 := hm2
  tab := ⟨fun x => by rw [hC]; exact hm_lt m x (by omega), fun j k hj _ h => absurd (hf j hj) h, fun j hj h => absurd (hf j hj) h⟩
  cnt := cnt_none f C hf
  half := by omega
  nn := fun j hj => .inl (hf j hj)

/-- What rehash leaves: a new table of the same content. -/
def HashPost (w : World) (B n : Nat) (ids vals : Nat → Int) (len C m : Nat) (e : Ending) (w' : World) : Prop :=
  e = .returned (.tuple #[]) ∧ ∃ (bi bv : Nat) (ids' vals' : Nat → Int), Mem w' B bi bv C m ids' vals' len ∧ Good C m ids' len ∧ w.heap.size ≤ bi ∧ w.heap.size ≤ bv ∧ Keeps (fun i => i = B) w w' ∧
    (∀ y u, ¬ y = -1 → (Holds C ids' vals' y u ↔ Holds n ids vals y u))

theorem cnt_mono (ids : Nat → Int) (a b : Nat) (h : a ≤ b) : cnt ids a ≤ cnt ids b := by
  obtain ⟨d, rfl⟩ : ∃ d, b = a + d := ⟨b - a, by omega⟩
  clear h
  induction d with
  | zero => exact Nat.le_refl _
  | succ d ih => show _ ≤ cnt ids (a + d) + _; omega

set_option maxRecDepth 20000 in
set_option maxHeartbeats 3200000 in
theorem rehash30 (B : Nat) (aI aV : Option Addr) (n : Nat) (ids vals : Nat → Int) (len : Nat) (s : Int) (C m : Nat) (w : World)
    (c0 : w.cell? ⟨B, 0, none⟩ = some (.slice aI n n)) (c1 : w.cell? ⟨B, 1, none⟩ = some (.slice aV n n)) (c2 : w.cell? ⟨B, 2, none⟩ = some (.int .i64 len)) (c3 : w.cell? ⟨B, 3, none⟩ = some (.int .u64 s)) (fB : ∀ j, w.frozen? ⟨B, j, none⟩ = false)
    (oI : Old w B aI n ids) (oV : Old w B aV n vals) (hn : n ≤ 16777216) (hlen : len = cnt ids n) (nn : ∀ j, j < n → ids j = -1 ∨ 0 ≤ ids j) (uniq : ∀ j k, j < n → k < n → ¬ ids j = -1 → ids j = ids k → j = k)
    (hT : TabAt w) (hB1 : ¬ B = 1) (hC : C = 2 ^ m) (hm1 : 3 ≤ m) (hm2 : m ≤ 24) (half : 2 * len ≤ C) :
    Calls Tryf.prog 30 #[.pointer (some ⟨B, 0, none⟩), .int .i64 C] w (HashPost w B n ids vals len C m) := by
  have hC1 : 8 ≤ C ∧ C ≤ 16777216 := by
    have h1 : 2 ^ 3 ≤ 2 ^ m := Nat.pow_le_pow_right (by decide) hm1
    have h2 : 2 ^ m ≤ 2 ^ 24 := Nat.pow_le_pow_right (by decide) hm2
    omega
  have HC := hide hC
  have HL := hide hlen
  have HN := hide nn
  have HU := hide uniq
  have HT := hide hT
  have HI := hide oI
  have HV := hide oV
  have hmk := run_make_row' (P := Tryf.prog) 33 2 (.int .i64 0) 8 Tryf.underlying33 Tryf.info2m rfl .i64 .i64 C (by omega) (by omega)
  have lB : B < w.heap.size := World.block_lt_of_cell? _ _ c0
  have lB1 : B < w.heap.size + 1 := by omega
  have qa : ∀ (k : Nat) (o : Obj) (j : Nat), ((w.drewN k).alloc o).cell? ⟨B, j, none⟩ = w.cell? ⟨B, j, none⟩ := fun k o j => World.cell?_alloc_past (w := w.drewN k) o B j lB
  have qf : ∀ (k : Nat) (o : Obj) (j : Nat), ((w.drewN k).alloc o).frozen? ⟨B, j, none⟩ = w.frozen? ⟨B, j, none⟩ := fun k o j => World.frozen?_alloc_past (w := w.drewN k) o B j lB
  have f0 := fB 0
  have f1 := fB 1
  have f2 := fB 2
  have f3 := fB 3
  have FB := hide fB
  clear hC hlen nn uniq hT oI oV fB
  go_enter Tryf.func30, Tryf.ntmps30
  go_wp2_with fail
  go_quiet (fail)
  go_wp2_with fail
  go_cut [4, 5] (fun x y wc => x = .slice aI n n ∧ y = .slice aV n n ∧ ∃ bi bv, Fr w wc B bi bv C s)
  case first =>
    go_region
    all_goals go_wp2_with fail
    all_goals go_meet
    case rel => exact ⟨rfl, rfl, _, _, fr_mk w _ B _ _ C s _ _ _ (.inl ⟨rfl, rfl⟩) c0 c1 c2 c3 FB.out⟩
    case rel => exact ⟨rfl, rfl, _, _, fr_mk w _ B _ _ C s _ _ _ (.inr ⟨rfl, rfl⟩) c0 c1 c2 c3 FB.out⟩
  case rest =>
    obtain ⟨rfl, rfl, bi, bv, hFr⟩ := hcut
    have HFr := hide hFr
    have b0 := hFr.c0
    have b1 := hFr.c1
    have b2 := hFr.c2
    have b3 := hFr.c3
    have g3 := hFr.fB 3
    have hTc : TabAt wc := HT.out.later hFr.kp (fun e => hB1 e.symm)
    clear hFr c0 c1 c2 c3 f0 f1 f2 f3 qa qf hmk lB1
    go_wp2_with (go_at_call 40; refine (tz40 m C _ (by omega) HC.out hTc).mono ?_; rintro e w' ⟨rfl, rfl⟩)
    have M0 := HFr.out.mem m (by omega)
    have K0 := HFr.out.kp.setCell (c := ⟨B, 3, none⟩) rfl (.int .u64 (64 - (m : Int)))
    have gi := HFr.out.gi
    have gv := HFr.out.gv
    go_loopw [6, 43] (fun _ p wr => ∃ (k : Nat) (f : Nat → Int), k ≤ C ∧ p = .int .i64 k ∧ Mem wr B bi bv C m f (fun _ => 0) 0 ∧ Keeps (fun i => i = B) w wr ∧ Hid (∀ j, j < k → f j = -1)) (fun _ p _ => C - (intOf p).toNat)
    case atStart => exact ⟨0, fun _ => 0, Nat.zero_le _, rfl, M0, K0, fun j hj => by omega⟩
    case round =>
      obtain ⟨k, f, hk, rfl, M, K, HF⟩ := hrel
      by_cases hlt : k < C
      · have q0 := M.c0
        have q1 := M.ci k hlt
        have q2 := M.fi k
        have hki : (k : Int) < (C : Int) := by omega
        have M' := M.setId hlt (-1)
        have K' := K.trans (q := fun i => i = bi) (r := fun i => i = B) ((Keeps.refl (fun i => i = bi) wr).setCell (c := ⟨bi, k, none⟩) rfl (.int .i64 (-1))) (fun _ _ h => h) (fun i hi h => by omega)
        have HF' : Hid (∀ j, j < k + 1 → upd f k (-1) j = -1) := fun j hj => by
          by_cases e : j = k
          · subst e; exact upd_same _ _ _
          · rw [upd_other _ _ e]; exact HF.out j (by omega)
        clear M K HF M0 K0
        go_wp2_with fail
        go_roundw
        case rel => exact ⟨k + 1, upd f k (-1), by omega, by go_num, M', K', HF'⟩
        case measure => simp [intOf]; omega
      · have ekC : C = k := by omega
        subst ekC
        have G0 := good_empty (f := f) HC.out hm1 hm2 HF.out
        have H0 : Hid (∀ y u, ¬ y = -1 → (Holds C f (fun _ => 0) y u ↔ Holds 0 ids vals y u)) := fun y u hy =>
          ⟨fun ⟨j, hj, h1, _⟩ => absurd (h1.symm.trans (HF.out j hj)) hy, fun ⟨j, hj, _⟩ => by omega⟩
        clear M0 K0 hlt HF
        go_wp2_with fail
        go_loopw [7, 8, 55] (fun _ _ p wq => ∃ (k : Nat) (ids' vals' : Nat → Int) (len' : Nat), k ≤ n ∧ p = .int .i64 k ∧ Mem wq B bi bv C m ids' vals' len' ∧ Good C m ids' len' ∧ Keeps (fun i => i = B) w wq ∧ Hid (len' = cnt ids k) ∧ Hid (∀ y u, ¬ y = -1 → (Holds C ids' vals' y u ↔ Holds k ids vals y u))) (fun _ _ p _ => n - (intOf p).toNat)
        case atStart => exact ⟨0, f, fun _ => 0, 0, Nat.zero_le _, rfl, M, G0, K, rfl, H0⟩
        case round =>
          obtain ⟨k, ids', vals', len', hk, rfl, M, G, K, HLn, HH⟩ := hrel
          by_cases hlt : k < n
          · obtain ⟨b1, rfl, hb1, hc1⟩ := (HI.out.later K) (by omega)
            obtain ⟨b2, rfl, hb2, hc2⟩ := (HV.out.later K) (by omega)
            have q1 := hc1 k hlt
            have q2 := hc2 k hlt
            have hki : (k : Int) < (n : Int) := by omega
            clear hc1 hc2
            by_cases hem : ids k = -1
            · have t1 : (ids k != -1) = false := by simp [hem]
              have HLn' : Hid (len' = cnt ids (k + 1)) := by
                show _ = cnt ids k + _
                rw [if_pos hem]; exact HLn.out
              have HH' : Hid (∀ y u, ¬ y = -1 → (Holds C ids' vals' y u ↔ Holds (k + 1) ids vals y u)) := fun y u hy => by
                rw [HH.out y u hy]
                constructor
                · rintro ⟨j, hj, h1, h2⟩; exact ⟨j, by omega, h1, h2⟩
                · rintro ⟨j, hj, h1, h2⟩
                  have : ¬ j = k := fun e => hy (by rw [← h1, e]; exact hem)
                  exact ⟨j, by omega, h1, h2⟩
              clear hem
              go_wp2_with fail
              go_roundw
              case rel => exact ⟨k + 1, ids', vals', len', by omega, by go_num, M, G, K, HLn', HH'⟩
              case measure => simp [intOf]; omega
            · have t1 : (ids k != -1) = true := by simp [hem]
              have hid0 : 0 ≤ ids k := by
                rcases HN.out k hlt with h | h
                · exact absurd h hem
                · exact h
              have hcm := cnt_mono ids (k + 1) n (by omega)
              have hck : cnt ids (k + 1) = len' + 1 := by
                show cnt ids k + _ = _
                rw [if_neg hem, HLn.out]
              have hroom : 2 * (len' + 1) ≤ C := by have := HL.out; omega
              have hno : ∀ u, ¬ Holds C ids' vals' (ids k) u := fun u h => by
                obtain ⟨j, hj, h1, _⟩ := (HH.out _ _ hem).1 h
                have := HU.out j k (by omega) hlt (by rw [h1]; exact hem) h1
                omega
              have HNO := hide hno
              have HCK := hide hck
              have HEM := hide hem
              clear hem hcm hck hno
              go_wp2_with (go_at_call 17; refine (putA B bi bv C m ids' vals' len' (ids k) (vals k) _ M G hid0 hroom).mono ?_; rintro e w3 ⟨rfl, i2, v2, l2, M2, G2, K2, hh2, hl2⟩)
              go_roundw
              case rel =>
                refine ⟨k + 1, i2, v2, l2, by omega, by go_num, M2, G2, K.trans K2 (fun _ _ h => h) (fun i hi h => ?_), ?_, ?_⟩
                · rcases h with h | h | h
                  · exact h
                  · omega
                  · omega
                · rcases hl2 with ⟨_, h⟩ | ⟨⟨u, h⟩, _⟩
                  · show _ = _; rw [HCK.out]; exact h
                  · exact absurd h (HNO.out u)
                · intro y u hy
                  rw [hh2 y u hy]
                  split
                  · rename_i hyk
                    constructor
                    · intro h; exact ⟨k, by omega, hyk.symm, h.symm⟩
                    · rintro ⟨j, hj, h1, h2⟩
                      have : j = k := HU.out j k (by omega) hlt (by rw [h1]; exact hy) (by rw [h1, hyk])
                      rw [← h2, this]
                  · rename_i hyk
                    rw [HH.out y u hy]
                    constructor
                    · rintro ⟨j, hj, h1, h2⟩; exact ⟨j, by omega, h1, h2⟩
                    · rintro ⟨j, hj, h1, h2⟩
                      have : ¬ j = k := fun e => hyk (by rw [← h1, e])
                      exact ⟨j, by omega, h1, h2⟩
              case measure => simp [intOf]; omega
          · have ekn : n = k := by omega
            subst ekn
            have hll : len' = len := by rw [HLn.out, HL.out]
            subst hll
            go_wp2_with fail
            go_end0
            exact ⟨rfl, bi, bv, ids', vals', M, G, gi, gv, K, HH.out⟩
end Go.Proofs.Qxb6003863aFmt
