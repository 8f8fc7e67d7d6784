/- The walks of clip and scanID. -/
import Derived.Test.Qxb6003863aFmtAdjRead
import Derived.Test.Qxb6003863aFmtStops
import Derived.Lib.AppendStr
namespace Go.Proofs.Qxb6003863aFmt
open Go.RowKit Go.Extern.Stop Go.Stop Go.Extern
set_option linter.unusedVariables false

theorem Tryf.info5 : (Tryf.prog.info? 5).map (fun i => (i.zero, i.size, i.bytes)) = some (some (.int .u8 0), 1, 1) := by kernel_rfl

/-- Bytes that lie at an address, as fmt's entry reads them. -/
def Lies (w : World) (a : Addr) (xs : List Int) : Prop := ∀ j v, (xs.map (Value.int .u8))[j]? = some v → w.cell? (a.add j) = some v

theorem lies_of {w : World} {b off m : Nat} {c : Nat → Int} (hc : ∀ j, j < m → w.cell? ⟨b, off + j, none⟩ = some (.int .u8 (c j))) : Lies w ⟨b, off, none⟩ ((List.range m).map c) := by
  intro j v h
  simp only [List.map_map, List.getElem?_map, Option.map_eq_some_iff] at h
  obtain ⟨k, hk, rfl⟩ := h
  obtain ⟨hlt, rfl⟩ := List.getElem?_eq_some_iff.1 hk
  simp at hlt
  rw [Addr.add_lit]
  simpa using hc j hlt

theorem run_dots (w : World) (b off : Nat) (xs : List Int) (k : Nat) (hk : xs.length = k) (hb : k ≤ 1000) (hl : Lies w ⟨b, off, none⟩ xs) (i : TypeInfo) (hi : Tryf.prog.info? 5 = some i) (hz0 : i.zero = some (.int .u8 0)) (hz1 : i.size = 1) (hz2 : i.bytes = 1) :
    (Builtin.append_ #[22, 9] 22 #[.slice (some ⟨b, off, none⟩) k k, .string ⟨#[46, 46, 46]⟩]).run Tryf.prog w =
      .ok (.slice (some ⟨w.heap.size, 0, none⟩) (k + 3) (grownCap w (k + 3) k 5)) (w.drew.alloc (.cells ((xs.map (Value.int .u8)).toArray ++ (Lib.strCells ⟨#[46, 46, 46]⟩).toArray ++ Builtin.zeroCells (Value.int .u8 0).cells (grownCap w (k + 3) k 5 - (k + 3))) 5)) := by
  have h3 : (ByteArray.mk #[46, 46, 46]).size = 3 := rfl
  have := Lib.run_append_grow_string (P := Tryf.prog) w 22 9 22 5 i (.int .u8 0) Tryf.underlying22 Tryf.underlying9 hi hz0 ⟨b, off, none⟩ k k (xs.map (Value.int .u8)) (by simp [hz1, hk]) hl ⟨#[46, 46, 46]⟩ (by rw [h3]; omega) (by rw [h3]; omega) (by rw [hz2, h3]; exact growslice_fits (by omega) (by omega))
  rw [h3] at this
  exact this

theorem dots (w : World) (b off : Nat) (xs : List Int) (k : Nat) (hk : xs.length = k) (hb : k ≤ 1000) (hl : Lies w ⟨b, off, none⟩ xs) :
    ∃ (ys : List Int) (c : Nat) (w' : World), ys.length = k + 3 ∧ (Builtin.append_ #[22, 9] 22 #[.slice (some ⟨b, off, none⟩) k k, .string ⟨#[46, 46, 46]⟩]).run Tryf.prog w = .ok (.slice (some ⟨w.heap.size, 0, none⟩) (k + 3) c) w' ∧ Below w.heap.size w w' ∧ Lies w' ⟨w.heap.size, 0, none⟩ ys := by
  obtain ⟨i, hi, hz0, hz1, hz2⟩ := info_parts Tryf.info5
  refine ⟨xs ++ [46, 46, 46], _, _, by simp [hk], run_dots w b off xs k hk hb hl i hi hz0 hz1 hz2, (Below.refl _ w).drew.alloc (Nat.le_refl _) _, ?_⟩
  intro j v hj
  rw [Addr.add_lit, Nat.zero_add, show w.heap.size = w.drew.heap.size from rfl, World.cell?_alloc_at _ _ _ _ rfl]
  have e : (xs.map (Value.int .u8)).toArray ++ (Lib.strCells ⟨#[46, 46, 46]⟩).toArray = ((xs ++ [46, 46, 46]).map (Value.int .u8)).toArray := by
    simp [Lib.strCells]
  rw [e]
  have hlt := (List.getElem?_eq_some_iff.1 hj).1
  rw [Array.getElem?_append_left (by simpa using hlt)]
  simpa using hj

/-- A builtin append whose run is known, at the operation. -/
theorem wpList_append_run {P : Program} (w : World) {ops : Array Oper} {rest : List Oper} {o : Oper} {a : Act} {Q : Exit → Act → World → Prop}
    (hg : o.guard = none) (s x : Operand) (t u : TypeId) (hop : o.op = Op.call { callee := Callee.builtin Builtin.append, args := #[s, x], argTypes := #[t, u] })
    (v1 v2 v' : Value) (w' : World) (hs : a.eval s = v1) (hx : a.eval x = v2) (hrun : (Builtin.append_ #[t, u] o.type #[v1, v2]).run P w = .ok v' w')
    (hK : wpList P ops Q rest (a.put o.dst v') w') : wpList P ops Q (o :: rest) a w := by
  refine wpList_plain hg fun K hK' => ?_
  unfold Oper.wp
  simp [execOp, hop, resolve, invoke, builtin, hs, hx, hrun, Result.andThen]
  exact hK' _ _ hK

/-- What clip hands back: some bytes, lying somewhere; nothing old is touched. -/
def ClipRet (w : World) (e : Ending) (w' : World) : Prop := ∃ a xs cap, e = .returned (.slice (some a) (List.length xs) cap) ∧ Below w.heap.size w w' ∧ Lies w' a xs

set_option maxHeartbeats 400000 in
theorem clip41 (b off m cap : Nat) (c : Nat → Int) (w : World) (hm : m ≤ 1048576) (hmc : m ≤ cap) (hcap : cap ≤ 9223372036854775807) (hc : ∀ j, j < m → w.cell? ⟨b, off + j, none⟩ = some (.int .u8 (c j))) :
    Calls Tryf.prog 41 #[.slice (some ⟨b, off, none⟩) m cap] w (ClipRet w) := by
  by_cases h : m ≤ 40
  · have hl := lies_of hc
    go_enter Tryf.func41, Tryf.ntmps41
    go_wp2
    go_ret
    exact ⟨⟨b, off, none⟩, (List.range m).map c, cap, by simp, Below.refl _ _, hl⟩
  · have hl0 := lies_of (m := 40) (fun j hj => hc j (by omega))
    obtain ⟨X, hX⟩ : ∃ X, X = (List.range 40).map c := ⟨_, rfl⟩
    rw [← hX] at hl0
    have HX : Hid (X.length = 40) := by rw [hX]; show _ = _; rw [List.length_map, List.length_range]
    clear hX hc
    go_enter Tryf.func41, Tryf.ntmps41
    go_wp2_with (at_builtin; obtain ⟨ys, k, w1, hy, hrun, hbel, hl⟩ := dots w b off X 40 HX.out (by omega) hl0; refine wpList_append_run _ rfl _ _ 22 9 rfl _ _ _ _ rfl rfl hrun ?_; have HY : Hid (ys.length = 43) := hy; clear hrun hy)
    go_ret
    exact ⟨⟨w.heap.size, 0, none⟩, ys, k, by rw [HY.out]; rfl, hbel, hl⟩

/-- What scanID hands back: the id and the field's end; or an error. -/
def ScanRet (r : Option Int) (E : Nat) (w : World) (e : Ending) (w' : World) : Prop :=
  match r with
  | some v => e = .returned (.tuple #[.int .i64 v, .int .i64 E, .nilIface]) ∧ w' = w
  | none => ∃ x p, e = .returned (.tuple #[.int .i64 0, x, .iface 90 (.pointer p)]) ∧ Below w.heap.size w w'

theorem scan_none {r : Option Int} {E : Nat} {w w' : World} {x : Value} {p : Option Addr} (hr : r = none) (hb : Below w.heap.size w w') : ScanRet r E w (.returned (.tuple #[.int .i64 0, x, .iface 90 (.pointer p)])) w' := by
  rw [hr]
  exact ⟨x, p, rfl, hb⟩

theorem scan_some {r : Option Int} {E k : Nat} {w : World} {x : Int} (hr : r = some x) (hE : E = k) : ScanRet r E w (.returned (.tuple #[.int .i64 x, .int .i64 k, .nilIface])) w := by
  rw [hr, hE]
  exact ⟨rfl, rfl⟩

theorem hid {p : Prop} (h : p) : Hid p := h

theorem answers_later {F : Interp} {w w1 : World} (hF : F.answers w.tape) (hb : Below w.heap.size w w1) : F.answers w1.tape := by rw [hb.tape]; exact hF

set_option maxHeartbeats 1600000 in
theorem scanID35 (F : Interp) (b off n cap i : Nat) (c : Nat → Int) (w : World) (hF : F.answers w.tape) (hn : n ≤ 1048576) (hnc : n ≤ cap) (hcap : cap ≤ 9223372036854775807) (hi : i < n) (hcb : ∀ j, 0 ≤ c j ∧ c j ≤ 255)
    (hc : ∀ j, j < n → w.cell? ⟨b, off + j, none⟩ = some (.int .u8 (c j))) :
    Calls Tryf.prog 35 #[.slice (some ⟨b, off, none⟩) n cap, .int .i64 i] w (ScanRet (idOf c i (skip nbl c n i)) (skip nbl c n i) w) := by
  obtain ⟨E, hE⟩ : ∃ E, E = skip nbl c n i := ⟨_, rfl⟩
  have hEn : E ≤ n := by rw [hE]; exact skip_lt (by omega)
  have hEi : i ≤ E := by rw [hE]; exact skip_le _ _ _ _
  rw [← hE]
  have HE : Hid (E = skip nbl c n i) := hE
  clear hE
  obtain ⟨R, hR⟩ : ∃ R, R = idOf c i E := ⟨_, rfl⟩
  rw [← hR]
  have HR : Hid (R = idOf c i E) := hR
  clear hR
  have HC : Hid (i < E → Calls Tryf.prog 41 #[.slice (some ⟨b, off + i, none⟩) (E - i) (cap - i)] w (ClipRet w)) := fun _ =>
    clip41 b (off + i) (E - i) (cap - i) (fun t => c (i + t)) w (by omega) (by omega) (by omega) (fun j hj => by rw [Nat.add_assoc]; exact hc (i + j) (by omega))
  have hci : ¬ cap = i := by omega
  go_enter Tryf.func35, Tryf.ntmps35
  go_wp2
  go_loop [1, 8] (fun p v => ∃ (k : Nat) (x : Int), i ≤ k ∧ k ≤ n ∧ 0 ≤ x ∧ x ≤ 9223372036854775807 ∧ p = .int .i64 k ∧ v = .int .u64 x ∧ Hid (E = skip nbl c n k) ∧ Hid (R = idGo c (E - k) k x)) (fun p _ => n - (intOf p).toNat)
  case atStart => exact ⟨i, 0, by omega, by omega, by omega, by omega, rfl, rfl, HE, HR⟩
  case round =>
    obtain ⟨k, x, hik, hk, hx0, hx1, rfl, rfl, H1, H2⟩ := hrel
    clear HE HR
    by_cases hlt : k < n
    · have c1 := hc k hlt
      have hb := hcb k
      obtain ⟨y, hy⟩ : ∃ y, y = c k := ⟨_, rfl⟩
      have HY : Hid (y = c k) := hy
      rw [← hy] at c1 hb
      by_cases hd : 48 ≤ y ∧ y ≤ 57
      · obtain ⟨hd1, hd2⟩ := hd
        have hkE : k < E := by
          rw [H1.out, skip_hit hlt (by rw [← hy]; simp [nbl, bl]; omega)]
          have := skip_le nbl c n (k + 1)
          omega
        have hms : E - k = (E - (k + 1)) + 1 := by omega
        have H1' : Hid (E = skip nbl c n (k + 1)) := by rw [H1.out]; exact skip_hit hlt (by rw [← hy]; simp [nbl, bl]; omega)
        by_cases hv : x * 10 + (y - 48) ≤ 9223372036854775807
        · have H2' : Hid (R = idGo c (E - (k + 1)) (k + 1) (x * 10 + (y - 48))) := by
            rw [H2.out, hms, idGo_hit (by rw [← hy]; omega), hy]; rfl
          clear H1 H2 hms hy hc hcb
          by_cases hL : 922337203685477580 ≤ x
          · have d1 : decide ((922337203685477580 : Int) ≤ x) = true := decide_eq_true hL
            have d2 : decide ((922337203685477580 : Int) < x) = false := decide_eq_false (by omega)
            have d3 : decide ((7 : Int) < y - 48) = false := decide_eq_false (by omega)
            go_wp2
            go_round
            case rel => exact ⟨k + 1, x * 10 + (y - 48), by omega, by omega, by omega, by omega, by go_num, by go_num, H1', H2'⟩
            case measure => simp [intOf]; omega
          · have d1 : decide ((922337203685477580 : Int) ≤ x) = false := decide_eq_false hL
            go_wp2
            go_round
            case rel => exact ⟨k + 1, x * 10 + (y - 48), by omega, by omega, by omega, by omega, by go_num, by go_num, H1', H2'⟩
            case measure => simp [intOf]; omega
        · have HN : Hid (R = none) := by
            rw [H2.out, hms, idGo_miss (by rw [← hy]; omega)]; rfl
          have hfe := fieldEnd37 b off n cap k c w hn hk hc
          rw [← H1.out] at hfe
          have hcl := HC.out (by omega)
          have FE := hid hfe
          have CL := hid hcl
          clear H1 H1' H2 hms hy hfe hcl HC hc hcb
          have d1 : decide ((922337203685477580 : Int) ≤ x) = true := decide_eq_true (by omega)
          by_cases hL : 922337203685477580 < x
          · have d2 : decide ((922337203685477580 : Int) < x) = true := decide_eq_true hL
            go_wp2_with (first | (go_at_call 34; refine (isBlank34 _ _).mono ?_; rintro e w' ⟨rfl, rfl⟩) | (go_at_call 37; refine FE.out.mono ?_; rintro e w' ⟨rfl, rfl⟩) | (go_at_call 41; refine CL.out.mono ?_; rintro e w1 ⟨a1, xs1, k1, rfl, hb1, hl1⟩) | (go_at_call 38; refine (errorfS F w1.heap.size a1 k1 xs1 _ (answers_later hF (hb1.alloc hb1.size _)) (by simp) (fun j v h => cell_later ((Below.refl _ w1).alloc (Nat.le_refl _) _) (hl1 j v h))).mono ?_; rintro e w2 ⟨p, rfl, hb2⟩))
            go_ret3
            exact scan_none HN.out ((hb1.alloc hb1.size _).trans (hb2.mono (by have := hb1.size; simp; omega)))
          · have d2 : decide ((922337203685477580 : Int) < x) = false := decide_eq_false hL
            have d3 : decide ((7 : Int) < y - 48) = true := decide_eq_true (by omega)
            go_wp2_with (first | (go_at_call 34; refine (isBlank34 _ _).mono ?_; rintro e w' ⟨rfl, rfl⟩) | (go_at_call 37; refine FE.out.mono ?_; rintro e w' ⟨rfl, rfl⟩) | (go_at_call 41; refine CL.out.mono ?_; rintro e w1 ⟨a1, xs1, k1, rfl, hb1, hl1⟩) | (go_at_call 38; refine (errorfS F w1.heap.size a1 k1 xs1 _ (answers_later hF (hb1.alloc hb1.size _)) (by simp) (fun j v h => cell_later ((Below.refl _ w1).alloc (Nat.le_refl _) _) (hl1 j v h))).mono ?_; rintro e w2 ⟨p, rfl, hb2⟩))
            go_ret3
            exact scan_none HN.out ((hb1.alloc hb1.size _).trans (hb2.mono (by have := hb1.size; simp; omega)))
      · have d1 : decide ((k : Int) < (n : Int)) = true := decide_eq_true (by omega)
        have hz : y < 48 ∨ 57 < y := by omega
        cases hbl : bl y with
        | true =>
          have hEk : Hid (E = k) := by rw [H1.out]; exact skip_miss (by rw [← hy]; simp [nbl, hbl])
          have HN : Hid (R = some x) := by rw [H2.out, hEk.out, Nat.sub_self]; rfl
          clear H1 H2 hy hc hcb HC hd
          rcases hz with hz | hz
          all_goals
            go_wp2_with (go_at_call 34; refine (isBlank34 _ _).mono ?_; rintro e w' ⟨rfl, rfl⟩)
            go_ret3
            exact scan_some HN.out hEk.out
        | false =>
          have hnb : nbl (c k) = true := by rw [← hy]; simp [nbl, hbl]
          have hkE : k < E := by
            rw [H1.out, skip_hit hlt hnb]
            have := skip_le nbl c n (k + 1)
            omega
          have HN : Hid (R = none) := by
            rw [H2.out, show E - k = (E - (k + 1)) + 1 by omega, idGo_miss (by rw [← hy]; omega)]; rfl
          have hfe := fieldEnd37 b off n cap k c w hn hk hc
          rw [← H1.out] at hfe
          have hcl := HC.out (by omega)
          have FE := hid hfe
          have CL := hid hcl
          clear H1 H2 hy hfe hcl HC hc hcb hd hnb
          rcases hz with hz | hz
          all_goals
            go_wp2_with (first | (go_at_call 34; refine (isBlank34 _ _).mono ?_; rintro e w' ⟨rfl, rfl⟩) | (go_at_call 37; refine FE.out.mono ?_; rintro e w' ⟨rfl, rfl⟩) | (go_at_call 41; refine CL.out.mono ?_; rintro e w1 ⟨a1, xs1, k1, rfl, hb1, hl1⟩) | (go_at_call 38; refine (errorfQ F w1.heap.size a1 k1 xs1 _ (answers_later hF (hb1.alloc hb1.size _)) (by simp) (fun j v h => cell_later ((Below.refl _ w1).alloc (Nat.le_refl _) _) (hl1 j v h))).mono ?_; rintro e w2 ⟨p, rfl, hb2⟩))
            go_ret3
            exact scan_none HN.out ((hb1.alloc hb1.size _).trans (hb2.mono (by have := hb1.size; simp; omega)))
    · have d1 : decide ((k : Int) < (n : Int)) = false := decide_eq_false (by omega)
      have hEk : Hid (E = k) := by rw [H1.out]; exact skip_end (by omega)
      have HN : Hid (R = some x) := by rw [H2.out, hEk.out, Nat.sub_self]; rfl
      clear H1 H2 hc hcb HC
      go_wp2
      go_ret3
      exact scan_some HN.out hEk.out
end Go.Proofs.Qxb6003863aFmt
