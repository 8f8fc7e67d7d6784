/- The association list's content, and pnc1MapAgrees. -/
import Derived.Test.Qxb6003863aFmtMapLaw
namespace Go.Proofs.Qxb6003863aFmt
open Go.RowKit
set_option linter.unusedVariables false

abbrev at0 (K : List Int) (j : Nat) : Int := K.getD j 0
/-- The content of an association list. -/
def fl (K V : List Int) (y u : Int) : Prop := ∃ j, j < K.length ∧ at0 K j = y ∧ at0 V j = u

/-- Keys that differ, none negative; as many values; and a content that is theirs. -/
structure Kv (K V : List Int) (f : Int → Int → Prop) : Prop where
  len : V.length = K.length
  nd : ∀ a b, a < K.length → b < K.length → at0 K a = at0 K b → a = b
  nn : ∀ a, a < K.length → 0 ≤ at0 K a
  ff : ∀ y u, ¬ y = -1 → (f y u ↔ fl K V y u)

theorem at_left (A B : List Int) (j : Nat) (h : j < A.length) : at0 (A ++ B) j = at0 A j := by simp [at0, List.getElem?_append_left h]
theorem at_last (A : List Int) (x : Int) : at0 (A ++ [x]) A.length = x := by simp [at0]
theorem at_set (A : List Int) (j k : Nat) (x : Int) (hk : k < A.length) : at0 (A.set j x) k = if k = j then x else at0 A k := by
  by_cases e : k = j
  · subst e; simp [at0, hk]
  · rw [if_neg e]
    simp [at0, Ne.symm e]
theorem at_take (A : List Int) (n k : Nat) (hk : k < n) : at0 (A.take n) k = at0 A k := by simp [at0, List.getElem?_take_of_lt hk]

theorem Kv.uniq {K V : List Int} {f : Int → Int → Prop} (h : Kv K V f) {y u u' : Int} (hy : ¬ y = -1) (h1 : f y u) (h2 : f y u') : u = u' := by
  obtain ⟨a, ha, e1, e2⟩ := (h.ff y u hy).1 h1
  obtain ⟨b, hb, e3, e4⟩ := (h.ff y u' hy).1 h2
  have := h.nd a b ha hb (by rw [e1, e3])
  subst this
  rw [← e2, ← e4]
theorem Kv.at {K V : List Int} {f : Int → Int → Prop} (h : Kv K V f) {j : Nat} (hj : j < K.length) : f (at0 K j) (at0 V j) := (h.ff _ _ (by have := h.nn j hj; omega)).2 ⟨j, hj, rfl, rfl⟩

/-- A new key. -/
theorem Kv.new {K V : List Int} {f : Int → Int → Prop} (h : Kv K V f) {x v : Int} (hx : 0 ≤ x) (hno : ∀ j, j < K.length → ¬ at0 K j = x) : Kv (K ++ [x]) (V ++ [v]) (fput f x v) where
  len := by simp [h.len]
  nd := fun a b ha hb e => by
    simp at ha hb
    by_cases ea : a = K.length <;> by_cases eb : b = K.length
    · omega
    · rw [ea, at_last, at_left _ _ _ (by omega)] at e; exact absurd e.symm (hno b (by omega))
    · rw [eb, at_last, at_left _ _ _ (by omega)] at e; exact absurd e (hno a (by omega))
    · rw [at_left _ _ _ (by omega), at_left _ _ _ (by omega)] at e; exact h.nd a b (by omega) (by omega) e
  nn := fun a ha => by
    simp at ha
    by_cases ea : a = K.length
    · rw [ea, at_last]; exact hx
    · rw [at_left _ _ _ (by omega)]; exact h.nn a (by omega)
  ff := fun y u hy => by
    unfold fput
    split
    · rename_i e
      subst e
      constructor
      · intro hu
        exact ⟨K.length, by simp, at_last _ _, by rw [← h.len, at_last]; exact hu.symm⟩
      · rintro ⟨j, hj, e1, e2⟩
        simp at hj
        by_cases ej : j = K.length
        · rw [ej, ← h.len, at_last] at e2; exact e2.symm
        · rw [at_left _ _ _ (by omega)] at e1; exact absurd e1 (hno j (by omega))
    · rename_i e
      rw [h.ff y u hy]
      constructor
      · rintro ⟨j, hj, e1, e2⟩
        exact ⟨j, by simp; omega, by rw [at_left _ _ _ hj]; exact e1, by rw [at_left _ _ _ (by rw [h.len]; exact hj)]; exact e2⟩
      · rintro ⟨j, hj, e1, e2⟩
        simp at hj
        by_cases ej : j = K.length
        · rw [ej, at_last] at e1; exact absurd e1.symm e
        · rw [at_left _ _ _ (by omega)] at e1
          rw [at_left _ _ _ (by rw [h.len]; omega)] at e2
          exact ⟨j, by omega, e1, e2⟩

/-- A key's value set. -/
theorem Kv.set {K V : List Int} {f : Int → Int → Prop} (h : Kv K V f) {x v : Int} {j : Nat} (hj : j < K.length) (hjx : at0 K j = x) : Kv K (V.set j v) (fput f x v) where
  len := by simp [h.len]
  nd := h.nd
  nn := h.nn
  ff := fun y u hy => by
    unfold fput
    split
    · rename_i e
      subst e
      constructor
      · intro hu
        exact ⟨j, hj, hjx, by rw [at_set _ _ _ _ (by rw [h.len]; exact hj), if_pos rfl]; exact hu.symm⟩
      · rintro ⟨k, hk, e1, e2⟩
        have := h.nd k j hk hj (by rw [e1, hjx])
        subst this
        rw [at_set _ _ _ _ (by rw [h.len]; exact hj), if_pos rfl] at e2
        exact e2.symm
    · rename_i e
      rw [h.ff y u hy]
      constructor
      · rintro ⟨k, hk, e1, e2⟩
        have : ¬ k = j := fun ek => e (by rw [← e1, ek, hjx])
        exact ⟨k, hk, e1, by rw [at_set _ _ _ _ (by rw [h.len]; exact hk), if_neg this]; exact e2⟩
      · rintro ⟨k, hk, e1, e2⟩
        have : ¬ k = j := fun ek => e (by rw [← e1, ek, hjx])
        rw [at_set _ _ _ _ (by rw [h.len]; exact hk), if_neg this] at e2
        exact ⟨k, hk, e1, e2⟩

/-- A key that is not there deleted. -/
theorem Kv.gone {K V : List Int} {f : Int → Int → Prop} (h : Kv K V f) {x : Int} (hno : ∀ j, j < K.length → ¬ at0 K j = x) : Kv K V (fdel f x) where
  len := h.len
  nd := h.nd
  nn := h.nn
  ff := fun y u hy => by
    unfold fdel
    rw [h.ff y u hy]
    exact ⟨fun h => h.2, fun ⟨j, hj, e1, e2⟩ => ⟨fun e => hno j hj (by rw [e1, e]), j, hj, e1, e2⟩⟩

/-- A key deleted: the last one takes its place. -/
theorem Kv.cut {K V : List Int} {f : Int → Int → Prop} (h : Kv K V f) {x : Int} {j n : Nat} (hj : j < K.length) (hjx : at0 K j = x) (hn : K.length = n + 1) : Kv ((K.set j (at0 K n)).take n) ((V.set j (at0 V n)).take n) (fdel f x) := by
  have hVn : V.length = n + 1 := by rw [h.len, hn]
  have lk : ((K.set j (at0 K n)).take n).length = n := by rw [List.length_take, List.length_set]; omega
  have ak : ∀ k, k < n → at0 ((K.set j (at0 K n)).take n) k = if k = j then at0 K n else at0 K k := fun k hk => by rw [at_take _ _ _ hk, at_set _ _ _ _ (by omega)]
  have av : ∀ k, k < n → at0 ((V.set j (at0 V n)).take n) k = if k = j then at0 V n else at0 V k := fun k hk => by rw [at_take _ _ _ hk, at_set _ _ _ _ (by omega)]
  refine ⟨by rw [lk, List.length_take, List.length_set]; omega, fun a b ha hb e => ?_, fun a ha => ?_, fun y u hy => ?_⟩
  · rw [lk] at ha hb
    rw [ak a ha, ak b hb] at e
    by_cases ea : a = j <;> by_cases eb : b = j
    · omega
    · rw [if_pos ea, if_neg eb] at e; have := h.nd n b (by omega) (by omega) e; omega
    · rw [if_neg ea, if_pos eb] at e; have := h.nd a n (by omega) (by omega) e; omega
    · rw [if_neg ea, if_neg eb] at e; exact h.nd a b (by omega) (by omega) e
  · rw [lk] at ha
    rw [ak a ha]
    split
    · exact h.nn n (by omega)
    · exact h.nn a (by omega)
  · unfold fdel
    rw [h.ff y u hy]
    constructor
    · rintro ⟨hyx, k, hk, e1, e2⟩
      have hkj : ¬ k = j := fun e => hyx (by rw [← e1, e, hjx])
      by_cases ek : k = n
      · subst ek
        exact ⟨j, by rw [lk]; omega, by rw [ak j (by omega), if_pos rfl]; exact e1, by rw [av j (by omega), if_pos rfl]; exact e2⟩
      · exact ⟨k, by rw [lk]; omega, by rw [ak k (by omega), if_neg hkj]; exact e1, by rw [av k (by omega), if_neg hkj]; exact e2⟩
    · rintro ⟨k, hk, e1, e2⟩
      rw [lk] at hk
      rw [ak k hk] at e1
      rw [av k hk] at e2
      by_cases ek : k = j
      · rw [if_pos ek] at e1 e2
        refine ⟨fun e => ?_, n, by omega, e1, e2⟩
        have := h.nd n j (by omega) hj (by rw [e1, e, hjx])
        omega
      · rw [if_neg ek] at e1 e2
        refine ⟨fun e => ek (h.nd k j (by omega) hj (by rw [e1, e, hjx])), k, by omega, e1, e2⟩

theorem get_found (w : World) (B : Nat) (S : Nat → Prop) (f : Int → Int → Prop) (len : Nat) (x v : Int) (h : MapIs w B S f len) (hx : ¬ x = -1) (hv : f x v) (hu : ∀ u, f x u → u = v) :
    Calls Tryf.prog 18 #[.pointer (some ⟨B, 0, none⟩), .int .i64 x] w fun e w' => e = .returned (.tuple #[.int .i64 v, .bool true]) ∧ w' = w := by
  refine (get_is w B S f len x h).mono ?_
  rintro e w' ⟨rfl, ⟨_, u, h1, he⟩ | ⟨h1, _⟩⟩
  · rw [he, hu u h1]; exact ⟨rfl, rfl⟩
  · exact absurd hv (h1 hx v)
theorem get_absent (w : World) (B : Nat) (S : Nat → Prop) (f : Int → Int → Prop) (len : Nat) (x : Int) (h : MapIs w B S f len) (hno : ¬ x = -1 → ∀ u, ¬ f x u) :
    Calls Tryf.prog 18 #[.pointer (some ⟨B, 0, none⟩), .int .i64 x] w fun e w' => e = .returned (.tuple #[.int .i64 0, .bool false]) ∧ w' = w := by
  refine (get_is w B S f len x h).mono ?_
  rintro e w' ⟨rfl, ⟨hx, u, h1, _⟩ | ⟨_, he⟩⟩
  · exact absurd h1 (hno hx u)
  · exact ⟨he, rfl⟩

set_option maxHeartbeats 800000 in
theorem agrees15 (w : World) (B : Nat) (S : Nat → Prop) (f : Int → Int → Prop) (K V : List Int) (aK aV : Option Addr) (n cK cV : Nat) (h : MapIs w B S f n) (kv : Kv K V f) (hK : K.length = n) (hn : n ≤ 1048576) (rK : Keys w aK K) (rV : Keys w aV V) :
    Calls Tryf.prog 15 #[.pointer (some ⟨B, 0, none⟩), .slice aK n cK, .slice aV n cV] w fun e w' => e = .returned (.bool true) ∧ w' = w := by
  have HM := hide h
  have HKV := hide kv
  have HK := hide hK
  have RK := hide rK
  have RV := hide rV
  have HL := hide (len_is w B S f n h)
  clear h kv hK rK rV
  go_enter Tryf.func15, Tryf.ntmps15
  go_wp2_with (go_at_call 21; refine HL.out.mono ?_; rintro e w' ⟨rfl, rfl⟩)
  go_loop [7] (fun p => ∃ i : Nat, i ≤ n ∧ p = .int .i64 i) (fun p => n - (intOf p).toNat)
  case atStart => exact ⟨0, Nat.zero_le _, rfl⟩
  case round =>
    obtain ⟨i, hi, rfl⟩ := hrel
    by_cases hlt : i < n
    · obtain ⟨b1, o1, rfl, h1⟩ := RK.out (by rw [HK.out]; omega)
      obtain ⟨b2, o2, rfl, h2⟩ := RV.out (by rw [HKV.out.len, HK.out]; omega)
      have c1 := h1 i (by rw [HK.out]; exact hlt)
      have c2 := h2 i (by rw [HKV.out.len, HK.out]; exact hlt)
      have hii : (i : Int) < (n : Int) := by omega
      have hx1 : ¬ at0 K i = -1 := by have := HKV.out.nn i (by rw [HK.out]; exact hlt); omega
      have HG := hide (get_found _ B S f n (at0 K i) (at0 V i) HM.out hx1 (HKV.out.at (by rw [HK.out]; exact hlt)) (fun u hu => HKV.out.uniq hx1 hu (HKV.out.at (by rw [HK.out]; exact hlt))))
      obtain ⟨x, hx⟩ : ∃ x, x = at0 K i := ⟨_, rfl⟩
      obtain ⟨v, hv⟩ : ∃ v, v = at0 V i := ⟨_, rfl⟩
      rw [show K.getD i 0 = x from hx.symm] at c1
      rw [show V.getD i 0 = v from hv.symm] at c2
      rw [← hx, ← hv] at HG
      clear h1 h2 hx hv hx1
      go_wp2_with (go_at_call 18; refine HG.out.mono ?_; rintro e w' ⟨rfl, rfl⟩)
      go_round
      case rel => exact ⟨i + 1, by omega, by go_num⟩
      case measure => simp [intOf]; omega
    · go_wp2_with fail
      go_ret
      exact ⟨rfl, rfl⟩
end Go.Proofs.Qxb6003863aFmt
