/- What the law cuts off the text. -/
import Derived.Test.Qxb6606236aFmtOvMain
namespace Go.Proofs.Qxb6606236aFmt

theorem cut_front (s : ByteArray) (P L : List UInt8) (hs : s.data.toList = P ++ L) : (s.extract 0 P.length).data.toList = P ∧ (s.extract P.length s.size).data.toList = L := by
  have hsz : s.size = P.length + L.length := by
    have : s.size = s.data.toList.length := rfl
    rw [this, hs, List.length_append]
  constructor
  · rw [ByteArray.data_extract, Array.toList_extract, hs]
    simp [List.extract]
  · rw [ByteArray.data_extract, Array.toList_extract, hs, hsz]
    simp [List.extract]
theorem ba_eq (s : ByteArray) (l : List UInt8) (h : s.data.toList = l) : s = ⟨l.toArray⟩ := by
  obtain ⟨d⟩ := s
  simp at h
  subst h
  simp
theorem cut_one (s : ByteArray) (M : Nat) (hM : M < 18446744073709551616) (hs : s.data.toList = [105, 100, 32] ++ Lib.decDigits M) :
    s.extract 0 3 = ⟨#[105, 100, 32]⟩ ∧ (s.extract 3 s.size).data.toList = Lib.decDigits M ∧ ¬ s.extract 0 4 = ⟨#[105, 100, 115, 32]⟩ ∧ 4 ≤ s.size ∧ s.size ≤ 23 := by
  obtain ⟨h1, h2⟩ := cut_front s _ _ hs
  have hl := dec_len M hM
  have hl1 := Lib.nDigits_pos M
  rw [← Lib.decDigits_length] at hl1
  have hsz : s.size = 3 + (Lib.decDigits M).length := by
    have : s.size = s.data.toList.length := rfl
    rw [this, hs]
    simp
    omega
  refine ⟨ba_eq _ _ h1, h2, fun h => ?_, by omega, by omega⟩
  have h3 := congrArg (fun x : ByteArray => x.data.toList[2]?) h
  simp only [ByteArray.data_extract, Array.toList_extract] at h3
  simp [List.extract] at h3
  rw [← Array.getElem?_toList, hs] at h3
  simp at h3
theorem cut_two (s : ByteArray) (L : List UInt8) (hs : s.data.toList = [105, 100, 115, 32] ++ L) (hL : L.length ≤ 41) :
    s.extract 0 4 = ⟨#[105, 100, 115, 32]⟩ ∧ (s.extract 4 s.size).data.toList = L ∧ 4 ≤ s.size ∧ s.size ≤ 45 := by
  obtain ⟨h1, h2⟩ := cut_front s _ _ hs
  have hsz : s.size = 4 + L.length := by
    have : s.size = s.data.toList.length := rfl
    rw [this, hs]
    simp
    omega
  exact ⟨ba_eq _ _ h1, h2, by omega, by omega⟩
end Go.Proofs.Qxb6606236aFmt
