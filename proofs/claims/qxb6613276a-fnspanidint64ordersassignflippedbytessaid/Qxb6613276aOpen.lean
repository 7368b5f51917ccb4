/-
  An argument of type [8]byte, opened.
-/
import Derived.Test.Qxb6613276aWalks
import Derived.ProofKit
import Derived.OpenShut
import Derived.Deep.Slices
namespace Go.Proofs.Qxb6613276a
open Go.ChangeShapes Go.WideShapes Go.ChangeAt Go.RowKit Go.Deep

theorem cells22 : Try.prog.cellsOf 22 = 8 := by kernel_rfl
theorem cells5 : Try.prog.cellsOf 5 = 1 := by kernel_rfl

theorem open_eight {H : Type} {enc : TypeId × Value → H} {W : World} {base : Nat} {v : Value} {d : DataW H} {p : List MemPlace} (hv : Value.okWide Try.prog W .any base 22 v)
    (h : DataW.Trod enc Try.prog W 0 (fun _ => true) true 22 v d p) : ∃ z : Nat → Int, v = arr8 z ∧ Bytes8 z := by
  simp only [Value.okWide, Try.underlying22] at hv
  obtain ⟨cs, rfl, hsz, _⟩ := hv
  rw [cells22] at hsz
  obtain ⟨fuel, hf⟩ := h
  obtain ⟨xs, m, _, _, _, hlen, hall⟩ := DataW.trod_array Try.underlying22 hf
  have each : ∀ i, i < 8 → ∃ a : Int, cs[i]? = some (.int .u8 a) ∧ 0 ≤ a ∧ a ≤ 255 := by
    intro i hi
    have hx := hall i hi
    rw [cells5, List.getElem?_eq_getElem (by omega)] at hx
    obtain ⟨a, ha, _, hw⟩ := DataW.trod_int Try.underlying5 hx
    refine ⟨a, ?_, bounds_u8 hw⟩
    have e : ((Value.agg cs).cells.toList.drop (i * 1)).take 1 = [cs[i]] := by
      have hi' : i < cs.toList.length := by simpa using (by omega : i < cs.size)
      simp [Value.cells, List.take_one, List.head?_drop, List.getElem?_eq_getElem hi']
    rw [e] at ha
    have : cs[i] = .int .u8 a := by simpa using ha
    rw [Array.getElem?_eq_getElem (by omega), this]
  obtain ⟨z, hz⟩ := choose_lt each
  refine ⟨z, ?_, fun k hk => (hz k hk).2⟩
  show Value.agg cs = Value.agg _
  congr 1
  apply Array.ext_getElem?
  intro i
  by_cases hi : i < 8
  · rw [(hz i hi).1]
    rcases (show i = 0 ∨ i = 1 ∨ i = 2 ∨ i = 3 ∨ i = 4 ∨ i = 5 ∨ i = 6 ∨ i = 7 from by omega) with rfl | rfl | rfl | rfl | rfl | rfl | rfl | rfl <;> rfl
  · rw [Array.getElem?_eq_none (by omega), Array.getElem?_eq_none (by simp; omega)]
end Go.Proofs.Qxb6613276a
