import Derived.Test.Qxb6604418aMem
import Derived.ProofKit
import Derived.OpenShut
import Derived.ShutString
import Derived.ChangeOld
import Derived.SliceStrings
namespace Go.Proofs.Qxb6604418a
open Go.ChangeShapes Go.WideShapes Go.ChangeAt Go.RowKit

theorem Try.cells5 : Try.prog.cellsOf 5 = 1 := by kernel_rfl
theorem Try.cells9 : Try.prog.cellsOf 9 = 1 := by kernel_rfl

theorem open_bytes {H : Type} {enc : TypeId × Value → H} {W : World} {held : Bool} {a : Option Addr} {n c : Nat} {d : DataW H} {p : List MemPlace} (h : DataW.Trod enc Try.prog W 0 (fun _ => true) held 25 (.slice a n c) d p) :
    n ≤ maxLen ∧ ∃ l, BytesAt W a n c l := by
  obtain ⟨fuel, hf⟩ := h
  rcases open_ints Try.underlying25 Try.underlying5 Try.cells5 hf with ⟨hcs, _⟩ | ⟨x, len, cap, zs, hcs, _, hl, hm, hz, _, hcell, hwz⟩
  · simp [Value.cells] at hcs
    obtain ⟨rfl, rfl, rfl⟩ := hcs
    exact ⟨Nat.zero_le _, [], rfl, .inl ⟨rfl, rfl, rfl⟩⟩
  · simp [Value.cells] at hcs
    obtain ⟨rfl, rfl, rfl⟩ := hcs
    simp only [if_true] at hz
    refine ⟨by omega, (zs.take n).map (fun z => z.toNat.toUInt8), by simp; omega, .inr ⟨x, rfl, fun j u hu => ?_⟩⟩
    have hjn : j < n := by
      have := (List.getElem?_eq_some_iff.1 hu).1
      rw [Lib.byteCells_length, List.length_map, List.length_take] at this
      omega
    have hjz : j < zs.length := by omega
    have hb := bounds_u8 (hwz _ (List.getElem_mem hjz))
    have hg : zs.getD j 0 = zs[j] := by simp [List.getD, hjz]
    rw [hcell j hjz, hg]
    simp only [Lib.byteCells, List.map_map, List.getElem?_map, List.getElem?_take, if_pos hjn, List.getElem?_eq_getElem hjz, Option.map_some, Function.comp] at hu
    rw [← hu, Lib.toUInt8_toNat (by omega)]
    congr 2
    omega

theorem open_list {H : Type} {enc : TypeId × Value → H} {W : World} {held : Bool} {a : Option Addr} {n c : Nat} {d : DataW H} {p : List MemPlace} (h : DataW.Trod enc Try.prog W 0 (fun _ => true) held 27 (.slice a n c) d p) :
    n ≤ maxLen ∧ ∃ ss : Nat → ByteArray, (∀ i, i < n → (ss i).size ≤ maxLen) ∧ Strs W W.heap.size a n ss := by
  obtain ⟨fuel, hf⟩ := h
  rcases open_strings Try.underlying27 Try.underlying9 Try.cells9 hf with ⟨hcs, _⟩ | ⟨x, len, cap, ss, hcs, _, hl, hm, hz, _, hcell, hws⟩
  · simp [Value.cells] at hcs
    obtain ⟨rfl, rfl, rfl⟩ := hcs
    exact ⟨Nat.zero_le _, fun _ => ByteArray.empty, fun i hi => absurd hi (Nat.not_lt_zero _), .inl rfl⟩
  · simp [Value.cells] at hcs
    obtain ⟨rfl, rfl, rfl⟩ := hcs
    simp only [if_true] at hz
    refine ⟨by omega, fun i => ss.getD i ByteArray.empty, fun i hi => ?_, ?_⟩
    · have hi' : i < ss.length := by omega
      have : ss.getD i ByteArray.empty = ss[i] := by simp [List.getD, hi']
      show (ss.getD i ByteArray.empty).size ≤ maxLen
      rw [this]
      exact hws _ (List.getElem_mem hi')
    · by_cases h0 : n = 0
      · exact .inl h0
      · right
        obtain ⟨b, off, spot⟩ := x
        have hc0 := hcell 0 (by omega)
        have hspot : spot = none := by
          have := World.cell?_spot hc0
          simpa [Addr.add] using this
        subst hspot
        refine ⟨b, off, rfl, ?_, fun i hi => ?_⟩
        · have := World.block_lt_of_cell? _ _ hc0
          simpa [Addr.add] using this
        · have := hcell i (by omega)
          rwa [add_plain] at this
end Go.Proofs.Qxb6604418a
