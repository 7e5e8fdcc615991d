import Derived.Test.Qxb6604387aTranche
import Derived.LaidEql
import Derived.Laws.Entries
namespace Go.Proofs.Qxb6604387a
open Go.RowKit

theorem owner_one {es : Nat → Ent} {n : Nat} {gr a b : ByteArray} (ha : OwnerIs es n gr a) (hb : OwnerIs es n gr b) : a = b := by
  rcases ha with ⟨rfl, j, hj, hn⟩ | ⟨rfl, h⟩ <;> rcases hb with ⟨rfl, j', hj', hn'⟩ | ⟨rfl, h'⟩
  · rfl
  · rw [h' j hj] at hn; cases hn
  · rw [h j' hj'] at hn'; cases hn'
  · rfl

theorem hits_iff {ow : ByteArray} {nn : Int} {e : Ent} : hits ow nn e = true ↔ named ow e = true ∧ e.t = nn := by
  simp [hits, named]

/-- a place that hits stands in the list -/
theorem hit_in {es : Nat → Ent} {ow : ByteArray} {nn : Int} {n k : Nat} (hk : k < n) (h : hits ow nn (es k) = true) : ∃ i : Nat, (sel es ow n)[i]? = some k ∧ (es k).t = nn := by
  have hm : k ∈ sel es ow n := by simp [sel, hk, (hits_iff.1 h).1]
  obtain ⟨i, hi⟩ := List.getElem?_of_mem hm
  exact ⟨i, hi, (hits_iff.1 h).2⟩

theorem sel_sorted (es : Nat → Ent) (ow : ByteArray) (n : Nat) : (sel es ow n).Pairwise (· < ·) := List.Pairwise.filter _ List.pairwise_lt_range

theorem sel_pos {es : Nat → Ent} {ow : ByteArray} {n i k a b : Nat} (hi : (sel es ow n)[i]? = some a) (hk : (sel es ow n)[k]? = some b) (hab : a < b) : i < k := by
  have hs := sel_sorted es ow n
  obtain ⟨li, ea⟩ := List.getElem?_eq_some_iff.1 hi
  obtain ⟨lk, eb⟩ := List.getElem?_eq_some_iff.1 hk
  rcases Nat.lt_trichotomy i k with h | h | h
  · exact h
  · subst h; omega
  · have := List.pairwise_iff_getElem.1 hs k i lk li h
    omega

/-- the first of the listing that assesses 'nn' is the first of all -/
theorem first_is {es : Nat → Ent} {ow : ByteArray} {nn : Int} {n k j kk : Nat} (hj : (sel es ow n)[k]? = some j) (ht : (es j).t = nn) (hf : ∀ i, i < k → ∀ j, (sel es ow n)[i]? = some j → (es j).t ≠ nn)
    (hkk : kk < n) (hh : hits ow nn (es kk) = true) (hm : ∀ j, j < kk → hits ow nn (es j) = false) : kk = j := by
  obtain ⟨hjn, hnm⟩ := sel_get hj
  have hjh : hits ow nn (es j) = true := hits_iff.2 ⟨hnm, ht⟩
  rcases Nat.lt_trichotomy kk j with h | h | h
  · obtain ⟨i, hi, hti⟩ := hit_in hkk hh
    exact absurd hti (hf i (sel_pos hi hj h) kk hi)
  · exact h
  · rw [hm j h] at hjh; cases hjh

theorem some_match {es : Nat → Ent} {n : Nat} {gr ow : ByteArray} (how : OwnerIs es n gr ow) (hL : sel es ow n ≠ []) : ∃ i, i < n ∧ (named gr (es i) = true ∨ named ⟨#[]⟩ (es i) = true) := by
  rcases how with ⟨rfl, j, hj, hn⟩ | ⟨rfl, h⟩
  · exact ⟨j, hj, .inl hn⟩
  · obtain ⟨a, ha⟩ := List.exists_mem_of_ne_nil _ hL
    have : a < n ∧ named ⟨#[]⟩ (es a) = true := by simpa [sel] using ha
    exact ⟨a, this.1, .inr this.2⟩

theorem no_match {es : Nat → Ent} {n : Nat} {gr ow : ByteArray} (how : OwnerIs es n gr ow) (hL : sel es ow n = []) : ∀ i, i < n → named gr (es i) = false ∧ named ⟨#[]⟩ (es i) = false := by
  rcases how with ⟨rfl, j, hj, hn⟩ | ⟨rfl, h⟩
  · exact absurd hL (sel_ne hj hn)
  · intro i hi
    refine ⟨h i hi, ?_⟩
    cases hq : named ⟨#[]⟩ (es i) with
    | false => rfl
    | true => exact absurd hL (sel_ne hi hq)

theorem same_name {ow : ByteArray} {a b : Ent} (ha : named ow a = true) (hb : named ow b = true) : (a.g.toList == b.g.toList) = true := by
  have h1 : a.g.toList = ow.toList := by simpa [named] using ha
  have h2 : b.g.toList = ow.toList := by simpa [named] using hb
  rw [h1, h2]
  simp
theorem name_of {ow : ByteArray} {a b : Ent} (hb : named ow b = true) (h : (a.g.toList == b.g.toList) = true) : named ow a = true := by
  have h2 : b.g.toList = ow.toList := by simpa [named] using hb
  have h1 : a.g.toList = b.g.toList := by simpa using h
  simp [named, h1, h2]

/-- two pointers into one block -/
theorem pe46 (w : World) (T o1 o2 : Nat) : (binOp .eql 46 (.pointer (some ⟨T, o1, none⟩)) (.pointer (some ⟨T, o2, none⟩))).run Try.prog w = .ok (.bool (o1 == o2)) w := by
  obtain ⟨i, hi, _, hs, _⟩ := info_parts Try.info35
  have hd : ((⟨T, o1, none⟩ : Addr) == ⟨T, o2, none⟩) = (o1 == o2) := by
    rw [Bool.eq_iff_iff]; simp
  have h : ∀ d : Nat, (Op.equalIn (d + 1) 46 (.pointer (some ⟨T, o1, none⟩)) (.pointer (some ⟨T, o2, none⟩))).run Try.prog w = .ok (o1 == o2) w := fun d => by
    simp [Op.equalIn, run_underlying Try.underlying46, sizeOf, typeInfo, hi, hs, sameAddr, hd]
  simp only [binOp]
  simp [Op.equal, Op.maxDepth, h 9999]
end Go.Proofs.Qxb6604387a
