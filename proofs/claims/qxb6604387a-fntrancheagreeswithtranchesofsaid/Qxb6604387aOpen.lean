import Derived.Test.Qxb6604387aCopy
import Derived.ProofKit
import Derived.OpenShut
import Derived.ShutString
import Derived.ChangeOld
import Derived.Deep.Slices
namespace Go.Proofs.Qxb6604387a
open Go.ChangeShapes Go.WideShapes Go.ChangeAt Go.RowKit
open Go.ChangeMaps (open_string shut_string)

theorem Try.cells26 : Try.prog.cellsOf 26 = 4 := by kernel_rfl
theorem Try.cells9 : Try.prog.cellsOf 9 = 1 := by kernel_rfl
theorem Try.cells3 : Try.prog.cellsOf 3 = 1 := by kernel_rfl

/-- what the walk is told of a slice of entries that came in -/
def IsEnts (w : World) (a : Option Addr) (n c : Nat) : Prop :=
  (a = none ∧ n = 0 ∧ c = 0) ∨ (∃ x, a = some x ∧ n = 0) ∨
  ∃ b off, ∃ es : Nat → Ent, a = some ⟨b, off, none⟩ ∧ n ≤ maxLen ∧ b < w.heap.size ∧ ∀ i, i < n → EntAt w b (off + i * 4) (es i) ∧ (es i).g.size ≤ maxLen ∧ -9223372036854775808 ≤ (es i).k ∧ (es i).k ≤ 9223372036854775807

theorem open_ent {H : Type} {enc : TypeId × Value → H} {W : World} {spare : Nat → Bool} {held : Bool} {fuel : Nat} {cs : List Value} {x : DataW H × List MemPlace} (h : DataW.trod enc Try.prog W 0 spare held fuel 26 cs = some x) :
    ∃ e : Ent, cs = [.string e.g, .int .i64 e.t, .int .i64 e.y, .int .i64 e.k] ∧ e.g.size ≤ maxLen ∧ -9223372036854775808 ≤ e.k ∧ e.k ≤ 9223372036854775807 := by
  obtain ⟨xs, n, _, _, hl, hlen, hf⟩ := DataW.trod_struct Try.underlying26 h
  rw [Try.cells26] at hl
  match cs, hl with
  | [c0, c1, c2, c3], _ =>
    have h0 := hf 0 _ rfl
    have h1 := hf 1 _ rfl
    have h2 := hf 2 _ rfl
    have h3 := hf 3 _ rfl
    simp [Try.cells9, Try.cells3] at h0 h1 h2 h3
    have hx : xs.length = 4 := by simpa using hlen
    match xs, hx with
    | [y0, y1, y2, y3], _ =>
      simp at h0 h1 h2 h3
      obtain ⟨g, e0, _, hg⟩ := DataW.trod_string Try.underlying9 h0
      obtain ⟨t, e1, _, _⟩ := DataW.trod_int Try.underlying3 h1
      obtain ⟨y, e2, _, _⟩ := DataW.trod_int Try.underlying3 h2
      obtain ⟨k, e3, _, hk⟩ := DataW.trod_int Try.underlying3 h3
      simp at e0 e1 e2 e3
      subst e0 e1 e2 e3
      exact ⟨⟨g, t, y, k⟩, rfl, hg, bounds_i64 hk⟩

theorem open_ents {H : Type} {enc : TypeId × Value → H} {W : World} {held : Bool} {a : Option Addr} {n c : Nat} {d : DataW H} {p : List MemPlace} (h : DataW.Trod enc Try.prog W 0 (fun _ => true) held 23 (.slice a n c) d p) : IsEnts W a n c := by
  obtain ⟨fuel, hf⟩ := h
  rcases Deep.open_slice Try.underlying23 hf with ⟨hcs, _⟩ | ⟨x, len, cap, m, k, D, Pl, hcs, _, hl, hm, hmm, _, hx⟩
  · simp [Value.cells] at hcs
    exact .inl hcs
  · simp [Value.cells] at hcs
    obtain ⟨rfl, rfl, rfl⟩ := hcs
    simp only [if_true] at hmm
    by_cases h0 : n = 0
    · exact .inr (.inl ⟨x, rfl, h0⟩)
    · right; right
      rw [Try.cells26] at hx
      have hone : ∀ i, i < n → ∃ e : Ent, W.cells? 0 (x.add (i * 4)) 4 = some [.string e.g, .int .i64 e.t, .int .i64 e.y, .int .i64 e.k] ∧ e.g.size ≤ maxLen ∧ -9223372036854775808 ≤ e.k ∧ e.k ≤ 9223372036854775807 := fun i hi => by
        obtain ⟨cs', h1, h2⟩ := hx i (by omega)
        obtain ⟨e, rfl, h3⟩ := open_ent h2
        exact ⟨e, h1, h3⟩
      obtain ⟨es, hes⟩ := @Deep.choose_lt Ent ⟨⟨⟨#[]⟩, 0, 0, 0⟩⟩ n _ hone
      obtain ⟨b, off, spot⟩ := x
      have hc0 := (World.cells?_some (hes 0 (by omega)).1).2.2 0 (by omega)
      have hspot : spot = none := by
        have := World.cell?_spot hc0
        simpa [Addr.add] using this
      subst hspot
      refine ⟨b, off, es, rfl, by omega, ?_, fun i hi => ?_⟩
      · have := World.block_lt_of_cell? _ _ hc0
        simpa [Addr.add] using this
      · obtain ⟨h1, h2⟩ := hes i hi
        have hc := (World.cells?_some h1).2.2
        rw [add_plain] at hc
        refine ⟨⟨?_, ?_, ?_, ?_⟩, h2⟩
        · have := hc 0 (by omega); rw [add_plain] at this; simpa using this
        · have := hc 1 (by omega); rw [add_plain] at this; simpa using this
        · have := hc 2 (by omega); rw [add_plain] at this; simpa using this
        · have := hc 3 (by omega); rw [add_plain] at this; simpa using this

/-- what the walk is told of a slice of ints that came in: its copy can be made -/
def IsInts (w : World) (a : Option Addr) (n c : Nat) : Prop :=
  n ≤ maxLen ∧ (n ≤ 65536 → ∀ W, Below w.heap.size w W → Calls Try.prog 6 #[.slice a n c] W fun e w' => SliceRet e ∧ Below W.heap.size W w')

theorem open_years {H : Type} {enc : TypeId × Value → H} {W : World} {held : Bool} {a : Option Addr} {n c : Nat} {d : DataW H} {p : List MemPlace} (h : DataW.Trod enc Try.prog W 0 (fun _ => true) held 22 (.slice a n c) d p) : IsInts W a n c := by
  obtain ⟨fuel, hf⟩ := h
  rcases open_ints Try.underlying22 Try.underlying3 Try.cells3 hf with ⟨hcs, _⟩ | ⟨x, l, cap, zs, hcs, _, hl, hm, hz, _, hcell, _⟩
  · simp [Value.cells] at hcs
    obtain ⟨rfl, rfl, rfl⟩ := hcs
    exact ⟨Nat.zero_le _, fun _ W _ => copyInts_nil W⟩
  · simp [Value.cells] at hcs
    obtain ⟨rfl, rfl, rfl⟩ := hcs
    refine ⟨by omega, fun hb V hV => ?_⟩
    simp only [if_true] at hz
    by_cases h0 : n = 0
    · subst h0
      exact copyInts_zero x c V
    · obtain ⟨b, off, spot⟩ := x
      have hc0 := hcell 0 (by omega)
      have hspot : spot = none := by
        have := World.cell?_spot hc0
        simpa [Addr.add] using this
      subst hspot
      have hbl : b < W.heap.size := by
        have := World.block_lt_of_cell? _ _ hc0
        simpa [Addr.add] using this
      have hs := hV.size
      refine copyInts_some b off n c (fun i => zs.getD i 0) V (by omega) (fun _ => by omega) (fun i hi => ?_)
      have := hcell i (by omega)
      rw [add_plain] at this
      exact (hV.cell (by exact hbl)).trans this
end Go.Proofs.Qxb6604387a
