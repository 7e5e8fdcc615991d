import Derived.Test.Qxb6604387aCopy
import Derived.BigRegion
import Derived.Deep.RegionHeld3
import Derived.Deep.QuietTactic
import Derived.BigQuiet
namespace Go.Proofs.Qxb6604387a
open Go.RowKit

def at0 : Value := .agg #[.string ByteArray.empty, .int .i64 0, .int .i64 0, .slice none 0 0]
def at0c : Array Value := at0.cells
theorem Try.info35 : (Try.prog.info? 35).map (fun i => (i.zero, i.size, i.bytes)) = some (some at0, 4, 56) := by kernel_rfl
def tier0 : Value := .agg #[.string ByteArray.empty, .pointer none, .string ByteArray.empty, .pointer none]
def tier0c : Array Value := tier0.cells
theorem Try.info41 : (Try.prog.info? 41).map (fun i => (i.zero, i.size, i.bytes)) = some (some tier0, 4, 48) := by kernel_rfl
theorem qn23 (w : World) (a : Option Addr) (n c n' c' : Nat) : (binOp .neq 23 (.slice a n c) (.slice none n' c')).run Try.prog w = .ok (.bool (!a.isNone)) w :=
  run_neq_slice_nil_any w _ _ a n c n' c' Try.underlying23

/-- what stands for the tiers of an entry -/
def TvOk (e : Ent) (a : Option Addr) : Prop := (e.k = 0 ∧ a = none) ∨ (0 < e.k ∧ ∃ x, a = some ⟨x, 0, none⟩)
def AtQ (f : Nat → Value) (o : Nat) (e : Ent) (a : Option Addr) : Prop := Quad f o (.string e.g) (.int .i64 e.t) (.int .i64 e.y) (.slice a e.k.toNat e.k.toNat)
/-- tranche 'e' lies at offset 'o' of block 'b', its tiers at 'a' -/
def AtAt (w : World) (b o : Nat) (e : Ent) (a : Option Addr) : Prop :=
  w.cell? ⟨b, o, none⟩ = some (.string e.g) ∧ w.cell? ⟨b, o + 1, none⟩ = some (.int .i64 e.t) ∧ w.cell? ⟨b, o + 2, none⟩ = some (.int .i64 e.y) ∧ w.cell? ⟨b, o + 3, none⟩ = some (.slice a e.k.toNat e.k.toNat)
theorem AtQ.at {w : World} {b : Nat} {t : TypeId} {n : Nat} {f : Nat → Value} (h : w.rowIs b t n f) {o : Nat} {e : Ent} {a : Option Addr} (ho : o + 3 < n) (q : AtQ f o e a) : AtAt w b o e a :=
  ⟨by rw [h.cell (by omega), q.1], by rw [h.cell (by omega), q.2.1], by rw [h.cell (by omega), q.2.2.1], by rw [h.cell (by omega), q.2.2.2]⟩


theorem at_step {w : World} {b : Nat} {n k : Nat} {f : Nat → Value} {es : Nat → Ent} {tv : Nat → Option Addr} (h : w.rowIs b 35 (n * 4) f)
    (hd : ∀ i, i < k → TvOk (es i) (tv i) ∧ AtQ f (i * 4) (es i) (tv i)) (a : Option Addr) (ha : TvOk (es k) a) :
    ∃ (f' : Nat → Value) (tv' : Nat → Option Addr), ((((w.setCell ⟨b, k * 4, none⟩ (.string (es k).g)).setCell ⟨b, k * 4 + 1, none⟩ (.int .i64 (es k).t)).setCell ⟨b, k * 4 + 2, none⟩ (.int .i64 (es k).y)).setCell ⟨b, k * 4 + 3, none⟩ (.slice a (es k).k.toNat (es k).k.toNat)).rowIs b 35 (n * 4) f' ∧
      ∀ i, i < k + 1 → TvOk (es i) (tv' i) ∧ AtQ f' (i * 4) (es i) (tv' i) := by
  obtain ⟨f', hr, hq, hs⟩ := rowIs_set4 h (k * 4) (.string (es k).g) (.int .i64 (es k).t) (.int .i64 (es k).y) (.slice a (es k).k.toNat (es k).k.toNat)
  refine ⟨f', fun i => if i = k then a else tv i, hr, fun i hi => ?_⟩
  by_cases e : i = k
  · subst e; simp only [if_true]; exact ⟨ha, hq⟩
  · simp only [if_neg e]
    obtain ⟨h0, a, b, c, d⟩ := hd i (by omega)
    exact ⟨h0, (hs _ (by omega)).trans a, (hs _ (by omega)).trans b, (hs _ (by omega)).trans c, (hs _ (by omega)).trans d⟩

/-- an assessment lies at block 'p', its tranches in block 'T' -/
structure Assessed (w' : World) (m : ByteArray) (ay : Option Addr) (ny cy n : Nat) (es : Nat → Ent) (p T : Nat) (tv : Nat → Option Addr) : Prop where
  rows : ∀ i, i < n → TvOk (es i) (tv i) ∧ AtAt w' T (i * 4) (es i) (tv i)
  c0 : w'.cell? ⟨p, 0, none⟩ = some (.string m)
  c1 : w'.cell? ⟨p, 1, none⟩ = some (.slice ay ny cy)
  c2 : w'.cell? ⟨p, 2, none⟩ = some (.slice (some ⟨T, 0, none⟩) n n)
  hT : T < w'.heap.size
  hp : p < w'.heap.size

def AssessPost (w : World) (m : ByteArray) (ay : Option Addr) (ny cy n : Nat) (es : Nat → Ent) (e : Ending) (w' : World) : Prop :=
  ∃ p tv, e = .returned (.pointer (some ⟨p, 0, none⟩)) ∧ Assessed w' m ay ny cy n es p w.heap.size tv ∧ Below w.heap.size w w'

theorem assess_end {w wr : World} {m : ByteArray} {ay : Option Addr} {ny cy n : Nat} {es : Nat → Ent} {f : Nat → Value} {tv : Nat → Option Addr} (hrow : wr.rowIs w.heap.size 35 (n * 4) f)
    (hd : ∀ i, i < n → TvOk (es i) (tv i) ∧ AtQ f (i * 4) (es i) (tv i)) (hbel : Below w.heap.size w wr) :
    AssessPost w m ay ny cy n es (.returned (.pointer (some ⟨wr.heap.size, 0, none⟩))) (wr.alloc (.cells #[.string m, .slice ay ny cy, .slice (some ⟨w.heap.size, 0, none⟩) n n] 44)) := by
  have hs := hbel.size
  refine ⟨wr.heap.size, tv, rfl, ⟨fun i hi => ⟨(hd i hi).1, AtQ.at (hrow.alloc _) (by omega) (hd i hi).2⟩, ?_, ?_, ?_, ?_, ?_⟩, hbel.alloc hs _⟩
  · simp
  · simp
  · simp
  · have := hrow.lt; simp; omega
  · simp

set_option maxHeartbeats 1000000 in
theorem assess_some (m : ByteArray) (ay : Option Addr) (ny cy : Nat) (b n c : Nat) (es : Nat → Ent) (w : World) (hn : n ≤ 65536) (hbw : 0 < n → b < w.heap.size)
    (hk : ∀ i, i < n → 0 ≤ (es i).k ∧ (es i).k ≤ 65536)
    (hE : ∀ i, i < n → EntAt w b (i * 4) (es i)) :
    Calls Try.prog 8 #[.string m, .slice ay ny cy, .slice (some ⟨b, 0, none⟩) n c] w (AssessPost w m ay ny cy n es) := by
  have hmk := run_make_rows (P := Try.prog) 31 35 at0 at0c 4 56 rfl Try.underlying31 Try.info35 .i64 .i64 n (by omega) (by omega)
  have q := qn23
  go_enter Try.func8, Try.ntmps8
  go_wp2
  go_loopw [8, 9] (fun i _ wr => ∃ k : Nat, k ≤ n ∧ i = .int .i64 k ∧ (∃ (f : Nat → Value) (tv : Nat → Option Addr), wr.rowIs w.heap.size 35 (n * 4) f ∧ ∀ i, i < k → TvOk (es i) (tv i) ∧ AtQ f (i * 4) (es i) (tv i)) ∧ Below w.heap.size w wr) (fun i _ _ => n - (intOf i).toNat)
  case atStart =>
    obtain ⟨f, hf⟩ := rowIs_madeRows w at0c (n * 4) 35
    exact ⟨0, Nat.zero_le _, rfl, ⟨f, fun _ => none, hf, fun i hi => absurd hi (Nat.not_lt_zero _)⟩, (Below.refl _ _).alloc (Nat.le_refl _) _⟩
  case round =>
    obtain ⟨k, hkn, rfl, ⟨f, tv, hrow, hdone⟩, hbel⟩ := hrel
    by_cases hlt : k < n
    · obtain ⟨c0, c1, c2, c3⟩ := hE k hlt
      have hb := hbw (by omega)
      rw [← hbel.cell hb] at c0 c1 c2 c3
      have d0 := hrow.cell (i := k * 4) (by omega)
      have d1 := hrow.cell (i := k * 4 + 1) (by omega)
      have d2 := hrow.cell (i := k * 4 + 2) (by omega)
      have d3 := hrow.cell (i := k * 4 + 3) (by omega)
      have g0 := hrow.frozen (k * 4)
      have g1 := hrow.frozen (k * 4 + 1)
      have g2 := hrow.frozen (k * 4 + 2)
      have g3 := hrow.frozen (k * 4 + 3)
      have hbB := hrow.lt
      have hbr : b < wr.heap.size := by omega
      obtain ⟨hk0, hk1⟩ := hk k hlt
      have hlt' : (k : Int) < (n : Int) := by omega
      have hk' : (0 : Int) ≤ (k : Int) := by omega
      by_cases hz : (es k).k = 0
      · have hz' : ¬ 0 < (es k).k := by omega
        have R := at_step hrow hdone none (.inl ⟨hz, rfl⟩)
        rw [show (es k).k.toNat = 0 by omega] at R
        have HR : Hid _ := R
        clear hdone R
        go_wp2
        go_region
        go_wp2
        go_roundw
        case rel => exact ⟨k + 1, by omega, by go_num, HR.out, (below_set4 hbel (Nat.le_refl _) _ _ _ _ _ _ _ _).drew⟩
        case measure => simp [intOf]; omega
      · have hz' : 0 < (es k).k := by omega
        have hmk2 := run_make_rows (P := Try.prog) 33 41 tier0 tier0c 4 48 rfl Try.underlying33 Try.info41 .i64 .i64 (es k).k.toNat (by omega) (by omega)
        rw [Int.toNat_of_nonneg hk0] at hmk2
        have HR : Hid _ := at_step hrow hdone (some ⟨wr.heap.size, 0, none⟩) (.inr ⟨hz', _, rfl⟩)
        clear hdone
        go_wp2
        go_region
        go_wp2
        go_roundw
        case rel =>
          obtain ⟨f', tv', R1, R2⟩ := HR.out
          exact ⟨k + 1, by omega, by go_num, ⟨f', tv', (R1.alloc _).drew, R2⟩, ((below_set4 hbel (Nat.le_refl _) _ _ _ _ _ _ _ _).alloc (by simp; omega) _).drew⟩
        case measure => simp [intOf]; omega
    · go_wp2
      go_ret
      exact assess_end hrow (fun i hi => hdone i (by omega)) hbel

/-- the same of no entries: the tranches are nil -/
theorem assess_nil (m : ByteArray) (ay : Option Addr) (ny cy : Nat) (w : World) :
    Calls Try.prog 8 #[.string m, .slice ay ny cy, .slice none 0 0] w fun e w' => e = .returned (.pointer (some ⟨w.heap.size, 0, none⟩)) ∧ w' = w.alloc (.cells #[.string m, .slice ay ny cy, .slice none 0 0] 44) := by
  have q := qn23
  go_enter Try.func8, Try.ntmps8
  go_wp2
  go_ret
  exact ⟨rfl, rfl⟩
end Go.Proofs.Qxb6604387a
