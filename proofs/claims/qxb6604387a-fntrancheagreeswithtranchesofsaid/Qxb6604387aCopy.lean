import Derived.Test.Qxb6604387aBytes
import Derived.Deep.OwnRows
import Derived.Lib.SliceRun
namespace Go.Proofs.Qxb6604387a
open Go.RowKit

theorem Try.info3 : (Try.prog.info? 3).map (fun i => (i.zero, i.size, i.bytes)) = some (some (.int .i64 0), 1, 8) := by kernel_rfl

/-- some slice was handed back -/
def SliceRet (e : Ending) : Prop := ∃ a n c, e = .returned (.slice a n c)
theorem SliceRet.mk (a : Option Addr) (n c : Nat) : SliceRet (.returned (.slice a n c)) := ⟨a, n, c, rfl⟩

/-- 'xs == nil' at a slice of type 22 -/
theorem q22 (w : World) (a : Option Addr) (n c n' c' : Nat) : (binOp .eql 22 (.slice a n c) (.slice none n' c')).run Try.prog w = .ok (.bool a.isNone) w :=
  Lib.run_eql_slice_nil w _ _ a n c n' c' Try.underlying22
theorem q23 (w : World) (a : Option Addr) (n c n' c' : Nat) : (binOp .eql 23 (.slice a n c) (.slice none n' c')).run Try.prog w = .ok (.bool a.isNone) w :=
  Lib.run_eql_slice_nil w _ _ a n c n' c' Try.underlying23

theorem copyInts_nil (w : World) :
    Calls Try.prog 6 #[.slice none 0 0] w fun e w' => SliceRet e ∧ Below w.heap.size w w' := by
  have q := q22
  go_enter Try.func6, Try.ntmps6
  go_wp2
  go_ret
  exact ⟨SliceRet.mk _ _ _, Below.refl _ _⟩

set_option maxHeartbeats 400000 in
theorem copyInts_some (b off n c : Nat) (z : Nat → Int) (w : World) (hn : 8 * n ≤ 281474976710656) (hbw : 0 < n → b < w.heap.size)
    (hcell : ∀ i, i < n → w.cell? ⟨b, off + i, none⟩ = some (.int .i64 (z i))) :
    Calls Try.prog 6 #[.slice (some ⟨b, off, none⟩) n c] w fun e w' => SliceRet e ∧ Below w.heap.size w w' := by
  have hmk := run_make_row' (P := Try.prog) 22 3 (.int .i64 0) 8 Try.underlying22 Try.info3 rfl .i64 .i64 n hn (by omega)
  have q := q22
  go_enter Try.func6, Try.ntmps6
  go_wp2
  go_loopw [4] (fun i wr => ∃ k : Nat, k ≤ n ∧ i = .int .i64 k ∧ (∃ f, wr.rowIs w.heap.size 3 n f) ∧ Below w.heap.size w wr) (fun i _ => n - (intOf i).toNat)
  case atStart => exact ⟨0, Nat.zero_le _, rfl, ⟨_, World.rowIs_made _ _ _ _⟩, (Below.refl _ _).alloc (Nat.le_refl _) _⟩
  case round =>
    obtain ⟨k, hk, rfl, ⟨f, hrow⟩, hbel⟩ := hrel
    by_cases hlt : k < n
    · have hc1 : wr.cell? ⟨b, off + k, none⟩ = some (.int .i64 (z k)) := (hbel.cell (hbw (by omega))).trans (hcell k hlt)
      have hc2 := hrow.cell hlt
      have hc3 := hrow.frozen k
      go_wp2
      go_roundw
      case rel => exact ⟨k + 1, by omega, by go_num, ⟨_, hrow.set k _⟩, hbel.setCell (Nat.le_refl _) _⟩
      case measure => simp [intOf]; omega
    · go_wp2
      go_ret
      exact ⟨SliceRet.mk _ _ _, hbel⟩

set_option maxHeartbeats 400000 in
theorem copyInts_zero (a : Addr) (c : Nat) (w : World) :
    Calls Try.prog 6 #[.slice (some a) 0 c] w fun e w' => SliceRet e ∧ Below w.heap.size w w' := by
  have hmk : ∀ w, (Instr.makeSlice 22 (.int .i64 0) (.int .i64 0)).run Try.prog w = _ := run_make_row' (P := Try.prog) 22 3 (.int .i64 0) 8 Try.underlying22 Try.info3 rfl .i64 .i64 0 (by omega) (by omega)
  have q := q22
  go_enter Try.func6, Try.ntmps6
  go_wp2
  refine wp_loop_rounds 1 ?_
  rw [rounds_succ]
  go_wp2
  go_ret
  exact ⟨SliceRet.mk _ _ _, (Below.refl _ _).alloc (Nat.le_refl _) _⟩

/-! ### entries -/
def ent0 : Value := .agg #[.string ByteArray.empty, .int .i64 0, .int .i64 0, .int .i64 0]
def ent0c : Array Value := ent0.cells
theorem Try.info26 : (Try.prog.info? 26).map (fun i => (i.zero, i.size, i.bytes)) = some (some ent0, 4, 40) := by kernel_rfl

/-- 'make([]T, n)' at an element of several cells -/
theorem run_make_rows {P : Program} (t e : TypeId) (z : Value) (zc : Array Value) (size bytes : Nat) (hzc : z.cells = zc) (ht : P.underlying t = some (.slice e)) (hinfo : (P.info? e).map (fun i => (i.zero, i.size, i.bytes)) = some (some z, size, bytes))
    (kl kc : IntKind) (n : Nat) (hbytes : bytes * n ≤ 281474976710656) (h63 : n ≤ 9223372036854775807) (w : World) :
    (Instr.makeSlice t (.int kl (n : Int)) (.int kc (n : Int))).run P w = .ok (.slice (some ⟨w.heap.size, 0, none⟩) n n) (w.alloc (.cells (madeCells zc (n * size)) e)) := by
  obtain ⟨i, hi, hz, hs, hb⟩ := info_parts hinfo
  have hb' : (i.bytes : Int) * (n : Int) ≤ 281474976710656 := by
    have h : ((i.bytes * n : Nat) : Int) ≤ 281474976710656 := by rw [hb]; omega
    rwa [Int.natCast_mul] at h
  have hr := run_make (P := P) w t e i z ht hi hz kl kc n n (by omega) (Int.le_refl _) hb' (by omega)
  simp only [Int.toNat_natCast, hs, hzc] at hr
  exact hr

theorem rowIs_madeRows (w : World) (zs : Array Value) (m : Nat) (t : TypeId) : ∃ f, (w.alloc (.cells (madeCells zs m) t)).rowIs w.heap.size t m f :=
  ⟨fun i => ((madeCells zs m)[i]?).getD (.bool false), madeCells zs m, Deep.blk_alloc_new _ _, size_madeCells _ _, fun i hi => by
    have h : i < (madeCells zs m).size := by rw [size_madeCells]; exact hi
    simp [h]⟩

/-- the four cells from 'o' on -/
def Quad (f : Nat → Value) (o : Nat) (v0 v1 v2 v3 : Value) : Prop := f o = v0 ∧ f (o + 1) = v1 ∧ f (o + 2) = v2 ∧ f (o + 3) = v3

/-- a store of four cells into a row of quads -/
theorem rowIs_set4 {w : World} {b : Nat} {t : TypeId} {n : Nat} {f : Nat → Value} (h : w.rowIs b t n f) (o : Nat) (v0 v1 v2 v3 : Value) :
    ∃ f', ((((w.setCell ⟨b, o, none⟩ v0).setCell ⟨b, o + 1, none⟩ v1).setCell ⟨b, o + 2, none⟩ v2).setCell ⟨b, o + 3, none⟩ v3).rowIs b t n f' ∧ Quad f' o v0 v1 v2 v3 ∧ ∀ j, (j < o ∨ o + 3 < j) → f' j = f j := by
  refine ⟨_, (((h.set o v0).set (o + 1) v1).set (o + 2) v2).set (o + 3) v3, ⟨?_, ?_, ?_, ?_⟩, ?_⟩
  · simp
  · simp
  · simp
  · simp
  · intro j hj
    rw [if_neg (by omega), if_neg (by omega), if_neg (by omega), if_neg (by omega)]

def EntQ (f : Nat → Value) (o : Nat) (e : Ent) : Prop := Quad f o (.string e.g) (.int .i64 e.t) (.int .i64 e.y) (.int .i64 e.k)

theorem EntQ.at {w : World} {b : Nat} {t : TypeId} {n : Nat} {f : Nat → Value} (h : w.rowIs b t n f) {o : Nat} {e : Ent} (ho : o + 3 < n) (q : EntQ f o e) : EntAt w b o e :=
  ⟨by rw [h.cell (by omega), q.1], by rw [h.cell (by omega), q.2.1], by rw [h.cell (by omega), q.2.2.1], by rw [h.cell (by omega), q.2.2.2]⟩

theorem quads_step {w : World} {b : Nat} {t : TypeId} {n k : Nat} {f : Nat → Value} {V : Nat → Value × Value × Value × Value} (h : w.rowIs b t (n * 4) f)
    (hd : ∀ i, i < k → Quad f (i * 4) (V i).1 (V i).2.1 (V i).2.2.1 (V i).2.2.2) :
    ∃ f', ((((w.setCell ⟨b, k * 4, none⟩ (V k).1).setCell ⟨b, k * 4 + 1, none⟩ (V k).2.1).setCell ⟨b, k * 4 + 2, none⟩ (V k).2.2.1).setCell ⟨b, k * 4 + 3, none⟩ (V k).2.2.2).rowIs b t (n * 4) f' ∧
      ∀ i, i < k + 1 → Quad f' (i * 4) (V i).1 (V i).2.1 (V i).2.2.1 (V i).2.2.2 := by
  obtain ⟨f', hr, hq, hs⟩ := rowIs_set4 h (k * 4) (V k).1 (V k).2.1 (V k).2.2.1 (V k).2.2.2
  refine ⟨f', hr, fun i hi => ?_⟩
  by_cases e : i = k
  · subst e; exact hq
  · obtain ⟨a, b, c, d⟩ := hd i (by omega)
    exact ⟨(hs _ (by omega)).trans a, (hs _ (by omega)).trans b, (hs _ (by omega)).trans c, (hs _ (by omega)).trans d⟩

theorem below_set4 {B : Nat} {a w : World} (h : Below B a w) {b : Nat} (hb : B ≤ b) (o0 o1 o2 o3 : Nat) (v0 v1 v2 v3 : Value) :
    Below B a ((((w.setCell ⟨b, o0, none⟩ v0).setCell ⟨b, o1, none⟩ v1).setCell ⟨b, o2, none⟩ v2).setCell ⟨b, o3, none⟩ v3) :=
  (((h.setCell (p := ⟨b, o0, none⟩) hb _).setCell (p := ⟨b, o1, none⟩) hb _).setCell (p := ⟨b, o2, none⟩) hb _).setCell (p := ⟨b, o3, none⟩) hb _

set_option maxHeartbeats 400000 in
theorem copyEnts_some (b off n c : Nat) (es : Nat → Ent) (w : World) (hn : 40 * n ≤ 281474976710656) (hbw : 0 < n → b < w.heap.size)
    (hE : ∀ i, i < n → EntAt w b (off + i * 4) (es i)) :
    Calls Try.prog 7 #[.slice (some ⟨b, off, none⟩) n c] w fun e w' => e = .returned (.slice (some ⟨w.heap.size, 0, none⟩) n n) ∧ (∀ i, i < n → EntAt w' w.heap.size (i * 4) (es i)) ∧ w.heap.size < w'.heap.size ∧ Below w.heap.size w w' := by
  have hmk := run_make_rows (P := Try.prog) 23 26 ent0 ent0c 4 40 rfl Try.underlying23 Try.info26 .i64 .i64 n hn (by omega)
  have q := q23
  go_enter Try.func7, Try.ntmps7
  go_wp2
  go_loopw [4] (fun i wr => ∃ k : Nat, k ≤ n ∧ i = .int .i64 k ∧ (∃ f, wr.rowIs w.heap.size 26 (n * 4) f ∧ ∀ i, i < k → EntQ f (i * 4) (es i)) ∧ Below w.heap.size w wr) (fun i _ => n - (intOf i).toNat)
  case atStart =>
    obtain ⟨f, hf⟩ := rowIs_madeRows w ent0c (n * 4) 26
    exact ⟨0, Nat.zero_le _, rfl, ⟨f, hf, fun i hi => absurd hi (Nat.not_lt_zero _)⟩, (Below.refl _ _).alloc (Nat.le_refl _) _⟩
  case round =>
    obtain ⟨k, hk, rfl, ⟨f, hrow, hdone⟩, hbel⟩ := hrel
    by_cases hlt : k < n
    · obtain ⟨c0, c1, c2, c3⟩ := hE k hlt
      have hb := hbw (by omega)
      rw [← hbel.cell hb] at c0 c1 c2 c3
      have d0 := hrow.cell (i := k * 4) (by omega)
      have d1 := hrow.cell (i := k * 4 + 1) (by omega)
      have d2 := hrow.cell (i := k * 4 + 2) (by omega)
      have d3 := hrow.cell (i := k * 4 + 3) (by omega)
      have g0 := hrow.frozen (k * 4)
      have g1 := hrow.frozen (k * 4 + 1)
      have g2 := hrow.frozen (k * 4 + 2)
      have g3 := hrow.frozen (k * 4 + 3)
      have R := quads_step (k := k) (V := fun i => (.string (es i).g, .int .i64 (es i).t, .int .i64 (es i).y, .int .i64 (es i).k)) hrow hdone
      have HR : Hid _ := R
      clear R hdone
      go_wp2
      go_roundw
      case rel => exact ⟨k + 1, by omega, by go_num, HR.out, below_set4 hbel (Nat.le_refl _) _ _ _ _ _ _ _ _⟩
      case measure => simp [intOf]; omega
    · go_wp2
      go_ret
      exact ⟨rfl, fun i hi => EntQ.at hrow (by omega) (hdone i (by omega)), hrow.lt, hbel⟩

theorem copyEnts_nil (w : World) :
    Calls Try.prog 7 #[.slice none 0 0] w fun e w' => e = .returned (.slice none 0 0) ∧ w' = w := by
  have q := q23
  go_enter Try.func7, Try.ntmps7
  go_wp2
  go_ret
  exact ⟨rfl, rfl⟩

set_option maxHeartbeats 400000 in
theorem copyEnts_zero (a : Addr) (c : Nat) (w : World) :
    Calls Try.prog 7 #[.slice (some a) 0 c] w fun e w' => e = .returned (.slice (some ⟨w.heap.size, 0, none⟩) 0 0) ∧ w.heap.size < w'.heap.size ∧ Below w.heap.size w w' := by
  have hmk : ∀ w, (Instr.makeSlice 23 (.int .i64 0) (.int .i64 0)).run Try.prog w = _ := run_make_rows (P := Try.prog) 23 26 ent0 ent0c 4 40 rfl Try.underlying23 Try.info26 .i64 .i64 0 (by omega) (by omega)
  have q := q23
  go_enter Try.func7, Try.ntmps7
  go_wp2
  refine wp_loop_rounds 1 ?_
  rw [rounds_succ]
  go_wp2
  go_ret
  exact ⟨rfl, by simp, (Below.refl _ _).alloc (Nat.le_refl _) _⟩
end Go.Proofs.Qxb6604387a
