import Derived.Test.Qxb6604418aRows
import Derived.WalkKit
import Derived.WalkSpells
import Derived.WalkLawsBesides
import Derived.Lib.SliceRun
import Derived.Lib.AppendStr
import Derived.Lib.VarintMem
import Derived.Lib.Strings
import Derived.Laws.CopyOwn
import Derived.Deep.OwnRows
namespace Go.Proofs.Qxb6604418a
open Go.RowKit

theorem Try.info5 : (Try.prog.info? 5).map (fun i => (i.zero, i.size, i.bytes)) = some (some (.int .u8 0), 1, 1) := by kernel_rfl
theorem Try.info9 : (Try.prog.info? 9).map (fun i => (i.zero, i.size, i.bytes)) = some (some (.string ByteArray.empty), 1, 16) := by kernel_rfl
theorem Try.size5 : (Try.prog.info? 5).map (·.size) = some 1 := by kernel_rfl
theorem q25 (w : World) (a : Option Addr) (n c n' c' : Nat) : (binOp .eql 25 (.slice a n c) (.slice none n' c')).run Try.prog w = .ok (.bool a.isNone) w :=
  Lib.run_eql_slice_nil w _ _ a n c n' c' Try.underlying25
theorem q27 (w : World) (a : Option Addr) (n c n' c' : Nat) : (binOp .eql 27 (.slice a n c) (.slice none n' c')).run Try.prog w = .ok (.bool a.isNone) w :=
  Lib.run_eql_slice_nil w _ _ a n c n' c' Try.underlying27

/-- the value v owns the bytes l -/
def Has (w : World) (B : Nat) (v : Value) (l : List UInt8) : Prop := w.ownsRow B 5 1 v l.length (Lib.byteCells l)

/-- the bytes l lie behind the slice -/
def BytesAt (w : World) (a : Option Addr) (n c : Nat) (l : List UInt8) : Prop :=
  l.length = n ∧ ((a = none ∧ n = 0 ∧ c = 0) ∨ ∃ x, a = some x ∧ ∀ j u, (Lib.byteCells l)[j]? = some u → w.cell? (x.add j) = some u)

theorem Has.form {w : World} {B : Nat} {v : Value} {l : List UInt8} (h : Has w B v l) : ∃ a c, v = .slice a l.length c := by
  rcases h.2 with ⟨hv, h0⟩ | ⟨g, cap, _, hv, _⟩
  · exact ⟨none, 0, by rw [hv, h0]⟩
  · exact ⟨_, _, hv⟩

theorem Has.bytes {w : World} {B n c : Nat} {a : Option Addr} {l : List UInt8} (h : Has w B (.slice a n c) l) : BytesAt w a n c l := by
  have h0 := h
  rcases h.2 with ⟨hv, h1⟩ | ⟨g, cap, _, hv, _⟩
  · simp at hv
    obtain ⟨rfl, rfl, rfl⟩ := hv
    exact ⟨h1, .inl ⟨rfl, rfl, rfl⟩⟩
  · simp at hv
    obtain ⟨rfl, rfl, rfl⟩ := hv
    exact ⟨rfl, .inr ⟨_, rfl, h0.cells (g := g) rfl⟩⟩

theorem Has.below {w w' : World} {B : Nat} {v : Value} {l : List UInt8} (h : Has w B v l) (hb : Below w.heap.size w w') : Has w' B v l := by
  obtain ⟨h1, h2⟩ := h
  refine ⟨h1, ?_⟩
  rcases h2 with h2 | ⟨g, cap, cur, hv, hB, hg, hr⟩
  · exact .inl h2
  · have hlt : g < w.heap.size := by
      rcases Nat.lt_or_ge g w.heap.size with h | h
      · exact h
      · rw [Array.getElem?_eq_none h] at hg; cases hg
    exact .inr ⟨g, cap, cur, hv, hB, (hb.block g hlt).trans hg, hr⟩

theorem Has.mono {w : World} {B B' : Nat} {v : Value} {l : List UInt8} (h : Has w B v l) (hB : B' ≤ B) : Has w B' v l := by
  obtain ⟨h1, h2⟩ := h
  refine ⟨h1, ?_⟩
  rcases h2 with h2 | ⟨g, cap, cur, hv, hBg, hr⟩
  · exact .inl h2
  · exact .inr ⟨g, cap, cur, hv, by omega, hr⟩

theorem BytesAt.below {w w' : World} {a : Option Addr} {n c : Nat} {l : List UInt8} (h : BytesAt w a n c l) (hb : Below w.heap.size w w') : BytesAt w' a n c l := by
  obtain ⟨h1, h2⟩ := h
  refine ⟨h1, ?_⟩
  rcases h2 with h2 | ⟨x, rfl, hx⟩
  · exact .inl h2
  · refine .inr ⟨x, rfl, fun j u hu => ?_⟩
    have hc := hx j u hu
    exact (hb.cell (World.block_lt_of_cell? _ _ hc)).trans hc

/-- cell k of the bytes -/
theorem BytesAt.cell {w : World} {b off n c : Nat} {l : List UInt8} (h : BytesAt w (some ⟨b, off, none⟩) n c l) {k : Nat} (hk : k < l.length) : w.cell? ⟨b, off + k, none⟩ = some (.int .u8 (l[k].toNat : Int)) := by
  rcases h.2 with ⟨h0, _⟩ | ⟨x, hx, hc⟩
  · cases h0
  · cases hx
    have := hc k (.int .u8 (l[k].toNat : Int)) (by simp [Lib.byteCells, hk])
    rwa [show (⟨b, off, none⟩ : Addr).add k = ⟨b, off + k, none⟩ by unfold Addr.add; split <;> simp_all] at this

theorem byteCells_one (l : List UInt8) : ∀ u ∈ Lib.byteCells l, u.oneCell' = true := by
  intro u hu
  simp only [Lib.byteCells, List.mem_map] at hu
  obtain ⟨b, _, rfl⟩ := hu
  rfl

/-! ### zzCloneBytes -/
def CloneBPost (w : World) (l : List UInt8) (e : Ending) (w' : World) : Prop :=
  ∃ a c, e = .returned (.slice a l.length c) ∧ Has w' w.heap.size (.slice a l.length c) l ∧ Below w.heap.size w w'

theorem has_spliced {w2 : World} {B n : Nat} {l : List UInt8} {L : List Value} (hL : L.length = n) (hl : l.length = n) (hn : n ≤ maxLen)
    (hg : w2.heap[B]? = some (.cells (splice L 0 (Lib.byteCells l)).toArray 5 (0, 0))) : Has w2 B (.slice (some ⟨B, 0, none⟩) l.length n) l := by
  have hb : (Lib.byteCells l).length = l.length := Lib.byteCells_length l
  have hs : splice L 0 (Lib.byteCells l) = Lib.byteCells l := by
    unfold splice
    rw [List.take_zero, List.nil_append, List.drop_of_length_le (by omega), List.append_nil]
  rw [hs] at hg
  refine ⟨by simpa using hb, .inr ⟨B, n, _, rfl, Nat.le_refl _, hg, by omega, hn, by simp; omega, ?_⟩⟩
  simp only [Nat.mul_one]
  exact List.take_of_length_le (by omega)

set_option maxHeartbeats 1000000 in
theorem cloneB_some (x : Addr) (n c : Nat) (l : List UInt8) (w : World) (hl : l.length = n) (hn : n ≤ 1048576) (hc : ∀ j u, (Lib.byteCells l)[j]? = some u → w.cell? (x.add j) = some u) :
    Calls Try.prog 13 #[.slice (some x) n c] w (CloneBPost w l) := by
  have hmk := run_make_row' (P := Try.prog) 25 5 (.int .u8 0) 1 Try.underlying25 Try.info5 rfl .i64 .i64 n (by omega) (by omega)
  have q := q25
  have hb : (Lib.byteCells l).length = l.length := Lib.byteCells_length l
  have hbel : Below w.heap.size w (w.alloc (.cells (madeCells #[.int .u8 0] n) 5)) := (Below.refl _ _).alloc (Nat.le_refl _) _
  have hml : (madeCells #[.int .u8 0] n).toList.length = n := by rw [Array.length_toList, size_madeCells]
  have hhp : (w.alloc (.cells (madeCells #[.int .u8 0] n) 5)).heap[w.heap.size]? = some (.cells (madeCells #[.int .u8 0] n).toList.toArray 5 (0, 0)) := by
    rw [heap_alloc_new]
  go_enter Try.func13, Try.ntmps13
  go_wp2_with (refine wpList_copy_splice rfl (.tmp 9) (.tmp 10) 25 25 rfl 5 Try.underlying25 Try.size5 (some ⟨w.heap.size, 0, none⟩) (some x) n n n c rfl rfl w.heap.size 0 (madeCells #[.int .u8 0] n).toList 5 hhp (Lib.byteCells l) ?c1 ?c2 ?c3 (byteCells_one l) w.heap.size w hbel (Nat.le_refl _) ?_)
  case c1 => rw [hb, hl]; exact (Nat.min_self n).symm
  case c2 =>
    intro _ j v hv
    have h := hc j v hv
    exact (hbel.cell (World.block_lt_of_cell? _ _ h)).trans h
  case c3 => rw [hb, hl, hml]; omega
  intro w2 hg2 hb2
  go_wp2
  go_ret
  have hh := has_spliced (B := w.heap.size) (n := n) hml hl (by unfold maxLen; omega) hg2.out
  rw [hl] at hh
  exact ⟨_, _, by rw [hl]; rfl, by rw [hl]; exact hh, hb2⟩

theorem cloneB_any (a : Option Addr) (n c : Nat) (l : List UInt8) (w : World) (h : BytesAt w a n c l) (hn : n ≤ 1048576) :
    Calls Try.prog 13 #[.slice a n c] w (CloneBPost w l) := by
  rcases h with ⟨hl, ⟨rfl, rfl, rfl⟩ | ⟨x, rfl, hx⟩⟩
  · have q := q25
    have : l = [] := List.length_eq_zero_iff.1 hl
    subst this
    go_enter Try.func13, Try.ntmps13
    go_wp2
    go_ret
    exact ⟨none, 0, rfl, World.ownsRow_nil _ _ _ _, Below.refl _ _⟩
  · exact cloneB_some x n c l w hl hn hx

/-! ### zzCloneStrings -/
/-- the strings ss lie behind the slice, in a block below B -/
def Strs (w : World) (B : Nat) (a : Option Addr) (n : Nat) (ss : Nat → ByteArray) : Prop :=
  n = 0 ∨ ∃ b off, a = some ⟨b, off, none⟩ ∧ b < B ∧ ∀ i, i < n → w.cell? ⟨b, off + i, none⟩ = some (.string (ss i))

theorem Strs.below {w w' : World} {B B' : Nat} {a : Option Addr} {n : Nat} {ss : Nat → ByteArray} (h : Strs w B a n ss) (hb : Below B' w w') (hB : B ≤ B') : Strs w' B a n ss := by
  rcases h with h | ⟨b, off, rfl, hlt, hc⟩
  · exact .inl h
  · exact .inr ⟨b, off, rfl, hlt, fun i hi => (hb.cell (p := ⟨b, off + i, none⟩) (by show b < B'; omega)).trans (hc i hi)⟩

def CloneSPost (w : World) (n : Nat) (ss : Nat → ByteArray) (e : Ending) (w' : World) : Prop :=
  ∃ a c, e = .returned (.slice a n c) ∧ Strs w' w'.heap.size a n ss ∧ Below w.heap.size w w'

set_option maxHeartbeats 1000000 in
theorem cloneS_pos (b off n c : Nat) (ss : Nat → ByteArray) (w : World) (hn : n ≤ 1048576) (hb : b < w.heap.size) (hc : ∀ i, i < n → w.cell? ⟨b, off + i, none⟩ = some (.string (ss i))) :
    Calls Try.prog 14 #[.slice (some ⟨b, off, none⟩) n c] w (CloneSPost w n ss) := by
  have hmk := run_make_row' (P := Try.prog) 27 9 (.string ByteArray.empty) 16 Try.underlying27 Try.info9 rfl .i64 .i64 n (by omega) (by omega)
  have q := q27
  go_enter Try.func14, Try.ntmps14
  go_wp2
  go_loopw [4] (fun i wr => ∃ k : Nat, k ≤ n ∧ i = .int .i64 k ∧ (∃ f, wr.rowIs w.heap.size 9 n f ∧ ∀ j, j < k → f j = .string (ss j)) ∧ Below w.heap.size w wr) (fun i _ => n - (intOf i).toNat)
  case atStart => exact ⟨0, Nat.zero_le _, rfl, ⟨_, World.rowIs_made _ _ _ _, fun j hj => absurd hj (Nat.not_lt_zero _)⟩, (Below.refl _ _).alloc (Nat.le_refl _) _⟩
  case round =>
    obtain ⟨k, hk, rfl, ⟨f, hrow, hd⟩, hbel⟩ := hrel
    by_cases hlt : k < n
    · have hc1 : wr.cell? ⟨b, off + k, none⟩ = some (.string (ss k)) := (hbel.cell (by exact hb)).trans (hc k hlt)
      have hc2 := hrow.cell hlt
      have hc3 := hrow.frozen k
      have HD : Hid _ := hd
      clear hd
      go_wp2
      go_roundw
      case rel =>
        refine ⟨k + 1, by omega, by go_num, ⟨_, hrow.set k _, fun j hj => ?_⟩, hbel.setCell (Nat.le_refl _) _⟩
        by_cases e : j = k
        · subst e; simp
        · simp only [if_neg e]; exact HD.out j (by omega)
      case measure => simp [intOf]; omega
    · go_wp2
      go_ret
      refine ⟨_, _, rfl, .inr ⟨w.heap.size, 0, rfl, hrow.lt, fun i hi => ?_⟩, hbel⟩
      rw [Nat.zero_add, hrow.cell hi, hd i (by omega)]

set_option maxHeartbeats 1000000 in
theorem cloneS_zero (a : Option Addr) (c : Nat) (ss : Nat → ByteArray) (w : World) :
    Calls Try.prog 14 #[.slice a 0 c] w (CloneSPost w 0 ss) := by
  have hmk : ∀ w, (Instr.makeSlice 27 (.int .i64 0) (.int .i64 0)).run Try.prog w = _ := run_make_row' (P := Try.prog) 27 9 (.string ByteArray.empty) 16 Try.underlying27 Try.info9 rfl .i64 .i64 0 (by omega) (by omega)
  have q := q27
  cases a with
  | none =>
    go_enter Try.func14, Try.ntmps14
    go_wp2
    go_ret
    exact ⟨_, _, rfl, .inl rfl, Below.refl _ _⟩
  | some x =>
    go_enter Try.func14, Try.ntmps14
    go_wp2
    refine wp_loop_rounds 1 ?_
    rw [rounds_succ]
    go_wp2
    go_ret
    exact ⟨_, _, rfl, .inl rfl, (Below.refl _ _).alloc (Nat.le_refl _) _⟩

theorem cloneS_any (a : Option Addr) (n c : Nat) (ss : Nat → ByteArray) (w : World) (hn : n ≤ 1048576) (h : Strs w w.heap.size a n ss) :
    Calls Try.prog 14 #[.slice a n c] w (CloneSPost w n ss) := by
  rcases h with rfl | ⟨b, off, rfl, hb, hc⟩
  · exact cloneS_zero a c ss w
  · exact cloneS_pos b off n c ss w hn hb hc

/-! ### binary.AppendUvarint, appendField, appendStrings -/
def GrowPost (w : World) (B : Nat) (l : List UInt8) (e : Ending) (w' : World) : Prop := ∃ v, e = .returned v ∧ Has w' B v l ∧ Below B w w'

theorem has_snoc {w : World} {B : Nat} {v : Value} {l : List UInt8} {b : Nat} (hb : b < 256) (h : w.ownsRow B 5 1 v (l.length + 1) (Lib.byteCells l ++ [Value.int .u8 (b : Int)])) : Has w B v (l ++ [b.toUInt8]) := by
  unfold Has
  rw [Lib.byteCells_snoc l hb, List.length_append]
  exact h

set_option maxRecDepth 100000 in
set_option maxHeartbeats 2000000 in
theorem auv (B : Nat) (l : List UInt8) (x : Nat) (hx : x ≤ 1048576) (sv : Value) (w : World) (hown : Has w B sv l) (hBw : B ≤ w.heap.size) (hlim : l.length + 10 ≤ 140737488355328) :
    Calls Try.prog 25 #[sv, .int .u64 x] w (GrowPost w B (l ++ Lib.uvarint x)) := by
  obtain ⟨i0, hi, hz0, hz1, hz2⟩ := info_parts Try.info5
  have hlen := Lib.uvarint_length 2 x (by omega)
  go_enter Try.func25, Try.ntmps25
  go_wp2
  go_loopw [0, 1] (fun vb vx wr => ∃ (y : Nat) (pre : List UInt8), vx = .int .u64 y ∧ y ≤ x ∧ Hid (Lib.uvarint x = pre ++ Lib.uvarint y) ∧ Has wr B vb (l ++ pre) ∧ Below B w wr) (fun _ vx _ => (intOf vx).toNat)
  case atStart => exact ⟨x, [], rfl, Nat.le_refl _, rfl, by simpa using hown, Below.refl _ _⟩
  case round =>
    obtain ⟨y, pre, rfl, hy, hsplit, hown1, hnx⟩ := hrel
    have hpl : pre.length + (Lib.uvarint y).length ≤ 3 := by
      have h2 := congrArg List.length hsplit.out
      rw [List.length_append] at h2
      omega
    have hyp := Lib.uvarint_pos y
    have hll : (l ++ pre).length ≤ l.length + 3 := by rw [List.length_append]; omega
    have hs := hnx.size
    obtain ⟨m, hm⟩ : ∃ m, m = l ++ pre := ⟨_, rfl⟩
    rw [← hm] at hown1 hll
    have HM : Hid _ := hm
    clear hm
    have hown2 : wr.ownsRow B 5 1 _ m.length (Lib.byteCells m) := hown1
    by_cases h128 : 128 ≤ y
    · have hor : bits .or .u8 ((y : Int) % 256) 128 = ((y % 128 + 128 : Nat) : Int) := by
        rw [Lib.u8_or128_any _ (by omega) (by omega)]
        omega
      go_wp2_with (at_builtin; refine wpList_append_own _ rfl _ _ 25 rfl B 5 i0 (.int .u8 0) 1 1 Try.underlying25 hi hz0 hz1 hz2 rfl (by decide) _ _ _ rfl (hown2.alloc _) ⟨wr.heap.size, 0, none⟩ 1 1 [Value.int .u8 ((y % 128 + 128 : Nat) : Int)] rfl rfl ?c1 ?c2 ?c3 ?c4 ?c5 ?_)
      case c1 =>
        intro j u hj
        match j, hj with
        | 0, hj => simp at hj; subst hj; simp [Addr.add]
      case c2 => intro u hu; simp at hu; subst hu; rfl
      case c3 => unfold maxLen; omega
      case c4 => omega
      case c5 => simp; omega
      intro v' w1 hown' hgrow _
      have hnx1 : Below B w w1 := (hnx.alloc (by omega) _).grown hgrow (by simp; omega) (fun k hk => (hown2.lt k hk).1)
      have ec : ((y % 128 + 128 : Nat) : Int) = (y : Int) % 128 + 128 := by omega
      rw [← ec] at hown'
      have R := has_snoc (by omega) hown'
      clear hown' hgrow hown2 hown1 ec
      go_wp2
      go_roundw
      case rel =>
        refine ⟨y / 128, pre ++ [(y % 128 + 128).toUInt8], by go_num, by omega, ?_, ?_, hnx1⟩
        · show _ = _
          rw [hsplit.out, Lib.uvarint_big h128]; simp
        · rw [← List.append_assoc, ← HM.out]; exact R
      case measure => simp [intOf]; omega
    · go_wp2_with (at_builtin; refine wpList_append_own _ rfl _ _ 25 rfl B 5 i0 (.int .u8 0) 1 1 Try.underlying25 hi hz0 hz1 hz2 rfl (by decide) _ _ _ rfl (hown2.alloc _) ⟨wr.heap.size, 0, none⟩ 1 1 [Value.int .u8 (y : Int)] rfl rfl ?d1 ?d2 ?d3 ?d4 ?d5 ?_)
      case d1 =>
        intro j u hj
        match j, hj with
        | 0, hj => simp at hj; subst hj; simp [Addr.add]
      case d2 => intro u hu; simp at hu; subst hu; rfl
      case d3 => unfold maxLen; omega
      case d4 => omega
      case d5 => simp; omega
      intro v' w1 hown' hgrow _
      have hnx1 : Below B w w1 := (hnx.alloc (by omega) _).grown hgrow (by simp; omega) (fun k hk => (hown2.lt k hk).1)
      have R := has_snoc (by omega) hown'
      clear hown' hgrow hown2 hown1
      go_wp2
      go_ret
      refine ⟨_, rfl, ?_, hnx1⟩
      rw [hsplit.out, Lib.uvarint_small (by omega), ← List.append_assoc, ← HM.out]
      exact R

/-- a field: its length and its bytes -/
def encS (s : ByteArray) : List UInt8 := Lib.uvarint s.size ++ s.data.toList

set_option maxHeartbeats 2000000 in
theorem appendField_any (B : Nat) (l : List UInt8) (s : ByteArray) (hs : s.size ≤ 1048576) (sv : Value) (w : World) (hown : Has w B sv l) (hBw : B ≤ w.heap.size) (hlim : l.length ≤ 70368744177664) :
    Calls Try.prog 26 #[sv, .string s] w (GrowPost w B (l ++ encS s)) := by
  obtain ⟨i0, hi, hz0, hz1, hz2⟩ := info_parts Try.info5
  have hu := auv B l s.size hs sv w hown hBw (by omega)
  have hul := Lib.uvarint_length 2 s.size (by omega)
  go_enter Try.func26, Try.ntmps26
  go_wp2_with fail
  refine hu.mono ?_
  rintro e w1 ⟨v1, rfl, h1, hb1⟩
  have hs1 := hb1.size
  obtain ⟨m, hm⟩ : ∃ m, m = l ++ Lib.uvarint s.size := ⟨_, rfl⟩
  have hml : m.length ≤ l.length + 3 := by rw [hm, List.length_append]; omega
  rw [← hm] at h1
  have HM : Hid _ := hm
  clear hm hu
  have h2 : w1.ownsRow B 5 1 v1 m.length (Lib.byteCells m) := h1
  go_wp2_with (at_builtin; refine Lib.wpList_append_own_string _ rfl (.tmp 10) (.tmp 11) 25 9 rfl B 5 i0 Try.underlying25 Try.underlying9 hi hz0 hz1 hz2 v1 _ _ rfl h2 s rfl ?c1 ?c2 ?c3 ?_)
  case c1 => unfold maxLen; omega
  case c2 => omega
  case c3 => omega
  intro v' w2 hown' hgrow _
  have hb2 : Below B w w2 := hb1.grown hgrow (by omega) (fun k hk => (h2.lt k hk).1)
  go_wp2
  go_ret
  refine ⟨_, rfl, ?_, hb2⟩
  unfold encS
  rw [← List.append_assoc, ← HM.out]
  unfold Has
  have hc : Lib.byteCells (m ++ s.data.toList) = Lib.byteCells m ++ Lib.strCells s := by simp [Lib.byteCells, Lib.strCells]
  have hl : (m ++ s.data.toList).length = m.length + s.size := by rw [List.length_append, Array.length_toList]; rfl
  rw [hc, hl]
  exact hown'
end Go.Proofs.Qxb6604418a
