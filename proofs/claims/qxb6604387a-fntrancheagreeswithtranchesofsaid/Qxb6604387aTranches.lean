import Derived.Test.Qxb6604387aOwner
import Derived.Deep.AppendLies
namespace Go.Proofs.Qxb6604387a
open Go.RowKit

/-- the cells of entry i as a tranche -/
def qc (es : Nat → Ent) (tv : Nat → Option Addr) (i : Nat) : List Value := [.string (es i).g, .int .i64 (es i).t, .int .i64 (es i).y, .slice (tv i) (es i).k.toNat (es i).k.toNat]
/-- the places, among the first k, of the entries that bear the name 'ow' -/
def sel (es : Nat → Ent) (ow : ByteArray) (k : Nat) : List Nat := (List.range k).filter fun i => named ow (es i)
def cellsOf (es : Nat → Ent) (tv : Nat → Option Addr) (l : List Nat) : List Value := l.flatMap (qc es tv)

theorem sel_hit (es : Nat → Ent) (ow : ByteArray) (k : Nat) (h : named ow (es k) = true) : sel es ow (k + 1) = sel es ow k ++ [k] := by
  simp [sel, List.range_succ, List.filter_append, h]
theorem sel_miss (es : Nat → Ent) (ow : ByteArray) (k : Nat) (h : named ow (es k) = false) : sel es ow (k + 1) = sel es ow k := by
  simp [sel, List.range_succ, List.filter_append, h]
theorem sel_le (es : Nat → Ent) (ow : ByteArray) (k : Nat) : (sel es ow k).length ≤ k := by
  have := List.length_filter_le (fun i => named ow (es i)) (List.range k)
  simpa [sel] using this
theorem cellsOf_snoc (es : Nat → Ent) (tv : Nat → Option Addr) (l : List Nat) (k : Nat) : cellsOf es tv (l ++ [k]) = cellsOf es tv l ++ qc es tv k := by
  simp [cellsOf]

def OfPost (es : Nat → Ent) (tv : Nat → Option Addr) (n : Nat) (gr : ByteArray) (w : World) (e : Ending) (w' : World) : Prop :=
  ∃ ow v, e = .returned v ∧ OwnerIs es n gr ow ∧ w'.ownsRow w.heap.size 35 4 v (sel es ow n).length (cellsOf es tv (sel es ow n)) ∧ (sel es ow n = [] → v = .slice none 0 0) ∧ Below w.heap.size w w'

theorem of_step {es : Nat → Ent} {tv : Nat → Option Addr} {ow : ByteArray} {w wr w2 : World} {A B : Obj} {k : Nat} {u v' : Value} (hbel : Below w.heap.size w wr)
    (hown : wr.ownsRow w.heap.size 35 4 u (sel es ow k).length (cellsOf es tv (sel es ow k))) (hq : named ow (es k) = true)
    (hown' : w2.ownsRow w.heap.size 35 4 v' ((sel es ow k).length + 1) (cellsOf es tv (sel es ow k) ++ qc es tv k)) (hgrow : ((wr.alloc A).alloc B).grownBy w2 u.ownBlock) :
    w2.ownsRow w.heap.size 35 4 v' (sel es ow (k + 1)).length (cellsOf es tv (sel es ow (k + 1))) ∧ (sel es ow (k + 1) = [] → v' = .slice none 0 0) ∧ Below w.heap.size w w2 := by
  have hs := hbel.size
  refine ⟨?_, ?_, ?_⟩
  · rw [sel_hit _ _ _ hq, cellsOf_snoc, List.length_append]; exact hown'
  · rw [sel_hit _ _ _ hq]; intro h; simp at h
  · exact ((hbel.alloc hs A).alloc (by simp; omega) B).grown hgrow (by simp; omega) (fun j hj => (hown.lt j hj).1)

set_option maxHeartbeats 1000000 in
theorem tranchesOf_some (es : Nat → Ent) (tv : Nat → Option Addr) (p T n : Nat) (gr : ByteArray) (w : World) (hn : n ≤ 65536) (hc : w.cell? ⟨p, 2, none⟩ = some (.slice (some ⟨T, 0, none⟩) n n)) (hp : p < w.heap.size) (hT : T < w.heap.size)
    (hE : ∀ i, i < n → AtAt w T (i * 4) (es i) (tv i)) :
    Calls Try.prog 9 #[.pointer (some ⟨p, 0, none⟩), .string gr] w (OfPost es tv n gr w) := by
  obtain ⟨i0, hi, hz0, hz1, hz2⟩ := info_parts Try.info35
  have ho := owner_some es tv p T n gr w hn hc hp hT hE
  go_enter Try.func9, Try.ntmps9
  go_wp2_with fail
  refine ho.mono ?_
  rintro e w1 ⟨ow, rfl, how, hb1⟩
  have HO : Hid _ := how
  clear how ho
  have hc1 : w1.cell? ⟨p, 2, none⟩ = some (.slice (some ⟨T, 0, none⟩) n n) := (hb1.cell (by exact hp)).trans hc
  have hs1 := hb1.size
  go_wp2
  go_loopw [6, 17] (fun v i wr => ∃ k : Nat, k ≤ n ∧ i = .int .i64 k ∧ wr.ownsRow w.heap.size 35 4 v (sel es ow k).length (cellsOf es tv (sel es ow k)) ∧ (sel es ow k = [] → v = .slice none 0 0) ∧ Below w.heap.size w wr) (fun _ i _ => n - (intOf i).toNat)
  case atStart => exact ⟨0, Nat.zero_le _, rfl, World.ownsRow_nil _ _ _ _, fun _ => rfl, hb1⟩
  case round =>
    obtain ⟨k, hk, rfl, hown, hnil, hbel⟩ := hrel
    have HN : Hid _ := hnil
    clear hnil
    by_cases hlt : k < n
    · obtain ⟨c0, c1, c2, c3⟩ := (hE k hlt).below hbel hT
      have hs := hbel.size
      have hsl := sel_le es ow k
      cases hq : named ow (es k) with
      | true =>
        have hq' : ((es k).g.toList == ow.toList) = true := hq
        go_wp2_with ((at_builtin; refine wpList_append_own _ rfl _ _ 31 rfl w.heap.size 35 i0 at0 4 56 Try.underlying31 hi hz0 hz1 hz2 rfl (by decide) _ _ _ rfl ((hown.alloc _).alloc _) ⟨wr.heap.size + 1, 0, none⟩ 1 1 (qc es tv k) rfl rfl ?c1 ?c2 ?c3 ?c4 ?c5 ?_))
        case c1 => exact World.news_of_block (cs := (qc es tv k).toArray) (heap_alloc2_new _ _ _)
        case c2 => intro u hu; simp [qc] at hu; rcases hu with rfl | rfl | rfl | rfl <;> rfl
        case c3 => unfold maxLen; omega
        case c4 => omega
        case c5 => simp; omega
        intro v' w2 hown' hgrow hiff
        have R := of_step (ow := ow) hbel hown hq hown' hgrow
        clear hown' hgrow hown hiff
        go_wp2
        go_roundw
        case rel => exact ⟨k + 1, by omega, by go_num, R.1, R.2.1, R.2.2⟩
        case measure => simp [intOf]; omega
      | false =>
        have hq' : ((es k).g.toList == ow.toList) = false := hq
        go_wp2
        go_roundw
        case rel =>
          refine ⟨k + 1, by omega, by go_num, ?_, ?_, hbel.alloc hs _⟩
          · rw [sel_miss _ _ _ hq]; exact hown.alloc _
          · rw [sel_miss _ _ _ hq]; exact HN.out
        case measure => simp [intOf]; omega
    · go_wp2
      go_ret
      have : k = n := by omega
      subst this
      exact ⟨ow, _, rfl, HO.out, hown, HN.out, hbel⟩

set_option maxHeartbeats 1000000 in
theorem tranchesOf_nil (es : Nat → Ent) (tv : Nat → Option Addr) (p : Nat) (gr : ByteArray) (w : World) (hc : w.cell? ⟨p, 2, none⟩ = some (.slice none 0 0)) (hp : p < w.heap.size) :
    Calls Try.prog 9 #[.pointer (some ⟨p, 0, none⟩), .string gr] w (OfPost es tv 0 gr w) := by
  have ho := owner_nil es p gr w hc hp
  go_enter Try.func9, Try.ntmps9
  go_wp2_with fail
  refine ho.mono ?_
  rintro e w1 ⟨ow, rfl, how, hb1⟩
  have HO : Hid _ := how
  clear how ho
  have hc1 : w1.cell? ⟨p, 2, none⟩ = some (.slice none 0 0) := (hb1.cell (by exact hp)).trans hc
  go_wp2
  refine wp_loop_rounds 1 ?_
  rw [rounds_succ]
  go_wp2
  go_ret
  exact ⟨ow, _, rfl, HO.out, World.ownsRow_nil _ _ _ _, fun _ => rfl, hb1⟩
end Go.Proofs.Qxb6604387a
