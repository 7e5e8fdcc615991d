import Derived.Test.Qxb6604387aFirst
import Derived.WalkSmall
import Derived.Laws.Pointers
namespace Go.Proofs.Qxb6604387a
open Go.RowKit

def noEnts4 : Nat → Ent := fun _ => ⟨⟨#[]⟩, 0, 0, 0⟩

set_option maxRecDepth 100000 in
set_option maxHeartbeats 4000000 in
theorem agrees_zero (m : ByteArray) (ay : Option Addr) (ny cy : Nat) (a : Addr) (c : Nat) (gr : ByteArray) (nn : Int) (w : World)
    (hm : m.size ≤ maxLen) (hg : gr.size ≤ maxLen) (hny : ny ≤ maxLen)
    (hcopy : ny ≤ 65536 → ∀ W, Below w.heap.size w W → Calls Try.prog 6 #[.slice ay ny cy] W fun e w' => SliceRet e ∧ Below W.heap.size W w') :
    Calls Try.prog 4 #[.string m, .slice ay ny cy, .slice (some a) 0 c, .string gr, .int .i64 nn] w (LawPost w) := by
  have hbytes := bytes10_none m ay (some a) ny cy c gr nn w hm hg hny
  unfold maxLen at hm hg hny
  go_enter Try.func4, Try.ntmps4
  go_wp2_with fail
  refine hbytes.mono ?_
  rintro e w' ⟨⟨r, rfl⟩, hw⟩
  subst w'
  clear hbytes
  cases r with
  | false =>
    go_wp2
    go_ret
    exact ⟨rfl, Below.refl _ _⟩
  | true =>
    go_wp2
    all_goals first | (go_ret; exact ⟨rfl, Below.refl _ _⟩) | skip
    refine wp_loop_rounds 1 ?_
    rw [rounds_succ]
    go_wp2_with fail
    · go_ret; exact ⟨rfl, Below.refl _ _⟩
    refine (hcopy (by omega) _ (Below.refl _ _)).mono ?_
    rintro e w1 ⟨⟨a1, n1, c1, rfl⟩, hb1⟩
    clear hcopy
    go_wp2_with fail
    refine (copyEnts_zero a c w1).mono ?_
    rintro e w2 ⟨rfl, hlt2, hb2⟩
    go_wp2_with fail
    refine (assess_some m a1 n1 c1 w1.heap.size 0 0 noEnts4 w2 (by omega) (fun h => absurd h (Nat.lt_irrefl _)) (fun i hi => absurd hi (Nat.not_lt_zero _)) (fun i hi => absurd hi (Nat.not_lt_zero _))).mono ?_
    rintro e w3 ⟨p, tv, rfl, hA, hb3⟩
    go_wp2_with fail
    refine (tranchesOf_some noEnts4 tv p w2.heap.size 0 gr w3 (by omega) hA.c2 hA.hp hA.hT (fun i hi => absurd hi (Nat.not_lt_zero _))).mono ?_
    rintro e w4 ⟨ow, v, rfl, how, hown, hnil, hb4⟩
    have hs1 := hb1.size
    have hs2 := hb2.size
    have hs3 := hb3.size
    have hB4 : Below w.heap.size w w4 := ((hb1.trans (hb2.mono (by omega))).trans (hb3.mono (by omega))).trans (hb4.mono (by omega))
    have hv := hnil rfl
    subst hv
    have hA4 := hA.below hb4
    clear hA how hown hnil
    go_wp2_with fail
    refine (tranche_some noEnts4 tv p w2.heap.size 0 gr nn w4 (by omega) hA4.c2 hA4.hp hA4.hT (fun i hi => absurd hi (Nat.not_lt_zero _))).mono ?_
    rintro e w5 ⟨ow', how', hb5, hpost⟩
    clear how' hA4
    have hs4 := hb4.size
    have hB5 : Below w.heap.size w w5 := hB4.trans (hb5.mono (by omega))
    rcases hpost with ⟨rfl, hno⟩ | ⟨kk, rfl, hkk, hhit, hmin⟩
    · clear hno
      go_wp2
      refine wp_loop_rounds 1 ?_
      rw [rounds_succ]
      go_wp2
      refine wp_loop_rounds 1 ?_
      rw [rounds_succ]
      go_wp2
      go_ret
      exact ⟨rfl, hB5⟩
    · exact absurd hkk (Nat.not_lt_zero _)

set_option maxRecDepth 100000 in
set_option maxHeartbeats 4000000 in
theorem agrees_nil (m : ByteArray) (ay : Option Addr) (ny cy : Nat) (gr : ByteArray) (nn : Int) (w : World)
    (hm : m.size ≤ maxLen) (hg : gr.size ≤ maxLen) (hny : ny ≤ maxLen)
    (hcopy : ny ≤ 65536 → ∀ W, Below w.heap.size w W → Calls Try.prog 6 #[.slice ay ny cy] W fun e w' => SliceRet e ∧ Below W.heap.size W w') :
    Calls Try.prog 4 #[.string m, .slice ay ny cy, .slice none 0 0, .string gr, .int .i64 nn] w (LawPost w) := by
  have hbytes := bytes10_none m ay none ny cy 0 gr nn w hm hg hny
  unfold maxLen at hm hg hny
  go_enter Try.func4, Try.ntmps4
  go_wp2_with fail
  refine hbytes.mono ?_
  rintro e w' ⟨⟨r, rfl⟩, hw⟩
  subst w'
  clear hbytes
  cases r with
  | false =>
    go_wp2
    go_ret
    exact ⟨rfl, Below.refl _ _⟩
  | true =>
    go_wp2
    all_goals first | (go_ret; exact ⟨rfl, Below.refl _ _⟩) | skip
    refine wp_loop_rounds 1 ?_
    rw [rounds_succ]
    go_wp2_with fail
    · go_ret; exact ⟨rfl, Below.refl _ _⟩
    refine (hcopy (by omega) _ (Below.refl _ _)).mono ?_
    rintro e w1 ⟨⟨a1, n1, c1, rfl⟩, hb1⟩
    clear hcopy
    go_wp2_with fail
    refine (copyEnts_nil w1).mono ?_
    rintro e w2 ⟨rfl, hw⟩
    subst w2
    go_wp2_with fail
    refine (assess_nil m a1 n1 c1 w1).mono ?_
    rintro e w3 ⟨rfl, hw⟩
    have hc2 : w3.cell? ⟨w1.heap.size, 2, none⟩ = some (.slice none 0 0) := by rw [hw]; simp
    have hp3 : w1.heap.size < w3.heap.size := by rw [hw]; simp
    have hb3 : Below w1.heap.size w1 w3 := by rw [hw]; exact (Below.refl _ _).alloc (Nat.le_refl _) _
    clear hw
    go_wp2_with fail
    refine (tranchesOf_nil noEnts4 (fun _ => none) w1.heap.size gr w3 hc2 hp3).mono ?_
    rintro e w4 ⟨ow, v, rfl, how, hown, hnil, hb4⟩
    have hs1 := hb1.size
    have hs3 := hb3.size
    have hB4 : Below w.heap.size w w4 := (hb1.trans (hb3.mono (by omega))).trans (hb4.mono (by omega))
    have hv := hnil rfl
    subst hv
    have hs4 := hb4.size
    have hc4 : w4.cell? ⟨w1.heap.size, 2, none⟩ = some (.slice none 0 0) := (hb4.cell (by exact hp3)).trans hc2
    clear how hown hnil
    go_wp2_with fail
    refine (tranche_nil noEnts4 w1.heap.size 0 gr nn w4 hc4 (by omega)).mono ?_
    rintro e w5 ⟨ow', how', hb5, hpost⟩
    clear how'
    have hB5 : Below w.heap.size w w5 := hB4.trans (hb5.mono (by omega))
    rcases hpost with ⟨rfl, hno⟩ | ⟨kk, rfl, hkk, hhit, hmin⟩
    · clear hno
      go_wp2
      refine wp_loop_rounds 1 ?_
      rw [rounds_succ]
      go_wp2
      refine wp_loop_rounds 1 ?_
      rw [rounds_succ]
      go_wp2
      go_ret
      exact ⟨rfl, hB5⟩
    · exact absurd hkk (Nat.not_lt_zero _)
end Go.Proofs.Qxb6604387a
