import Derived.Test.Qxb6604387aPiles
namespace Go.Proofs.Qxb6604387a
open Go.RowKit

set_option maxHeartbeats 400000 in
theorem bytes10_some (m : ByteArray) (ay : Option Addr) (ny cy : Nat) (b off n c : Nat) (es : Nat → Ent) (g : ByteArray) (nn : Int) (w : World)
    (hm : m.size ≤ maxLen) (hg : g.size ≤ maxLen) (hny : ny ≤ maxLen) (hn : n ≤ maxLen) (hs : ∀ i, i < n → (es i).g.size ≤ maxLen)
    (hE : ∀ i, i < n → EntAt w b (off + i * 4) (es i)) :
    Calls Try.prog 10 #[.string m, .slice ay ny cy, .slice (some ⟨b, off, none⟩) n c, .string g, .int .i64 nn] w fun e w' => BoolRet e ∧ w' = w := by
  unfold maxLen at hm hg hny hn hs
  go_enter Try.func10, Try.ntmps10
  go_wp2
  all_goals first | (go_ret; exact ⟨BoolRet.mk _, rfl⟩) | skip
  go_loop [11, 12] (fun z i => ∃ k : Nat, k ≤ n ∧ i = .int .i64 k ∧ ∃ x : Int, 0 ≤ x ∧ x ≤ 1048576 ∧ z = .int .i64 x) (fun _ i => n - (intOf i).toNat)
  case atStart => exact ⟨0, Nat.zero_le _, rfl, _, by omega, by omega, rfl⟩
  case round =>
    obtain ⟨k, hk, rfl, x, hx0, hx1, rfl⟩ := hrel
    by_cases hlt : k < n
    · have hsk := hs k hlt
      obtain ⟨c0, c1, c2, c3⟩ := hE k hlt
      go_wp2
      · go_ret; exact ⟨BoolRet.mk _, rfl⟩
      · go_ret; exact ⟨BoolRet.mk _, rfl⟩
      · go_round
        case rel => exact ⟨k + 1, by omega, by go_num, _, by omega, by omega, rfl⟩
        case measure => simp [intOf]; omega
    · go_wp2
      all_goals (go_ret; exact ⟨BoolRet.mk _, rfl⟩)

set_option maxHeartbeats 400000 in
theorem bytes10_none (m : ByteArray) (ay ae : Option Addr) (ny cy c : Nat) (g : ByteArray) (nn : Int) (w : World)
    (hm : m.size ≤ maxLen) (hg : g.size ≤ maxLen) (hny : ny ≤ maxLen) :
    Calls Try.prog 10 #[.string m, .slice ay ny cy, .slice ae 0 c, .string g, .int .i64 nn] w fun e w' => BoolRet e ∧ w' = w := by
  unfold maxLen at hm hg hny
  go_enter Try.func10, Try.ntmps10
  go_wp2
  all_goals first | (go_ret; exact ⟨BoolRet.mk _, rfl⟩) | skip
  refine wp_loop_rounds 1 ?_
  rw [rounds_succ]
  go_wp2
  all_goals (go_ret; exact ⟨BoolRet.mk _, rfl⟩)

/-- the entry bears the name 'ow' and assesses tranche 'nn' -/
def hits (ow : ByteArray) (nn : Int) (e : Ent) : Bool := (e.g.toList == ow.toList) && (e.t == nn)

set_option maxHeartbeats 400000 in
theorem tranche1_any (v2 v3 : Value) (e : Ent) (ow : ByteArray) (nn : Int) (b b' : Nat) (w : World) (hc : w.cell? ⟨b, 0, none⟩ = some (.string ow)) (hc' : w.cell? ⟨b', 0, none⟩ = some (.int .i64 nn)) (hb : b < w.heap.size) (hb' : b' < w.heap.size) :
    Calls Try.prog 14 #[.agg #[.string e.g, .int .i64 e.t, v2, v3], .pointer (some ⟨b, 0, none⟩), .pointer (some ⟨b', 0, none⟩)] w fun x w' => x = .returned (.bool (hits ow nn e)) ∧ Below w.heap.size w w' := by
  unfold hits
  by_cases h : (e.g.toList == ow.toList) = true
  · go_enter Try.func14, Try.ntmps14
    go_wp2
    go_ret
    exact ⟨by simp [h], (Below.refl _ _).alloc (Nat.le_refl _) _⟩
  · have h' : (e.g.toList == ow.toList) = false := by simpa using h
    clear h
    go_enter Try.func14, Try.ntmps14
    go_wp2
    go_ret
    exact ⟨by simp [h'], (Below.refl _ _).alloc (Nat.le_refl _) _⟩

set_option maxHeartbeats 400000 in
/-- IndexFunc over the closure of Tranche -/
theorem index14 (pr : Ent → Bool) (c c' : Nat) (T n : Nat) (es : Nat → Ent) (tv : Nat → Option Addr) (w : World) (hn : n ≤ 65536) (hT : T < w.heap.size)
    (hE : ∀ i, i < n → AtAt w T (i * 4) (es i) (tv i))
    (hcl : ∀ (e : Ent) (a : Option Addr) (W : World), Below w.heap.size w W → Calls Try.prog 14 #[.agg #[.string e.g, .int .i64 e.t, .int .i64 e.y, .slice a e.k.toNat e.k.toNat], .pointer (some ⟨c, 0, none⟩), .pointer (some ⟨c', 0, none⟩)] W fun x W' => x = .returned (.bool (pr e)) ∧ Below W.heap.size W W') :
    Calls Try.prog 13 #[.slice (some ⟨T, 0, none⟩) n n, .func (.func 14) #[] #[.pointer (some ⟨c, 0, none⟩), .pointer (some ⟨c', 0, none⟩)]] w (IdxPost pr es n w) := by
  go_enter Try.func13, Try.ntmps13
  go_wp2
  go_loopw [5, 8] (fun _ i wr => ∃ k : Nat, k ≤ n ∧ i = .int .i64 k ∧ (∀ j, j < k → pr (es j) = false) ∧ Below w.heap.size w wr) (fun _ i _ => n - (intOf i).toNat)
  case atStart => exact ⟨0, Nat.zero_le _, rfl, fun j hj => absurd hj (Nat.not_lt_zero _), Below.refl _ _⟩
  case round =>
    obtain ⟨k, hk, rfl, hno, hbel⟩ := hrel
    have HN : Hid _ := hno
    clear hno
    by_cases hlt : k < n
    · obtain ⟨c0, c1, c2, c3⟩ := (hE k hlt).below hbel hT
      have hc := hcl (es k) (tv k) wr hbel
      have hs := hbel.size
      cases hq : pr (es k) with
      | true =>
        have HQ : Hid _ := hq
        rw [hq] at hc
        clear hq
        go_wp2_with (go_at_call 14; refine hc.mono ?_; rintro e w' ⟨rfl, hb'⟩)
        go_ret
        exact ⟨_, rfl, .inr ⟨k, rfl, hlt, HQ.out, HN.out⟩, hbel.trans (Below.mono (by assumption) hs)⟩
      | false =>
        have HQ : Hid _ := hq
        rw [hq] at hc
        clear hq
        go_wp2_with (go_at_call 14; refine hc.mono ?_; rintro e w' ⟨rfl, hb'⟩)
        go_roundw
        case rel =>
          refine ⟨k + 1, by omega, by go_num, fun j hj => ?_, hbel.trans (Below.mono (by assumption) hs)⟩
          by_cases e : j = k
          · subst e; exact HQ.out
          · exact HN.out j (by omega)
        case measure => simp [intOf]; omega
    · go_wp2
      go_ret
      exact ⟨_, rfl, .inl ⟨rfl, fun j hj => HN.out j (by omega)⟩, hbel⟩


/-- where Tranche leads -/
def TrPost (es : Nat → Ent) (n : Nat) (gr : ByteArray) (nn : Int) (T : Nat) (w : World) (e : Ending) (w' : World) : Prop :=
  ∃ ow, OwnerIs es n gr ow ∧ Below w.heap.size w w' ∧
    ((e = .returned (.pointer none) ∧ ∀ j, j < n → hits ow nn (es j) = false) ∨
     ∃ k : Nat, e = .returned (.pointer (some ⟨T, k * 4, none⟩)) ∧ k < n ∧ hits ow nn (es k) = true ∧ ∀ j, j < k → hits ow nn (es j) = false)

set_option maxHeartbeats 1000000 in
theorem tranche_some (es : Nat → Ent) (tv : Nat → Option Addr) (p T n : Nat) (gr : ByteArray) (nn : Int) (w : World) (hn : n ≤ 65536) (hc : w.cell? ⟨p, 2, none⟩ = some (.slice (some ⟨T, 0, none⟩) n n)) (hp : p < w.heap.size) (hT : T < w.heap.size)
    (hE : ∀ i, i < n → AtAt w T (i * 4) (es i) (tv i)) :
    Calls Try.prog 11 #[.pointer (some ⟨p, 0, none⟩), .string gr, .int .i64 nn] w (TrPost es n gr nn T w) := by
  have hb0 : Below w.heap.size w (w.alloc (.cells #[.int .i64 nn] 3)) := (Below.refl _ _).alloc (Nat.le_refl _) _
  have ho := owner_some es tv p T n gr (w.alloc (.cells #[.int .i64 nn] 3)) hn ((hb0.cell (by exact hp)).trans hc) (by simp; omega) (by simp; omega) (fun i hi => (hE i hi).below hb0 hT)
  go_enter Try.func11, Try.ntmps11
  go_wp2_with fail
  refine ho.mono ?_
  rintro e w1 ⟨ow, rfl, how, hb1⟩
  have HO : Hid _ := how
  clear how ho
  have hb01 : Below w.heap.size w w1 := hb0.trans (hb1.mono (by simp))
  have hs1 := hb1.size
  have hs1' : w.heap.size < w1.heap.size := by simp at hs1; omega
  have hn1 : w1.cell? ⟨w.heap.size, 0, none⟩ = some (.int .i64 nn) := by rw [hb1.cell (by simp)]; simp
  have hc1 : w1.cell? ⟨p, 2, none⟩ = some (.slice (some ⟨T, 0, none⟩) n n) := (hb01.cell (by exact hp)).trans hc
  have hpw : p < w1.heap.size := by omega
  clear hs1
  go_wp2_with fail
  have hb2 : Below w1.heap.size w1 (w1.alloc (.cells #[.string ow] 9)) := (Below.refl _ _).alloc (Nat.le_refl _) _
  have hb02 : Below w.heap.size w (w1.alloc (.cells #[.string ow] 9)) := hb01.trans (hb2.mono (by omega))
  have hn2 : (w1.alloc (.cells #[.string ow] 9)).cell? ⟨w.heap.size, 0, none⟩ = some (.int .i64 nn) := (hb2.cell (by exact hs1')).trans hn1
  refine (index14 (hits ow nn) w1.heap.size w.heap.size T n es tv _ hn (by simp; omega) (fun i hi => (hE i hi).below hb02 hT) ?hcl).mono ?_
  case hcl =>
    intro e a W hW
    have hsW := hW.size
    simp at hsW
    exact tranche1_any _ _ e ow nn w1.heap.size w.heap.size W ((hW.cell (by simp)).trans (by simp)) ((hW.cell (by simp; omega)).trans hn2) (by omega) (by omega)
  rintro e w3 ⟨i, rfl, hidx, hb3⟩
  have hb03 : Below w.heap.size w w3 := hb02.trans (hb3.mono (by simp; omega))
  have hc3 : w3.cell? ⟨p, 2, none⟩ = some (.slice (some ⟨T, 0, none⟩) n n) := (hb03.cell (by exact hp)).trans hc
  rcases hidx with ⟨rfl, hno⟩ | ⟨k, rfl, hk, hpr, hf⟩
  · have HN : Hid _ := hno
    clear hno
    go_wp2
    go_ret
    exact ⟨ow, HO.out, hb03, .inl ⟨rfl, HN.out⟩⟩
  · have HN : Hid _ := hf
    have HP : Hid _ := hpr
    have hkz : (k : Int) < (n : Int) := by omega
    clear hf hpr
    go_wp2
    go_ret
    exact ⟨ow, HO.out, hb03, .inr ⟨k, rfl, hk, HP.out, HN.out⟩⟩

set_option maxHeartbeats 1000000 in
theorem tranche_nil (es : Nat → Ent) (p T : Nat) (gr : ByteArray) (nn : Int) (w : World) (hc : w.cell? ⟨p, 2, none⟩ = some (.slice none 0 0)) (hp : p < w.heap.size) :
    Calls Try.prog 11 #[.pointer (some ⟨p, 0, none⟩), .string gr, .int .i64 nn] w (TrPost es 0 gr nn T w) := by
  have hb0 : Below w.heap.size w (w.alloc (.cells #[.int .i64 nn] 3)) := (Below.refl _ _).alloc (Nat.le_refl _) _
  have ho := owner_nil es p gr (w.alloc (.cells #[.int .i64 nn] 3)) ((hb0.cell (by exact hp)).trans hc) (by simp; omega)
  go_enter Try.func11, Try.ntmps11
  go_wp2_with fail
  refine ho.mono ?_
  rintro e w1 ⟨ow, rfl, how, hb1⟩
  have HO : Hid _ := how
  clear how ho
  have hb01 : Below w.heap.size w w1 := hb0.trans (hb1.mono (by simp))
  have hs1 := hb1.size
  have hs1' : w.heap.size < w1.heap.size := by simp at hs1; omega
  have hc1 : w1.cell? ⟨p, 2, none⟩ = some (.slice none 0 0) := (hb01.cell (by exact hp)).trans hc
  have hpw : p < w1.heap.size := by omega
  clear hs1
  go_wp2_with fail
  have hb2 : Below w1.heap.size w1 (w1.alloc (.cells #[.string ow] 9)) := (Below.refl _ _).alloc (Nat.le_refl _) _
  have hb02 : Below w.heap.size w (w1.alloc (.cells #[.string ow] 9)) := hb01.trans (hb2.mono (by omega))
  refine (index_nil _ (hits ow nn) es _).mono ?_
  rintro e w3 ⟨i, rfl, hidx, hb3⟩
  have hb03 : Below w.heap.size w w3 := hb02.trans (hb3.mono (by simp; omega))
  rcases hidx with ⟨rfl, hno⟩ | ⟨k, rfl, hk, hpr, hf⟩
  · have HN : Hid _ := hno
    clear hno
    go_wp2
    go_ret
    exact ⟨ow, HO.out, hb03, .inl ⟨rfl, HN.out⟩⟩
  · exact absurd hk (Nat.not_lt_zero _)
end Go.Proofs.Qxb6604387a
