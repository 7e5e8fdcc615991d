import Derived.Test.Qxb6604387aAssess
namespace Go.Proofs.Qxb6604387a
open Go.RowKit

theorem owner1_any (v1 v2 v3 : Value) (g gr : ByteArray) (b o : Nat) (w : World) (hc : w.cell? ⟨b, o, none⟩ = some (.string gr)) (hb : b < w.heap.size) :
    Calls Try.prog 16 #[.agg #[.string g, v1, v2, v3], .pointer (some ⟨b, o, none⟩)] w fun e w' => e = .returned (.bool (g.toList == gr.toList)) ∧ Below w.heap.size w w' := by
  go_enter Try.func16, Try.ntmps16
  go_wp2
  go_ret
  exact ⟨rfl, (Below.refl _ _).alloc (Nat.le_refl _) _⟩


/-- the first place among the first n at which 'pr' holds, or -1 -/
def IdxIs (pr : Ent → Bool) (es : Nat → Ent) (n : Nat) (i : Int) : Prop :=
  (i = -1 ∧ ∀ j, j < n → pr (es j) = false) ∨ ∃ k : Nat, i = (k : Int) ∧ k < n ∧ pr (es k) = true ∧ ∀ j, j < k → pr (es j) = false

def IdxPost (pr : Ent → Bool) (es : Nat → Ent) (n : Nat) (w : World) (e : Ending) (w' : World) : Prop := ∃ i, e = .returned (.int .i64 i) ∧ IdxIs pr es n i ∧ Below w.heap.size w w'

theorem AtAt.below {w w' : World} {B b o : Nat} {e : Ent} {a : Option Addr} (h : AtAt w b o e a) (hb : Below B w w') (hlt : b < B) : AtAt w' b o e a := by
  obtain ⟨c0, c1, c2, c3⟩ := h
  rw [← hb.cell (p := ⟨b, _, none⟩) hlt] at c0 c1 c2 c3
  exact ⟨c0, c1, c2, c3⟩

set_option maxHeartbeats 400000 in
/-- IndexFunc over the closure of owner -/
theorem index16 (pr : Ent → Bool) (c : Nat) (T n : Nat) (es : Nat → Ent) (tv : Nat → Option Addr) (w : World) (hn : n ≤ 65536) (hT : T < w.heap.size)
    (hE : ∀ i, i < n → AtAt w T (i * 4) (es i) (tv i))
    (hcl : ∀ (e : Ent) (a : Option Addr) (W : World), Below w.heap.size w W → Calls Try.prog 16 #[.agg #[.string e.g, .int .i64 e.t, .int .i64 e.y, .slice a e.k.toNat e.k.toNat], .pointer (some ⟨c, 0, none⟩)] W fun x W' => x = .returned (.bool (pr e)) ∧ Below W.heap.size W W') :
    Calls Try.prog 13 #[.slice (some ⟨T, 0, none⟩) n n, .func (.func 16) #[] #[.pointer (some ⟨c, 0, none⟩)]] w (IdxPost pr es n w) := by
  go_enter Try.func13, Try.ntmps13
  go_wp2
  go_loopw [5, 8] (fun _ i wr => ∃ k : Nat, k ≤ n ∧ i = .int .i64 k ∧ (∀ j, j < k → pr (es j) = false) ∧ Below w.heap.size w wr) (fun _ i _ => n - (intOf i).toNat)
  case atStart => exact ⟨0, Nat.zero_le _, rfl, fun j hj => absurd hj (Nat.not_lt_zero _), Below.refl _ _⟩
  case round =>
    obtain ⟨k, hk, rfl, hno, hbel⟩ := hrel
    have HN : Hid _ := hno
    clear hno
    by_cases hlt : k < n
    · obtain ⟨c0, c1, c2, c3⟩ := (hE k hlt).below hbel hT
      have hc := hcl (es k) (tv k) wr hbel
      have hs := hbel.size
      cases hq : pr (es k) with
      | true =>
        have HQ : Hid _ := hq
        rw [hq] at hc
        clear hq
        go_wp2_with (go_at_call 16; refine hc.mono ?_; rintro e w' ⟨rfl, hb'⟩)
        go_ret
        exact ⟨_, rfl, .inr ⟨k, rfl, hlt, HQ.out, HN.out⟩, hbel.trans (Below.mono (by assumption) hs)⟩
      | false =>
        have HQ : Hid _ := hq
        rw [hq] at hc
        clear hq
        go_wp2_with (go_at_call 16; refine hc.mono ?_; rintro e w' ⟨rfl, hb'⟩)
        go_roundw
        case rel =>
          refine ⟨k + 1, by omega, by go_num, fun j hj => ?_, hbel.trans (Below.mono (by assumption) hs)⟩
          by_cases e : j = k
          · subst e; exact HQ.out
          · exact HN.out j (by omega)
        case measure => simp [intOf]; omega
    · go_wp2
      go_ret
      exact ⟨_, rfl, .inl ⟨rfl, fun j hj => HN.out j (by omega)⟩, hbel⟩

theorem index_nil (fv : Value) (pr : Ent → Bool) (es : Nat → Ent) (w : World) :
    Calls Try.prog 13 #[.slice none 0 0, fv] w (IdxPost pr es 0 w) := by
  go_enter Try.func13, Try.ntmps13
  go_wp2
  refine wp_loop_rounds 1 ?_
  rw [rounds_succ]
  go_wp2
  go_ret
  exact ⟨_, rfl, .inl ⟨rfl, fun j hj => absurd hj (Nat.not_lt_zero _)⟩, Below.refl _ _⟩

def ContPost (pr : Ent → Bool) (es : Nat → Ent) (n : Nat) (w : World) (e : Ending) (w' : World) : Prop :=
  ∃ r : Bool, e = .returned (.bool r) ∧ (r = true ∧ (∃ j, j < n ∧ pr (es j) = true) ∨ r = false ∧ ∀ j, j < n → pr (es j) = false) ∧ Below w.heap.size w w'

theorem cont_of {pr : Ent → Bool} {es : Nat → Ent} {n : Nat} {i : Int} (h : IdxIs pr es n i) :
    decide (0 ≤ i) = true ∧ (∃ j, j < n ∧ pr (es j) = true) ∨ decide (0 ≤ i) = false ∧ ∀ j, j < n → pr (es j) = false := by
  rcases h with ⟨rfl, h⟩ | ⟨k, rfl, hk, hp, _⟩
  · exact .inr ⟨by decide, h⟩
  · exact .inl ⟨decide_eq_true (by omega), k, hk, hp⟩

theorem contains_of {sl fv : Value} (pr : Ent → Bool) (es : Nat → Ent) (n : Nat) (w : World)
    (hi : Calls Try.prog 13 #[sl, fv] w (IdxPost pr es n w)) : Calls Try.prog 15 #[sl, fv] w (ContPost pr es n w) := by
  go_enter Try.func15, Try.ntmps15
  go_wp2_with (go_at_call 13; refine hi.mono ?_; rintro e w' ⟨i, rfl, hidx, hb'⟩)
  go_ret
  exact ⟨_, rfl, cont_of (by assumption), by assumption⟩

/-- the entry bears the name 'gr' -/
def named (gr : ByteArray) (e : Ent) : Bool := e.g.toList == gr.toList

theorem owner1_named (gr : ByteArray) (c : Nat) (w : World) (hc : w.cell? ⟨c, 0, none⟩ = some (.string gr)) (hb : c < w.heap.size) (e : Ent) (a : Option Addr) (W : World) (hbel : Below w.heap.size w W) :
    Calls Try.prog 16 #[.agg #[.string e.g, .int .i64 e.t, .int .i64 e.y, .slice a e.k.toNat e.k.toNat], .pointer (some ⟨c, 0, none⟩)] W fun x W' => x = .returned (.bool (named gr e)) ∧ Below W.heap.size W W' := by
  have hs := hbel.size
  exact owner1_any _ _ _ e.g gr c 0 W ((hbel.cell (by exact hb)).trans hc) (by omega)

/-- whose entries assess the grant 'gr' -/
def OwnerIs (es : Nat → Ent) (n : Nat) (gr ow : ByteArray) : Prop :=
  (ow = gr ∧ ∃ j, j < n ∧ named gr (es j) = true) ∨ (ow = ⟨#[]⟩ ∧ ∀ j, j < n → named gr (es j) = false)
def OwnerPost (es : Nat → Ent) (n : Nat) (gr : ByteArray) (w : World) (e : Ending) (w' : World) : Prop := ∃ ow, e = .returned (.string ow) ∧ OwnerIs es n gr ow ∧ Below w.heap.size w w'

theorem owner_of (sl : Value) (es : Nat → Ent) (p n : Nat) (gr : ByteArray) (w : World) (hc : w.cell? ⟨p, 2, none⟩ = some sl) (hp : p < w.heap.size) (hsl : ∃ a n c, sl = .slice a n c)
    (hi : Calls Try.prog 15 #[sl, .func (.func 16) #[] #[.pointer (some ⟨w.heap.size, 0, none⟩)]] (w.alloc (.cells #[.string gr] 9)) (ContPost (named gr) es n (w.alloc (.cells #[.string gr] 9)))) :
    Calls Try.prog 12 #[.pointer (some ⟨p, 0, none⟩), .string gr] w (OwnerPost es n gr w) := by
  obtain ⟨a, m, c, rfl⟩ := hsl
  go_enter Try.func12, Try.ntmps12
  go_wp2_with fail
  refine hi.mono ?_
  rintro e w1 ⟨r, rfl, hr, hb⟩
  have hcell : w1.cell? ⟨w.heap.size, 0, none⟩ = some (.string gr) := by rw [hb.cell (by simp)]; simp
  have hbel : Below w.heap.size w w1 := ((Below.refl _ _).alloc (Nat.le_refl _) _).trans (hb.mono (by simp))
  rcases hr with ⟨rfl, hr⟩ | ⟨rfl, hr⟩
  · have HR : Hid _ := hr
    clear hr
    go_wp2
    go_ret
    exact ⟨_, rfl, .inl ⟨rfl, HR.out⟩, hbel⟩
  · have HR : Hid _ := hr
    clear hr
    go_wp2
    go_ret
    exact ⟨_, rfl, .inr ⟨rfl, HR.out⟩, hbel⟩

theorem owner_some (es : Nat → Ent) (tv : Nat → Option Addr) (p T n : Nat) (gr : ByteArray) (w : World) (hn : n ≤ 65536) (hc : w.cell? ⟨p, 2, none⟩ = some (.slice (some ⟨T, 0, none⟩) n n)) (hp : p < w.heap.size) (hT : T < w.heap.size)
    (hE : ∀ i, i < n → AtAt w T (i * 4) (es i) (tv i)) :
    Calls Try.prog 12 #[.pointer (some ⟨p, 0, none⟩), .string gr] w (OwnerPost es n gr w) := by
  have hb : Below w.heap.size w (w.alloc (.cells #[.string gr] 9)) := (Below.refl _ _).alloc (Nat.le_refl _) _
  refine owner_of _ es p n gr w hc hp ⟨_, _, _, rfl⟩ (contains_of _ _ _ _ (index16 (named gr) w.heap.size T n es tv _ hn (by simp; omega) (fun i hi => (hE i hi).below hb hT) ?_))
  intro e a W hW
  exact owner1_named gr w.heap.size _ (by simp) (by simp) e a W hW

theorem owner_nil (es : Nat → Ent) (p : Nat) (gr : ByteArray) (w : World) (hc : w.cell? ⟨p, 2, none⟩ = some (.slice none 0 0)) (hp : p < w.heap.size) :
    Calls Try.prog 12 #[.pointer (some ⟨p, 0, none⟩), .string gr] w (OwnerPost es 0 gr w) :=
  owner_of _ es p 0 gr w hc hp ⟨_, _, _, rfl⟩ (contains_of _ _ _ _ (index_nil _ _ _ _))
end Go.Proofs.Qxb6604387a
