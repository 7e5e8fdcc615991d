import Derived.Test.Qxb6604387aTranches
namespace Go.Proofs.Qxb6604387a
open Go.RowKit

/-- what the law says at its end -/
def LawPost (w : World) (e : Ending) (w' : World) : Prop := e = .returned (.bool true) ∧ Below w.heap.size w w'

theorem EntAt.below {w w' : World} {B b o : Nat} {e : Ent} (h : EntAt w b o e) (hb : Below B w w') (hlt : b < B) : EntAt w' b o e := by
  obtain ⟨c0, c1, c2, c3⟩ := h
  rw [← hb.cell (p := ⟨b, _, none⟩) hlt] at c0 c1 c2 c3
  exact ⟨c0, c1, c2, c3⟩

theorem Assessed.below {w w' : World} {m : ByteArray} {ay : Option Addr} {ny cy n : Nat} {es : Nat → Ent} {p T : Nat} {tv : Nat → Option Addr} (h : Assessed w m ay ny cy n es p T tv) (hb : Below w.heap.size w w') :
    Assessed w' m ay ny cy n es p T tv :=
  ⟨fun i hi => ⟨(h.rows i hi).1, (h.rows i hi).2.below hb h.hT⟩, (hb.cell (p := ⟨p, 0, none⟩) h.hp).trans h.c0, (hb.cell (p := ⟨p, 1, none⟩) h.hp).trans h.c1, (hb.cell (p := ⟨p, 2, none⟩) h.hp).trans h.c2,
    Nat.lt_of_lt_of_le h.hT hb.size, Nat.lt_of_lt_of_le h.hp hb.size⟩

def ints (l : List Nat) : List Value := l.map fun (i : Nat) => Value.int .i64 (i : Int)

/-- the two piles, of the first 'ko' and the first 'ks' entries -/
structure Two (W wr : World) (es : Nat → Ent) (gr : ByteArray) (ko ks : Nat) (vo vs : Value) : Prop where
  o : wr.ownsRow W.heap.size 3 1 vo (sel es gr ko).length (ints (sel es gr ko))
  s : wr.ownsRow W.heap.size 3 1 vs (sel es ⟨#[]⟩ ks).length (ints (sel es ⟨#[]⟩ ks))
  on : sel es gr ko = [] → vo = .slice none 0 0
  sn : sel es ⟨#[]⟩ ks = [] → vs = .slice none 0 0
  ap : ∀ j, vo.ownBlock = some j → vs.ownBlock ≠ some j
  bel : Below W.heap.size W wr

theorem two_start (W : World) (es : Nat → Ent) (gr : ByteArray) : Two W W es gr 0 0 (.slice none 0 0) (.slice none 0 0) :=
  ⟨World.ownsRow_nil _ _ _ _, World.ownsRow_nil _ _ _ _, fun _ => rfl, fun _ => rfl, fun j h => by simp [Value.ownBlock] at h, Below.refl _ _⟩

theorem two_own_miss {W wr : World} {es : Nat → Ent} {gr : ByteArray} {ko ks : Nat} {vo vs : Value} (h : Two W wr es gr ko ks vo vs) (hq : named gr (es ko) = false) : Two W wr es gr (ko + 1) ks vo vs := by
  obtain ⟨o, s, on, sn, ap, bel⟩ := h
  refine ⟨?_, s, ?_, sn, ap, bel⟩ <;> rw [sel_miss _ _ _ hq] <;> assumption

theorem two_sh_miss {W wr : World} {es : Nat → Ent} {gr : ByteArray} {ko ks : Nat} {vo vs : Value} (h : Two W wr es gr ko ks vo vs) (hq : named ⟨#[]⟩ (es ks) = false) : Two W wr es gr ko (ks + 1) vo vs := by
  obtain ⟨o, s, on, sn, ap, bel⟩ := h
  refine ⟨o, ?_, on, ?_, ap, bel⟩ <;> rw [sel_miss _ _ _ hq] <;> assumption

theorem two_own_hit {W wr w1 : World} {es : Nat → Ent} {gr : ByteArray} {ko ks : Nat} {vo vs : Value} (h : Two W wr es gr ko ks vo vs) (hq : named gr (es ko) = true) {O : Obj} {g cap : Nat}
    (hown : w1.ownsRow W.heap.size 3 1 (.slice (some ⟨g, 0, none⟩) ((sel es gr ko).length + 1) cap) ((sel es gr ko).length + 1) (ints (sel es gr ko) ++ [.int .i64 (ko : Int)]))
    (hgrow : (wr.alloc O).grownBy w1 vo.ownBlock) (hat : vo.ownBlock = some g ∨ g = wr.heap.size + 1) :
    Two W w1 es gr (ko + 1) ks (.slice (some ⟨g, 0, none⟩) ((sel es gr ko).length + 1) cap) vs := by
  obtain ⟨o, s, on, sn, ap, bel⟩ := h
  have hs := bel.size
  have hap : vs.ownBlock = none ∨ vs.ownBlock ≠ vo.ownBlock := by
    cases hv : vs.ownBlock with
    | none => exact .inl rfl
    | some j => exact .inr fun e => ap j e.symm hv
  refine ⟨?_, (s.alloc O).kept hgrow hap, ?_, sn, ?_, (bel.alloc hs O).grown hgrow (by simp; omega) (fun j hj => (o.lt j hj).1)⟩
  · rw [sel_hit _ _ _ hq, List.length_append]; simpa [ints] using hown
  · rw [sel_hit _ _ _ hq]; intro h; simp at h
  · intro j hj hv
    simp [Value.ownBlock] at hj
    subst hj
    rcases hat with h1 | rfl
    · exact ap _ h1 hv
    · have := (s.lt _ hv).2; omega

theorem two_sh_hit {W wr w1 : World} {es : Nat → Ent} {gr : ByteArray} {ko ks : Nat} {vo vs : Value} (h : Two W wr es gr ko ks vo vs) (hq : named ⟨#[]⟩ (es ks) = true) {O : Obj} {g cap : Nat}
    (hown : w1.ownsRow W.heap.size 3 1 (.slice (some ⟨g, 0, none⟩) ((sel es ⟨#[]⟩ ks).length + 1) cap) ((sel es ⟨#[]⟩ ks).length + 1) (ints (sel es ⟨#[]⟩ ks) ++ [.int .i64 (ks : Int)]))
    (hgrow : (wr.alloc O).grownBy w1 vs.ownBlock) (hat : vs.ownBlock = some g ∨ g = wr.heap.size + 1) :
    Two W w1 es gr ko (ks + 1) vo (.slice (some ⟨g, 0, none⟩) ((sel es ⟨#[]⟩ ks).length + 1) cap) := by
  obtain ⟨o, s, on, sn, ap, bel⟩ := h
  have hs := bel.size
  have hap : vo.ownBlock = none ∨ vo.ownBlock ≠ vs.ownBlock := by
    cases hv : vo.ownBlock with
    | none => exact .inl rfl
    | some j => exact .inr fun e => ap j hv e.symm
  refine ⟨(o.alloc O).kept hgrow hap, ?_, on, ?_, ?_, (bel.alloc hs O).grown hgrow (by simp; omega) (fun j hj => (s.lt j hj).1)⟩
  · rw [sel_hit _ _ _ hq, List.length_append]; simpa [ints] using hown
  · rw [sel_hit _ _ _ hq]; intro h; simp at h
  · intro j hj hv
    simp [Value.ownBlock] at hv
    subst hv
    rcases hat with h1 | rfl
    · exact ap _ hj h1
    · have := (o.lt _ hj).2; omega

theorem cellsOf_get (es : Nat → Ent) (tv : Nat → Option Addr) (l : List Nat) (k i j : Nat) (h : l[k]? = some i) (hj : j < 4) : (cellsOf es tv l)[k * 4 + j]? = (qc es tv i)[j]? := by
  induction l generalizing k with
  | nil => simp at h
  | cons a r ih =>
    have hl : (qc es tv a).length = 4 := rfl
    cases k with
    | zero =>
      simp at h
      subst h
      simp only [cellsOf, List.flatMap_cons, Nat.zero_mul, Nat.zero_add]
      rw [List.getElem?_append_left (by omega)]
    | succ k =>
      simp at h
      have := ih k h
      simp only [cellsOf, List.flatMap_cons] at this ⊢
      rw [List.getElem?_append_right (by omega), hl, show (k + 1) * 4 + j - 4 = k * 4 + j by omega]
      exact this

/-- the k-th tranche of a row that is owned -/
theorem owned_at {w : World} {base : Nat} {es : Nat → Ent} {tv : Nat → Option Addr} {l : List Nat} {g cap : Nat} (h : w.ownsRow base 35 4 (.slice (some ⟨g, 0, none⟩) l.length cap) l.length (cellsOf es tv l)) {k i : Nat} (hk : l[k]? = some i) :
    AtAt w g (k * 4) (es i) (tv i) := by
  have hlt : k < l.length := (List.getElem?_eq_some_iff.1 hk).1
  have key : ∀ j, j < 4 → w.cell? ⟨g, k * 4 + j, none⟩ = (qc es tv i)[j]? := fun j hj => by
    rw [h.cellAt (k * 4 + j) (by omega), cellsOf_get es tv l k i j hk hj]
  exact ⟨key 0 (by omega), key 1 (by omega), key 2 (by omega), key 3 (by omega)⟩

theorem pile_at {w : World} {base : Nat} {l : List Nat} {g cap : Nat} (h : w.ownsRow base 3 1 (.slice (some ⟨g, 0, none⟩) l.length cap) l.length (ints l)) {k i : Nat} (hk : l[k]? = some i) :
    w.cell? ⟨g, k, none⟩ = some (.int .i64 (i : Int)) := by
  have hlt : k < l.length := (List.getElem?_eq_some_iff.1 hk).1
  rw [h.cellAt k (by omega)]
  simp [ints, hk]

theorem sel_get {es : Nat → Ent} {ow : ByteArray} {n k i : Nat} (h : (sel es ow n)[k]? = some i) : i < n ∧ named ow (es i) = true := by
  have := List.mem_of_getElem? h
  simpa [sel] using this

theorem sel_ne {es : Nat → Ent} {ow : ByteArray} {n j : Nat} (hj : j < n) (h : named ow (es j) = true) : sel es ow n ≠ [] := by
  intro e
  have : j ∈ sel es ow n := by simp [sel, hj, h]
  rw [e] at this
  cases this

theorem sel_nil {es : Nat → Ent} {ow : ByteArray} {n : Nat} (h : ∀ j, j < n → named ow (es j) = false) : sel es ow n = [] := by
  simp [sel]
  intro a ha
  rw [h a ha]
end Go.Proofs.Qxb6604387a
