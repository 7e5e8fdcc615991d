import Derived.Test.Qxb6604387aRows
import Derived.WalkKit
import Derived.WalkSpells
import Derived.WalkLawsBesides
namespace Go.Proofs.Qxb6604387a
open Go.RowKit

/-- one entry as the law is handed it -/
structure Ent where
  g : ByteArray
  t : Int
  y : Int
  k : Int

/-- entry 'e' lies at offset 'o' of block 'b' -/
def EntAt (w : World) (b o : Nat) (e : Ent) : Prop :=
  w.cell? ⟨b, o, none⟩ = some (.string e.g) ∧ w.cell? ⟨b, o + 1, none⟩ = some (.int .i64 e.t) ∧ w.cell? ⟨b, o + 2, none⟩ = some (.int .i64 e.y) ∧ w.cell? ⟨b, o + 3, none⟩ = some (.int .i64 e.k)

/-- some bool was handed back -/
def BoolRet (e : Ending) : Prop := ∃ r : Bool, e = .returned (.bool r)
theorem BoolRet.mk (r : Bool) : BoolRet (.returned (.bool r)) := ⟨r, rfl⟩

set_option maxHeartbeats 400000 in
theorem bytes5_some (m : ByteArray) (ay : Option Addr) (ny cy : Nat) (b off n c : Nat) (es : Nat → Ent) (g : ByteArray) (w : World)
    (hm : m.size ≤ maxLen) (hg : g.size ≤ maxLen) (hny : ny ≤ maxLen) (hn : n ≤ maxLen) (hs : ∀ i, i < n → (es i).g.size ≤ maxLen)
    (hE : ∀ i, i < n → EntAt w b (off + i * 4) (es i)) :
    Calls Try.prog 5 #[.string m, .slice ay ny cy, .slice (some ⟨b, off, none⟩) n c, .string g] w fun e w' => BoolRet e ∧ w' = w := by
  unfold maxLen at hm hg hny hn hs
  go_enter Try.func5, Try.ntmps5
  go_wp2
  all_goals first | (go_ret; exact ⟨BoolRet.mk _, rfl⟩) | skip
  go_loop [9, 10] (fun z i => ∃ k : Nat, k ≤ n ∧ i = .int .i64 k ∧ ∃ x : Int, 0 ≤ x ∧ x ≤ 1048576 ∧ z = .int .i64 x) (fun _ i => n - (intOf i).toNat)
  case atStart => exact ⟨0, Nat.zero_le _, rfl, _, by omega, by omega, rfl⟩
  case round =>
    obtain ⟨k, hk, rfl, x, hx0, hx1, rfl⟩ := hrel
    by_cases hlt : k < n
    · have hsk := hs k hlt
      obtain ⟨c0, c1, c2, c3⟩ := hE k hlt
      go_wp2
      · go_ret; exact ⟨BoolRet.mk _, rfl⟩
      · go_ret; exact ⟨BoolRet.mk _, rfl⟩
      · go_round
        case rel => exact ⟨k + 1, by omega, by go_num, _, by omega, by omega, rfl⟩
        case measure => simp [intOf]; omega
    · go_wp2
      all_goals (go_ret; exact ⟨BoolRet.mk _, rfl⟩)

set_option maxHeartbeats 400000 in
theorem bytes5_none (m : ByteArray) (ay ae : Option Addr) (ny cy c : Nat) (g : ByteArray) (w : World)
    (hm : m.size ≤ maxLen) (hg : g.size ≤ maxLen) (hny : ny ≤ maxLen) :
    Calls Try.prog 5 #[.string m, .slice ay ny cy, .slice ae 0 c, .string g] w fun e w' => BoolRet e ∧ w' = w := by
  unfold maxLen at hm hg hny
  go_enter Try.func5, Try.ntmps5
  go_wp2
  all_goals first | (go_ret; exact ⟨BoolRet.mk _, rfl⟩) | skip
  refine wp_loop_rounds 1 ?_
  rw [rounds_succ]
  go_wp2
  all_goals (go_ret; exact ⟨BoolRet.mk _, rfl⟩)
end Go.Proofs.Qxb6604387a
