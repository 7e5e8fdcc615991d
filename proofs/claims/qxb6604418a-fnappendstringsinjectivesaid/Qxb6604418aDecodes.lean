import Derived.Test.Qxb6604418aDec
namespace Go.Proofs.Qxb6604418a
open Go.RowKit

/-- some bool was handed back -/
def BoolRet (e : Ending) : Prop := ∃ r : Bool, e = .returned (.bool r)
theorem BoolRet.mk (r : Bool) : BoolRet (.returned (.bool r)) := ⟨r, rfl⟩
/-- what the law says at its end -/
def LawPost (w : World) (e : Ending) (w' : World) : Prop := e = .returned (.bool true) ∧ Below w.heap.size w w'

set_option maxHeartbeats 1000000 in
theorem bytes12_any (ab : Option Addr) (nb cb : Nat) (al : Option Addr) (n c : Nat) (ss : Nat → ByteArray) (w : World) (hb : nb ≤ maxLen) (hn : n ≤ maxLen) (hs : ∀ i, i < n → (ss i).size ≤ maxLen) (h : Strs w w.heap.size al n ss) :
    Calls Try.prog 12 #[.slice ab nb cb, .slice al n c] w fun e w' => BoolRet e ∧ w' = w := by
  unfold maxLen at hb hn hs
  go_enter Try.func12, Try.ntmps12
  go_wp2
  all_goals first | (go_ret; exact ⟨BoolRet.mk _, rfl⟩) | skip
  go_loop [5, 6] (fun z i => ∃ k : Nat, k ≤ n ∧ i = .int .i64 k ∧ ∃ x : Int, 0 ≤ x ∧ x ≤ 1048576 ∧ z = .int .i64 x) (fun _ i => n - (intOf i).toNat)
  case atStart => exact ⟨0, Nat.zero_le _, rfl, _, by omega, by omega, rfl⟩
  case round =>
    obtain ⟨k, hk, rfl, x, hx0, hx1, rfl⟩ := hrel
    by_cases hlt : k < n
    · have hsk := hs k hlt
      rcases h with h | ⟨b, off, rfl, hbB, hc⟩
      · omega
      · have c0 := hc k hlt
        go_wp2
        · go_ret; exact ⟨BoolRet.mk _, rfl⟩
        · go_ret; exact ⟨BoolRet.mk _, rfl⟩
        · go_round
          case rel => exact ⟨k + 1, by omega, by go_num, _, by omega, by omega, rfl⟩
          case measure => simp [intOf]; omega
    · go_wp2
      all_goals (go_ret; exact ⟨BoolRet.mk _, rfl⟩)

theorem Has.pos {w : World} {B : Nat} {v : Value} {l : List UInt8} (h : Has w B v l) (hl : 0 < l.length) : ∃ g c, v = .slice (some ⟨g, 0, none⟩) l.length c ∧ B ≤ g ∧ g < w.heap.size := by
  rcases h.2 with ⟨hv, h0⟩ | ⟨g, cap, cur, hv, hB, hg, _⟩
  · omega
  · refine ⟨g, cap, hv, hB, ?_⟩
    rcases Nat.lt_or_ge g w.heap.size with h | h
    · exact h
    · rw [Array.getElem?_eq_none h] at hg; cases hg

def CloneNPost (w : World) (n : Nat) (l : List UInt8) (e : Ending) (w' : World) : Prop :=
  ∃ a c, e = .returned (.slice a n c) ∧ Has w' w.heap.size (.slice a n c) l ∧ Below w.heap.size w w'
theorem cloneB_n (a : Option Addr) (n c : Nat) (l : List UInt8) (w : World) (h : BytesAt w a n c l) (hn : n ≤ 1048576) : Calls Try.prog 13 #[.slice a n c] w (CloneNPost w n l) := by
  refine (cloneB_any a n c l w h hn).mono ?_
  rintro e w' ⟨a', c', he, h1, h2⟩
  rw [h.1] at he h1
  exact ⟨a', c', he, h1, h2⟩

theorem encTo_more (ss : Nat → ByteArray) (i : Nat) : ∀ m, ∃ r, encTo ss (i + m) = encTo ss i ++ r
  | 0 => ⟨[], by simp⟩
  | m + 1 => by
    obtain ⟨r, hr⟩ := encTo_more ss i m
    exact ⟨r ++ encS (ss (i + m)), by rw [← Nat.add_assoc, encTo_succ, hr, List.append_assoc]⟩

/-- field k stands where the first k fields end -/
theorem field_at (zb : List UInt8) (ss : Nat → ByteArray) (n k : Nat) (hk : k < n) : At (zb ++ encL ss n) (zb.length + (Lib.uvarint n).length + (encTo ss k).length) (encS (ss k)) := by
  obtain ⟨r, hr⟩ := encTo_more ss (k + 1) (n - (k + 1))
  rw [show k + 1 + (n - (k + 1)) = n by omega, encTo_succ] at hr
  refine ⟨r, ?_⟩
  have e : zb ++ encL ss n = (zb ++ Lib.uvarint n ++ encTo ss k) ++ (encS (ss k) ++ r) := by
    rw [encL, hr]; simp [List.append_assoc]
  have hl : zb.length + (Lib.uvarint n).length + (encTo ss k).length = (zb ++ Lib.uvarint n ++ encTo ss k).length := by rw [List.length_append, List.length_append]
  rw [e, hl, List.drop_left]

theorem count_at (zb : List UInt8) (ss : Nat → ByteArray) (n : Nat) : At (zb ++ encL ss n) zb.length (Lib.uvarint n) :=
  ⟨encTo ss n, by rw [List.drop_left]; rfl⟩

theorem pre_cell {w : World} {g L c : Nat} {O zb r : List UInt8} (hb : BytesAt w (some ⟨g, 0, none⟩) L c O) (hO : O = zb ++ r) {k : Nat} (hk : k < zb.length) : w.cell? ⟨g, k, none⟩ = some (.int .u8 (zb[k].toNat : Int)) := by
  subst hO
  have hk2 : k < (zb ++ r).length := by rw [List.length_append]; omega
  have := hb.cell hk2
  rw [Nat.zero_add, List.getElem_append_left hk] at this
  exact this

theorem encTo_fit (ss : Nat → ByteArray) (n k : Nat) (hk : k < n) : (encTo ss k).length + (encS (ss k)).length ≤ (encTo ss n).length := by
  obtain ⟨r, hr⟩ := encTo_more ss (k + 1) (n - (k + 1))
  rw [show k + 1 + (n - (k + 1)) = n by omega, encTo_succ] at hr
  rw [hr, List.length_append, List.length_append]
  omega

set_option maxRecDepth 100000 in
set_option maxHeartbeats 1000000 in
theorem decodes_walk (ab : Option Addr) (nb cb : Nat) (al : Option Addr) (n c : Nat) (zb : List UInt8) (ss : Nat → ByteArray) (w : World) (hb : nb ≤ maxLen) (hn : n ≤ maxLen) (hs : ∀ i, i < n → (ss i).size ≤ maxLen)
    (hB : BytesAt w ab nb cb zb) (hS : Strs w w.heap.size al n ss) :
    Calls Try.prog 5 #[.slice ab nb cb, .slice al n c] w (LawPost w) := by
  have hbytes := bytes12_any ab nb cb al n c ss w hb hn hs hS
  unfold maxLen at hb hn hs
  go_enter Try.func5, Try.ntmps5
  go_wp2_with fail
  refine hbytes.mono ?_
  rintro e w' ⟨⟨r, rfl⟩, hw⟩
  subst w'
  clear hbytes
  cases r with
  | false =>
    go_wp2
    go_ret
    exact ⟨rfl, Below.refl _ _⟩
  | true =>
    go_wp2
    all_goals first | (go_ret; exact ⟨rfl, Below.refl _ _⟩) | skip
    have hn' : n ≤ 65536 := by omega
    have hb' : nb ≤ 1048576 := by omega
    go_loop [5, 6] (fun z i => ∃ k : Nat, k ≤ n ∧ i = .int .i64 k ∧ (∃ x : Int, 0 ≤ x ∧ x ≤ 1048576 ∧ z = .int .i64 x) ∧ Hid (∀ j, j < k → (ss j).size ≤ 1048576)) (fun _ i => n - (intOf i).toNat)
    case atStart => exact ⟨0, Nat.zero_le _, rfl, ⟨_, by omega, by omega, rfl⟩, fun j hj => absurd hj (Nat.not_lt_zero _)⟩
    case round =>
      obtain ⟨k, hkn, rfl, ⟨x, hx0, hx1, rfl⟩, HD⟩ := hrel
      by_cases hlt : k < n
      · have hsk := hs k hlt
        rcases hS with h | ⟨b, off, rfl, hbB, hc⟩
        · omega
        · have c0 := hc k hlt
          go_wp2
          · go_ret; exact ⟨rfl, Below.refl _ _⟩
          · go_ret; exact ⟨rfl, Below.refl _ _⟩
          · go_round
            case rel =>
              refine ⟨k + 1, by omega, by go_num, ⟨_, by omega, by omega, rfl⟩, fun j hj => ?_⟩
              by_cases e : j = k
              · subst e; omega
              · exact HD.out j (by omega)
            case measure => simp [intOf]; omega
      · have hd : ∀ j, j < n → (ss j).size ≤ 1048576 := fun j hj => HD.out j (by omega)
        clear HD hs
        go_wp2_with fail
        refine (cloneB_n ab nb cb zb w hB hb').mono ?_
        rintro e w1 ⟨a1, c1, rfl, h1, hb1⟩
        have hs1 := hb1.size
        go_wp2_with fail
        refine (cloneS_any al n c ss w1 (by omega) ?_).mono ?_
        · rcases hS with h | ⟨b, off, rfl, hbB, hc⟩
          · exact .inl h
          · exact .inr ⟨b, off, rfl, by omega, fun i hi => (hb1.cell (p := ⟨b, off + i, none⟩) hbB).trans (hc i hi)⟩
        rintro e w2 ⟨a2, c2, rfl, h2, hb2⟩
        have hs2 := hb2.size
        have hzl : zb.length = nb := hB.1
        have HZ : Hid _ := hzl
        clear hS hB hzl
        go_wp2_with fail
        refine (cloneB_n a1 nb c1 zb w2 (h1.below hb2).bytes hb').mono ?_
        rintro e w3 ⟨a3, c3, rfl, h3, hb3⟩
        have hs3 := hb3.size
        go_wp2_with fail
        refine (appendStrings_any w2.heap.size zb a2 n c2 ss (.slice a3 nb c3) w3 h3 (by omega) (by rw [HZ.out]; omega) (by omega) hd (h2.below hb3 (Nat.le_refl _))).mono ?_
        rintro e w4 ⟨v, rfl, h4, hb4⟩
        have hb24 := hb3.trans hb4
        have h1' := (h1.below hb2).below hb24
        have h2' := h2.below hb24 (Nat.le_refl _)
        have hs4 := hb4.size
        have hB4 : Below w.heap.size w w4 := (hb1.trans (hb2.mono (by omega))).trans (hb24.mono (by omega))
        obtain ⟨O, hO⟩ : ∃ O, O = zb ++ encL ss n := ⟨_, rfl⟩
        rw [← hO] at h4
        have hup := Lib.uvarint_pos n
        have hul := Lib.uvarint_length 2 n (by omega)
        have hel := encTo_length ss n hd n (Nat.le_refl _)
        have hOl : O.length = nb + (Lib.uvarint n).length + (encTo ss n).length := by rw [hO, encL, List.length_append, List.length_append, HZ.out]; omega
        obtain ⟨L, hL⟩ : ∃ L, L = O.length := ⟨_, rfl⟩
        obtain ⟨g, c4, hv, hgB, hgl⟩ := h4.pos (by omega)
        rw [← hL] at hv
        subst hv
        have bO := h4.bytes
        have hLn : nb ≤ L := by omega
        have hLb : L ≤ 4398046511104 := by omega
        have HL : Hid (L = nb + (Lib.uvarint n).length + (encTo ss n).length) := by show _ = _; omega
        have HO : Hid _ := hO
        have cnt := dec_any g L c4 nb n O
        clear hO hOl hL hel h1 h2 h3 h4 hb24
        have hLn' : ¬ (L : Int) < (nb : Int) := by omega
        have hLn2 : ¬ L < nb := by omega
        go_wp2
        go_loopw [8] (fun z wr => ∃ k : Nat, k ≤ nb ∧ z = .int .i64 k ∧ ∃ q, wr = w4.drewN q) (fun z _ => nb - (intOf z).toNat)
        case atStart => exact ⟨0, Nat.zero_le _, rfl, 0, rfl⟩
        case round =>
          obtain ⟨k, hk, rfl, q, rfl⟩ := hrel
          by_cases hltk : k < nb
          · have hkz : k < zb.length := by rw [HZ.out]; exact hltk
            obtain ⟨g1, c1', hv1, _, hgl1⟩ := h1'.pos (by omega)
            simp only [Value.slice.injEq] at hv1
            obtain ⟨ha1, _, _⟩ := hv1
            subst ha1
            have d1 := h1'.bytes.cell hkz
            have d2 := pre_cell bO HO.out hkz
            rw [Nat.zero_add] at d1
            obtain ⟨x8, hx8⟩ : ∃ x8, x8 = ((zb[k]'hkz).toNat : Int) := ⟨_, rfl⟩
            rw [← hx8] at d1 d2
            clear hx8 hkz
            have z1 : (k : Int) < (nb : Int) := by omega
            have z2 : (k : Int) < (L : Int) := by omega
            go_wp2
            go_quiet (fail)
            go_wp2
            go_roundw
            case rel => exact ⟨k + 1, by omega, by go_num, _, rfl⟩
            case measure => simp [intOf]; omega
          · have bq : BytesAt (w4.drewN q) (some ⟨g, 0, none⟩) L c4 O := bO.below (below_drewN (Below.refl _ _) q)
            have hat : At O nb (Lib.uvarint n) := by have := count_at zb ss n; rw [HZ.out, ← HO.out] at this; exact this
            go_wp2_with fail
            refine (cnt (w4.drewN q) hLb (by omega) bq hat).mono ?_
            rintro e w' ⟨rfl, hw⟩
            subst w'
            go_wp2
            go_loopw [10, 12] (fun z i wr => ∃ k : Nat, k ≤ n ∧ i = .int .i64 k ∧ (∃ p : Nat, z = .int .i64 p ∧ Hid (p = nb + (Lib.uvarint n).length + (encTo ss k).length)) ∧ ∃ q, wr = w4.drewN q) (fun _ i _ => n - (intOf i).toNat)
            case atStart => exact ⟨0, Nat.zero_le _, rfl, ⟨_, rfl, by show _ = _; simp [encTo]⟩, _, rfl⟩
            case round =>
              obtain ⟨k, hk, rfl, ⟨p, rfl, HP⟩, q, rfl⟩ := hrel
              by_cases hlt2 : k < n
              · rcases h2' with h | ⟨b, off, rfl, hbB, hc⟩
                · omega
                · have c0 := hc k hlt2
                  have hkd := hd k hlt2
                  have bq : BytesAt (w4.drewN q) (some ⟨g, 0, none⟩) L c4 O := bO.below (below_drewN (Below.refl _ _) q)
                  have hfa := field_at zb ss n k hlt2
                  rw [HZ.out, ← HO.out, ← HP.out] at hfa
                  unfold encS at hfa
                  have hsl : (ss k).data.toList.length = (ss k).size := Array.length_toList
                  have hkl := encTo_fit ss n k hlt2
                  have hle := HL.out
                  have hpe := HP.out
                  have hes : (encS (ss k)).length = (Lib.uvarint (ss k).size).length + (ss k).size := by rw [encS, List.length_append, hsl]
                  obtain ⟨nx, hnx⟩ : ∃ nx, nx = p + (Lib.uvarint (ss k).size).length := ⟨_, rfl⟩
                  have hnL : nx + (ss k).size ≤ L := by omega
                  have C1 := dec_any g L c4 p (ss k).size O (w4.drewN q) hLb hkd bq hfa.head
                  rw [← hnx] at C1
                  have C2 := hasAt_any g L c4 nx (ss k) O (w4.drewN q) hLb (by omega) hkd bq (by rw [hnx]; exact hfa.next)
                  have HE : Hid (nx + (ss k).size = nb + (Lib.uvarint n).length + (encTo ss (k + 1)).length) := by
                    show _ = _
                    rw [encTo_succ, List.length_append, hes]
                    omega
                  have hp2 : p ≤ L := by omega
                  clear hle hpe hes hnx hfa hsl hkl bq
                  go_wp2_with fail
                  refine C1.mono ?_
                  rintro e w' ⟨rfl, hw⟩
                  subst w'
                  go_wp2_with fail
                  refine C2.mono ?_
                  rintro e w' ⟨rfl, q2, hw⟩
                  subst w'
                  go_wp2
                  go_roundw
                  case rel => exact ⟨k + 1, by omega, by go_num, ⟨nx + (ss k).size, by go_num, HE⟩, _, rfl⟩
                  case measure => simp [intOf]; omega
              · have hkn : k = n := by omega
                have hpL : ((p : Int) == (L : Int)) = true := by
                  have h1 := HP.out
                  have h2 := HL.out
                  rw [hkn] at h1
                  rw [beq_iff_eq]
                  omega
                clear hkn
                go_wp2
                go_ret
                exact ⟨rfl, below_drewN hB4 _⟩
end Go.Proofs.Qxb6604418a
