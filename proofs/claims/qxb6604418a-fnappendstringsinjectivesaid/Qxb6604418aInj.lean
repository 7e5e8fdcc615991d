import Derived.Test.Qxb6604418aEqual
namespace Go.Proofs.Qxb6604418a
open Go.RowKit

theorem Strs.wide {w : World} {B B' : Nat} {a : Option Addr} {n : Nat} {ss : Nat → ByteArray} (h : Strs w B a n ss) (hB : B ≤ B') : Strs w B' a n ss := by
  rcases h with h | ⟨b, off, rfl, hlt, hc⟩
  · exact .inl h
  · exact .inr ⟨b, off, rfl, by omega, hc⟩

set_option maxRecDepth 100000 in
set_option maxHeartbeats 2000000 in
theorem bytes18_any (ab : Option Addr) (nb cb : Nat) (ax : Option Addr) (n c : Nat) (ay : Option Addr) (m d : Nat) (s t : Nat → ByteArray) (w : World) (hb : nb ≤ maxLen) (hn : n ≤ maxLen) (hm : m ≤ maxLen)
    (hs : ∀ i, i < n → (s i).size ≤ maxLen) (ht : ∀ i, i < m → (t i).size ≤ maxLen) (hx : Strs w w.heap.size ax n s) (hy : Strs w w.heap.size ay m t) :
    Calls Try.prog 18 #[.slice ab nb cb, .slice ax n c, .slice ay m d] w fun e w' => BoolRet e ∧ w' = w := by
  unfold maxLen at hb hn hm hs ht
  go_enter Try.func18, Try.ntmps18
  go_wp2
  all_goals first | (go_ret; exact ⟨BoolRet.mk _, rfl⟩) | skip
  go_loop [7, 8] (fun z i => ∃ k : Nat, k ≤ n ∧ i = .int .i64 k ∧ ∃ x : Int, 0 ≤ x ∧ x ≤ 1048576 ∧ z = .int .i64 x) (fun _ i => n - (intOf i).toNat)
  case atStart => exact ⟨0, Nat.zero_le _, rfl, _, by omega, by omega, rfl⟩
  case round =>
    obtain ⟨k, hk, rfl, x, hx0, hx1, rfl⟩ := hrel
    by_cases hlt : k < n
    · have hsk := hs k hlt
      rcases hx with h | ⟨b, off, rfl, hbB, hc⟩
      · omega
      · have c0 := hc k hlt
        go_wp2
        · go_ret; exact ⟨BoolRet.mk _, rfl⟩
        · go_ret; exact ⟨BoolRet.mk _, rfl⟩
        · go_round
          case rel => exact ⟨k + 1, by omega, by go_num, _, by omega, by omega, rfl⟩
          case measure => simp [intOf]; omega
    · go_wp2
      all_goals first | (go_ret; exact ⟨BoolRet.mk _, rfl⟩) | skip
      go_loop [7, 9] (fun z i => ∃ k : Nat, k ≤ m ∧ i = .int .i64 k ∧ ∃ x : Int, 0 ≤ x ∧ x ≤ 1048576 ∧ z = .int .i64 x) (fun _ i => m - (intOf i).toNat)
      case atStart => exact ⟨0, Nat.zero_le _, rfl, _, by omega, by omega, rfl⟩
      case round =>
        obtain ⟨j, hj, rfl, x', hx0', hx1', rfl⟩ := hrel
        by_cases hlt2 : j < m
        · have hsk := ht j hlt2
          rcases hy with h | ⟨b, off, rfl, hbB, hc⟩
          · omega
          · have c0 := hc j hlt2
            go_wp2
            · go_ret; exact ⟨BoolRet.mk _, rfl⟩
            · go_ret; exact ⟨BoolRet.mk _, rfl⟩
            · go_round
              case rel => exact ⟨j + 1, by omega, by go_num, _, by omega, by omega, rfl⟩
              case measure => simp [intOf]; omega
        · go_wp2
          all_goals (go_ret; exact ⟨BoolRet.mk _, rfl⟩)

/-- what appendStrings hands back, its length under a name of its own -/
def OutPost (w : World) (B L : Nat) (O : List UInt8) (e : Ending) (w' : World) : Prop :=
  ∃ g c, e = .returned (.slice (some ⟨g, 0, none⟩) L c) ∧ Has w' B (.slice (some ⟨g, 0, none⟩) L c) O ∧ Below B w w'

theorem out_any (B L : Nat) (l O : List UInt8) (a : Option Addr) (n c : Nat) (ss : Nat → ByteArray) (sv : Value) (w : World) (hown : Has w B sv l) (hBw : B ≤ w.heap.size) (hl : l.length ≤ 1048576) (hn : n ≤ 1048576)
    (hs : ∀ i, i < n → (ss i).size ≤ 1048576) (h : Strs w B a n ss) (hO : O = l ++ encL ss n) (hL : L = O.length) :
    Calls Try.prog 15 #[sv, .slice a n c] w (OutPost w B L O) := by
  refine (appendStrings_any B l a n c ss sv w hown hBw hl hn hs h).mono ?_
  rintro e w' ⟨v, rfl, h1, h2⟩
  rw [← hO] at h1
  have hup := Lib.uvarint_pos n
  obtain ⟨g, c', hv, _, _⟩ := h1.pos (by rw [hO, encL, List.length_append, List.length_append]; omega)
  rw [← hL] at hv
  subst hv
  exact ⟨g, c', rfl, h1, h2⟩

set_option maxRecDepth 100000 in
set_option maxHeartbeats 2000000 in
theorem inj_walk (ab : Option Addr) (nb cb : Nat) (ax : Option Addr) (n c : Nat) (ay : Option Addr) (m d : Nat) (zb : List UInt8) (s t : Nat → ByteArray) (w : World) (hb : nb ≤ maxLen) (hn : n ≤ maxLen) (hm : m ≤ maxLen)
    (hs : ∀ i, i < n → (s i).size ≤ maxLen) (ht : ∀ i, i < m → (t i).size ≤ maxLen) (hB : BytesAt w ab nb cb zb) (hx : Strs w w.heap.size ax n s) (hy : Strs w w.heap.size ay m t) :
    Calls Try.prog 6 #[.slice ab nb cb, .slice ax n c, .slice ay m d] w (LawPost w) := by
  have hbytes := bytes18_any ab nb cb ax n c ay m d s t w hb hn hm hs ht hx hy
  unfold maxLen at hb hn hm hs ht
  go_enter Try.func6, Try.ntmps6
  go_wp2_with fail
  refine hbytes.mono ?_
  rintro e w' ⟨⟨r, rfl⟩, hw⟩
  subst w'
  clear hbytes
  cases r with
  | false =>
    go_wp2
    go_ret
    exact ⟨rfl, Below.refl _ _⟩
  | true =>
    go_wp2
    all_goals first | (go_ret; exact ⟨rfl, Below.refl _ _⟩) | skip
    have hn' : n ≤ 65536 := by omega
    have hm' : m ≤ 65536 := by omega
    have hb' : nb ≤ 1048576 := by omega
    go_loop [7, 8] (fun z i => ∃ k : Nat, k ≤ n ∧ i = .int .i64 k ∧ (∃ x : Int, 0 ≤ x ∧ x ≤ 1048576 ∧ z = .int .i64 x) ∧ Hid (∀ j, j < k → (s j).size ≤ 1048576)) (fun _ i => n - (intOf i).toNat)
    case atStart => exact ⟨0, Nat.zero_le _, rfl, ⟨_, by omega, by omega, rfl⟩, fun j hj => absurd hj (Nat.not_lt_zero _)⟩
    case round =>
      obtain ⟨k, hkn, rfl, ⟨x, hx0, hx1, rfl⟩, HD⟩ := hrel
      by_cases hlt : k < n
      · have hsk := hs k hlt
        rcases hx with h | ⟨b, off, rfl, hbB, hc⟩
        · omega
        · have c0 := hc k hlt
          go_wp2
          · go_ret; exact ⟨rfl, Below.refl _ _⟩
          · go_ret; exact ⟨rfl, Below.refl _ _⟩
          · go_round
            case rel =>
              refine ⟨k + 1, by omega, by go_num, ⟨_, by omega, by omega, rfl⟩, fun j hj => ?_⟩
              by_cases e : j = k
              · subst e; omega
              · exact HD.out j (by omega)
            case measure => simp [intOf]; omega
      · have hd : ∀ j, j < n → (s j).size ≤ 1048576 := fun j hj => HD.out j (by omega)
        clear HD hs
        go_wp2
        go_loop [7, 9] (fun z i => ∃ k : Nat, k ≤ m ∧ i = .int .i64 k ∧ (∃ x : Int, 0 ≤ x ∧ x ≤ 1048576 ∧ z = .int .i64 x) ∧ Hid (∀ j, j < k → (t j).size ≤ 1048576)) (fun _ i => m - (intOf i).toNat)
        case atStart => exact ⟨0, Nat.zero_le _, rfl, ⟨_, by omega, by omega, rfl⟩, fun j hj => absurd hj (Nat.not_lt_zero _)⟩
        case round =>
          obtain ⟨k2, hkm, rfl, ⟨x2, hx02, hx12, rfl⟩, HD⟩ := hrel
          by_cases hlt2 : k2 < m
          · have hsk := ht k2 hlt2
            rcases hy with h | ⟨b, off, rfl, hbB, hc⟩
            · omega
            · have c0 := hc k2 hlt2
              go_wp2
              · go_ret; exact ⟨rfl, Below.refl _ _⟩
              · go_ret; exact ⟨rfl, Below.refl _ _⟩
              · go_round
                case rel =>
                  refine ⟨k2 + 1, by omega, by go_num, ⟨_, by omega, by omega, rfl⟩, fun j hj => ?_⟩
                  by_cases e : j = k2
                  · subst e; omega
                  · exact HD.out j (by omega)
                case measure => simp [intOf]; omega
          · have hd2 : ∀ j, j < m → (t j).size ≤ 1048576 := fun j hj => HD.out j (by omega)
            clear HD ht
            go_wp2_with fail
            refine (cloneB_n ab nb cb zb w hB hb').mono ?_
            rintro e w1 ⟨a1, c1, rfl, h1, hb1⟩
            have hs1 := hb1.size
            have HZ : Hid _ := hB.1
            clear hB
            go_wp2_with fail
            refine (cloneS_any ax n c s w1 (by omega) (by have := hx.below hb1 (Nat.le_refl _); exact this.wide hs1)).mono ?_
            rintro e w2 ⟨a2, c2, rfl, h2, hb2⟩
            have hs2 := hb2.size
            go_wp2_with fail
            refine (cloneS_any ay m d t w2 (by omega) (by have := (hy.below hb1 (Nat.le_refl _)).below hb2 hs1; exact this.wide (by omega))).mono ?_
            rintro e w3 ⟨a3, c3, rfl, h3, hb3⟩
            have hs3 := hb3.size
            clear hx hy
            go_wp2_with fail
            have h1w := (h1.below hb2).below hb3
            refine (cloneB_n a1 nb c1 zb w3 h1w.bytes hb').mono ?_
            rintro e w4 ⟨a4, c4, rfl, h4, hb4⟩
            have hs4 := hb4.size
            obtain ⟨E1, hE1⟩ : ∃ E1, E1 = (encL s n).length := ⟨_, rfl⟩
            obtain ⟨E2, hE2⟩ : ∃ E2, E2 = (encL t m).length := ⟨_, rfl⟩
            have e1b : E1 ≤ 100000000000 := by
              have h1 := Lib.uvarint_length 2 n (by omega)
              have h2 := encTo_length s n hd n (Nat.le_refl _)
              rw [hE1, encL, List.length_append]; omega
            have e2b : E2 ≤ 100000000000 := by
              have h1 := Lib.uvarint_length 2 m (by omega)
              have h2 := encTo_length t m hd2 m (Nat.le_refl _)
              rw [hE2, encL, List.length_append]; omega
            obtain ⟨O1, hO1⟩ : ∃ O1, O1 = zb ++ encL s n := ⟨_, rfl⟩
            obtain ⟨O2, hO2⟩ : ∃ O2, O2 = zb ++ encL t m := ⟨_, rfl⟩
            obtain ⟨L1, hL1⟩ : ∃ L1, L1 = O1.length := ⟨_, rfl⟩
            obtain ⟨L2, hL2⟩ : ∃ L2, L2 = O2.length := ⟨_, rfl⟩
            have HL1 : Hid (L1 = nb + E1) := by show _ = _; rw [hL1, hO1, List.length_append, hE1, HZ.out]
            have HL2 : Hid (L2 = nb + E2) := by show _ = _; rw [hL2, hO2, List.length_append, hE2, HZ.out]
            have hzl : zb.length ≤ 1048576 := by rw [HZ.out]; exact hb'
            have HIFF : Hid (O1 = O2 ↔ SameList s n t m) := by show _ ↔ _; rw [hO1, hO2]; exact enc_iff zb s t n m
            have F1 := out_any w3.heap.size L1 zb O1 a2 n c2 s (.slice a4 nb c4) w4 h4 (by omega) hzl (by omega) hd (((h2.below hb3 (Nat.le_refl _)).below hb4 hs3).wide hs3) hO1 hL1
            have D1 : ∀ B w, Strs w B a2 n s → Calls Try.prog 21 #[.slice a2 n c2] w fun e w' => e = .returned (.int .i64 (E1 : Nat)) ∧ ∃ q, w' = w.drewN q := fun B w h => by rw [hE1]; exact encSize_any a2 n c2 B s w h (by omega) hd
            have D2 : ∀ B w, Strs w B a3 m t → Calls Try.prog 21 #[.slice a3 m c3] w fun e w' => e = .returned (.int .i64 (E2 : Nat)) ∧ ∃ q, w' = w.drewN q := fun B w h => by rw [hE2]; exact encSize_any a3 m c3 B t w h (by omega) hd2
            have HO2 : Hid _ := hO2
            have HLO2 : Hid _ := hL2
            clear hE1 hE2 hO1 hO2 hL1 hL2
            go_wp2_with fail
            refine F1.mono ?_
            rintro e w5 ⟨g5, c5, rfl, h5, hb5⟩
            have hs5 := hb5.size
            have hb35 := hb4.trans hb5
            go_wp2_with fail
            refine (cloneB_n a1 nb c1 zb w5 (h1w.below hb35).bytes hb').mono ?_
            rintro e w6 ⟨a6, c6, rfl, h6, hb6⟩
            have hs6 := hb6.size
            have F2 := out_any w5.heap.size L2 zb O2 a3 m c3 t (.slice a6 nb c6) w6 h6 (by omega) hzl (by omega) hd2 (((h3.below hb35 (Nat.le_refl _)).below hb6 (by omega)).wide (by omega)) HO2.out HLO2.out
            go_wp2_with fail
            refine F2.mono ?_
            rintro e w7 ⟨g7, c7, rfl, h7, hb7⟩
            have hs7 := hb7.size
            have hb57 := hb6.trans hb7
            have b5 := (h5.below hb57).bytes
            have b7 := h7.bytes
            have Sx := ((h2.below hb3 (Nat.le_refl _)).below hb35 hs3).below hb57 (by omega)
            have Sy := (h3.below hb35 (Nat.le_refl _)).below hb57 (by omega)
            have hB7 : Below w.heap.size w w7 := (((hb1.trans (hb2.mono (by omega))).trans (hb3.mono (by omega))).trans (hb35.mono (by omega))).trans (hb57.mono (by omega))
            have SxQ : ∀ q, Strs (w7.drewN q) w2.heap.size a2 n s := fun q => Sx.below (below_drewN (Below.refl _ _) q) (by omega)
            have SyQ : ∀ q, Strs (w7.drewN q) w3.heap.size a3 m t := fun q => Sy.below (below_drewN (Below.refl _ _) q) (by omega)
            have G1 := bytesEqual_any g5 L1 c5 g7 L2 c7 O1 O2 w7 b5 b7 (by have := HL1.out; omega)
            have k1 : ((L1 : Int) == (nb : Int) + (E1 : Int)) = true := by rw [beq_iff_eq]; have := HL1.out; omega
            have k2 : ((L2 : Int) == (nb : Int) + (E2 : Int)) = true := by rw [beq_iff_eq]; have := HL2.out; omega
            have l1b : L1 ≤ 562949953421312 := by have := HL1.out; omega
            have l2b : L2 ≤ 562949953421312 := by have := HL2.out; omega
            clear F1 F2 h1 h2 h3 h4 h5 h6 h7 b5 b7 Sx Sy h1w hb1 hb2 hb3 hb4 hb5 hb6 hb7 hb35 hb57
            go_wp2_with fail
            refine G1.mono ?_
            rintro e w' ⟨r1, rfl, hr1, q1, hw⟩
            subst w'
            have HR1 : Hid _ := hr1
            clear hr1 G1
            go_wp2_with fail
            refine (listsEqual_any a2 n c2 a3 m c3 w2.heap.size w3.heap.size s t (w7.drewN q1) (SxQ q1) (SyQ q1) (by omega)).mono ?_
            rintro e w' ⟨r2, rfl, hr2, q2, hw⟩
            obtain ⟨q3, e3⟩ := drewN_some w7 q1 q2
            rw [e3] at hw
            subst w'
            have hrr : r1 = r2 := by
              rw [Bool.eq_iff_iff, HR1.out, hr2]
              exact HIFF.out
            subst hrr
            clear hr2 e3
            go_wp2_with fail
            refine (D1 _ _ (SxQ q3)).mono ?_
            rintro e w' ⟨rfl, q4, hw⟩
            obtain ⟨q5, e5⟩ := drewN_some w7 q3 q4
            rw [e5] at hw
            subst w'
            clear e5
            go_wp2_with fail
            refine (D2 _ _ (SyQ q5)).mono ?_
            rintro e w' ⟨rfl, q6, hw⟩
            obtain ⟨q7, e7⟩ := drewN_some w7 q5 q6
            rw [e7] at hw
            subst w'
            clear e7
            go_wp2
            go_ret
            exact ⟨rfl, below_drewN hB7 _⟩
end Go.Proofs.Qxb6604418a
