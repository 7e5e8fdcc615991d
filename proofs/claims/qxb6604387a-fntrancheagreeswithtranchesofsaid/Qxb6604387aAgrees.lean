import Derived.Test.Qxb6604387aFirst
import Derived.WalkSmall
import Derived.Laws.Pointers
namespace Go.Proofs.Qxb6604387a
open Go.RowKit

theorem named_empty (e : Ent) : named ⟨#[]⟩ e = e.g.toList.isEmpty := by
  have h : (ByteArray.mk #[]).toList = [] := by rw [ByteArray.toList, ByteArray.toList.loop]; simp [ByteArray.size]
  simp [named, h]

theorem drewN_some (w : World) (q r : Nat) : ∃ n, (w.drewN q).drewN r = w.drewN n := ⟨q + r, by simp⟩

set_option maxRecDepth 100000 in
set_option maxHeartbeats 4000000 in
theorem agrees_pos (m : ByteArray) (ay : Option Addr) (ny cy : Nat) (b off n c : Nat) (es : Nat → Ent) (gr : ByteArray) (nn : Int) (w : World)
    (hm : m.size ≤ maxLen) (hg : gr.size ≤ maxLen) (hny : ny ≤ maxLen) (hn : n ≤ maxLen) (hs : ∀ i, i < n → (es i).g.size ≤ maxLen)
    (hk : ∀ i, i < n → -9223372036854775808 ≤ (es i).k ∧ (es i).k ≤ 9223372036854775807)
    (hE : ∀ i, i < n → EntAt w b (off + i * 4) (es i)) (hbw : b < w.heap.size)
    (hcopy : ny ≤ 65536 → ∀ W, Below w.heap.size w W → Calls Try.prog 6 #[.slice ay ny cy] W fun e w' => SliceRet e ∧ Below W.heap.size W w') :
    Calls Try.prog 4 #[.string m, .slice ay ny cy, .slice (some ⟨b, off, none⟩) n c, .string gr, .int .i64 nn] w (LawPost w) := by
  have hbytes := bytes10_some m ay ny cy b off n c es gr nn w hm hg hny hn hs hE
  have ppe := pe46
  unfold maxLen at hm hg hny hn hs
  go_enter Try.func4, Try.ntmps4
  go_wp2_with fail
  refine hbytes.mono ?_
  rintro e w' ⟨⟨r, rfl⟩, hw⟩
  subst w'
  clear hbytes
  cases r with
  | false =>
    go_wp2
    go_ret
    exact ⟨rfl, Below.refl _ _⟩
  | true =>
    go_wp2
    all_goals first | (go_ret; exact ⟨rfl, Below.refl _ _⟩) | skip
    have hn' : n ≤ 65536 := by omega
    go_loopw [11, 12] (fun z i wr => ∃ k : Nat, k ≤ n ∧ i = .int .i64 k ∧ (∃ x : Int, 0 ≤ x ∧ x ≤ 3000000 ∧ z = .int .i64 x) ∧ (∀ j, j < k → 0 ≤ (es j).k ∧ (es j).k ≤ 65536) ∧ ∃ q, wr = w.drewN q) (fun _ i _ => n - (intOf i).toNat)
    case atStart => exact ⟨0, Nat.zero_le _, rfl, ⟨_, by omega, by omega, rfl⟩, fun j hj => absurd hj (Nat.not_lt_zero _), 0, rfl⟩
    case round =>
      obtain ⟨k, hkn, rfl, ⟨x, hx0, hx1, rfl⟩, hdone, q, rfl⟩ := hrel
      by_cases hlt : k < n
      · obtain ⟨c0, c1, c2, c3⟩ := hE k hlt
        obtain ⟨hk0, hk1⟩ := hk k hlt
        have hsk := hs k hlt
        have hltz : (k : Int) < (n : Int) := by omega
        have hbq : Below w.heap.size w (w.drewN q) := below_drewN (Below.refl _ _) q
        have HD : Hid _ := hdone
        clear hdone
        by_cases ok : (0 ≤ (es k).k ∧ (es k).k ≤ 65536) ∧ (es k).g.size ≤ 1048576
        · obtain ⟨⟨ok0, ok1⟩, ok2⟩ := ok
          go_wp2
          go_quiet (fail)
          go_wp2
          · go_ret; exact ⟨rfl, below_drewN (Below.refl _ _) _⟩
          · go_roundw
            case rel =>
              refine ⟨k + 1, by omega, by go_num, ⟨_, by omega, by omega, rfl⟩, fun j hj => ?_, _, rfl⟩
              by_cases e : j = k
              · subst e; exact ⟨ok0, ok1⟩
              · exact HD.out j (by omega)
            case measure => simp [intOf]; omega
        · go_wp2
          all_goals first | (exfalso; omega) | skip
          all_goals (go_ret; exact ⟨rfl, hbq⟩)
      · have hd : ∀ j, j < n → 0 ≤ (es j).k ∧ (es j).k ≤ 65536 := fun j hj => hdone j (by omega)
        have hbq : Below w.heap.size w (w.drewN q) := below_drewN (Below.refl _ _) q
        clear hdone hk
        go_wp2_with fail
        · go_ret; exact ⟨rfl, hbq⟩
        refine (hcopy (by omega) _ hbq).mono ?_
        rintro e w1 ⟨⟨a1, n1, c1, rfl⟩, hb1⟩
        clear hcopy
        have hb1' : Below w.heap.size w w1 := hbq.trans (hb1.mono (by simp))
        clear hb1 hbq
        have hs1 := hb1'.size
        go_wp2_with fail
        refine (copyEnts_some b off n c es w1 (by omega) (fun _ => by omega) (fun i hi => (hE i hi).below hb1' hbw)).mono ?_
        rintro e w2 ⟨rfl, hE2, hlt2, hb2⟩
        clear hE
        go_wp2_with fail
        refine (assess_some m a1 n1 c1 w1.heap.size n n es w2 hn' (fun _ => hlt2) hd hE2).mono ?_
        rintro e w3 ⟨p, tv, rfl, hA, hb3⟩
        have hE3 : ∀ i, i < n → EntAt w3 w1.heap.size (i * 4) (es i) := fun i hi => (hE2 i hi).below hb3 hlt2
        clear hE2
        go_wp2_with fail
        refine (tranchesOf_some es tv p w2.heap.size n gr w3 hn' hA.c2 hA.hp hA.hT (fun i hi => (hA.rows i hi).2)).mono ?_
        rintro e w4 ⟨ow, v, rfl, how, hown, hnil, hb4⟩
        have hs2 := hb2.size
        have hs3 := hb3.size
        have hs4 := hb4.size
        have hE4 : ∀ i, i < n → EntAt w4 w1.heap.size (i * 4) (es i) := fun i hi => (hE3 i hi).below hb4 (by omega)
        have hA4 := hA.below hb4
        have hB4 : Below w.heap.size w w4 := ((hb1'.trans (hb2.mono (by omega))).trans (hb3.mono (by omega))).trans (hb4.mono (by omega))
        have hl1 : w1.heap.size < w4.heap.size := by omega
        have hl2 : w2.heap.size < w4.heap.size := hA4.hT
        clear hE3 hA hb2 hb3 hb4 hb1' hlt2 
        have HO : Hid _ := how
        have HV : Hid (w4.ownsRow w3.heap.size 35 4 v (sel es ow n).length (cellsOf es tv (sel es ow n)) ∧ (sel es ow n = [] → v = .slice none 0 0)) := ⟨hown, hnil⟩
        clear hown hnil how
        go_wp2_with fail
        refine (tranche_some es tv p w2.heap.size n gr nn w4 hn' hA4.c2 hA4.hp hA4.hT (fun i hi => (hA4.rows i hi).2)).mono ?_
        rintro e w5 ⟨ow', how', hb5, hpost⟩
        have eow := owner_one how' HO.out
        subst ow'
        clear how'
        have hs5 := hb5.size
        have hE5 : ∀ i, i < n → EntAt w5 w1.heap.size (i * 4) (es i) := fun i hi => (hE4 i hi).below hb5 hl1
        have hA5 := hA4.below hb5
        have hB5 : Below w.heap.size w w5 := hB4.trans (hb5.mono (by omega))
        clear hE4 hA4
        obtain ⟨hown, hnil⟩ := HV.out
        rcases hpost with ⟨rfl, hno⟩ | ⟨kk, rfl, hkk, hhit, hmin⟩
        · have HN : Hid _ := hno
          clear hno
          by_cases hL : sel es ow n = []
          · have hv := hnil hL
            subst hv
            have HL : Hid _ := hL
            clear hL hnil hown
            go_wp2
            refine wp_loop_rounds 1 ?_
            rw [rounds_succ]
            go_wp2
            go_loop [21, 22] (fun a i => ∃ k : Nat, k ≤ n ∧ i = .int .i64 k ∧ a = .bool false) (fun _ i => n - (intOf i).toNat)
            case atStart => exact ⟨0, Nat.zero_le _, rfl, rfl⟩
            case round =>
              obtain ⟨k, hkn, rfl, rfl⟩ := hrel
              by_cases hlt : k < n
              · obtain ⟨d0, d1, d2, d3⟩ := hE5 k hlt
                obtain ⟨m1, m2⟩ := no_match HO.out HL.out k hlt
                rw [named_empty] at m2
                have p1 : ((es k).g.toList == gr.toList) = false := m1
                clear m1
                go_wp2
                go_round
                case rel => exact ⟨k + 1, by omega, by go_num, rfl⟩
                case measure => simp [intOf]; omega
              · go_wp2
                go_ret
                exact ⟨rfl, hB5⟩
          · have hlen : 0 < (sel es ow n).length := List.length_pos_iff.2 hL
            have hlz : (0 : Int) < ((sel es ow n).length : Int) := by omega
            have hLn := sel_le es ow n
            have HL : Hid _ := hL
            obtain ⟨g2, cap2, hv2, _, hg2⟩ := hown.form hlen
            subst hv2
            clear hL hnil
            go_wp2
            go_loop [16, 17] (fun z i => ∃ k : Nat, k ≤ (sel es ow n).length ∧ i = .int .i64 k ∧ z = .int .i64 (-1)) (fun _ i => (sel es ow n).length - (intOf i).toNat)
            case atStart => exact ⟨0, Nat.zero_le _, rfl, rfl⟩
            case round =>
              obtain ⟨k, hkn, rfl, rfl⟩ := hrel
              by_cases hlt : k < (sel es ow n).length
              · obtain ⟨i, hi⟩ : ∃ i, (sel es ow n)[k]? = some i := ⟨_, List.getElem?_eq_getElem hlt⟩
                obtain ⟨hin, hnm⟩ := sel_get hi
                obtain ⟨f0, f1, f2, f3⟩ := (owned_at hown hi).below hb5 hg2
                have hnt : ((es i).t == nn) = false := by
                  have := HN.out i hin
                  cases ht : ((es i).t == nn) with
                  | false => rfl
                  | true => rw [hits_iff.2 ⟨hnm, by simpa using ht⟩] at this; cases this
                clear hi hnm
                go_wp2
                go_round
                case rel => exact ⟨k + 1, by omega, by go_num, rfl⟩
                case measure => simp [intOf]; omega
              · go_wp2
                go_loop [21, 22] (fun a i => ∃ k : Nat, k ≤ n ∧ i = .int .i64 k ∧ a = .bool false ∧ Hid (∀ j, j < k → named gr (es j) = false ∧ named ⟨#[]⟩ (es j) = false)) (fun _ i => n - (intOf i).toNat)
                case atStart => exact ⟨0, Nat.zero_le _, rfl, rfl, fun j hj => absurd hj (Nat.not_lt_zero _)⟩
                case round =>
                  obtain ⟨k, hkn, rfl, rfl, HM⟩ := hrel
                  by_cases hlt : k < n
                  · obtain ⟨d0, d1, d2, d3⟩ := hE5 k hlt
                    have hne := named_empty (es k)
                    cases hq1 : named gr (es k) with
                    | true =>
                      have p1 : ((es k).g.toList == gr.toList) = true := hq1
                      clear hq1 hne
                      go_wp2
                      go_ret
                      exact ⟨rfl, hB5⟩
                    | false =>
                      have p1 : ((es k).g.toList == gr.toList) = false := hq1
                      cases hq2 : named ⟨#[]⟩ (es k) with
                      | true =>
                        rw [hq2] at hne
                        have p2 := hne.symm
                        clear hq1 hne hq2
                        go_wp2
                        go_ret
                        exact ⟨rfl, hB5⟩
                      | false =>
                        rw [hq2] at hne
                        have p2 := hne.symm
                        have HM2 : Hid _ := And.intro hq1 hq2
                        clear hq1 hne hq2
                        go_wp2
                        go_round
                        case rel =>
                          refine ⟨k + 1, by omega, by go_num, rfl, fun j hj => ?_⟩
                          by_cases e : j = k
                          · subst e; exact HM2.out
                          · exact HM.out j (by omega)
                        case measure => simp [intOf]; omega
                  · exfalso
                    obtain ⟨i, hi, hm⟩ := some_match HO.out HL.out
                    obtain ⟨m1, m2⟩ := HM.out i (by omega)
                    rw [m1, m2] at hm
                    simp at hm

        · have HK : Hid _ := And.intro hhit hmin
          clear hmin
          obtain ⟨ii, hii, _⟩ := hit_in hkk hhit
          have hL : sel es ow n ≠ [] := fun e => by rw [e] at hii; cases hii
          clear hhit hii
          have hlen : 0 < (sel es ow n).length := List.length_pos_iff.2 hL
          have hlz : (0 : Int) < ((sel es ow n).length : Int) := by omega
          have hLn := sel_le es ow n
          have HL : Hid _ := hL
          obtain ⟨g2, cap2, hv2, _, hg2⟩ := hown.form hlen
          subst hv2
          clear hL hnil
          go_wp2
          go_loop [16, 17] (fun z i => ∃ k : Nat, k ≤ (sel es ow n).length ∧ i = .int .i64 k ∧ z = .int .i64 (-1) ∧ Hid (∀ i, i < k → ∀ j, (sel es ow n)[i]? = some j → (es j).t ≠ nn)) (fun _ i => (sel es ow n).length - (intOf i).toNat)
          case atStart => exact ⟨0, Nat.zero_le _, rfl, rfl, fun j hj => absurd hj (Nat.not_lt_zero _)⟩
          case round =>
            obtain ⟨k, hkn, rfl, rfl, HF⟩ := hrel
            by_cases hlt : k < (sel es ow n).length
            · obtain ⟨i, hi⟩ : ∃ i, (sel es ow n)[k]? = some i := ⟨_, List.getElem?_eq_getElem hlt⟩
              obtain ⟨hin, hnm⟩ := sel_get hi
              obtain ⟨f0, f1, f2, f3⟩ := (owned_at hown hi).below hb5 hg2
              have HI : Hid _ := hi
              have HNM : Hid _ := hnm
              clear hi hnm
              cases ht : ((es i).t == nn) with
              | false =>
                have hne : (es i).t ≠ nn := by simpa using ht
                have HNE : Hid _ := hne
                clear hne
                go_wp2
                go_round
                case rel =>
                  refine ⟨k + 1, by omega, by go_num, rfl, fun j hj a ha => ?_⟩
                  by_cases e : j = k
                  · subst e
                    rw [HI.out] at ha
                    cases ha
                    exact HNE.out
                  · exact HF.out j (by omega) a ha
                case measure => simp [intOf]; omega
              | true =>
                have hkki := first_is HI.out (by simpa using ht) HF.out hkk HK.out.1 HK.out.2
                subst kk
                obtain ⟨htv, t0, t1, t2, t3⟩ := hA5.rows i hin
                have p2 := hA5.c2
                obtain ⟨z, hz⟩ : ∃ z, (sel es ow n)[0]? = some z := ⟨_, List.getElem?_eq_getElem hlen⟩
                have hzn := sel_get hz
                have hsame := same_name HNM.out hzn.2
                obtain ⟨y0, y1, y2, y3⟩ := (owned_at hown hz).below hb5 hg2
                rw [Nat.zero_mul] at y0
                clear hz hzn y1 y2 y3 htv
                have hiz : (i : Int) < (n : Int) := by omega
                have hkz : (k : Int) < ((sel es ow n).length : Int) := by omega
                have hbne : ((es i).t != nn) = false := by rw [bne, ht]; rfl
                go_wp2
                go_quiet (fail)
                go_wp2
                go_loop [18, 19] (fun z x => ∃ a : Nat, a ≤ i ∧ x = .int .i64 a ∧ z = .int .i64 (-1)) (fun _ x => i + 1 - (intOf x).toNat)
                case atStart => exact ⟨0, Nat.zero_le _, rfl, rfl⟩
                case round =>
                  obtain ⟨a, ha, rfl, rfl⟩ := hrel
                  have haz : (a : Int) < (n : Int) := by omega
                  by_cases hai : a = i
                  · subst a
                    go_wp2
                    go_quiet (fail)
                    go_wp2
                    go_loopw [20] (fun x wr => ∃ a : Nat, a ≤ i ∧ x = .int .i64 a ∧ ∃ q, wr = w5.drewN q) (fun x _ => i - (intOf x).toNat)
                    case atStart => exact ⟨0, Nat.zero_le _, rfl, drewN_some _ _ _⟩
                    case round =>
                      obtain ⟨a, ha, rfl, q5, rfl⟩ := hrel
                      by_cases hai : a < i
                      · have haz : (a : Int) < (n : Int) := by omega
                        obtain ⟨htv, s0, s1, s2, s3⟩ := hA5.rows a (by omega)
                        clear htv
                        cases hg : ((es a).g.toList == (es i).g.toList) with
                        | true =>
                          have hnt : ((es a).t == nn) = false := by
                            have := HK.out.2 a hai
                            cases h : ((es a).t == nn) with
                            | false => rfl
                            | true => rw [hits_iff.2 ⟨name_of HNM.out hg, by simpa using h⟩] at this; cases this
                          go_wp2
                          go_quiet (fail)
                          go_wp2
                          go_roundw
                          case rel => exact ⟨a + 1, by omega, by go_num, _, rfl⟩
                          case measure => simp [intOf]; omega
                        | false =>
                          go_wp2
                          go_quiet (fail)
                          go_wp2
                          go_roundw
                          case rel => exact ⟨a + 1, by omega, by go_num, _, rfl⟩
                          case measure => simp [intOf]; omega
                      · go_wp2
                        go_loop [21, 22] (fun a i => ∃ k : Nat, k ≤ n ∧ i = .int .i64 k ∧ a = .bool false ∧ Hid (∀ j, j < k → named gr (es j) = false ∧ named ⟨#[]⟩ (es j) = false)) (fun _ i => n - (intOf i).toNat)
                        case atStart => exact ⟨0, Nat.zero_le _, rfl, rfl, fun j hj => absurd hj (Nat.not_lt_zero _)⟩
                        case round =>
                          obtain ⟨k, hkn, rfl, rfl, HM⟩ := hrel
                          by_cases hlt : k < n
                          · obtain ⟨d0, d1, d2, d3⟩ := hE5 k hlt
                            have hne := named_empty (es k)
                            cases hq1 : named gr (es k) with
                            | true =>
                              have p1 : ((es k).g.toList == gr.toList) = true := hq1
                              clear hq1 hne
                              go_wp2
                              go_ret
                              exact ⟨rfl, (below_drewN hB5 _)⟩
                            | false =>
                              have p1 : ((es k).g.toList == gr.toList) = false := hq1
                              cases hq2 : named ⟨#[]⟩ (es k) with
                              | true =>
                                rw [hq2] at hne
                                have p2 := hne.symm
                                clear hq1 hne hq2
                                go_wp2
                                go_ret
                                exact ⟨rfl, (below_drewN hB5 _)⟩
                              | false =>
                                rw [hq2] at hne
                                have p2 := hne.symm
                                have HM2 : Hid _ := And.intro hq1 hq2
                                clear hq1 hne hq2
                                go_wp2
                                go_round
                                case rel =>
                                  refine ⟨k + 1, by omega, by go_num, rfl, fun j hj => ?_⟩
                                  by_cases e : j = k
                                  · subst e; exact HM2.out
                                  · exact HM.out j (by omega)
                                case measure => simp [intOf]; omega
                          · exfalso
                            obtain ⟨i, hi, hm⟩ := some_match HO.out HL.out
                            obtain ⟨m1, m2⟩ := HM.out i (by omega)
                            rw [m1, m2] at hm
                            simp at hm
                  · have hne4 : (i * 4 == a * 4) = false := beq_eq_false_iff_ne.2 (by omega)
                    go_wp2
                    go_round
                    case rel => exact ⟨a + 1, by omega, by go_num, rfl⟩
                    case measure => simp [intOf]; omega
            · exfalso
              obtain ⟨j, hj, hjt⟩ := hit_in hkk HK.out.1
              exact HF.out j (by have := (List.getElem?_eq_some_iff.1 hj).1; omega) kk hj hjt
end Go.Proofs.Qxb6604387a
