import Derived.Test.Qxb6604387aPiles
import Derived.WalkSmall
import Derived.Laws.Pointers
import Derived.Lib.Builder
namespace Go.Proofs.Qxb6604387a
open Go.RowKit

theorem named_empty (e : Ent) : named ⟨#[]⟩ e = e.g.toList.isEmpty := by
  have h : (ByteArray.mk #[]).toList = [] := by rw [ByteArray.toList, ByteArray.toList.loop]; simp [ByteArray.size]
  simp [named, h]

theorem q31 (w : World) (a : Option Addr) (n c n' c' : Nat) : (binOp .eql 31 (.slice a n c) (.slice none n' c')).run Try.prog w = .ok (.bool a.isNone) w :=
  Lib.run_eql_slice_nil w _ _ a n c n' c' Try.underlying31
theorem q33 (w : World) (a : Option Addr) (n c n' c' : Nat) : (binOp .eql 33 (.slice a n c) (.slice none n' c')).run Try.prog w = .ok (.bool a.isNone) w :=
  Lib.run_eql_slice_nil w _ _ a n c n' c' Try.underlying33

theorem pn36 (w : World) (a : Addr) : (binOp .neq 36 (.pointer (some a)) (.pointer (some a))).run Try.prog w = .ok (.bool false) w := by
  obtain ⟨i, hi, _⟩ := info_parts Try.info41
  exact Lib.run_neq_ptr_same w a Try.underlying36 hi

set_option maxRecDepth 100000 in
set_option maxHeartbeats 4000000 in
theorem exact_pos (m : ByteArray) (ay : Option Addr) (ny cy : Nat) (b off n c : Nat) (es : Nat → Ent) (gr : ByteArray) (w : World)
    (hm : m.size ≤ maxLen) (hg : gr.size ≤ maxLen) (hny : ny ≤ maxLen) (hn : n ≤ maxLen) (hs : ∀ i, i < n → (es i).g.size ≤ maxLen)
    (hk : ∀ i, i < n → -9223372036854775808 ≤ (es i).k ∧ (es i).k ≤ 9223372036854775807)
    (hE : ∀ i, i < n → EntAt w b (off + i * 4) (es i)) (hbw : b < w.heap.size)
    (hcopy : ny ≤ 65536 → ∀ W, Below w.heap.size w W → Calls Try.prog 6 #[.slice ay ny cy] W fun e w' => SliceRet e ∧ Below W.heap.size W w') :
    Calls Try.prog 3 #[.string m, .slice ay ny cy, .slice (some ⟨b, off, none⟩) n c, .string gr] w (LawPost w) := by
  have hbytes := bytes5_some m ay ny cy b off n c es gr w hm hg hny hn hs hE
  obtain ⟨i0, hi, hz0, hz1, hz2⟩ := info_parts Try.info3
  have qq31 := q31
  have qq33 := q33
  have ppn := pn36
  unfold maxLen at hm hg hny hn hs
  go_enter Try.func3, Try.ntmps3
  go_wp2_with fail
  refine hbytes.mono ?_
  rintro e w' ⟨⟨r, rfl⟩, hw⟩
  subst w'
  clear hbytes
  cases r with
  | false =>
    go_wp2
    go_ret
    exact ⟨rfl, Below.refl _ _⟩
  | true =>
    go_wp2
    all_goals first | (go_ret; exact ⟨rfl, Below.refl _ _⟩) | skip
    have hn' : n ≤ 65536 := by omega
    go_loopw [9, 10] (fun z i wr => ∃ k : Nat, k ≤ n ∧ i = .int .i64 k ∧ (∃ x : Int, 0 ≤ x ∧ x ≤ 3000000 ∧ z = .int .i64 x) ∧ (∀ j, j < k → 0 ≤ (es j).k ∧ (es j).k ≤ 65536) ∧ ∃ q, wr = w.drewN q) (fun _ i _ => n - (intOf i).toNat)
    case atStart => exact ⟨0, Nat.zero_le _, rfl, ⟨_, by omega, by omega, rfl⟩, fun j hj => absurd hj (Nat.not_lt_zero _), 0, rfl⟩
    case round =>
      obtain ⟨k, hkn, rfl, ⟨x, hx0, hx1, rfl⟩, hdone, q, rfl⟩ := hrel
      by_cases hlt : k < n
      · obtain ⟨c0, c1, c2, c3⟩ := hE k hlt
        obtain ⟨hk0, hk1⟩ := hk k hlt
        have hsk := hs k hlt
        have hltz : (k : Int) < (n : Int) := by omega
        have hbq : Below w.heap.size w (w.drewN q) := below_drewN (Below.refl _ _) q
        have HD : Hid _ := hdone
        clear hdone
        by_cases ok : (0 ≤ (es k).k ∧ (es k).k ≤ 65536) ∧ (es k).g.size ≤ 1048576
        · obtain ⟨⟨ok0, ok1⟩, ok2⟩ := ok
          go_wp2
          go_quiet (fail)
          go_wp2
          · go_ret; exact ⟨rfl, below_drewN (Below.refl _ _) _⟩
          · go_roundw
            case rel =>
              refine ⟨k + 1, by omega, by go_num, ⟨_, by omega, by omega, rfl⟩, fun j hj => ?_, _, rfl⟩
              by_cases e : j = k
              · subst e; exact ⟨ok0, ok1⟩
              · exact HD.out j (by omega)
            case measure => simp [intOf]; omega
        · go_wp2
          all_goals first | (exfalso; omega) | skip
          all_goals (go_ret; exact ⟨rfl, hbq⟩)
      · have hd : ∀ j, j < n → 0 ≤ (es j).k ∧ (es j).k ≤ 65536 := fun j hj => hdone j (by omega)
        have hbq : Below w.heap.size w (w.drewN q) := below_drewN (Below.refl _ _) q
        clear hdone hk
        go_wp2_with fail
        · go_ret; exact ⟨rfl, hbq⟩
        refine (hcopy (by omega) _ hbq).mono ?_
        rintro e w1 ⟨⟨a1, n1, c1, rfl⟩, hb1⟩
        clear hcopy
        have hb1' : Below w.heap.size w w1 := hbq.trans (hb1.mono (by simp))
        clear hb1 hbq
        have hs1 := hb1'.size
        go_wp2_with fail
        refine (copyEnts_some b off n c es w1 (by omega) (fun _ => by omega) (fun i hi => (hE i hi).below hb1' hbw)).mono ?_
        rintro e w2 ⟨rfl, hE2, hlt2, hb2⟩
        clear hE
        go_wp2_with fail
        refine (assess_some m a1 n1 c1 w1.heap.size n n es w2 hn' (fun _ => hlt2) hd hE2).mono ?_
        rintro e w3 ⟨p, tv, rfl, hA, hb3⟩
        have hE3 : ∀ i, i < n → EntAt w3 w1.heap.size (i * 4) (es i) := fun i hi => (hE2 i hi).below hb3 hlt2
        clear hE2
        go_wp2_with fail
        refine (tranchesOf_some es tv p w2.heap.size n gr w3 hn' hA.c2 hA.hp hA.hT (fun i hi => (hA.rows i hi).2)).mono ?_
        rintro e w4 ⟨ow, v, rfl, how, hown, hnil, hb4⟩
        have hs2 := hb2.size
        have hs3 := hb3.size
        have hs4 := hb4.size
        have hE4 : ∀ i, i < n → EntAt w4 w1.heap.size (i * 4) (es i) := fun i hi => (hE3 i hi).below hb4 (by omega)
        have hA4 := hA.below hb4
        have hB4 : Below w.heap.size w w4 := ((hb1'.trans (hb2.mono (by omega))).trans (hb3.mono (by omega))).trans (hb4.mono (by omega))
        have hl1 : w1.heap.size < w4.heap.size := by omega
        have hl2 : w2.heap.size < w4.heap.size := hA4.hT
        clear hE3 hA hb2 hb3 hb4 hb1' hlt2 
        have HO : Hid _ := how
        have HV : Hid (w4.ownsRow w3.heap.size 35 4 v (sel es ow n).length (cellsOf es tv (sel es ow n)) ∧ (sel es ow n = [] → v = .slice none 0 0)) := ⟨hown, hnil⟩
        clear how hown hnil
        go_wp2
        go_loopw [13, 14, 15] (fun vo vs i wr => ∃ k : Nat, k ≤ n ∧ i = .int .i64 k ∧ Two w4 wr es gr k k vo vs) (fun _ _ i _ => n - (intOf i).toNat)
        case atStart => exact ⟨0, Nat.zero_le _, rfl, two_start _ _ _⟩
        case round =>
          obtain ⟨k, hkn, rfl, h2⟩ := hrel
          by_cases hlt : k < n
          · obtain ⟨d0, d1, d2, d3⟩ := (hE4 k hlt).below h2.bel hl1
            have hsz := h2.bel.size
            have l1 := sel_le es gr k
            have l2 := sel_le es ⟨#[]⟩ k
            have hbr : w1.heap.size < wr.heap.size := by omega
            have ho := h2.o
            have hsh := h2.s
            have hne := named_empty (es k)
            have hone : ∀ u ∈ [Value.int .i64 (k : Int)], u.oneCell' = true := by intro u hu; simp at hu; subst hu; rfl
            cases hq1 : named gr (es k) with
            | true =>
              have p1 : ((es k).g.toList == gr.toList) = true := hq1
              have HQ : Hid _ := hq1
              clear hq1
              go_wp2_with (first | (at_builtin; refine wpList_append_lies _ rfl (.tmp 127) (.tmp 129) 22 rfl w4.heap.size 3 i0 (.int .i64 0) 1 8 Try.underlying22 hi hz0 hz1 hz2 rfl (by decide) _ _ _ rfl (ho.alloc _) ⟨wr.heap.size, 0, none⟩ 1 1 [.int .i64 (k : Int)] rfl rfl (cell_one_new _ _ _) hone (by omega) (by unfold maxLen; omega) (by omega) (by simp; omega) (wr.heap.size + 1) (by simp) ?_))
              intro g1 cap1 w5 hown1 hgrow1 hat1 hlt1
              have T1 := two_own_hit h2 HQ.out hown1 hgrow1 hat1
              clear hown1 hgrow1 hat1 hsh ho d0 d1 d2 d3 h2 hsz hbr
              obtain ⟨d0, d1, d2, d3⟩ := (hE4 k hlt).below T1.bel hl1
              have hsz := T1.bel.size
              have hsh := T1.s
              cases hq2 : named ⟨#[]⟩ (es k) with
              | true =>
                rw [hq2] at hne
                have p2 := hne.symm
                have HQ2 : Hid _ := hq2
                clear hq2 hne
                go_wp2_with (first | (at_builtin; refine wpList_append_lies _ rfl (.tmp 137) (.tmp 139) 22 rfl w4.heap.size 3 i0 (.int .i64 0) 1 8 Try.underlying22 hi hz0 hz1 hz2 rfl (by decide) _ _ _ rfl (hsh.alloc _) ⟨w5.heap.size, 0, none⟩ 1 1 [.int .i64 (k : Int)] rfl rfl (cell_one_new _ _ _) hone (by omega) (by unfold maxLen; omega) (by omega) (by simp; omega) (w5.heap.size + 1) (by simp) ?_))
                intro g2 cap2 w6 hown2 hgrow2 hat2 hlt2
                have T2 := two_sh_hit T1 HQ2.out hown2 hgrow2 hat2
                clear hown2 hgrow2 hat2 hsh d0 d1 d2 d3
                go_wp2
                go_roundw
                case rel => exact ⟨k + 1, by omega, by go_num, T2⟩
                case measure => simp [intOf]; omega
              | false =>
                rw [hq2] at hne
                have p2 := hne.symm
                have T2 := two_sh_miss T1 hq2
                clear hq2 hne hsh
                go_wp2
                go_roundw
                case rel => exact ⟨k + 1, by omega, by go_num, T2⟩
                case measure => simp [intOf]; omega
            | false =>
              have p1 : ((es k).g.toList == gr.toList) = false := hq1
              have T1 := two_own_miss h2 hq1
              clear hq1
              cases hq2 : named ⟨#[]⟩ (es k) with
              | true =>
                rw [hq2] at hne
                have p2 := hne.symm
                have HQ2 : Hid _ := hq2
                clear hq2 hne
                go_wp2_with (first | (at_builtin; refine wpList_append_lies _ rfl (.tmp 137) (.tmp 139) 22 rfl w4.heap.size 3 i0 (.int .i64 0) 1 8 Try.underlying22 hi hz0 hz1 hz2 rfl (by decide) _ _ _ rfl (hsh.alloc _) ⟨wr.heap.size, 0, none⟩ 1 1 [.int .i64 (k : Int)] rfl rfl (cell_one_new _ _ _) hone (by omega) (by unfold maxLen; omega) (by omega) (by simp; omega) (wr.heap.size + 1) (by simp) ?_))
                intro g2 cap2 w6 hown2 hgrow2 hat2 hlt2
                have T2 := two_sh_hit T1 HQ2.out hown2 hgrow2 hat2
                clear hown2 hgrow2 hat2 hsh d0 d1 d2 d3
                go_wp2
                go_roundw
                case rel => exact ⟨k + 1, by omega, by go_num, T2⟩
                case measure => simp [intOf]; omega
              | false =>
                rw [hq2] at hne
                have p2 := hne.symm
                have T2 := two_sh_miss T1 hq2
                clear hq2 hne hsh
                go_wp2
                go_roundw
                case rel => exact ⟨k + 1, by omega, by go_num, T2⟩
                case measure => simp [intOf]; omega
          · have hkk : k = n := by omega
            rw [hkk] at h2
            clear hkk
            obtain ⟨w5, hw5⟩ : ∃ W, W = wr := ⟨_, rfl⟩
            subst wr
            obtain ⟨hown, hnil⟩ := HV.out
            have hE5 : ∀ i, i < n → EntAt w5 w1.heap.size (i * 4) (es i) := fun i hi => (hE4 i hi).below h2.bel hl1
            have hA5 := hA4.below h2.bel
            have hs5 := h2.bel.size
            have hB5 : Below w.heap.size w w5 := hB4.trans (h2.bel.mono (by omega))
            clear hE4 hA4
            rcases HO.out with ⟨e, j, hj, hjn⟩ | ⟨e, hno⟩
            · subst ow
              have hlen : 0 < (sel es gr n).length := List.length_pos_iff.2 (sel_ne hj hjn)
              have hlz : (0 : Int) < ((sel es gr n).length : Int) := by omega
              have hl0 : (((sel es gr n).length : Int) == 0) = false := beq_eq_false_iff_ne.2 (by omega)
              have hLn := sel_le es gr n
              obtain ⟨g1, cap1, hv1, _, hg1⟩ := h2.o.form hlen
              obtain ⟨g2, cap2, hv2, _, hg2⟩ := hown.form hlen
              subst hv1 hv2

              go_wp2
              go_loopw [17] (fun i wr => ∃ k : Nat, k ≤ (sel es gr n).length ∧ i = .int .i64 k ∧ Below w5.heap.size w5 wr) (fun i _ => (sel es gr n).length - (intOf i).toNat)
              case atStart => exact ⟨0, Nat.zero_le _, rfl, Below.refl _ _⟩
              case round =>
                obtain ⟨k, hkn, rfl, hb6⟩ := hrel
                have hs6 := hb6.size
                by_cases hlt : k < (sel es gr n).length
                · obtain ⟨i, hi⟩ : ∃ i, (sel es gr n)[k]? = some i := ⟨_, List.getElem?_eq_getElem hlt⟩
                  obtain ⟨hin, _⟩ := sel_get hi
                  have r0 : wr.cell? ⟨g1, k, none⟩ = some (.int .i64 (i : Int)) := (hb6.cell (by exact hg1)).trans (pile_at h2.o hi)
                  obtain ⟨d0, d1, d2, d3⟩ := (hE5 i hin).below hb6 (by omega)
                  obtain ⟨f0, f1, f2, f3⟩ := ((owned_at hown hi).below h2.bel hg2).below hb6 (by omega)
                  have hA6 := hA5.below hb6
                  obtain ⟨htv, t0, t1, t2, t3⟩ := hA6.rows i hin
                  have p2 := hA6.c2
                  have hp6 := hA6.hp
                  have hT6 := hA6.hT
                  clear hA6
                  obtain ⟨k0, k1⟩ := hd i hin
                  have hkk : (((es i).k.toNat : Nat) : Int) = (es i).k := Int.toNat_of_nonneg k0
                  have HI : Hid _ := hi
                  clear hi
                  have hiz : (i : Int) < (n : Int) := by omega
                  have hg16 : g1 < wr.heap.size := by omega
                  have hg26 : g2 < wr.heap.size := by omega
                  have hB16 : w1.heap.size < wr.heap.size := by omega
                  rcases htv with ⟨hz, ha⟩ | ⟨hz, x, ha⟩
                  · rw [ha] at f3 t3
                    have hzd : decide (0 < (es i).k) = false := decide_eq_false (by omega)
                    go_wp2
                    go_quiet (fail)
                    go_wp2
                    go_roundw
                    case rel => exact ⟨k + 1, by omega, by go_num, below_drewN ((hb6.alloc hs6 _).alloc (by simp; omega) _) _⟩
                    case measure => simp [intOf]; omega
                  · rw [ha] at f3 t3
                    have hz0' : ((es i).k == 0) = false := beq_eq_false_iff_ne.2 (by omega)
                    go_wp2
                    go_quiet (fail)
                    go_wp2
                    go_roundw
                    case rel => exact ⟨k + 1, by omega, by go_num, below_drewN ((hb6.alloc hs6 _).alloc (by simp; omega) _) _⟩
                    case measure => simp [intOf]; omega
                · go_wp2
                  go_ret
                  exact ⟨rfl, hB5.trans (hb6.mono (by omega))⟩
            · subst ow
              have hvo := h2.on (sel_nil hno)
              subst hvo
              by_cases hS : sel es ⟨#[]⟩ n = []
              · have hvs := h2.sn hS
                have hv := hnil hS
                subst hvs hv
                go_wp2
                refine wp_loop_rounds 1 ?_
                rw [rounds_succ]
                go_wp2
                go_ret
                exact ⟨rfl, hB5⟩
              · have hlen : 0 < (sel es ⟨#[]⟩ n).length := List.length_pos_iff.2 hS
                have hlz : (0 : Int) < ((sel es ⟨#[]⟩ n).length : Int) := by omega
                have hl0 : (((sel es ⟨#[]⟩ n).length : Int) == 0) = false := beq_eq_false_iff_ne.2 (by omega)
                have hLn := sel_le es ⟨#[]⟩ n
                obtain ⟨g1, cap1, hv1, _, hg1⟩ := h2.s.form hlen
                obtain ⟨g2, cap2, hv2, _, hg2⟩ := hown.form hlen
                subst hv1 hv2

                go_wp2
                go_loopw [17] (fun i wr => ∃ k : Nat, k ≤ (sel es ⟨#[]⟩ n).length ∧ i = .int .i64 k ∧ Below w5.heap.size w5 wr) (fun i _ => (sel es ⟨#[]⟩ n).length - (intOf i).toNat)
                case atStart => exact ⟨0, Nat.zero_le _, rfl, Below.refl _ _⟩
                case round =>
                  obtain ⟨k, hkn, rfl, hb6⟩ := hrel
                  have hs6 := hb6.size
                  by_cases hlt : k < (sel es ⟨#[]⟩ n).length
                  · obtain ⟨i, hi⟩ : ∃ i, (sel es ⟨#[]⟩ n)[k]? = some i := ⟨_, List.getElem?_eq_getElem hlt⟩
                    obtain ⟨hin, _⟩ := sel_get hi
                    have r0 : wr.cell? ⟨g1, k, none⟩ = some (.int .i64 (i : Int)) := (hb6.cell (by exact hg1)).trans (pile_at h2.s hi)
                    obtain ⟨d0, d1, d2, d3⟩ := (hE5 i hin).below hb6 (by omega)
                    obtain ⟨f0, f1, f2, f3⟩ := ((owned_at hown hi).below h2.bel hg2).below hb6 (by omega)
                    have hA6 := hA5.below hb6
                    obtain ⟨htv, t0, t1, t2, t3⟩ := hA6.rows i hin
                    have p2 := hA6.c2
                    have hp6 := hA6.hp
                    have hT6 := hA6.hT
                    clear hA6
                    obtain ⟨k0, k1⟩ := hd i hin
                    have hkk : (((es i).k.toNat : Nat) : Int) = (es i).k := Int.toNat_of_nonneg k0
                    have HI : Hid _ := hi
                    clear hi
                    have hiz : (i : Int) < (n : Int) := by omega
                    have hg16 : g1 < wr.heap.size := by omega
                    have hg26 : g2 < wr.heap.size := by omega
                    have hB16 : w1.heap.size < wr.heap.size := by omega
                    rcases htv with ⟨hz, ha⟩ | ⟨hz, x, ha⟩
                    · rw [ha] at f3 t3
                      have hzd : decide (0 < (es i).k) = false := decide_eq_false (by omega)
                      go_wp2
                      go_quiet (fail)
                      go_wp2
                      go_roundw
                      case rel => exact ⟨k + 1, by omega, by go_num, below_drewN ((hb6.alloc hs6 _).alloc (by simp; omega) _) _⟩
                      case measure => simp [intOf]; omega
                    · rw [ha] at f3 t3
                      have hz0' : ((es i).k == 0) = false := beq_eq_false_iff_ne.2 (by omega)
                      go_wp2
                      go_quiet (fail)
                      go_wp2
                      go_roundw
                      case rel => exact ⟨k + 1, by omega, by go_num, below_drewN ((hb6.alloc hs6 _).alloc (by simp; omega) _) _⟩
                      case measure => simp [intOf]; omega
                  · go_wp2
                    go_ret
                    exact ⟨rfl, hB5.trans (hb6.mono (by omega))⟩
end Go.Proofs.Qxb6604387a
