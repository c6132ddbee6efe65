import Derived.Test.YbulkdkbgI2
import Derived.Deep.DeepCutAuto
import Derived.BigQuiet
import Derived.Lib.SliceRun
namespace Go.Proofs.Ybulkdkbg
open Go.RowKit Go.Deep

set_option maxRecDepth 20000 in
set_option maxHeartbeats 4000000 in
theorem law_walk (name : ByteArray) (now : Int) (ao : Option Addr) (l c b o : Nat) (D : Dat) (w : World) (hn0 : -9223372036854775808 ≤ now) (hn1 : now ≤ 9223372036854775807) (hin : MsIn w ao l c b o D) :
    Calls Yba.prog 3 #[.string name, .int .i64 now, .slice ao l c] w fun e w' => e = .returned (.bool true) ∧ Below w.heap.size w w' := by
  obtain ⟨i0, hi0, hz0, hz1, hz2⟩ := info_parts Yba.info45
  have F1 := hid hi0
  have F2 := hid hz0
  have F3 := hid hz1
  have F4 := hid hz2
  obtain ⟨i1, hi1, hy0, hy1, hy2⟩ := info_parts Yba.info3
  have G1 := hid hi1
  have G2 := hid hy0
  have G3 := hid hy1
  have G4 := hid hy2
  clear hi0 hz0 hz1 hz2 hi1 hy0 hy1 hy2
  have hbd := hin.bd
  have HI := hid hin
  clear hin
  have hmm := @run_makeMap Yba.prog
  have hmk := run_make_n (P := Yba.prog) 39 45 (.pointer none) 1 8 Yba.underlying39 Yba.info45 .i64 .i64 l (by omega) (by omega)
  go_enter Yba.func3, Yba.ntmps3
  go_wp2
  go_loop [7, 25] (fun t i => ∃ (k : Nat) (T : Int), k ≤ l ∧ i = .int .i64 k ∧ t = .int .i64 T) (fun _ i => l - (intOf i).toNat)
  case atStart => exact ⟨0, _, Nat.zero_le _, rfl, rfl⟩
  case round =>
    obtain ⟨k, T, hk, rfl, rfl⟩ := hrel
    by_cases hlt : k < l
    · have hi := HI.out.ix k hlt
      have h3 := HI.out.c3 k hlt
      go_wp2
      go_round
      case rel => exact ⟨k + 1, _, by omega, by go_num, rfl⟩
      case measure => simp [intOf]; omega
    · by_cases hT : 1048576 < T
      · have hb : decide (1048576 < T) = true := decide_eq_true hT
        go_wp2
        go_ret
        exact ⟨rfl, Below.refl _ _⟩
      · have hb : decide (1048576 < T) = false := decide_eq_false hT
        clear hT
        go_wp2
        go_loopw [12, 49] (fun vw i wr => ∃ k : Nat, k ≤ l ∧ i = .int .i64 k ∧ Hid (∃ mb am cm, Inv D name now w wr l k k k k mb am cm vw)) (fun _ i _ => l - (intOf i).toNat)
        case atStart => exact ⟨0, Nat.zero_le _, rfl, hid ⟨_, _, _, Inv.start D name now w l⟩⟩
        case round =>
          obtain ⟨k, hk, rfl, HV⟩ := hrel
          by_cases hlt : k < l
          · obtain ⟨wo, rfl⟩ : ∃ wo : World, wo = wr := ⟨_, rfl⟩
            obtain ⟨mb, am, cm, hinv⟩ := HV.out
            have HIN := hid hinv
            clear HV
            have hbel := hinv.bel
            have hM := HI.out.below hbel
            have hi := hM.ix k hlt
            have h0 := hM.c0 k hlt
            have h1 := hM.c1 k hlt
            have h2 := hM.c2 k hlt
            have h3 := hM.c3 k hlt
            obtain ⟨sb0, sb1⟩ := hM.sb k hlt
            have hbas : wo.heap[w.heap.size]? = some (.cells #[.int .u64 0, .int .i64 0, .pointer none] 29 (0, 0)) := hinv.bas
            have b0 : wo.cell? ⟨w.heap.size, 0, none⟩ = some (.int .u64 0) := by simp [World.cell?, hbas]
            have b1 : wo.cell? ⟨w.heap.size, 1, none⟩ = some (.int .i64 0) := by simp [World.cell?, hbas]
            have b2 : wo.cell? ⟨w.heap.size, 2, none⟩ = some (.pointer none) := by simp [World.cell?, hbas]
            clear hbas hinv hbel hM
            go_upto_region 16 with fail
            go_cut [14] (fun p wx => ∃ w1 : World, Hid (Below wo.heap.size wo w1) ∧ p = .pointer (some ⟨w1.heap.size, 0, none⟩) ∧ wx = w1.alloc (.cells #[.string ⟨#[]⟩, .string ⟨#[]⟩, .int .i64 0, .bool false, .int .i64 0, .int .u64 (D.sn k % 1000000000), .int .i64 (D.sn k / 1000000000), .pointer none, .map none] 52))
            case first =>
              go_region_with (go_at_call 4; refine (add_ex 0 0 (D.sn k) _ (by omega) (by omega) (by omega) (by omega) sb0 sb1).mono ?_; rintro e w1 ⟨⟨n', s', rfl, hn', hn'', hs'⟩, hb1⟩; have en : n' = D.sn k % 1000000000 := (by omega); have es : s' = D.sn k / 1000000000 := (by omega); subst en; subst es; have HB1 := hid hb1; clear hb1 hn' hn'' hs')
              all_goals
                go_wp2_with fail
                go_meet
                exact ⟨w1, hid ((Below.refl wo.heap.size wo).drew.trans (HB1.out.mono (by simp))), rfl, rfl⟩
            case rest =>
              obtain ⟨w1, HB1, rfl, rfl⟩ := hcut
              have HIN1 := hid (HIN.out.below HB1.out)
              have hs5 := HIN1.out.sz
              have hM := HI.out.below HIN1.out.bel
              have hM0 := hid hM
              have h0 := hM.c0 k hlt
              have h1 := hM.c1 k hlt
              have h2 := hM.c2 k hlt
              have h3 := hM.c3 k hlt
              have hbl := hM.lt (by omega)
              clear hM b0 b1 b2
              go_upto_if 75 with fail
              go_cut [15] (fun cv wx => cv = .bool (cpl D name k) ∧ Hid (∃ mb', Inv D name now w wx l (k + 1) k k k mb' am cm u12 ∧ mb' k = w1.heap.size))
              case first =>
                cases hnf : D.nf k with
                | true =>
                  have R := hid (close_nil HIN1.out hnf)
                  have hc := hid (show cpl D name k = false by simp [cpl, hnf])
                  go_wp2
                  go_meet
                  exact ⟨by rw [hc.out], R⟩
                | false =>
                  have hc := hid (show cpl D name k = cplTo D name k (D.fl k) by simp [cpl, hnf])
                  have hNF := hid hnf
                  have ST := hid (InMap.start D k w1)
                  go_wp2
                  go_loopw [15, 86] (fun cv jv wi => ∃ j : Nat, j ≤ D.fl k ∧ jv = .int .i64 j ∧ cv = .bool (cplTo D name k j) ∧ Hid (InMap D k w1 wi j)) (fun _ jv _ => D.fl k - (intOf jv).toNat)
                  case atStart => exact ⟨0, Nat.zero_le _, rfl, rfl, ST⟩
                  case round =>
                    obtain ⟨j, hj, rfl, rfl, HM⟩ := hrel
                    have hinv := HIN1.out.below HM.out.bel
                    have hM := HI.out.below hinv.bel
                    have h0 := hM.c0 k hlt
                    have h1 := hM.c1 k hlt
                    have h2 := hM.c2 k hlt
                    have h3 := hM.c3 k hlt
                    by_cases hjl : j < D.fl k
                    · have hfi := hM.fx k hlt j hjl
                      have f0 := hM.f0 k hlt j hjl
                      have f1 := hM.f1 k hlt j hjl
                      have hbr := hM.lt (by omega)
                      have hfb := hM.ft k hlt (by omega)
                      have hmb := HM.out.blk
                      have m8 : wr.cell? ⟨w1.heap.size, 8, none⟩ = some (.map (some (w1.heap.size + 1))) := by simp [World.cell?, hmb, memC]
                      have hms : w1.heap.size < wr.heap.size := (Array.getElem?_eq_some_iff.1 hmb).1
                      have hup := HM.out.upd
                      have NX := hid HM.out.step
                      have hld2 := load61 (W := (wr.alloc (.cells (frC (D.fk k j)) 61)).drew) (f := D.fk k j) (blk_alloc_new wr _)
                      obtain ⟨wp, hwp⟩ : ∃ wp, wp = mapPut (wr.alloc (.cells (frC (D.fk k j)) 61)).drew (w1.heap.size + 1) (D.fn k j) (frV (D.fk k j)) := ⟨_, rfl⟩
                      rw [← hwp] at hup NX
                      have hBq := (Below.refl wr.heap.size wr).alloc (Nat.le_refl _) (.cells (frC (D.fk k j)) 61)
                      obtain ⟨wq, hwq⟩ : ∃ wq, wr.alloc (.cells (frC (D.fk k j)) 61) = wq := ⟨_, rfl⟩
                      rw [hwq] at hup hld2 hBq
                      obtain ⟨fv, hfv⟩ : ∃ fv, frV (D.fk k j) = fv := ⟨_, rfl⟩
                      rw [hfv] at hup hld2
                      have p3 : wq.cell? ⟨b, o + k * 4 + 3, none⟩ = some (.slice (D.fa k) (D.fl k) (D.fc k)) := (hBq.cell (by exact hbr)).trans h3
                      have p0 : wq.cell? ⟨D.fb k, D.fo k + j * 2, none⟩ = some (.string (D.fn k j)) := (hBq.cell (by exact hfb)).trans f0
                      have p8 : wq.cell? ⟨w1.heap.size, 8, none⟩ = some (.map (some (w1.heap.size + 1))) := (hBq.cell (by exact hms)).trans m8
                      have HBq := hid hBq
                      have hMp := HI.out.below (HIN1.out.below NX.out.bel).bel
                      have q3 := hMp.c3 k hlt
                      have g0 := hMp.f0 k hlt j hjl
                      have g1 := hMp.f1 k hlt j hjl
                      unfold frC at hwq
                      have HWQ := hid hwq
                      have HLD := hid hld2
                      clear hld2
                      clear hwp hwq hM hinv hMp hmb hBq hfv
                      have hfm := HI.out.fm k hlt
                      have hbe := beq_toListBytes (D.fn k j) name
                      go_wp2
                      rw [HWQ.out]
                      refine wp_region_still_tail 14 (by kernel_rfl) (by kernel_rfl) ?_
                      simp only [List.take_succ_cons, List.take_zero, List.drop_succ_cons, List.drop_zero]
                      repeat still_step
                      refine wpStill_step (fun K hK => ?_)
                      rw [if_pos (by rfl)]
                      refine still_load rfl rfl HLD.out (hK _ ?_)
                      refine wpStill_nil ?_
                      clear hK K
                      go_upto_region 27 with fail
                      cases hq : (D.fn k j == name) with
                      | true =>
                        have hcs := hid (show cplTo D name k (j + 1) = D.fk k j by simp [cplTo, hq])
                        rw [hq] at hbe
                        have hbe2 := hbe.symm
                        clear hbe
                        go_wp2
                        go_roundw
                        case rel => (repeat apply Exists.intro); exact ⟨⟨j + 1, by omega, by go_num, by rw [hcs.out], NX⟩, rfl⟩
                        case measure => simp [intOf]; omega
                      | false =>
                        have hcs := hid (show cplTo D name k (j + 1) = cplTo D name k j by simp [cplTo, hq])
                        rw [hq] at hbe
                        have hbe2 := hbe.symm
                        clear hbe
                        go_wp2
                        go_roundw
                        case rel => (repeat apply Exists.intro); exact ⟨⟨j + 1, by omega, by go_num, by rw [hcs.out], NX⟩, rfl⟩
                        case measure => simp [intOf]; omega
                    · have ej : j = D.fl k := by omega
                      subst ej
                      have R := hid (close_map HIN1.out hNF.out HM.out)
                      go_wp2
                      go_meet
                      exact ⟨by rw [hc.out], R⟩
              case rest =>
                obtain ⟨rfl, HV2⟩ := hcut
                obtain ⟨mb2, hinv, hmbk⟩ := HV2.out
                have HI2 := hid hinv
                have J1 := hid hinv.storePtr
                unfold ptrOf at J1
                rw [hmbk] at J1
                have HPK := hid (show ptrOf mb2 k = .pointer (some ⟨w1.heap.size, 0, none⟩) by unfold ptrOf; rw [hmbk])
                obtain ⟨u0, hp1, hp2⟩ := hinv.ptrCell hlt
                have hM := HI.out.below hinv.bel
                clear HV2 hinv h0 h1 h2 h3 hM hbl
                go_upto_region 31 with fail
                generalize wc.setCell ⟨w.heap.size + 1 + 1 + 1, k, none⟩ (.pointer (some ⟨w1.heap.size, 0, none⟩)) = w2 at J1 ⊢
                have hk1 : w2.cell? ⟨w.heap.size + 1 + 1, 2, none⟩ = some (.slice am k cm) := J1.out.crdCell.1
                clear hp1 hp2
                go_upto_region 32 with (at_builtin; refine wpList_append_own _ rfl (.tmp 143) (.tmp 145) 39 rfl (w.heap.size + 5) 45 i0 (.pointer none) 1 8 Yba.underlying39 F1.out F2.out F3.out F4.out rfl (by decide) _ _ _ rfl (J1.out.own.alloc _) ⟨w2.heap.size, 0, none⟩ 1 1 [.pointer (some ⟨w1.heap.size, 0, none⟩)] rfl rfl (one_src _ _ _ _ rfl) (by intro u hu; simp at hu; subst hu; rfl) (by unfold maxLen; omega) (by omega) (by have := J1.out.sz; simp; omega) ?_; intro v' w3 hown' hgrow hiff; clear hiff; obtain ⟨am', cm', rfl⟩ := own_shape hown'; have q1 : w3.cell? ⟨w.heap.size + 1 + 1, 2, none⟩ = some (.slice am k cm) := (J1.out.crdLater hgrow).1; have q2 : w3.frozen? ⟨w.heap.size + 1 + 1, 2, none⟩ = false := (J1.out.crdLater hgrow).2; have J2 := hid (J1.out.appendM hgrow (by rw [HPK.out]; exact hown')); clear hown' hgrow)
                generalize w3.setCell ⟨w.heap.size + 1 + 1, 2, none⟩ (.slice am' (k + 1) cm') = w4 at J2 ⊢
                have e3 : w4.cell? ⟨w.heap.size + 1 + 1, 3, none⟩ = some (.map (some (w.heap.size + 1))) := J2.out.crdCell.2.1
                have hM4 := HI.out.below J2.out.bel
                have e0 := hM4.c0 k hlt
                obtain ⟨G, hG⟩ := J2.out.byn
                have hup := run_update_map (P := Yba.prog) (w := w4.drew) Yba.underlying31 Yba.underlying9 hG (D.nm k) (.pointer (some ⟨w1.heap.size, 0, none⟩))
                have J3 := hid (J2.out.drew.putName (D.nm k) (.pointer (some ⟨w1.heap.size, 0, none⟩)))
                generalize mapPut w4.drew (w.heap.size + 1) (D.nm k) (.pointer (some ⟨w1.heap.size, 0, none⟩)) = w5 at hup J3
                have hM5 := HI.out.below J3.out.bel
                have d1 := hM5.c1 k hlt
                clear hM4 hM5 hG hk1 q1 q2
                refine wp_region_still_tail 10 (by kernel_rfl) (by kernel_rfl) ?_
                simp only [List.take_succ_cons, List.take_zero, List.drop_succ_cons, List.drop_zero]
                repeat still_step
                refine wpStill_nil ?_
                go_upto_region 33 with fail
                cases hcp : cpl D name k with
                | false =>
                  have J4 := hid (J3.out.skipW (show selP D name now k = false by simp [selP, hcp]))
                  clear hcp
                  go_wp2
                  go_roundw
                  case rel => exact ⟨k + 1, by omega, by go_num, hid ⟨_, _, _, J4.out⟩⟩
                  case measure => simp [intOf]; omega
                | true =>
                  cases hal : aliveB now (D.sn k) with
                  | false =>
                    have HAL := hid hal
                    have J4 := hid (J3.out.skipW (show selP D name now k = false by simp [selP, hcp, hal]))
                    clear hcp hal
                    go_wp2_with (go_at_call 5; refine (spec_any now (D.sn k) _ hn0 hn1 sb0 sb1).mono ?_; rintro e wx ⟨rfl, rfl⟩; rw [HAL.out])
                    go_roundw
                    case rel => exact ⟨k + 1, by omega, by go_num, hid ⟨_, _, _, J4.out⟩⟩
                    case measure => simp [intOf]; omega
                  | true =>
                    have HAL := hid hal
                    have HSE := hid (show selP D name now k = true by simp [selP, hcp, hal])
                    have hlen := selTo_len (selP D name now) k
                    clear hcp hal
                    go_wp2_with (first
                      | (go_at_call 5; refine (spec_any now (D.sn k) _ hn0 hn1 sb0 sb1).mono ?_; rintro e wx ⟨rfl, rfl⟩; rw [HAL.out])
                      | (at_builtin; refine wpList_append_own _ rfl (.tmp 169) (.tmp 171) 44 rfl (w.heap.size + 4) 3 i1 (.int .i64 0) 1 8 Yba.underlying44 G1.out G2.out G3.out G4.out rfl (by decide) _ _ _ rfl (J3.out.wnt.alloc _) ⟨wx.heap.size, 0, none⟩ 1 1 [.int .i64 (k : Int)] rfl rfl (one_src _ _ _ _ rfl) (by intro u hu; simp at hu; subst hu; rfl) (by unfold maxLen; omega) (by omega) (by have := J3.out.sz; simp; omega) ?_; intro v' w6 hown' hgrow hiff; clear hiff; have J4 := hid (J3.out.appendW hgrow hown' HSE.out); clear hown' hgrow))
                    go_roundw
                    case rel => exact ⟨k + 1, by omega, by go_num, hid ⟨_, _, _, J4.out⟩⟩
                    case measure => simp [intOf]; omega
          · have ek : k = l := by omega
            subst ek
            obtain ⟨mb, am, cm, hinv⟩ := HV.out
            clear HV
            obtain ⟨N, hN⟩ : ∃ N, (selTo (selP D name now) k).length = N := ⟨_, rfl⟩
            obtain ⟨aw, cw, rfl⟩ : ∃ aw cw, u12 = .slice aw N cw := by rw [← hN]; exact own_shape hinv.wnt
            have hNk : N ≤ k := by rw [← hN]; exact selTo_len _ _
            have HN := hid hN
            have HIN := hid hinv
            have HSN := hid (fun j (hj : j < k) => HI.out.sb j hj)
            have hbas : wr.heap[w.heap.size]? = some (.cells #[.int .u64 0, .int .i64 0, .pointer none] 29 (0, 0)) := hinv.bas
            have b0 : wr.cell? ⟨w.heap.size, 0, none⟩ = some (.int .u64 0) := by simp [World.cell?, hbas]
            have b1 : wr.cell? ⟨w.heap.size, 1, none⟩ = some (.int .i64 0) := by simp [World.cell?, hbas]
            have b2 : wr.cell? ⟨w.heap.size, 2, none⟩ = some (.pointer none) := by simp [World.cell?, hbas]
            have q39 : ∀ (w : World) (a : Option Addr) (n c n' c' : Nat), (binOp .eql 39 (.slice a n c) (.slice none n' c')).run Yba.prog w = .ok (.bool a.isNone) w := fun w a n c n' c' => Lib.run_eql_slice_nil w _ _ a n c n' c' Yba.underlying39
            have qp := run_neq_ptr
            clear hbas hinv hN
            go_upto_region 37 with (first
              | (go_at_call 4; refine (add_ex 0 0 now _ (by omega) (by omega) (by omega) (by omega) hn0 hn1).mono ?_; rintro e wA ⟨⟨n', s', rfl, hn', hn'', hs'⟩, hbA⟩; have HA := hid (HIN.out.below hbA); clear hbA)
              | (go_at_call 6; refine (hold_inv HA.out hbd HSN.out hn' hn'' (by omega) hn0 hn1 HN.out).mono ?_; rintro e wB ⟨ar, cr, rfl, hbB, hres, hnil⟩; obtain ⟨x, gm, gr, gw, fin, im, ir, iw, xk⟩ := Fin5.make HA.out hbB hres HN.out; have FI := hid fin; have IM := hid im; have IR := hid ir; have IW := hid iw; have XK := hid xk; have NI := hid hnil; clear hbB hres hnil fin im ir iw xk))
            have k1 := FI.out.crd
            go_wp2
            go_loopw [190] (fun i wi => ∃ j : Nat, j ≤ k ∧ i = .int .i64 j ∧ Hid (Fin5 w wi k N x mb am cm gm gr gw)) (fun i _ => k - (intOf i).toNat)
            case atStart => exact ⟨0, Nat.zero_le _, rfl, FI⟩
            case round =>
              obtain ⟨j, hj, rfl, HF⟩ := hrel
              by_cases hjk : j < k
              · have c2 := HF.out.crd
                have cm1 := HF.out.mc j hjk
                have cp1 := HF.out.pc j hjk
                have ij := IM.out j hjk
                go_wp2
                go_quiet (fail)
                go_wp2
                go_roundw
                case rel => exact ⟨j + 1, by omega, by go_num, hid (HF.out.drewN _)⟩
                case measure => simp [intOf]; omega
              · rcases Nat.eq_zero_or_pos N with hN0 | hN0
                · subst hN0
                  have har := NI.out rfl
                  subst har
                  go_wp2
                  go_ret
                  exact ⟨rfl, HF.out.bel⟩
                · have t1 : ((N : Int) == 0) = false := by simp; omega
                  have t2 : decide ((N : Int) = 0) = false := by simp; omega
                  go_wp2
                  go_loopw [218] (fun i wi => ∃ q : Nat, q ≤ N ∧ i = .int .i64 q ∧ Hid (Fin5 w wi k N x mb am cm gm gr gw)) (fun i _ => N - (intOf i).toNat)
                  case atStart => exact ⟨0, Nat.zero_le _, rfl, HF⟩
                  case round =>
                    obtain ⟨q, hq, rfl, HQ⟩ := hrel
                    by_cases hqN : q < N
                    · have cr1 := HQ.out.rc q hqN
                      have cw1 := HQ.out.wc q hqN
                      have hyk := XK.out q hqN
                      have cp1 := HQ.out.pc (x q) hyk
                      have i1 := IR.out q hqN
                      have i2 := IW.out q hqN
                      have i3 : ∀ W : World, (Instr.indexAt 39 (.slice (some ⟨w.heap.size + 1 + 1 + 1, 0, none⟩) k k) (.int .i64 (x q : Int))).run Yba.prog W = .ok (.pointer (some ⟨w.heap.size + 1 + 1 + 1, x q, none⟩)) W := fun W => by
                        have := run_index_n (P := Yba.prog) 39 45 1 Yba.underlying39 size45 (w.heap.size + 1 + 1 + 1) 0 k k (x q) hyk W
                        simpa using this
                      generalize x q = y at cr1 cw1 hyk cp1 i3
                      go_wp2
                      go_quiet (fail)
                      go_wp2
                      go_roundw
                      case rel => exact ⟨q + 1, by omega, by go_num, hid (HQ.out.drewN _)⟩
                      case measure => simp [intOf]; omega
                    · go_wp2
                      go_ret
                      exact ⟨rfl, HQ.out.bel⟩

end Go.Proofs.Ybulkdkbg
