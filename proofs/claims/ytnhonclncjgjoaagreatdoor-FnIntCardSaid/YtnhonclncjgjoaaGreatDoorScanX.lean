/- math/big's nat.scan at base 0: the prefix 0x. -/
import Derived.Test.YtnhonclncjgjoaaGreatDoorPack
namespace Go.Proofs.YtnhonclncjgjoaaGreatDoor
open Go Go.RowKit Go.Proofs.YtnhonclncjgjoaaGreatDoorW.PrintWords
set_option linter.unusedVariables false
set_option linter.unusedSimpArgs false

set_option maxRecDepth 100000 in
set_option maxHeartbeats 8000000 in
theorem scan_X (s : ByteArray) (hs : s.size ≤ 60) (h2 : 2 ≤ s.size) (hc : bt s 0 = 48) (hl1 : bt s 1 = 120 ∨ bt s 1 = 88) (gr B : Nat) (a : Addr) (ti : TypeId) (vi : Value) (tn : TypeId) (vn : Value) (w : World) (hB : B ≤ w.heap.size) (hg : gr < B) (hR : RdAt w gr s 0) (hE : Errs w a ti vi tn vn) (hl : 1 < B ∧ 3 < B ∧ 4 < B) (hn : 1 ≠ gr ∧ 3 ≠ gr ∧ 4 ≠ gr) :
    Calls Tryz.prog 88 #[.slice none 0 0, .iface 113 (.pointer (some ⟨gr, 0, none⟩)), .int .i64 0, .bool false] w (ScR s gr B w (sgF (sg 16 ((bytesOf s).drop 2) 48 false 0 0))) := by
  have hmR : ∀ w, (method 444 113 (.pointer (some ⟨gr, 0, none⟩)) "ReadByte").run Tryz.prog w = .ok (89, .pointer (some ⟨gr, 0, none⟩)) w := fun _ => by kernel_rfl
  have hmU : ∀ w, (method 444 113 (.pointer (some ⟨gr, 0, none⟩)) "UnreadByte").run Tryz.prog w = .ok (327, .pointer (some ⟨gr, 0, none⟩)) w := fun _ => by kernel_rfl
  have hq : ∀ W, (binOp .eql 64 (eofV a) (eofV a)).run Tryz.prog W = .ok (.bool true) W := eof_eql a
  have hq2 : ∀ W, (binOp .eql 64 .nilIface (eofV a)).run Tryz.prog W = .ok (.bool false) W := nil_eql a
  obtain ⟨R, hRR⟩ : ∃ R, sg 16 ((bytesOf s).drop 2) 48 false 0 0 = R := ⟨_, rfl⟩
  rw [hRR]
  have HB := Aside0.mk (And.intro hB (And.intro hg (And.intro hE (And.intro hl (And.intro hn hs)))))
  have HRR := Aside0.mk hRR
  clear hRR
  have H0 := Aside0.mk (readByte_some gr 0 s (by omega) (by omega) w hR)
  rw [show bt s (0 : Nat) = 48 from hc] at H0
  have H1 := Aside0.mk (fun W (h : RdAt W gr s 1) => readByte_some gr 1 s (by omega) (by omega) W h)
  obtain ⟨c1, hc1⟩ : ∃ c, bt s (1 : Nat) = c := ⟨_, rfl⟩
  rw [show bt s (1 : Nat) = bt s 1 from rfl] at hc1
  rw [hc1] at hl1
  rw [show bt s (1 : Nat) = c1 from hc1] at H1
  have H2 := Aside0.mk (fun W (h : RdAt W gr s 2) (h2 : W.cell? ⟨1, 0, none⟩ = some (eofV a)) => readByte_any gr 2 s (by omega) (by omega) a W h h2 hn.1)
  have HC := Aside0.mk (And.intro h2 hc1)
  clear hB hg hE hl hn hs hR hc h2 hc1
  go_enter Tryz.func88, Tryz.ntmps88
  go_upto_if 67 with fail
  refine H0.out.mono ?_
  rintro e w1 ⟨rfl, hrd⟩
  have HD := Aside0.mk hrd
  clear hrd
  go_upto_if 67 with fail
  go_cut [9, 10, 11, 13, 15, 16] from 68 to 101 (fun bv cnt ev prev ch pf wx => bv = .int .i64 16 ∧ cnt = .int .i64 0 ∧ prev = .int .i32 48 ∧ pf = .int .i64 120 ∧ ∃ c, ch = .int .u8 c ∧ NextAt wx gr s a 2 (.int .u8 c) ev ∧ KeptB B gr w wx)
  case first =>
    rcases hl1 with rfl | rfl
    · go_wp2_with fail
      refine (H1.out _ HD.out.at').mono ?_
      rintro e w2 ⟨rfl, hrd⟩
      have HD2 := Aside0.mk hrd
      clear hrd
      go_wp2_with fail
      refine (H2.out _ HD2.out.at' ((((HD.out.kept B).trans (HD2.out.kept B)).cell HB.out.2.2.2.1.1 HB.out.2.2.2.2.1.1).trans HB.out.2.2.1.eof)).mono ?_
      rintro e w3 ⟨ch, ev, rfl, hnx, hkp, hsz⟩
      have HN := Aside0.mk (And.intro hnx (And.intro hkp hsz))
      clear hnx hkp hsz
      go_wp2
      go_meet
      case rel => exact ⟨rfl, rfl, rfl, rfl, ch, rfl, HN.out.1, ((HD.out.kept B).trans (HD2.out.kept B)).trans (HN.out.2.1 B)⟩
    · go_wp2_with fail
      refine (H1.out _ HD.out.at').mono ?_
      rintro e w2 ⟨rfl, hrd⟩
      have HD2 := Aside0.mk hrd
      clear hrd
      go_wp2_with fail
      refine (H2.out _ HD2.out.at' ((((HD.out.kept B).trans (HD2.out.kept B)).cell HB.out.2.2.2.1.1 HB.out.2.2.2.2.1.1).trans HB.out.2.2.1.eof)).mono ?_
      rintro e w3 ⟨ch, ev, rfl, hnx, hkp, hsz⟩
      have HN := Aside0.mk (And.intro hnx (And.intro hkp hsz))
      clear hnx hkp hsz
      go_wp2
      go_meet
      case rel => exact ⟨rfl, rfl, rfl, rfl, ch, rfl, HN.out.1, ((HD.out.kept B).trans (HD2.out.kept B)).trans (HN.out.2.1 B)⟩
  case rest =>
  obtain ⟨rfl, rfl, rfl, rfl, c, rfl, hnx, hkp⟩ := hcut
  have HN := Aside0.mk (And.intro hnx hkp)
  clear hnx hkp
  go_upto_block 2 with (fail)
  obtain ⟨i0, hi0, hz00, hz01, hz02⟩ := info_parts infoWordP
  have HS : Aside0 (SRelP 16 16 2 s gr B a w R (.slice none 0 0) (.bool false) (.int .i64 0) u11 (.int .i32 48) (.bool false) (.int .u8 c) (.int .u64 0) (.int .i64 0) (.int .i64 (-1)) wc) := by
    refine Aside0.mk ⟨2, 0, 0, c, 48, 0, 0, false, none, 0, 0, rfl, rfl, rfl, rfl, rfl, rfl, rfl, rfl, rfl, HN.out.1, by have := HC.out; omega, by decide, by decide, by decide, by decide, by decide, PkAt.nil _ _ _, ?_, HN.out.2, .inl rfl⟩
    rw [← HRR.out]
    rfl
  go_cut [0, 10, 11, 13, 14, 20, 21, 22] (fun zv cnt errv prev inv di i dp wx => LExP 16 16 2 s gr B a w R zv cnt errv prev inv di i dp wx)
  case first =>
    go_wp2_with fail
    go_loopw [0, 3, 10, 11, 13, 14, 15, 20, 21, 22] (fun zv fo cnt errv prev inv ch di i dp wr => SRelP 16 16 2 s gr B a w R zv fo cnt errv prev inv ch di i dp wr) (fun _ _ _ errv _ _ _ _ _ _ wr => msr s gr errv wr)
    case atStart => exact HS.out
    case round =>
      obtain ⟨k, X, D, c, p, j, cn, iv, A, zn, zc, rfl, rfl, rfl, rfl, rfl, rfl, rfl, rfl, rfl, hN, hk, hcn, hjc, hj, hD0, hD1, hX, hsg, hK, hpr⟩ := hrel
      rcases hN with ⟨hlt, hce, rfl, hrd⟩ | ⟨hke, hce, rfl, hrd⟩
      · obtain ⟨hB, hg, hE, hl, hn, hs⟩ := HB.out
        have hEr := base_of hE hK hl hn
        have hbr := bt_range s k
        injection hce with _ hce
        rw [drop_bytes s k hlt, ← hce, sg] at hsg
        rw [← hce] at hbr
        have HRB := Aside0.mk (fun W (h : RdAt W gr s (k + 1)) (h2 : W.cell? ⟨1, 0, none⟩ = some (eofV a)) => readByte_any gr (k + 1) s (by omega) (by omega) a W h h2 hn.1)
        have HU := Aside0.mk (unreadByte gr k (k + 1) s (by omega) rfl (by omega) wr hrd)
        have hs1 : s.size < 100 := by omega
        have HX := Aside0.mk (And.intro hlt (And.intro hrd (And.intro hk (And.intro hcn (And.intro hjc (And.intro hj (And.intro hD0 (And.intro hD1 (And.intro hX (And.intro hK (And.intro hpr (And.intro hEr (And.intro hbr hs1)))))))))))))
        have HG := Aside0.mk hsg
        clear hlt hce hrd hk hcn hjc hj hD0 hD1 hX hK hpr hEr hB hg hE hl hn hs hs1 hsg
        by_cases c95 : c = 95
        · subst c95
          clear hbr
          have e46 : ((95 : Int) == 46) = false := rfl
          have HR1 := Aside0.mk (HRB.out wr HX.out.2.1 HX.out.2.2.2.2.2.2.2.2.2.2.2.1.eof)
          by_cases hp : p = 48
          · subst hp
            go_wp2_with fail
            refine HR1.out.mono ?_
            rintro e w5 ⟨ch, ev, rfl, hnx, hkp, hsz⟩
            have HN := Aside0.mk (And.intro hnx (And.intro hkp hsz))
            clear hnx hkp hsz
            go_wp2
            obtain ⟨hlt, hrd, hk, hcn, hjc, hj, hD0, hD1, hX, hK, hpr, hEr, hbr, hs1⟩ := HX.out
            obtain ⟨hnx, hkp, hsz⟩ := HN.out
            have hsg := HG.out
            rw [if_pos trivial, show (iv || (48 : Int) != 48) = iv by simp] at hsg
            exact ⟨⟨k + 1, X, D, ch, 95, j, cn, iv, A, zn, zc, rfl, rfl, rfl, rfl, rfl, rfl, rfl, rfl, rfl, hnx, hlt, by omega, hjc, hj, hD0, hD1, Rst.pk ⟨hkp, hsz⟩ hX HB.out.2.1, hsg, hK.trans (hkp B), .inr (.inr rfl)⟩, msr_lt hlt hrd hnx⟩
          · have e48 : (p == 48) = false := by rw [beq_eq_false_iff_ne]; exact hp
            have HP := Aside0.mk hp
            clear hp
            go_wp2_with fail
            refine HR1.out.mono ?_
            rintro e w5 ⟨ch, ev, rfl, hnx, hkp, hsz⟩
            have HN := Aside0.mk (And.intro hnx (And.intro hkp hsz))
            clear hnx hkp hsz
            go_wp2
            obtain ⟨hlt, hrd, hk, hcn, hjc, hj, hD0, hD1, hX, hK, hpr, hEr, hbr, hs1⟩ := HX.out
            obtain ⟨hnx, hkp, hsz⟩ := HN.out
            have hsg := HG.out
            rw [if_pos trivial, show (iv || p != 48) = true by simp [bne, e48]] at hsg
            exact ⟨⟨k + 1, X, D, ch, 95, j, cn, true, A, zn, zc, rfl, rfl, rfl, rfl, rfl, rfl, rfl, rfl, rfl, hnx, hlt, by omega, hjc, hj, hD0, hD1, Rst.pk ⟨hkp, hsz⟩ hX HB.out.2.1, hsg, hK.trans (hkp B), .inr (.inr rfl)⟩, msr_lt hlt hrd hnx⟩
        · have e95 : (c == 95) = false := by rw [beq_eq_false_iff_ne]; exact c95
          have hsg := HG.out
          rw [if_neg c95] at hsg
          replace HG := Aside0.mk hsg
          clear hsg c95
          by_cases c46 : c = 46
          · subst c46
            clear hbr e95
            have HQ : Aside0 (R = none) := Aside0.mk (by
              have h := HG.out
              rw [if_neg (by have : dig36 46 = 99 := by decide
                             omega)] at h
              exact h.symm)
            go_wp2_with fail
            refine HU.out.mono ?_
            rintro e w' ⟨rfl, hrdd⟩
            have HV := Aside0.mk hrdd
            clear hrdd
            go_wp2
            go_meet
            case rel =>
              obtain ⟨hlt, hrd, hk, hcn, hjc, hj, hD0, hD1, hX, hK, hpr, hEr, hbr, hs1⟩ := HX.out
              have hrdd := HV.out
              exact ⟨k, X, D, p, j, cn, iv, A, zn, zc, rfl, rfl, rfl, rfl, rfl, rfl, rfl, hrdd.at', hk, hcn, hjc, hj, hD0, hD1, Rst.pk ⟨hrdd.kept, hrdd.size⟩ hX HB.out.2.1, hK.trans (hrdd.kept B), .inr ⟨rfl, hlt, HQ.out⟩⟩
          · have e46 : (c == 46) = false := by rw [beq_eq_false_iff_ne]; exact c46
            clear c46
            go_upto_block 4 with fail
            go_cut [23] (fun dv wx => wr = wx ∧ ∃ d, dv = .int .u64 d ∧ 0 ≤ d ∧ d ≤ 255 ∧ (dig36 c = d ∨ (dig36 c = 99 ∧ 62 ≤ d)))
            case first =>
              have hda := dig_all c hbr.1 (by omega)
              have HA := Aside0.mk (And.intro hda hbr)
              by_cases h1 : 48 ≤ c
              · by_cases h2 : c ≤ 57
                · clear hda
                  go_wp2
                  go_meet
                  case rel => exact ⟨rfl, c - 48, by first | rfl | (congr 1; (try simp only [IntKind.wrap_u8, IntKind.wrap_u64]); omega), by omega, by omega, .inl (HA.out.1.1 ⟨h1, h2⟩)⟩
                · by_cases h3 : 97 ≤ c
                  · by_cases h4 : c ≤ 122
                    · clear hda
                      go_wp2
                      go_meet
                      case rel => exact ⟨rfl, c - 87, by first | rfl | (congr 1; (try simp only [IntKind.wrap_u8, IntKind.wrap_u64]); omega), by omega, by omega, .inl (HA.out.1.2.1 ⟨h3, h4⟩)⟩
                    · have h5 : ¬ c ≤ 90 := by omega
                      clear hda
                      go_wp2
                      go_meet
                      case rel => exact ⟨rfl, 63, rfl, by omega, by omega, .inr ⟨HA.out.1.2.2.2 (by omega), by omega⟩⟩
                  · by_cases h5 : 65 ≤ c
                    · by_cases h6 : c ≤ 90
                      · clear hda
                        go_wp2
                        go_meet
                        case rel => exact ⟨rfl, c - 55, by first | rfl | (congr 1; (try simp only [IntKind.wrap_u8, IntKind.wrap_u64]); omega), by omega, by omega, .inl (HA.out.1.2.2.1 ⟨h5, h6⟩)⟩
                      · clear hda
                        go_wp2
                        go_meet
                        case rel => exact ⟨rfl, 63, rfl, by omega, by omega, .inr ⟨HA.out.1.2.2.2 (by omega), by omega⟩⟩
                    · clear hda
                      go_wp2
                      go_meet
                      case rel => exact ⟨rfl, 63, rfl, by omega, by omega, .inr ⟨HA.out.1.2.2.2 (by omega), by omega⟩⟩
              · have h3 : ¬ 97 ≤ c := by omega
                have h5 : ¬ 65 ≤ c := by omega
                clear hda
                go_wp2
                go_meet
                case rel => exact ⟨rfl, 63, rfl, by omega, by omega, .inr ⟨HA.out.1.2.2.2 (by omega), by omega⟩⟩
            case rest =>
              obtain ⟨rfl, d, rfl, hd0, hd1, hd⟩ := hcut
              by_cases hdb : d < 16
              · have hdd : dig36 c = d := by
                  rcases hd with h | ⟨_, h⟩
                  · exact h
                  · omega
                have hsg := HG.out
                rw [hdd, if_pos hdb] at hsg
                replace HG := Aside0.mk hsg
                obtain ⟨hlt, hrd, hk, hcn, hjc, hj, hD0, hD1, hX, hK, hpr, hEr, hbr, hs1⟩ := HX.out
                have hbl := big_le (b := 16) (by decide) hD0 hD1 hd0 hdb hj (by decide +kernel)
                obtain ⟨D2, hD2⟩ : ∃ x, D * 16 + d = x := ⟨_, rfl⟩
                obtain ⟨j2, hj2⟩ : ∃ x, j + 1 = x := ⟨_, rfl⟩
                obtain ⟨cn2, hcn2⟩ : ∃ x, cn + 1 = x := ⟨_, rfl⟩
                have hwA : IntKind.u64.wrap (D * 16) = D * 16 := by rw [IntKind.wrap_u64]; omega
                have hwB : IntKind.u64.wrap (D * 16 + d) = D2 := by rw [IntKind.wrap_u64]; omega
                have hwj : wrap64 ((j : Int) + 1) = (j2 : Int) := by unfold wrap64; omega
                have hwc : wrap64 ((cn : Int) + 1) = (cn2 : Int) := by unfold wrap64; omega
                have HW := Aside0.mk (And.intro hD2 (And.intro hj2 (And.intro hcn2 hbl)))
                have hdb2 : ¬ 16 ≤ d := by omega
                have hcn9 : cn ≤ 900 := Nat.le_trans hcn (Nat.le_trans hk (Nat.le_of_lt (Nat.lt_of_lt_of_le hs1 (show 100 ≤ 900 by decide))))
                have hD20 : 0 ≤ D2 := by rw [← hD2]; exact Int.add_nonneg hbl.1 hd0
                have hD21 : D2 < 18446744073709551616 := by rw [← hD2]; exact hbl.2.2
                have HDR := Aside0.mk (And.intro hD20 hD21)
                obtain ⟨zs, hz1, hz2, hz3, hz4⟩ := hX
                have hznz : zn = zs.length := by
                  rcases row_form hz1 with ⟨e, h0, _⟩ | ⟨g, c, e⟩
                  · injection e with _ e _
                    rw [e, h0]
                  · injection e with _ e _
                have HO := Aside0.mk hz1
                have HZ := Aside0.mk (And.intro hz2 (And.intro hz3 hz4))
                have HLB := Aside0.mk (show zs.length + 1 ≤ maxLen ∧ (zs.length + 1) * 8 ≤ 140737488355328 from by
                  have h9 := Nat.le_trans hz4 hcn9
                  clear hbl hwA hwB hD1 hsg hz1 hz2 hz3
                  unfold maxLen
                  omega)
                have HBS := Aside0.mk (fun (o : Obj) => (show B ≤ (wr.alloc o).heap.size from by rw [World.size_alloc]; exact Nat.le_succ_of_le (Nat.le_trans HB.out.1 hK.size)))
                have HBR := Aside0.mk (Nat.le_trans HB.out.1 hK.size)
                have HR1 := Aside0.mk (HRB.out wr hrd hEr.eof)
                clear hznz hz1 hz2 hz3 hz4 hD21 hcn9 hD20 hsg hdd hd hD2 hj2 hcn2 hbl hlt hrd hk hcn hjc hj hD0 hD1 hK hpr hEr hbr hs1 hdb
                by_cases hf : j2 = 16
                · have ef : ((j2 : Int) == 16) = true := by subst hf; rfl
                  have HF := Aside0.mk hf
                  clear hf
                  go_wp2_with (at_builtin; refine wpList_append_own _ rfl _ _ 94 rfl B 148 i0 (.int .u64 0) 1 8 Tryz.underlying94 hi0 hz00 hz01 hz02 rfl (by decide) _ _ _ rfl (HO.out.alloc _) ⟨wr.heap.size, 0, none⟩ 1 1 [.int .u64 D2] rfl rfl (newsW wr D2 _) (newsWc D2) HLB.out.1 HLB.out.2 (HBS.out _) ?_; intro v' w4 hown4 hgrow4 _; have HO4 := Aside0.mk hown4; have HG4 := Aside0.mk (show Below B wr w4 from ((Below.refl B wr).alloc HBR.out _).grown hgrow4 (HBS.out _) (fun kk hk => (HO.out.lt kk hk).1)); clear hown4 hgrow4; obtain ⟨A4, n4, c4, rfl⟩ := (PkAt.push HZ.out.1 HZ.out.2.1 HZ.out.2.2 HDR.out.1 HDR.out.2 HO4.out).form)
                  have hbel := HG4.out
                  have hnat := PkAt.push HZ.out.1 HZ.out.2.1 HZ.out.2.2 HDR.out.1 HDR.out.2 HO4.out
                  have HR4 := Aside0.mk (HRB.out w4 (HX.out.2.1.below hbel HB.out.2.1) ((hbel.cell (p := ⟨1, 0, none⟩) HB.out.2.2.2.1.1).trans HX.out.2.2.2.2.2.2.2.2.2.2.2.1.eof))
                  have H4 := Aside0.mk (And.intro hnat hbel)
                  clear hnat hbel
                  go_wp2_with fail
                  refine HR4.out.mono ?_
                  rintro e w5 ⟨ch, ev, rfl, hnx, hkp, hsz⟩
                  have HN := Aside0.mk (And.intro hnx (And.intro hkp hsz))
                  clear hnx hkp hsz
                  go_wp2
                  obtain ⟨hlt, hrd, hk, hcn, hjc, hj, hD0, hD1, hX, hK, hpr, hEr, hbr, hs1⟩ := HX.out
                  obtain ⟨hnx, hkp, hsz⟩ := HN.out
                  obtain ⟨hD2, hj2, hcn2, hbl⟩ := HW.out
                  obtain ⟨hnat, hbel⟩ := H4.out
                  have hf := HF.out
                  refine ⟨⟨k + 1, X * 18446744073709551616 + D2, 0, ch, 48, 0, cn2, iv, A4, n4, c4, rfl, rfl, rfl, rfl, rfl, rfl, rfl, rfl, rfl, hnx, hlt, by omega, Nat.zero_le _, by decide, by decide, by decide, Rst.pk ⟨hkp, hsz⟩ (hnat.more (by omega)) HB.out.2.1, ?_, (hK.below (Nat.le_refl _) hbel).trans (hkp B), .inr (.inl (by omega))⟩, msr_lt hlt hrd hnx⟩
                  have hsg := HG.out
                  rw [num_step, hj2, hf, hD2, show (16 : Int) ^ 16 = 18446744073709551616 from by decide +kernel] at hsg
                  rw [show (16 : Int) ^ 0 = 1 from rfl, Int.mul_one, Int.add_zero, ← hcn2]
                  exact hsg
                · have ef : ((j2 : Int) == 16) = false := by rw [beq_eq_false_iff_ne]; omega
                  have HF := Aside0.mk hf
                  clear hf
                  go_wp2_with fail
                  refine HR1.out.mono ?_
                  rintro e w5 ⟨ch, ev, rfl, hnx, hkp, hsz⟩
                  have HN := Aside0.mk (And.intro hnx (And.intro hkp hsz))
                  clear hnx hkp hsz
                  go_wp2
                  obtain ⟨hlt, hrd, hk, hcn, hjc, hj, hD0, hD1, hX, hK, hpr, hEr, hbr, hs1⟩ := HX.out
                  obtain ⟨hnx, hkp, hsz⟩ := HN.out
                  obtain ⟨hD2, hj2, hcn2, hbl⟩ := HW.out
                  have hf := HF.out
                  refine ⟨⟨k + 1, X, D2, ch, 48, j2, cn2, iv, A, zn, zc, rfl, rfl, rfl, rfl, rfl, rfl, rfl, rfl, rfl, hnx, hlt, by omega, by omega, by omega, by omega, by rw [← hj2, ← hD2]; exact hbl.2.1, Rst.pk ⟨hkp, hsz⟩ (hX.more (by omega)) HB.out.2.1, ?_, hK.trans (hkp B), .inr (.inl (by omega))⟩, msr_lt hlt hrd hnx⟩
                  have hsg := HG.out
                  rw [num_step, hj2, hD2] at hsg
                  rw [← hcn2]
                  exact hsg
              · have HQ : Aside0 (R = none) := Aside0.mk (by
                  have h := HG.out
                  rw [if_neg (by omega)] at h
                  exact h.symm)
                have hdb2 : 16 ≤ d := by omega
                clear hd hdb
                go_wp2_with fail
                refine HU.out.mono ?_
                rintro e w' ⟨rfl, hrdd⟩
                have HV := Aside0.mk hrdd
                clear hrdd
                go_wp2
                go_meet
                case rel =>
                  obtain ⟨hlt, hrd, hk, hcn, hjc, hj, hD0, hD1, hX, hK, hpr, hEr, hbr, hs1⟩ := HX.out
                  have hrdd := HV.out
                  exact ⟨k, X, D, p, j, cn, iv, A, zn, zc, rfl, rfl, rfl, rfl, rfl, rfl, rfl, hrdd.at', hk, hcn, hjc, hj, hD0, hD1, Rst.pk ⟨hrdd.kept, hrdd.size⟩ hX HB.out.2.1, hK.trans (hrdd.kept B), .inr ⟨rfl, hlt, HQ.out⟩⟩
      · have HX := Aside0.mk (And.intro hke (And.intro hrd (And.intro hk (And.intro hcn (And.intro hjc (And.intro hj (And.intro hD0 (And.intro hD1 (And.intro hX (And.intro hK (And.intro hpr hsg)))))))))))
        clear hke hrd hk hcn hjc hj hD0 hD1 hX hK hpr hsg hce
        go_wp2
        go_meet
        case rel =>
          obtain ⟨hke, hrd, hk, hcn, hjc, hj, hD0, hD1, hX, hK, hpr, hsg⟩ := HX.out
          subst hke
          rw [drop_bytes_end s _ (by omega)] at hsg
          exact ⟨_, X, D, p, j, cn, iv, A, zn, zc, rfl, rfl, rfl, rfl, rfl, rfl, rfl, hrd, hk, hcn, hjc, hj, hD0, hD1, hX, hK, .inl ⟨rfl, rfl, hsg.symm, hpr⟩⟩
  case rest =>
    obtain ⟨k, X, D, p, j, cn, iv, A, zn, zc, rfl, rfl, rfl, rfl, rfl, rfl, rfl, hrd, hk, hcn, hjc, hj, hD0, hD1, hX, hK, hex⟩ := hcut
    obtain ⟨hB, hg, hE, hl, hn, hs⟩ := HB.out
    have hEr := base_of hE hK hl hn
    have g1 := hEr.eof
    have g3 := hEr.inv
    have g4 := hEr.non
    have HX := Aside0.mk (And.intro hrd (And.intro hk (And.intro hcn (And.intro hjc (And.intro hj (And.intro hD0 (And.intro hD1 (And.intro hX hK))))))))
    have hj2 : (0 : Int) ≤ (j : Int) := by omega
    have hjn : j < 16 := hj
    have HT := Aside0.mk (show ExT s a 2 k p iv cn (X * 16 ^ j + D) R u11 from hex)
    clear hrd hk hcn hjc hj hD0 hD1 hX hK hB hg hE hl hn hs hEr hex
    go_upto_region 80 with fail
    go_cut [209] from 207 to 209 (fun t wx => wx = wc ∧ ∃ bo, t = .bool bo ∧ (bo = false → u11 = .nilIface))
    case first =>
      have h := HT.out
      rcases h with ⟨rfl, _⟩ | ⟨rfl, _⟩
      · go_wp2
        go_meet
        case rel => exact ⟨rfl, true, rfl, fun h => by cases h⟩
      · go_wp2
        go_meet
        case rel => exact ⟨rfl, false, rfl, fun _ => by first | rfl | trivial⟩
    case rest =>
    obtain ⟨rfl, bo, rfl, hbo⟩ := hcut
    replace hbo := Aside0.mk hbo
    go_upto_if 209 with fail
    go_cut [11] from 207 to 209 (fun ev wx => wx = wc ∧ ev = .nilIface)
    case first =>
      cases bo with
      | true =>
        go_wp2
        go_meet
        case rel => exact ⟨rfl, rfl⟩
      | false =>
        have h := hbo.out rfl
        subst h
        go_wp2
        go_meet
        case rel => exact ⟨rfl, rfl⟩
    case rest =>
    obtain ⟨rfl, rfl⟩ := hcut
    go_upto_region 82 with fail
    go_cut [218] from 210 to 218 (fun t wx => wx = wc ∧ t = .bool (iv || p == 95))
    case first =>
      cases iv
      · by_cases hp : p = 95
        · subst hp
          go_wp2
          go_meet
          case rel => exact ⟨rfl, rfl⟩
        · have e95 : (p == 95) = false := by rw [beq_eq_false_iff_ne]; exact hp
          clear hp
          go_wp2
          go_meet
          case rel => exact ⟨rfl, by rw [e95]; rfl⟩
      · go_wp2
        go_meet
        case rel => exact ⟨rfl, rfl⟩
    case rest =>
    obtain ⟨rfl, rfl⟩ := hcut
    obtain ⟨bb, hbb⟩ : ∃ bb, (iv || p == 95) = bb := ⟨_, rfl⟩
    rw [hbb]
    replace hbb := Aside0.mk hbb
    go_upto_if 218 with fail
    go_cut [11] from 210 to 219 (fun ev wx => wx = wc ∧ EvT ti vi bb ev)
    case first =>
      cases bb
      · go_wp2
        go_meet
        case rel => exact ⟨rfl, .inr ⟨rfl, rfl⟩⟩
      · go_wp2
        go_meet
        case rel => exact ⟨rfl, .inl ⟨rfl, rfl⟩⟩
    case rest =>
    obtain ⟨rfl, hev⟩ := hcut
    replace hev := Aside0.mk hev
    have HL9 := Aside0.mk (show cn + 1 ≤ 100 from by have := HX.out.2.1; have := HX.out.2.2.1; have := HB.out.2.2.2.2.2; omega)
    have HRV := Aside0.mk (reverse_pk B cn (by have := HL9.out; omega) (.slice A zn zc) X wc HX.out.2.2.2.2.2.2.2.1)
    by_cases hc0 : cn = 0
    · have hj0 : j = 0 := by have := HX.out.2.2.2.1; omega
      subst hc0 hj0
      clear hj2 hjn
      go_wp2_with fail
      refine HRV.out.mono ?_
      rintro e w7 ⟨rfl, ho7, hb7⟩
      have H7 := Aside0.mk (And.intro ho7 hb7)
      have HNO := Aside0.mk (norm_ord B 0 (by have := HL9.out; omega) (.slice A zn zc) _ w7 ho7)
      clear ho7 hb7
      go_wp2_with fail
      refine HNO.out.mono ?_
      rintro e w8 ⟨v8, rfl, hn8, rfl⟩
      obtain ⟨A8, n8, c8, rfl⟩ := hn8.form
      have H8 := Aside0.mk hn8
      clear hn8
      go_wp2
      refine bodyPost_ret (v := .tuple #[.slice A8 n8 c8, .int .i64 16, .int .i64 0, .iface tn vn]) (by simp [results, Tryz.results88, go_sem]) rfl ?_
      exact ScR.err (HT.out.zero rfl) (HX.out.2.2.2.2.2.2.2.2.below (Nat.le_refl _) H7.out.2) HX.out.2.1 (HX.out.1.below H7.out.2 HB.out.2.1)
    · have ec : ((cn : Int) == 0) = false := by rw [beq_eq_false_iff_ne]; omega
      have HC0 := Aside0.mk hc0
      clear hc0
      by_cases hj0 : j = 0
      · subst hj0
        clear hj2 hjn
        go_wp2_with fail
        refine HRV.out.mono ?_
        rintro e w7 ⟨rfl, ho7, hb7⟩
        have H7 := Aside0.mk (And.intro ho7 hb7)
        have HNO := Aside0.mk (norm_ord B cn (by have := HL9.out; omega) (.slice A zn zc) _ w7 ho7)
        clear ho7 hb7
        go_wp2_with fail
        refine HNO.out.mono ?_
        rintro e w8 ⟨v8, rfl, hn8, rfl⟩
        obtain ⟨A8, n8, c8, rfl⟩ := hn8.form
        have H8 := Aside0.mk hn8
        clear hn8
        go_wp2
        refine bodyPost_ret (v := .tuple #[.slice A8 n8 c8, .int .i64 16, .int .i64 cn, u11]) (by simp [results, Tryz.results88, go_sem]) rfl ?_
        refine ScR.fin HT.out hbb.out hev.out HC0.out (HX.out.2.2.2.2.2.2.2.2.below (Nat.le_refl _) H7.out.2) HX.out.2.1 (HX.out.1.below H7.out.2 HB.out.2.1) ?_
        have h1 := HX.out.2.2.2.2.2.2.1
        have h0 := HX.out.2.2.2.2.2.1
        rw [show (16 : Int) ^ 0 = 1 from rfl] at h1 ⊢
        rw [Int.mul_one, show D = 0 by omega, Int.add_zero]
        exact H8.out.more (by have := HL9.out; omega)
      · have hjp : (0 : Int) < (j : Int) := by omega
        obtain ⟨r, hr⟩ : ∃ r, 16 - j = r := ⟨_, rfl⟩
        have hr1 : wrap64 (16 - (j : Int)) = (r : Int) := by unfold wrap64; omega
        have hr2 : IntKind.u64.wrap (r : Int) = (r : Int) := by rw [IntKind.wrap_u64]; omega
        obtain ⟨q, hq⟩ : ∃ q, r * 4 = q := ⟨_, rfl⟩
        have hr3 : IntKind.u64.wrap ((r : Int) * 4) = (q : Int) := by rw [IntKind.wrap_u64]; omega
        have hq0 : 0 < q := by omega
        have hq1 : q < 64 := by omega
        have HPp : Aside0 (1 ≤ (16 : Int) ^ r ∧ (16 : Int) ^ r < 18446744073709551616 ∧ (16 : Int) ^ j * 16 ^ r = 18446744073709551616 ∧ (16 : Int) ^ r = 2 ^ q) := Aside0.mk (pk_pows16 j r q hr hq (by omega) (by omega))
        obtain ⟨P, hP⟩ : ∃ P, (16 : Int) ^ r = P := ⟨_, rfl⟩
        rw [hP] at HPp
        have HP := Aside0.mk hP
        have HPow := Aside0.mk (fun W => (show Calls Tryz.prog 131 #[.int .u64 16, .int .i64 r] W fun e w' => e = .returned (.int .u64 P) ∧ Drawn0 W w' from by
          have h := pow_of' pow_ok16 r (by omega) P hP W
          have h1 := HPp.out.1
          have h2 := HPp.out.2.1
          rw [show IntKind.u64.wrap P = P by (rw [IntKind.wrap_u64]; omega)] at h
          exact h))
        have HDP := Aside0.mk (pk_last (b := 16) HX.out.2.2.2.2.2.1 HX.out.2.2.2.2.2.2.1 HPp.out.1 HPp.out.2.2.1)
        obtain ⟨D2, hD2⟩ : ∃ D2, D * P = D2 := ⟨_, rfl⟩
        have hdp : IntKind.u64.wrap (D * P) = D2 := by
          have h1 := HDP.out
          rw [hD2] at h1 ⊢
          rw [IntKind.wrap_u64]
          omega
        rw [hD2] at HDP
        have HD2 := Aside0.mk hD2
        obtain ⟨zs, hz1, hz2, hz3, hz4⟩ := HX.out.2.2.2.2.2.2.2.1
        have hznz : zn = zs.length := by
          rcases row_form hz1 with ⟨e, h0, _⟩ | ⟨g, c, e⟩
          · injection e with _ e _
            rw [e, h0]
          · injection e with _ e _
        have HO := Aside0.mk hz1
        have HZ := Aside0.mk (And.intro hz2 (And.intro hz3 hz4))
        have HLB := Aside0.mk (show zs.length + 1 ≤ maxLen ∧ (zs.length + 1) * 8 ≤ 140737488355328 from by
          have h9 := Nat.le_trans (Nat.succ_le_succ hz4) HL9.out
          unfold maxLen
          omega)
        have HBR := Aside0.mk (Nat.le_trans HB.out.1 HX.out.2.2.2.2.2.2.2.2.size)
        have hrn : (0 : Int) ≤ (r : Int) := by omega
        have HQ := Aside0.mk (And.intro hq0 hq1)
        clear hznz hz1 hz2 hz3 hz4 hD2 hP hj0 hj2 hjn hr hq hq0 hq1
        go_wp2_with fail
        refine (HPow.out _).mono ?_
        rintro e w6 ⟨rfl, hdr⟩
        have H6 := Aside0.mk (show w6.heap = wc.heap ∧ KeptB B gr w w6 ∧ RdAt w6 gr s k from by
          obtain ⟨q6, rfl⟩ := hdr.out
          exact ⟨drewN_heap _ _, HX.out.2.2.2.2.2.2.2.2.drewN q6, HX.out.1.drewN q6⟩)
        clear hdr
        have HBS := Aside0.mk (fun (o : Obj) => (show B ≤ (w6.alloc o).heap.size from by rw [World.size_alloc, H6.out.1]; exact Nat.le_succ_of_le HBR.out))
        replace HO := Aside0.mk (show WRow w6 B (.slice A zn zc) zs.length (nums .u64 zs) from ⟨HO.out.1, by have h := HO.out.2; rw [H6.out.1]; exact h⟩)
        go_wp2_with (at_builtin; refine wpList_append_own _ rfl _ _ 94 rfl B 148 i0 (.int .u64 0) 1 8 Tryz.underlying94 hi0 hz00 hz01 hz02 rfl (by decide) _ _ _ rfl (HO.out.alloc _) ⟨w6.heap.size, 0, none⟩ 1 1 [.int .u64 D2] rfl rfl (newsW w6 D2 _) (newsWc D2) HLB.out.1 HLB.out.2 (HBS.out _) ?_; intro v' w4 hown4 hgrow4 _; have HO4 := Aside0.mk hown4; have HG4 := Aside0.mk (show Below B w6 w4 from ((Below.refl B w6).alloc (by rw [H6.out.1]; exact HBR.out) _).grown hgrow4 (HBS.out _) (fun kk hk => (HO.out.lt kk hk).1)); clear hown4 hgrow4; obtain ⟨A4, n4, c4, rfl⟩ := (PkAt.push HZ.out.1 HZ.out.2.1 HZ.out.2.2 HDP.out.1 HDP.out.2 HO4.out).form)
        replace HRV := Aside0.mk (reverse_pk B (cn + 1) (Nat.le_trans HL9.out (by decide)) (.slice A4 n4 c4) _ w4 (PkAt.push HZ.out.1 HZ.out.2.1 HZ.out.2.2 HDP.out.1 HDP.out.2 HO4.out))
        go_wp2_with fail
        refine HRV.out.mono ?_
        rintro e w7 ⟨rfl, ho7, hb7⟩
        have H7 := Aside0.mk (And.intro ho7 hb7)
        have HNO := Aside0.mk (norm_ord B (cn + 1) (Nat.le_trans HL9.out (by decide)) (.slice A4 n4 c4) _ w7 ho7)
        clear ho7 hb7
        go_wp2_with fail
        refine HNO.out.mono ?_
        rintro e w8 ⟨v8, rfl, hn8, rfl⟩
        obtain ⟨A8, n8, c8, rfl⟩ := hn8.form
        have HSH := Aside0.mk (rsh_nat B (cn + 1) q (Nat.le_trans HL9.out (by decide)) HQ.out.1 HQ.out.2 (.slice A8 n8 c8) _ w7 hn8)
        clear hn8
        go_wp2_with fail
        refine HSH.out.mono ?_
        rintro e w9 ⟨v9, rfl, hn9, hb9⟩
        obtain ⟨A9, n9, c9, rfl⟩ := hn9.form
        have H9 := Aside0.mk (And.intro hn9 hb9)
        clear hn9 hb9
        go_wp2
        have hball : Below B w6 w9 := (HG4.out.trans H7.out.2).trans H9.out.2
        refine bodyPost_ret (v := .tuple #[.slice A9 n9 c9, .int .i64 16, .int .i64 cn, u11]) (by simp [results, Tryz.results88, go_sem]) rfl ?_
        refine ScR.fin HT.out hbb.out hev.out HC0.out (H6.out.2.1.below (Nat.le_refl _) hball) HX.out.2.1 (H6.out.2.2.below hball HB.out.2.1) ?_
        have hval := pk_shift (X := X) (D := D) HPp.out.2.2.1 HPp.out.1
        have hn9 := H9.out.1
        rw [← HPp.out.2.2.2, ← HD2.out, hval] at hn9
        exact hn9.more (by have := HL9.out; omega)
end Go.Proofs.YtnhonclncjgjoaaGreatDoor
