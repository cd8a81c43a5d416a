/- spec.TextOf: the text that a literal tells, as the reference says. -/
import Derived.Test.YtamkkdeloknjiaaGreatDoorUnq
import Derived.Test.YtamkkdeloknjiaaGreatDoorRuneOf
import Derived.Test.YtamkkdeloknjiaaGreatDoorPt0
import Derived.Test.YtamkkdeloknjiaaGreatDoorPt1
import Derived.Lib.AppendStr
import Derived.Deep.QuietTactic
import Derived.BigQuiet
namespace Go.Proofs.YtamkkdeloknjiaaGreatDoor
open Go Go.RowKit Go.Proofs.YtamkkdeloknjiaaGreatDoorW.PrintWords Ps
set_option linter.unusedVariables false
set_option linter.unusedSimpArgs false

/-- A raw text: none where a back quote lies within; else without its carriage returns. -/
def rawRef : List Int → List Int → Option (List Int)
  | [], acc => some acc
  | c :: l, acc => if c = 96 then none else if c = 13 then rawRef l acc else rawRef l (acc ++ [c])
theorem rawRef_cons (c : Int) (l acc : List Int) : rawRef (c :: l) acc = if c = 96 then none else if c = 13 then rawRef l acc else rawRef l (acc ++ [c]) := rfl
/-- A character in UTF-8, as the reference reckons it. -/
def encW (v : Int) : List Int := (Pt.spec_Encoded.f v).getD []
/-- A text between quotes 34. -/
def dqRef : Nat → ByteArray → List Int → Option (List Int)
  | 0, _, _ => none
  | k + 1, T, acc =>
    if T.size = 0 then some acc
    else if bt T 0 = 10 ∨ bt T 0 = 34 then none
    else if bt T 0 ≠ 92 then (if (rnS T).2 = 0 then none else dqRef k (T.extract (rnS T).2 T.size) (acc ++ bytesOf (T.extract 0 (rnS T).2)))
    else match escF 34 (bytesOf (T.extract 1 T.size)) with
      | none => none
      | some (v, m, n) => dqRef k (T.extract (1 + n).toNat T.size) (acc ++ (if m = true then [v] else encW v))
theorem enc_some (v : Int) : Pt.spec_Encoded.f v = some (encW v) := by
  unfold encW Pt.spec_Encoded.f
  repeat' split
  all_goals rfl
theorem encW_len (v : Int) : 1 ≤ (encW v).length ∧ (encW v).length ≤ 4 := by
  unfold encW Pt.spec_Encoded.f
  repeat' split
  all_goals simp
theorem strCells_nums (T : ByteArray) : Lib.strCells T = nums .u8 (bytesOf T) := by
  unfold Lib.strCells nums bytesOf
  rw [List.map_map]
  rfl
theorem nums_len (l : List Int) : (nums .u8 l).length = l.length * 1 := by unfold nums; simp
theorem nums_one (l : List Int) : ∀ u ∈ nums .u8 l, u.oneCell' = true := by
  intro u hu
  unfold nums at hu
  obtain ⟨x, _, rfl⟩ := List.mem_map.1 hu
  rfl
/-- The cells of a row of bytes that is not empty. -/
theorem enc_cells {W : World} {B : Nat} {v : Value} {l : List Int} (h : Kd.R (Kd.int .u8) 5 W B (fun _ => True) v l) (hl : 1 ≤ l.length) : ∃ ad c, v = .slice (some ad) l.length c ∧ ∀ (j : Nat) (u : Value), (nums .u8 l)[j]? = some u → W.cell? (ad.add j) = some u := by
  have ho := Kd.own_of_R h
  rcases ho.2 with ⟨_, h0⟩ | ⟨g, cap, cur, hv, _⟩
  · omega
  · refine ⟨⟨g, 0, none⟩, cap, hv, fun j u hj => ?_⟩
    exact ho.cells (g := g) (by rw [hv]; rfl) j u hj
def toVal : Option (List Int) → Value
  | none => .tuple #[.string ⟨#[]⟩, .bool false]
  | some l => .tuple #[.string (strOfNums l), .bool true]

set_option maxRecDepth 100000 in
set_option maxHeartbeats 400000 in
theorem to_short (s : ByteArray) (hs : s.size ≤ 4096) (w : World) (h2 : s.size < 2) :
    Calls Tryz.prog 5 #[.string s] w fun e w' => e = .returned (toVal (none)) ∧ Below w.heap.size w w' := by
  have h3 : (s.size : Int) < 2 := by omega
  have h4 : decide ((s.size : Int) < 2) = true := by simpa using h3
  clear h2
  go_enter Tryz.func5, Tryz.ntmps5
  go_wp2
  go_quiet (fail)
  go_wp2
  go_ret2
  exact ⟨rfl, pw_below_drewN (Below.refl _ _) _⟩

set_option maxRecDepth 100000 in
set_option maxHeartbeats 400000 in
theorem to_diff (s : ByteArray) (hs : s.size ≤ 4096) (w : World) (h2 : 2 ≤ s.size) (hd : (bt s 0 != bt s ((s.size : Int) - 1)) = true) :
    Calls Tryz.prog 5 #[.string s] w fun e w' => e = .returned (toVal (none)) ∧ Below w.heap.size w w' := by
  have h2I : 2 ≤ (s.size : Int) := by omega
  have h4 : decide ((s.size : Int) < 2) = false := by simpa using h2I
  have hx : ∀ h : 0 < s.size, ((s[0]'h).toNat : Int) = bt s 0 := bt_at s 0
  have q0 := eq_true (show 0 < s.size by omega)
  have hn1 : ((s.size : Int) - 1).toNat = s.size - 1 := by omega
  have hn2 : 0 ≤ (s.size : Int) - 1 := by omega
  have hn3 : (s.size : Int) - 1 < (s.size : Int) := by omega
  have hy : ∀ q : s.size - 1 < s.size, ((s[s.size - 1]'q).toNat : Int) = bt s ((s.size : Int) - 1) := by
    have := bt_at s ((s.size : Int) - 1)
    intro q
    have h2 := this (by omega)
    simpa [hn1] using h2
  have q1 := eq_true (show s.size - 1 < s.size by omega)
  clear h2
  go_enter Tryz.func5, Tryz.ntmps5
  go_wp2
  go_quiet (fail)
  go_wp2
  go_ret2
  exact ⟨rfl, pw_below_drewN (Below.refl _ _) _⟩

set_option maxRecDepth 100000 in
set_option maxHeartbeats 400000 in
theorem to_other (s : ByteArray) (hs : s.size ≤ 4096) (w : World) (h2 : 2 ≤ s.size) (hd : (bt s 0 != bt s ((s.size : Int) - 1)) = false) (n96 : (bt s 0 == 96) = false) (n34 : (bt s 0 != 34) = true) :
    Calls Tryz.prog 5 #[.string s] w fun e w' => e = .returned (toVal (none)) ∧ Below w.heap.size w w' := by
  have h2I : 2 ≤ (s.size : Int) := by omega
  have h4 : decide ((s.size : Int) < 2) = false := by simpa using h2I
  have hx : ∀ h : 0 < s.size, ((s[0]'h).toNat : Int) = bt s 0 := bt_at s 0
  have q0 := eq_true (show 0 < s.size by omega)
  have hn1 : ((s.size : Int) - 1).toNat = s.size - 1 := by omega
  have hn2 : 0 ≤ (s.size : Int) - 1 := by omega
  have hn3 : (s.size : Int) - 1 < (s.size : Int) := by omega
  have hy : ∀ q : s.size - 1 < s.size, ((s[s.size - 1]'q).toNat : Int) = bt s ((s.size : Int) - 1) := by
    have := bt_at s ((s.size : Int) - 1)
    intro q
    have h2 := this (by omega)
    simpa [hn1] using h2
  have q1 := eq_true (show s.size - 1 < s.size by omega)
  clear h2
  go_enter Tryz.func5, Tryz.ntmps5
  go_wp2
  go_quiet (fail)
  go_wp2
  go_ret2
  exact ⟨rfl, below_alloc (pw_below_drewN (Below.refl _ _) _) _⟩

set_option maxRecDepth 100000 in
set_option maxHeartbeats 400000 in
theorem to_raw (s : ByteArray) (hs : s.size ≤ 4096) (w : World) (h2 : 2 ≤ s.size) (hd : (bt s 0 != bt s ((s.size : Int) - 1)) = false) (hq : bt s 0 = 96) (M : ByteArray) (hM : s.extract 1 (s.size - 1) = M) :
    Calls Tryz.prog 5 #[.string s] w fun e w' => e = .returned (toVal (rawRef (bytesOf M) [])) ∧ Below w.heap.size w w' := by
  have h2I : 2 ≤ (s.size : Int) := by omega
  have h4 : decide ((s.size : Int) < 2) = false := by simpa using h2I
  have hx : ∀ h : 0 < s.size, ((s[0]'h).toNat : Int) = bt s 0 := bt_at s 0
  have q0 := eq_true (show 0 < s.size by omega)
  have hn1 : ((s.size : Int) - 1).toNat = s.size - 1 := by omega
  have hn2 : 0 ≤ (s.size : Int) - 1 := by omega
  have hn3 : (s.size : Int) - 1 < (s.size : Int) := by omega
  have hy : ∀ q : s.size - 1 < s.size, ((s[s.size - 1]'q).toNat : Int) = bt s ((s.size : Int) - 1) := by
    have := bt_at s ((s.size : Int) - 1)
    intro q
    have h2 := this (by omega)
    simpa [hn1] using h2
  have q1 := eq_true (show s.size - 1 < s.size by omega)
  have hbyte : (Tryz.prog.info? 5).map (fun i => (i.zero, i.size, i.bytes)) = some (some (.int .u8 0), 1, 1) := by kernel_rfl
  obtain ⟨i0, hi0, hz00, hz01, hz02⟩ := info_parts hbyte
  obtain ⟨R, hR⟩ : ∃ R, rawRef (bytesOf M) [] = R := ⟨_, rfl⟩
  rw [hR]
  have HR := Aside0.mk (show rawRef ((bytesOf M).drop 0) [] = R by rw [List.drop_zero]; exact hR)
  have HM4 := Aside0.mk (show M.size ≤ 4096 by rw [← hM, ByteArray.size_extract]; omega)
  rw [hq] at hx hd
  clear h2 hR hbyte hq
  go_enter Tryz.func5, Tryz.ntmps5
  go_wp2
  go_quiet (fail)
  go_wp2
  have HO0 := fun n => World.ownsRow_lit (base := w.heap.size) (e := 5) (size := 1) (w.drewN n) #[] 0 (by simp) (by decide) rfl
  have HOA := Aside0.mk HO0
  have HBA := Aside0.mk (fun n => below_alloc (pw_below_drewN (Below.refl w.heap.size w) n) (.cells #[] 5))
  clear HO0 hx hy hd q0 q1 hn1 hn2 hn3 h4 hM hs
  go_loopw [6, 36] (fun sB sI wr => ∃ (k : Nat) (acc : List Int), k ≤ M.size ∧ sI = .int .i64 k ∧ Aside0 (wr.ownsRow w.heap.size 5 1 sB acc.length (nums .u8 acc)) ∧ Aside0 (Below w.heap.size w wr) ∧ Aside0 (rawRef ((bytesOf M).drop k) acc = R) ∧ Aside0 (acc.length ≤ k)) (fun _ sI _ => M.size - (intOf sI).toNat)
  case atStart => exact ⟨0, [], by omega, rfl, ⟨HOA.out _⟩, ⟨HBA.out _⟩, HR, ⟨by simp⟩⟩
  case round =>
    obtain ⟨k, acc, hk, rfl, HO, HB, HP, HZ⟩ := hrel
    by_cases hlt : k < M.size
    · have hP := HP.out
      rw [drop_bytes M k hlt, rawRef_cons] at hP
      have hM4 := HM4.out
      obtain ⟨c, hc⟩ : ∃ c, bt M k = c := ⟨_, rfl⟩
      have hxk : ∀ h : k < M.size, ((M[k]'h).toNat : Int) = c := fun h => by rw [← hc]; exact bt_at M k h
      have qk := eq_true (show k < M.size by omega)
      rw [hc] at hP
      clear hc HP
      by_cases h96 : c = 96
      · rw [if_pos h96] at hP
        have HP := Aside0.mk hP
        rw [h96] at hxk
        clear hP h96
        go_wp2
        go_ret2
        exact ⟨by rw [← HP.out]; rfl, HB.out⟩
      rw [if_neg h96] at hP
      have n96 : (c == 96) = false := by rw [beq_eq_false_iff_ne]; exact h96
      by_cases h13 : c = 13
      · rw [if_pos h13] at hP
        have HP := Aside0.mk hP
        rw [h13] at hxk
        clear hP h13 n96 h96
        go_wp2
        go_roundw
        case rel => exact ⟨k + 1, acc, by omega, by go_num, HO, HB, HP, ⟨by have := HZ.out; omega⟩⟩
        case measure => simp [intOf]; omega
      · rw [if_neg h13] at hP
        have HP := Aside0.mk hP
        have n13 : (c != 13) = true := by rw [bne_iff_ne]; exact h13
        have HN := Aside0.mk (show acc.length + 1 ≤ maxLen ∧ (acc.length + 1) * 1 ≤ 140737488355328 from ⟨by have := HZ.out; unfold maxLen; omega, by have := HZ.out; omega⟩)
        have hsz := HB.out.size
        have hbase : ∀ o, w.heap.size ≤ (wr.alloc o).heap.size := fun o => by simp; omega
        have HBS := Aside0.mk hbase
        clear hP h13 h96 hbase hsz
        go_wp2_with (at_builtin; refine wpList_append_own _ rfl _ _ 34 rfl w.heap.size 5 i0 (.int .u8 0) 1 1 Tryz.underlying34 hi0 hz00 hz01 hz02 rfl (by decide) _ _ _ rfl (HO.out.alloc _) ⟨wr.heap.size, 0, none⟩ 1 1 [.int .u8 c] rfl rfl (news1 wr c) (news1c c) HN.out.1 HN.out.2 (HBS.out _) ?_; intro v' w2 hown2 hgrow2 _; have HO2 := Aside0.mk hown2; have HB2 := Aside0.mk (show Below w.heap.size w w2 from (below_alloc HB.out _).grown hgrow2 (HBS.out _) (fun kk hk => (HO.out.lt kk hk).1)); clear hown2 hgrow2)
        go_roundw
        case rel => exact ⟨k + 1, acc ++ [c], by omega, by go_num, ⟨by have := HO2.out; unfold nums at this ⊢; simpa using this⟩, HB2, HP, ⟨by have := HZ.out; simp; omega⟩⟩
        case measure => simp [intOf]; omega
    · obtain rfl : k = M.size := by omega
      have hP := HP.out
      rw [drop_bytes_end M M.size (by omega)] at hP
      have HRN := Aside0.mk (show some acc = R from hP)
      have hcv := str_own wr _ _ acc HO.out
      clear hP HP HR HO HZ hlt
      go_wp2
      go_ret2
      exact ⟨by rw [← HRN.out]; rfl, HB.out⟩

set_option maxRecDepth 100000 in
set_option maxHeartbeats 400000 in
theorem to_dq (s : ByteArray) (hs : s.size ≤ 4096) (w : World) (h2 : 2 ≤ s.size) (hd : (bt s 0 != bt s ((s.size : Int) - 1)) = false) (hq : bt s 0 = 34) (M : ByteArray) (hM : s.extract 1 (s.size - 1) = M) :
    Calls Tryz.prog 5 #[.string s] w fun e w' => e = .returned (toVal (dqRef (M.size + 1) M [])) ∧ Below w.heap.size w w' := by
  have h2I : 2 ≤ (s.size : Int) := by omega
  have h4 : decide ((s.size : Int) < 2) = false := by simpa using h2I
  have hx : ∀ h : 0 < s.size, ((s[0]'h).toNat : Int) = bt s 0 := bt_at s 0
  have q0 := eq_true (show 0 < s.size by omega)
  have hn1 : ((s.size : Int) - 1).toNat = s.size - 1 := by omega
  have hn2 : 0 ≤ (s.size : Int) - 1 := by omega
  have hn3 : (s.size : Int) - 1 < (s.size : Int) := by omega
  have hy : ∀ q : s.size - 1 < s.size, ((s[s.size - 1]'q).toNat : Int) = bt s ((s.size : Int) - 1) := by
    have := bt_at s ((s.size : Int) - 1)
    intro q
    have h2 := this (by omega)
    simpa [hn1] using h2
  have q1 := eq_true (show s.size - 1 < s.size by omega)
  have hbyte : (Tryz.prog.info? 5).map (fun i => (i.zero, i.size, i.bytes)) = some (some (.int .u8 0), 1, 1) := by kernel_rfl
  obtain ⟨i0, hi0, hz00, hz01, hz02⟩ := info_parts hbyte
  obtain ⟨R, hR⟩ : ∃ R, dqRef (M.size + 1) M [] = R := ⟨_, rfl⟩
  rw [hR]
  have HR := Aside0.mk hR
  have HM4 := Aside0.mk (show M.size ≤ 4096 by rw [← hM, ByteArray.size_extract]; omega)
  rw [hq] at hx hd
  clear h2 hR hbyte hq
  go_enter Tryz.func5, Tryz.ntmps5
  go_wp2
  go_quiet (fail)
  go_wp2
  have HO0 := fun n => World.ownsRow_lit (base := w.heap.size) (e := 5) (size := 1) (w.drewN n) #[] 0 (by simp) (by decide) rfl
  have HOA := Aside0.mk HO0
  have HBA := Aside0.mk (fun n => below_alloc (pw_below_drewN (Below.refl w.heap.size w) n) (.cells #[] 5))
  clear HO0 hx hy hd q0 q1 hn1 hn2 hn3 h4 hM hs h2I
  go_loopw [5, 6] (fun sT sB wr => ∃ (T : ByteArray) (acc : List Int) (k : Nat), sT = .string T ∧ T.size ≤ 4096 ∧ Aside0 (wr.ownsRow w.heap.size 5 1 sB acc.length (nums .u8 acc)) ∧ Aside0 (Below w.heap.size w wr) ∧ Aside0 (T.size < k) ∧ Aside0 (dqRef k T acc = R) ∧ Aside0 (acc.length + 4 * T.size ≤ 20000)) (fun sT _ _ => match sT with | .string T => T.size | _ => 0)
  case atStart => exact ⟨M, [], M.size + 1, rfl, HM4.out, ⟨HOA.out _⟩, ⟨HBA.out _⟩, ⟨Nat.lt_succ_self _⟩, HR, ⟨by have := HM4.out; simp; omega⟩⟩
  case round =>
    obtain ⟨T, acc, k, rfl, hT4, HO, HB, HK, HP, HZ⟩ := hrel
    obtain ⟨k, rfl⟩ : ∃ k', k = k' + 1 := ⟨k - 1, by have := HK.out; omega⟩
    by_cases hT0 : T.size = 0
    · have hR : some acc = R := by have := HP.out; unfold dqRef at this; rw [if_pos hT0] at this; exact this
      have HRN := Aside0.mk hR
      have hcv := str_own wr _ _ acc HO.out
      have hTI : (T.size : Int) ≤ 0 := by omega
      clear HO HP HZ HK hT0 hR HR
      go_wp2
      go_ret2
      exact ⟨by rw [← HRN.out]; rfl, HB.out⟩
    have hT1 : 1 ≤ (T.size : Int) := by omega
    have hxT : ∀ h : 0 < T.size, ((T[0]'h).toNat : Int) = bt T 0 := bt_at T 0
    have qT := eq_true (show 0 < T.size by omega)
    obtain ⟨bT0, bT1⟩ := bt_range T 0
    by_cases hb : bt T 0 = 10 ∨ bt T 0 = 34
    · have hR : none = R := by have := HP.out; unfold dqRef at this; rw [if_neg hT0, if_pos hb] at this; exact this
      have HRN := Aside0.mk hR
      clear HO HP HZ HK hT0 hR HR
      rcases hb with h | h
      all_goals
        rw [h] at hxT bT0 bT1
        clear h
        go_wp2
        go_ret2
        exact ⟨by rw [← HRN.out]; rfl, HB.out⟩
    have n10 : (bt T 0 == 10) = false := by rw [beq_eq_false_iff_ne]; omega
    have n34 : (bt T 0 == 34) = false := by rw [beq_eq_false_iff_ne]; omega
    by_cases h92 : bt T 0 ≠ 92
    · have n92 : (bt T 0 != 92) = true := by rw [bne_iff_ne]; exact h92
      have hP := HP.out
      unfold dqRef at hP
      rw [if_neg hT0, if_neg hb, if_pos h92] at hP
      have hro := runeOf_any T wr
      have hle := rnS_le T
      obtain ⟨r1, hr1⟩ : ∃ r : Nat, (rnS T).1 = r := ⟨_, rfl⟩
      obtain ⟨n, hn⟩ : ∃ r : Nat, (rnS T).2 = r := ⟨_, rfl⟩
      rw [hr1, hn] at hro
      rw [hn] at hP hle
      have HRO := Aside0.mk hro
      clear hro hr1 hn HP hb h92 hT0
      by_cases hn0 : n = 0
      · subst hn0
        rw [if_pos rfl] at hP
        have HP := Aside0.mk hP
        clear hP
        go_wp2_with fail
        refine HRO.out.mono ?_
        rintro e w1 ⟨rfl, hb1⟩
        have HB1 := Aside0.mk (HB.out.trans ((Drawn0.below hb1).mono HB.out.size))
        clear hb1
        go_wp2
        go_ret2
        exact ⟨by rw [← HP.out]; rfl, HB1.out⟩
      · rw [if_neg hn0] at hP
        have HP := Aside0.mk hP
        have hnI : ((n : Int) == 0) = false := by rw [beq_eq_false_iff_ne]; omega
        have hnle : (n : Int) ≤ (T.size : Int) := by omega
        have hez : (T.extract 0 n).size = n := by rw [ByteArray.size_extract]; omega
        have hcz : (T.extract n T.size).size = T.size - n := size_cut T n
        obtain ⟨E, hE⟩ : ∃ E, T.extract 0 n = E := ⟨_, rfl⟩
        obtain ⟨X, hX⟩ : ∃ X, T.extract n T.size = X := ⟨_, rfl⟩
        have HEZ := Aside0.mk (show E.size = n ∧ X.size = T.size - n ∧ 0 < n ∧ n ≤ T.size from ⟨by rw [← hE]; exact hez, by rw [← hX]; exact hcz, by omega, hle⟩)
        have HP2 := Aside0.mk (show dqRef k X (acc ++ bytesOf E) = R by rw [← hE, ← hX]; exact HP.out)
        have hX4 : X.size ≤ 4096 := by have := HEZ.out; omega
        clear hP HP hez hcz hn0 hle
        go_wp2_with fail
        refine HRO.out.mono ?_
        rintro e w1 ⟨rfl, hb1⟩
        have HB1 := Aside0.mk (HB.out.trans ((Drawn0.below hb1).mono HB.out.size))
        have HO1 := Aside0.mk (pw_own_below HO.out (Drawn0.below hb1))
        have HN := Aside0.mk (show acc.length + E.size ≤ maxLen ∧ acc.length + E.size ≤ 140737488355328 from ⟨by have := HZ.out; have := HEZ.out; unfold maxLen; omega, by have := HZ.out; have := HEZ.out; omega⟩)
        have HBS := Aside0.mk HB1.out.size
        clear hb1
        go_wp2_with (at_builtin; refine Lib.wpList_append_own_string _ rfl _ _ 34 9 rfl w.heap.size 5 i0 Tryz.underlying34 Tryz.underlying9 hi0 hz00 hz01 hz02 _ _ _ rfl HO1.out E rfl HN.out.1 HN.out.2 HBS.out ?_; intro v' w2 hown2 hgrow2 _; have HO2 := Aside0.mk hown2; have HB2 := Aside0.mk (show Below w.heap.size w w2 from HB1.out.grown hgrow2 HBS.out (fun kk hk => (HO1.out.lt kk hk).1)); clear hown2 hgrow2)
        go_roundw
        case rel => exact ⟨X, acc ++ bytesOf E, k, rfl, hX4, ⟨by have := HO2.out; rw [strCells_nums] at this; unfold nums at this ⊢; rw [List.length_append, bytesOf_length, List.map_append]; exact this⟩, HB2, ⟨by have := HEZ.out; have := HK.out; omega⟩, HP2, ⟨by have := HEZ.out; have := HZ.out; rw [List.length_append, bytesOf_length]; omega⟩⟩
        case measure => have := HEZ.out; simp; omega
    · have h92' : bt T 0 = 92 := Decidable.not_not.1 h92
      have hP := HP.out
      unfold dqRef at hP
      rw [if_neg hT0, if_neg hb, if_neg h92] at hP
      have hUz := size_cut T 1
      obtain ⟨U, hU⟩ : ∃ U, T.extract 1 T.size = U := ⟨_, rfl⟩
      rw [hU] at hP hUz
      have hes := esc_any U 34 (Or.inr rfl) (by omega) wr
      rw [h92'] at hxT bT0 bT1
      clear HP hb h92 h92' n10 n34 hT0
      cases he : escF 34 (bytesOf U) with
      | none =>
        rw [he] at hP hes
        have HP := Aside0.mk hP
        have HES := Aside0.mk hes
        clear hP hes he
        go_wp2_with fail
        refine HES.out.mono ?_
        rintro e w1 ⟨rfl, hb1⟩
        have HB1 := Aside0.mk (HB.out.trans (hb1.mono HB.out.size))
        clear hb1
        unfold escVal
        go_wp2
        go_ret2
        exact ⟨by rw [← HP.out]; rfl, HB1.out⟩
      | some y =>
        obtain ⟨v, m, n⟩ := y
        have hf := esc_facts 34 (Or.inr rfl) _ v n m he
        rw [bytesOf_length] at hf
        rw [he] at hP hes
        have HES := Aside0.mk hes
        have hn1 : 1 ≤ n := hf.1
        have hnI : (n == 0) = false := by rw [beq_eq_false_iff_ne]; omega
        have hn9 : 1 + n ≤ (T.size : Int) := by omega
        have hn0 : 0 ≤ 1 + n := by omega
        obtain ⟨X, hX⟩ : ∃ X, T.extract (1 + n).toNat T.size = X := ⟨_, rfl⟩
        have HEZ := Aside0.mk (show X.size + 1 ≤ T.size from by rw [← hX, size_cut]; omega)
        have hX4 : X.size ≤ 4096 := by have := HEZ.out; omega
        have hP : dqRef k X (acc ++ (if m = true then [v] else encW v)) = R := by rw [← hX]; exact hP
        have hv0 : 0 ≤ v := hf.2.2.2.1
        have hm := hf.2.2.2.2.2.1
        have hbad := hf.2.2.2.2.1
        have hv1 : v ≤ 1114111 := by unfold badR at hbad; omega
        cases m with
        | true =>
          have hv2 : v ≤ 255 := hf.2.2.2.2.2.2.1 (by simpa using hm.symm)
          rw [if_pos rfl] at hP
          have HP := Aside0.mk hP
          clear hP hes he hf hm hbad hUz
          go_wp2_with fail
          refine HES.out.mono ?_
          rintro e w1 ⟨rfl, hb1⟩
          have HB1 := Aside0.mk (HB.out.trans (hb1.mono HB.out.size))
          have HO1 := Aside0.mk (pw_own_below HO.out hb1)
          have HN := Aside0.mk (show acc.length + 1 ≤ maxLen ∧ (acc.length + 1) * 1 ≤ 140737488355328 from ⟨by have := HZ.out; unfold maxLen; omega, by have := HZ.out; omega⟩)
          have hsz := HB1.out.size
          have hbase : ∀ o, w.heap.size ≤ (w1.alloc o).heap.size := fun o => by simp; omega
          have HBS := Aside0.mk hbase
          clear hb1 hbase hsz
          unfold escVal
          go_wp2_with (at_builtin; refine wpList_append_own _ rfl _ _ 34 rfl w.heap.size 5 i0 (.int .u8 0) 1 1 Tryz.underlying34 hi0 hz00 hz01 hz02 rfl (by decide) _ _ _ rfl (HO1.out.alloc _) ⟨w1.heap.size, 0, none⟩ 1 1 [.int .u8 v] rfl rfl (news1 w1 v) (news1c v) HN.out.1 HN.out.2 (HBS.out _) ?_; intro v' w2 hown2 hgrow2 _; have HO2 := Aside0.mk hown2; have HB2 := Aside0.mk (show Below w.heap.size w w2 from (below_alloc HB1.out _).grown hgrow2 (HBS.out _) (fun kk hk => (HO1.out.lt kk hk).1)); clear hown2 hgrow2)
          go_roundw
          case rel => exact ⟨X, acc ++ [v], k, rfl, hX4, ⟨by have := HO2.out; unfold nums at this ⊢; simpa using this⟩, HB2, ⟨by have := HEZ.out; have := HK.out; omega⟩, HP, ⟨by have := HEZ.out; have := HZ.out; simp; omega⟩⟩
          case measure => have := HEZ.out; simp; omega
        | false =>
          rw [if_neg (by decide)] at hP
          have HP := Aside0.mk hP
          have HEN := Aside0.mk (fun W => Pt.spec_Encoded.calls v (encW v) W (enc_some v))
          clear hP hes he hf hm hbad hUz
          go_wp2_with fail
          refine HES.out.mono ?_
          rintro e w1 ⟨rfl, hb1⟩
          have HB1 := Aside0.mk (HB.out.trans (hb1.mono HB.out.size))
          have HO1 := Aside0.mk (pw_own_below HO.out hb1)
          clear hb1
          unfold escVal
          go_wp2_with fail
          refine (HEN.out _).mono ?_
          rintro e w2 ⟨v2, rfl, hr2, hb2⟩
          have HB2 := Aside0.mk (HB1.out.trans (hb2.mono HB1.out.size))
          have HO2 := Aside0.mk (pw_own_below HO1.out hb2)
          have hen := enc_cells hr2 (encW_len v).1
          obtain ⟨ad, c, rfl, hcells⟩ := hen
          have HCE := Aside0.mk hcells
          have HN := Aside0.mk (show acc.length + (encW v).length ≤ maxLen ∧ (acc.length + (encW v).length) * 1 ≤ 140737488355328 from ⟨by have := HZ.out; have := (encW_len v).2; unfold maxLen; omega, by have := HZ.out; have := (encW_len v).2; omega⟩)
          have HBS := Aside0.mk HB2.out.size
          clear hb2 hr2 hcells
          go_wp2_with (at_builtin; refine wpList_append_own _ rfl _ _ 34 rfl w.heap.size 5 i0 (.int .u8 0) 1 1 Tryz.underlying34 hi0 hz00 hz01 hz02 rfl (by decide) _ _ _ rfl HO2.out ad (encW v).length c (nums .u8 (encW v)) rfl (nums_len _) HCE.out (nums_one _) HN.out.1 HN.out.2 HBS.out ?_; intro v' w3 hown2 hgrow2 _; have HO3 := Aside0.mk hown2; have HB3 := Aside0.mk (show Below w.heap.size w w3 from HB2.out.grown hgrow2 HBS.out (fun kk hk => (HO2.out.lt kk hk).1)); clear hown2 hgrow2)
          go_roundw
          case rel => exact ⟨X, acc ++ encW v, k, rfl, hX4, ⟨by have := HO3.out; unfold nums at this ⊢; rw [List.length_append, List.map_append]; exact this⟩, HB3, ⟨by have := HEZ.out; have := HK.out; omega⟩, HP, ⟨by have := HEZ.out; have := HZ.out; have := (encW_len v).2; rw [List.length_append]; omega⟩⟩
          case measure => have := HEZ.out; simp; omega

end Go.Proofs.YtamkkdeloknjiaaGreatDoor
