/- strconv.unquote and Unquote at a text that does not begin with a single quote. -/
import Derived.Test.YtlfmgidpdmmpkaaGreatDoorIndex
import Derived.Test.YtlfmgidpdmmpkaaGreatDoorUqAny
import Derived.Test.YtlfmgidpdmmpkaaGreatDoorPlainU
import Derived.Test.YtlfmgidpdmmpkaaGreatDoorShelf
import Derived.Laws.MakeOwn
import Derived.Laws.BytesArg
import Derived.RegionTactic
namespace Go.Proofs.YtlfmgidpdmmpkaaGreatDoor
open Go Go.RowKit Go.Proofs.YtlfmgidpdmmpkaaGreatDoorW.PrintWords Ps
set_option linter.unusedVariables false
set_option linter.unusedSimpArgs false

abbrev unqErr (s : ByteArray) (t : TypeId) (v : Value) : Value := .tuple #[.string ⟨#[]⟩, .string s, .iface t v]
abbrev unqOk (out rem : ByteArray) : Value := .tuple #[.string out, .string rem, .nilIface]

set_option maxRecDepth 100000 in
set_option maxHeartbeats 2000000 in
theorem unq_short (s : ByteArray) (hs : s.size ≤ 4096) (t : TypeId) (v : Value) (w : World) (hE : ErrAt w t v) (h2 : s.size < 2) :
    Calls Tryz.prog 93 #[.string s, .bool true] w fun e w' => e = .returned (unqErr s t v) ∧ Below w.heap.size w w' := by
  unfold ErrAt at hE
  have h2I : (s.size : Int) < 2 := by omega
  clear h2
  go_enter Tryz.func93, Tryz.ntmps93
  go_wp2
  go_region
  go_wp2
  refine bodyPost_ret (v := unqErr s t v) (by simp [unqErr, results, Tryz.results93, go_sem]) rfl ⟨rfl, ?_⟩
  exact (Below.refl _ _).drew

set_option maxRecDepth 100000 in
set_option maxHeartbeats 2000000 in
theorem unq_open (s : ByteArray) (hs : s.size ≤ 4096) (t : TypeId) (v : Value) (w : World) (hE : ErrAt w t v) (h2 : 2 ≤ s.size) (S : ByteArray) (hS : s.extract 1 s.size = S) (hix : ixS S (bt s 0) = -1) :
    Calls Tryz.prog 93 #[.string s, .bool true] w fun e w' => e = .returned (unqErr s t v) ∧ Below w.heap.size w w' := by
  unfold ErrAt at hE
  have h2I : 2 ≤ (s.size : Int) := by omega
  have hx : ∀ h : 0 < s.size, ((s[0]'h).toNat : Int) = bt s 0 := bt_at s 0
  have q0 := eq_true (show 0 < s.size by omega)
  obtain ⟨b0, b1⟩ := bt_range s 0
  have hi := index_any (s.extract 1 s.size) (bt s 0) b0 b1 w
  rw [hS] at hi
  rw [hix] at hi
  have HI := Aside0.mk hi
  clear hi
  clear hix h2
  go_enter Tryz.func93, Tryz.ntmps93
  go_wp2_with (go_at_call 164; (with_reducible refine HI.out.mono ?_); rintro e w' ⟨rfl, rfl⟩)
  go_wp2
  go_region
  go_wp2
  refine bodyPost_ret (v := unqErr s t v) (by simp [unqErr, results, Tryz.results93, go_sem]) rfl ⟨rfl, ?_⟩
  exact (Below.refl _ _).drew

set_option maxRecDepth 100000 in
set_option maxHeartbeats 2000000 in
theorem unq_other (s : ByteArray) (hs : s.size ≤ 4096) (t : TypeId) (v : Value) (w : World) (hE : ErrAt w t v) (h2 : 2 ≤ s.size) (S : ByteArray) (hS : s.extract 1 s.size = S) (i : Nat) (hi4 : i < 4096) (hix : ixS S (bt s 0) = (i : Int)) (n96 : (bt s 0 == 96) = false) (n34 : (bt s 0 == 34) = false) (n39 : (bt s 0 == 39) = false) :
    Calls Tryz.prog 93 #[.string s, .bool true] w fun e w' => e = .returned (unqErr s t v) ∧ Below w.heap.size w w' := by
  unfold ErrAt at hE
  have h2I : 2 ≤ (s.size : Int) := by omega
  have hx : ∀ h : 0 < s.size, ((s[0]'h).toNat : Int) = bt s 0 := bt_at s 0
  have q0 := eq_true (show 0 < s.size by omega)
  obtain ⟨b0, b1⟩ := bt_range s 0
  have hi := index_any (s.extract 1 s.size) (bt s 0) b0 b1 w
  rw [hS] at hi
  rw [hix] at hi
  have HI := Aside0.mk hi
  clear hi
  clear hix h2
  go_enter Tryz.func93, Tryz.ntmps93
  go_wp2_with (go_at_call 164; (with_reducible refine HI.out.mono ?_); rintro e w' ⟨rfl, rfl⟩)
  go_wp2
  go_region
  go_wp2
  refine bodyPost_ret (v := unqErr s t v) (by simp [unqErr, results, Tryz.results93, go_sem]) rfl ⟨rfl, ?_⟩
  exact (Below.refl _ _).drew

set_option maxRecDepth 100000 in
set_option maxHeartbeats 2000000 in
theorem unq_raw (s : ByteArray) (hs : s.size ≤ 4096) (t : TypeId) (v : Value) (w : World) (hE : ErrAt w t v) (h2 : 2 ≤ s.size) (S : ByteArray) (hS : s.extract 1 s.size = S) (i : Nat) (hi4 : i + 2 ≤ s.size) (hq : bt s 0 = 96) (hix : ixS S 96 = (i : Int)) (E : ByteArray) (hEx : s.extract 0 (i + 2) = E) (h13 : ixS E 13 = -1) :
    Calls Tryz.prog 93 #[.string s, .bool true] w fun e w' => e = .returned (unqOk (s.extract 1 (i + 1)) (s.extract (i + 2) s.size)) ∧ Below w.heap.size w w' := by
  unfold ErrAt at hE
  have h2I : 2 ≤ (s.size : Int) := by omega
  have hx : ∀ h : 0 < s.size, ((s[0]'h).toNat : Int) = bt s 0 := bt_at s 0
  have q0 := eq_true (show 0 < s.size by omega)
  obtain ⟨b0, b1⟩ := bt_range s 0
  have hi2 : (i : Int) + 2 ≤ (s.size : Int) := by omega
  have hn2 : ((i : Int) + 2).toNat = i + 2 := by omega
  have hn1 : ((i : Int) + 1).toNat = i + 1 := by omega
  have hi := index_any S 96 (by decide) (by decide) w
  rw [hix] at hi
  have HI := Aside0.mk hi
  have hc := contains_any E 13 (by decide) (by decide) w
  rw [h13, show ((-1 : Int) != -1) = false by rfl] at hc
  have HC := Aside0.mk hc
  rw [hq] at hx
  clear hi hc hix h13 h2 hq hi4
  go_enter Tryz.func93, Tryz.ntmps93
  go_wp2_with (go_at_call 164; (with_reducible refine HI.out.mono ?_); rintro e w' ⟨rfl, rfl⟩)
  go_wp2_with (go_at_call 165; (with_reducible refine HC.out.mono ?_); rintro e w' ⟨rfl, rfl⟩)
  go_region
  go_wp2
  refine bodyPost_ret (v := unqOk (s.extract 1 (i + 1)) (s.extract (i + 2) s.size)) (by simp [unqOk, results, Tryz.results93, go_sem]) rfl ⟨rfl, ?_⟩
  exact (Below.refl _ _).drew

/-- What one character adds. -/
def chunkU (r : Int) (m : Bool) : List Int := if r < 128 ∨ m = false then [r] else Lib.encodeRuneZ r
def decT (s : ByteArray) : Int × Nat := (((Lib.decodeGo s).1 : Int), (Lib.decodeGo s).2)
/-- A raw text without its carriage returns. -/
def rawGo : List Int → List Int → List Int
  | [], acc => acc
  | c :: l, acc => if c = 13 then rawGo l acc else rawGo l (acc ++ [c])
theorem rawGo_cons (c : Int) (l acc : List Int) : rawGo (c :: l) acc = if c = 13 then rawGo l acc else rawGo l (acc ++ [c]) := rfl
/-- The loop of unquote behind a quote 34: what is read, and what stands behind the closing quote. -/
def uqLoop : Nat → ByteArray → List Int → Option (List Int × ByteArray)
  | 0, _, _ => none
  | k + 1, T, acc =>
    if T.size = 0 then none
    else if bt T 0 = 34 then some (acc, T.extract 1 T.size)
    else if bt T 0 = 10 then none
    else match ucF (decT T) 34 T with
      | none => none
      | some (r, m, rem) => uqLoop k rem (acc ++ chunkU r m)
theorem decN_pos (n b0 b1 b2 b3 : Nat) : 1 ≤ (Lib.decodeN n b0 b1 b2 b3).2 := by
  unfold Lib.decodeN
  repeat' split
  all_goals (simp only []; omega)
theorem decN_le2 (n b0 b1 b2 b3 : Nat) (hn : 1 ≤ n) : (Lib.decodeN n b0 b1 b2 b3).2 ≤ n := by
  unfold Lib.decodeN
  repeat' split
  all_goals (simp only []; omega)
theorem decT_facts (s : ByteArray) (h : 0 < s.size) : 0 ≤ (decT s).1 ∧ (decT s).1 ≤ 2147483647 ∧ 1 ≤ (decT s).2 ∧ (decT s).2 ≤ s.size := by
  unfold decT Lib.decodeGo
  rw [if_neg (by omega)]
  have h1 := decode_le s 0
  have h2 : 1 ≤ (Utf8.decode s 0).2 := by rw [Lib.decode_at]; exact decN_pos _ _ _ _ _
  have h3 : (Utf8.decode s 0).2 ≤ s.size := by rw [Lib.decode_at]; exact decN_le2 _ _ _ _ _ (by omega)
  simp only []
  omega
theorem esc_len (q : Int) (U : List Int) (v n : Int) (m : Bool) (h : escF q U = some (v, m, n)) : n = 1 ∨ n = 3 ∨ n = 5 ∨ n = 9 := by
  cases U with
  | nil => simp [escF] at h
  | cons c t =>
    cases hl : letter c with
    | some x =>
      rw [escF_some hl] at h
      simp only [Option.some.injEq, Prod.mk.injEq] at h
      omega
    | none =>
      rw [escF_none hl] at h
      unfold escRest at h
      by_cases e5 : c = q
      · rw [if_pos e5] at h
        simp only [Option.some.injEq, Prod.mk.injEq] at h
        omega
      rw [if_neg e5] at h
      by_cases e1 : c = 120
      · rw [if_pos e1] at h
        by_cases hn : t.length < 2
        · rw [if_pos hn] at h; simp at h
        · rw [if_neg hn] at h
          cases hg : escGo 16 0 (t.take 2) with
          | none => rw [hg] at h; simp at h
          | some x => rw [hg] at h; simp only [Option.bind_some, Option.some.injEq, Prod.mk.injEq] at h; omega
      rw [if_neg e1] at h
      by_cases e2 : c = 117
      · rw [if_pos e2] at h
        by_cases hn : t.length < 4
        · rw [if_pos hn] at h; simp at h
        · rw [if_neg hn] at h
          cases hg : escGo 16 0 (t.take 4) with
          | none => rw [hg] at h; simp at h
          | some x =>
            rw [hg] at h
            simp only [Option.bind_some] at h
            by_cases hb : badR x
            · rw [if_pos hb] at h; simp at h
            · rw [if_neg hb] at h; simp only [Option.some.injEq, Prod.mk.injEq] at h; omega
      rw [if_neg e2] at h
      by_cases e3 : c = 85
      · rw [if_pos e3] at h
        by_cases hn : t.length < 8
        · rw [if_pos hn] at h; simp at h
        · rw [if_neg hn] at h
          cases hg : escGo 16 0 (t.take 8) with
          | none => rw [hg] at h; simp at h
          | some x =>
            rw [hg] at h
            simp only [Option.bind_some] at h
            by_cases hb : badR x
            · rw [if_pos hb] at h; simp at h
            · rw [if_neg hb] at h; simp only [Option.some.injEq, Prod.mk.injEq] at h; omega
      rw [if_neg e3] at h
      by_cases hn : t.length < 2
      · rw [if_pos hn] at h; simp at h
      · rw [if_neg hn] at h
        cases hg : escGo 8 0 (c :: t.take 2) with
        | none => rw [hg] at h; simp at h
        | some x =>
          rw [hg] at h
          simp only [Option.bind_some] at h
          by_cases hb : 255 < x
          · rw [if_pos hb] at h; simp at h
          · rw [if_neg hb] at h; simp only [Option.some.injEq, Prod.mk.injEq] at h; omega
theorem uc_facts (T : ByteArray) (r : Int) (m : Bool) (rem : ByteArray) (h : ucF (decT T) 34 T = some (r, m, rem)) : 0 ≤ r ∧ r ≤ 2147483647 ∧ (m = false → r ≤ 255) ∧ rem.size + 1 ≤ T.size := by
  unfold ucF at h
  by_cases h0 : T.size = 0
  · rw [if_pos h0] at h; simp at h
  rw [if_neg h0] at h
  by_cases h1 : bt T 0 = 34
  · rw [if_pos h1] at h; simp at h
  rw [if_neg h1] at h
  have hr := bt_range T 0
  have hd := decT_facts T (by omega)
  by_cases h2 : 128 ≤ bt T 0
  · rw [if_pos h2] at h
    simp only [Option.some.injEq, Prod.mk.injEq] at h
    obtain ⟨rfl, rfl, rfl⟩ := h
    rw [size_cut]
    refine ⟨by omega, by omega, fun k => by simp at k, by omega⟩
  rw [if_neg h2] at h
  by_cases h3 : bt T 0 ≠ 92
  · rw [if_pos h3] at h
    simp only [Option.some.injEq, Prod.mk.injEq] at h
    obtain ⟨rfl, rfl, rfl⟩ := h
    rw [size_cut]
    refine ⟨by omega, by omega, fun _ => by omega, by omega⟩
  rw [if_neg h3, uc_esc 34 (Or.inr rfl)] at h
  cases he : escF 34 ((bytesOf T).drop 1) with
  | none => rw [he] at h; simp at h
  | some y =>
    obtain ⟨v, mm, n⟩ := y
    rw [he] at h
    have hf := esc_facts 34 (Or.inr rfl) _ v n mm he
    simp only [Option.map_some, Option.some.injEq, Prod.mk.injEq, turnE] at h
    obtain ⟨rfl, rfl, rfl⟩ := h
    have hb := hf.2.2.2.2.1
    unfold badR at hb
    rw [size_cut]
    refine ⟨by omega, by omega, fun k => ?_, by omega⟩
    have k5 : ¬ 5 ≤ n := by simpa using k
    by_cases n3 : n = 3
    · exact hf.2.2.2.2.2.2.1 n3
    · by_cases n1 : n = 1
      · have := hf.2.2.2.2.2.2.2 n1; omega
      · exfalso
        -- an escape takes 1, 3, 5 or 9 bytes
        have := esc_len 34 _ v n mm he
        omega
theorem runeCells_nums (r : Int) : Lib.runeCells r = nums .u8 (Lib.encodeRuneZ r) := rfl
theorem enc_len (r : Int) : 1 ≤ (Lib.encodeRuneZ r).length ∧ (Lib.encodeRuneZ r).length ≤ 4 := by
  unfold Lib.encodeRuneZ
  repeat' split
  all_goals simp
theorem news1 (w : World) (r : Int) : ∀ (j : Nat) (u : Value), [Value.int .u8 r][j]? = some u → (w.alloc (.cells #[.int .u8 r] 5)).cell? ((⟨w.heap.size, 0, none⟩ : Addr).add j) = some u := by
  intro j u hj
  match j, hj with
  | 0, hj => simp at hj; subst hj; exact cn rfl
  | (j + 1), hj => simp at hj
theorem news1c (r : Int) : ∀ u ∈ [Value.int .u8 r], u.oneCell' = true := by
  intro u hu
  simp at hu
  subst hu
  rfl
def unqRes (s : ByteArray) (t : TypeId) (v : Value) : Option (List Int × ByteArray) → Value
  | none => unqErr s t v
  | some (o, r) => unqOk (strOfNums o) r
theorem str_own (W : World) (B : Nat) (v : Value) (xs : List Int) (h : W.ownsRow B 5 1 v xs.length (nums .u8 xs)) :
    (convert 22 9 v).run Tryz.prog W = .ok (.string (strOfNums xs)) W := by
  rcases h.2 with ⟨rfl, h0⟩ | ⟨g, cap, cur, rfl, hg, hheap, h1, h2, h3, h4⟩
  · have hx : xs = [] := List.eq_nil_of_length_eq_zero h0
    subst hx
    exact run_convert_bytes_nil W 22 5 Tryz.underlying22 Tryz.underlying5 0 0 9 Tryz.underlying9
  · refine run_convert_bytes_arg W 22 5 Tryz.underlying22 Tryz.underlying5 g 0 xs.length cap xs rfl (fun i hi => ?_) 9 Tryz.underlying9
    have hc := h.cells (g := g) rfl i (.int .u8 (xs.getD i 0)) (by unfold nums; simp [List.getD, List.getElem?_eq_getElem hi])
    have ha : (⟨g, 0, none⟩ : Addr).add i = ⟨g, 0 + i, none⟩ := by unfold Addr.add; split <;> simp_all
    rw [ha] at hc
    exact hc

set_option maxRecDepth 100000 in
set_option maxHeartbeats 400000 in
theorem unq_loopa (s : ByteArray) (hs : s.size ≤ 4096) (t : TypeId) (v : Value) (w : World) (hE : ErrAt w t v) (h2 : 2 ≤ s.size) (S : ByteArray) (hS : s.extract 1 s.size = S) (i : Nat) (hi4 : i + 2 ≤ s.size) (hq : bt s 0 = 34) (hix : ixS S 34 = (i : Int)) (E : ByteArray) (hEx : s.extract 0 (i + 2) = E) (hTB : ∀ W, Below w.heap.size w W → Lib.Utf8Tabs 8 9 W) (h92 : (ixS E 92 != -1) = true) :
    Calls Tryz.prog 93 #[.string s, .bool true] w fun e w' => e = .returned (unqRes s t v (uqLoop (S.size + 1) S [])) ∧ Below w.heap.size w w' := by
  unfold ErrAt at hE
  have h2I : 2 ≤ (s.size : Int) := by omega
  have hx : ∀ h : 0 < s.size, ((s[0]'h).toNat : Int) = bt s 0 := bt_at s 0
  have q0 := eq_true (show 0 < s.size by omega)
  obtain ⟨b0, b1⟩ := bt_range s 0
  have hi2 : (i : Int) + 2 ≤ (s.size : Int) := by omega
  have hn2 : ((i : Int) + 2).toNat = i + 2 := by omega
  have hn1 : ((i : Int) + 1).toNat = i + 1 := by omega
  have HE := Aside0.mk (And.intro (World.block_lt_of_cell? w _ hE) hE)
  have hi := index_any S 34 (by decide) (by decide) w
  rw [hix] at hi
  have HI := Aside0.mk hi
  have hc := contains_any E 92 (by decide) (by decide) w
  rw [h92] at hc
  have HC := Aside0.mk hc
  rw [hq] at hx
  obtain ⟨R, hR⟩ : ∃ R, uqLoop (S.size + 1) S [] = R := ⟨_, rfl⟩
  rw [hR]
  have HR := Aside0.mk hR
  have hSz : S.size ≤ 4096 := by rw [← hS, ByteArray.size_extract]; omega
  have HS4 := Aside0.mk hSz
  obtain ⟨cc, hc1⟩ : ∃ cc : Nat, 3 * (i + 2) / 2 = cc := ⟨_, rfl⟩
  have hcc : 3 * ((i : Int) + 2) / 2 = (cc : Int) := by omega
  have hc4 : cc ≤ 10000 := by omega
  have hbyte : (Tryz.prog.info? 5).map (fun i => (i.zero, i.size, i.bytes)) = some (some (.int .u8 0), 1, 1) := by kernel_rfl
  obtain ⟨i0, hi0, hz00, hz01, hz02⟩ := info_parts hbyte
  obtain ⟨wm, hmk, hownm, hgrowm⟩ := run_make_own (P := Tryz.prog) w w.heap.size 22 5 i0 (.int .u8 0) 1 Tryz.underlying22 hi0 hz00 hz01 .i64 .i64 cc (by rw [hz02]; omega) (by unfold maxLen; omega) (Nat.le_refl _)
  have HO := Aside0.mk hownm
  have HB := Aside0.mk (show Below w.heap.size w wm from (Below.refl _ _).grown hgrowm (Nat.le_refl _) (fun kk hk => by cases hk))
  clear hownm hgrowm
  have HTB := Aside0.mk hTB
  clear hi hc hix h92 h2 hq hi4 hSz hR hTB hbyte hE hc1 hc4
  go_enter Tryz.func93, Tryz.ntmps93
  go_wp2_with (go_at_call 164; (with_reducible refine HI.out.mono ?_); rintro e w' ⟨rfl, rfl⟩)
  go_wp2_with (go_at_call 165; (with_reducible refine HC.out.mono ?_); rintro e w' ⟨rfl, rfl⟩)
  clear hmk hcc hx q0 hS hEx
  go_loopw [0, 14] (fun sT sB wr => ∃ (T : ByteArray) (acc : List Int) (k : Nat), sT = .string T ∧ T.size ≤ 4096 ∧ Aside0 (wr.ownsRow w.heap.size 5 1 sB acc.length (nums .u8 acc)) ∧ Aside0 (Below w.heap.size w wr) ∧ Aside0 (T.size < k) ∧ Aside0 (uqLoop k T acc = R) ∧ Aside0 (acc.length + 4 * T.size ≤ 20000)) (fun sT _ _ => match sT with | .string T => T.size | _ => 0)
  case atStart => exact ⟨S, [], S.size + 1, rfl, HS4.out, HO, HB, ⟨Nat.lt_succ_self _⟩, HR, ⟨by have := HS4.out; simp; omega⟩⟩
  case round =>
    obtain ⟨T, acc, k, rfl, hT4, HO, HB, HK, HP, HZ⟩ := hrel
    have hEw : wr.cell? ⟨0, 0, none⟩ = some (.iface t v) := (HB.out.cell (p := ⟨0, 0, none⟩) HE.out.1).trans HE.out.2
    obtain ⟨k, rfl⟩ : ∃ k', k = k' + 1 := ⟨k - 1, by have := HK.out; omega⟩
    by_cases hT0 : T.size = 0
    · have hR : none = R := by have := HP.out; unfold uqLoop at this; rw [if_pos hT0] at this; exact this
      have HRN := Aside0.mk hR
      have hTI : (T.size : Int) ≤ 0 := by omega
      clear HO HP HZ HK hT0 hR HR HTB
      go_wp2
      go_region
      go_wp2
      refine bodyPost_ret (v := unqErr s t v) (by simp [unqErr, results, Tryz.results93, go_sem]) rfl ⟨by rw [← HRN.out]; rfl, HB.out.drew⟩
    have hT1 : 1 ≤ (T.size : Int) := by omega
    have hxT : ∀ h : 0 < T.size, ((T[0]'h).toNat : Int) = bt T 0 := bt_at T 0
    have qT := eq_true (show 0 < T.size by omega)
    obtain ⟨bT0, bT1⟩ := bt_range T 0
    by_cases h34 : bt T 0 = 34
    · have hR : some (acc, T.extract 1 T.size) = R := by have := HP.out; unfold uqLoop at this; rw [if_neg hT0, if_pos h34] at this; exact this
      have HRN := Aside0.mk hR
      have hcv := str_own wr _ _ acc HO.out
      rw [h34] at hxT bT0 bT1
      clear HO HP HZ HK hT0 hR HR HTB h34
      go_wp2
      refine bodyPost_ret (v := unqOk (strOfNums acc) (T.extract 1 T.size)) (by simp [unqOk, results, Tryz.results93, go_sem]) rfl ⟨by rw [← HRN.out]; rfl, HB.out⟩
    have n34 : (bt T 0 != 34) = true := by rw [bne_iff_ne]; exact h34
    have hu := uq_any T 34 (Or.inr rfl) t v wr hEw hT4 (Lib.decodeGo T).1 (Lib.decodeGo T).2 (decT_facts T (by omega)).2.2.2 (fun _ => Tryz.utf8_DecodeRuneInString T wr (HTB.out wr HB.out))
    by_cases h10 : bt T 0 = 10
    · have hR : none = R := by have := HP.out; unfold uqLoop at this; rw [if_neg hT0, if_neg h34, if_pos h10] at this; exact this
      have HRN := Aside0.mk hR
      have huc : ucF (decT T) 34 T = some (10, false, T.extract 1 T.size) := by
        unfold ucF
        rw [if_neg hT0, if_neg h34, if_neg (by omega), if_pos (by omega), h10]
      have hu2 : Calls Tryz.prog 26 #[.string T, .int .u8 34] wr fun e w' => e = .returned (uqVal t v (some (10, false, T.extract 1 T.size))) ∧ Below wr.heap.size wr w' := by rw [← huc]; exact hu
      have HU := Aside0.mk hu2
      rw [h10] at hxT bT0 bT1
      clear HO HP HZ HK hT0 hR HR HTB h34 n34 hu huc hu2 h10
      go_wp2_with fail
      refine HU.out.mono ?_
      rintro e w1 ⟨rfl, hb⟩
      have HB1 := Aside0.mk (HB.out.trans (hb.mono HB.out.size))
      have hE1 : w1.cell? ⟨0, 0, none⟩ = some (.iface t v) := (HB1.out.cell (p := ⟨0, 0, none⟩) HE.out.1).trans HE.out.2
      clear hb
      unfold uqVal
      go_wp2
      go_region
      go_wp2
      refine bodyPost_ret (v := unqErr s t v) (by simp [unqErr, results, Tryz.results93, go_sem]) rfl ⟨by rw [← HRN.out]; rfl, HB1.out.drew⟩
    have n10 : (bt T 0 == 10) = false := by rw [beq_eq_false_iff_ne]; exact h10
    cases huc : ucF (decT T) 34 T with
    | none =>
      have hR : none = R := by have := HP.out; unfold uqLoop at this; rw [if_neg hT0, if_neg h34, if_neg h10, huc] at this; exact this
      have HRN := Aside0.mk hR
      have hu2 : Calls Tryz.prog 26 #[.string T, .int .u8 34] wr fun e w' => e = .returned (uqVal t v none) ∧ Below wr.heap.size wr w' := by rw [← huc]; exact hu
      have HU := Aside0.mk hu2
      clear HO HP HZ HK hT0 hR HR HTB h34 hu huc hu2 h10
      go_wp2_with fail
      refine HU.out.mono ?_
      rintro e w1 ⟨rfl, hb⟩
      have HB1 := Aside0.mk (HB.out.trans (hb.mono HB.out.size))
      have hE1 : w1.cell? ⟨0, 0, none⟩ = some (.iface t v) := (HB1.out.cell (p := ⟨0, 0, none⟩) HE.out.1).trans HE.out.2
      clear hb
      unfold uqVal
      go_wp2
      go_region
      go_wp2
      refine bodyPost_ret (v := unqErr s t v) (by simp [unqErr, results, Tryz.results93, go_sem]) rfl ⟨by rw [← HRN.out]; rfl, HB1.out.drew⟩
    | some y =>
      obtain ⟨r, m, rem⟩ := y
      have hP2 : uqLoop k rem (acc ++ chunkU r m) = R := by have := HP.out; unfold uqLoop at this; rw [if_neg hT0, if_neg h34, if_neg h10, huc] at this; exact this
      have hu2 : Calls Tryz.prog 26 #[.string T, .int .u8 34] wr fun e w' => e = .returned (uqVal t v (some (r, m, rem))) ∧ Below wr.heap.size wr w' := by rw [← huc]; exact hu
      have HU := Aside0.mk hu2
      have hf := uc_facts T r m rem huc
      have HF := Aside0.mk hf
      have hr0 : 0 ≤ r := hf.1
      have hr1 : r ≤ 2147483647 := hf.2.1
      have hrem : rem.size ≤ 4096 := by have := hf.2.2.2; omega
      clear HP hT0 h34 hu huc hu2 h10
      by_cases hc : r < 128 ∨ m = false
      · have hch : chunkU r m = [r] := by unfold chunkU; rw [if_pos hc]
        rw [hch] at hP2
        have HP2 := Aside0.mk hP2
        have hr2 : r ≤ 255 := by rcases hc with hc | hc; omega; exact hf.2.2.1 hc
        clear hP2 hch hf
        have hc2 : r < 128 ∨ (128 ≤ r ∧ m = false) := by rcases hc with hc | hc; exact Or.inl hc; by_cases h : r < 128; exact Or.inl h; exact Or.inr ⟨by omega, hc⟩
        clear hc
        rcases hc2 with hc | ⟨hc, rfl⟩
        all_goals
          go_wp2_with fail
          refine HU.out.mono ?_
          rintro e w1 ⟨rfl, hb⟩
          have HB1 := Aside0.mk (HB.out.trans (hb.mono HB.out.size))
          have hown1 := pw_own_below HO.out hb
          have hz1 := HB1.out.size
          clear hb
          unfold uqVal
          have HN := Aside0.mk (show acc.length + 1 ≤ maxLen ∧ (acc.length + 1) * 1 ≤ 140737488355328 from ⟨by have := HZ.out; unfold maxLen; omega, by have := HZ.out; omega⟩)
          have hbase : ∀ o, w.heap.size ≤ (w1.alloc o).heap.size := fun o => by simp; omega
          have HBS := Aside0.mk hbase
          have HO1 := Aside0.mk hown1
          clear hbase hown1
          go_wp2_with (at_builtin; refine wpList_append_own _ rfl _ _ 22 rfl w.heap.size 5 i0 (.int .u8 0) 1 1 Tryz.underlying22 hi0 hz00 hz01 hz02 rfl (by decide) _ _ _ rfl (HO1.out.alloc _) ⟨w1.heap.size, 0, none⟩ 1 1 [.int .u8 r] rfl rfl (news1 w1 r) (news1c r) HN.out.1 HN.out.2 (HBS.out _) ?_; intro v' w2 hown2 hgrow2 _; have HO2 := Aside0.mk hown2; have HB2 := Aside0.mk (show Below w.heap.size w w2 from (below_alloc HB1.out _).grown hgrow2 (HBS.out _) (fun kk hk => (HO1.out.lt kk hk).1)); clear hown2 hgrow2)
          go_roundw
          case rel => exact ⟨rem, acc ++ [r], k, rfl, hrem, ⟨by have := HO2.out; unfold nums at this ⊢; simpa using this⟩, HB2, ⟨by have := HF.out.2.2.2; have := HK.out; omega⟩, HP2, ⟨by have := HF.out.2.2.2; have := HZ.out; simp; omega⟩⟩
          case measure => have := HF.out.2.2.2; simp; omega
      · have hch : chunkU r m = Lib.encodeRuneZ r := by unfold chunkU; rw [if_neg hc]
        rw [hch] at hP2
        have HP2 := Aside0.mk hP2
        have hr2 : 128 ≤ r := by omega
        have hm : m = true := by cases m; exact absurd (Or.inr rfl) hc; rfl
        subst hm
        clear hP2 hch hf hc
        go_wp2_with fail
        refine HU.out.mono ?_
        rintro e w1 ⟨rfl, hb⟩
        have HB1 := Aside0.mk (HB.out.trans (hb.mono HB.out.size))
        have hown1 := pw_own_below HO.out hb
        have hz1 := HB1.out.size
        have har := Tryz.utf8_AppendRune_plain w.heap.size _ acc.length (nums .u8 acc) r (by omega) (by omega) w1 hown1 (by have := HZ.out; omega) hz1
        have HAR := Aside0.mk har
        have HLT := Aside0.mk (fun kk hk => (hown1.lt kk hk).1)
        clear hb har hown1
        unfold uqVal
        go_wp2_with fail
        refine HAR.out.mono ?_
        rintro e w2 ⟨v', rfl, hown2, o, hgrow2⟩
        have HO2 := Aside0.mk hown2
        have HB2 := Aside0.mk (show Below w.heap.size w w2 from (below_alloc HB1.out o).grown hgrow2 (by simp; omega) HLT.out)
        clear hown2 hgrow2
        go_wp2
        go_roundw
        case rel => exact ⟨rem, acc ++ Lib.encodeRuneZ r, k, rfl, hrem, ⟨by have := HO2.out; rw [runeCells_nums] at this; unfold nums at this ⊢; simpa using this⟩, HB2, ⟨by have := HF.out.2.2.2; have := HK.out; omega⟩, HP2, ⟨by have := HF.out.2.2.2; have := HZ.out; have := (enc_len r).2; simp; omega⟩⟩
        case measure => have := HF.out.2.2.2; simp; omega

set_option maxRecDepth 100000 in
set_option maxHeartbeats 400000 in
theorem unq_loopb (s : ByteArray) (hs : s.size ≤ 4096) (t : TypeId) (v : Value) (w : World) (hE : ErrAt w t v) (h2 : 2 ≤ s.size) (S : ByteArray) (hS : s.extract 1 s.size = S) (i : Nat) (hi4 : i + 2 ≤ s.size) (hq : bt s 0 = 34) (hix : ixS S 34 = (i : Int)) (E : ByteArray) (hEx : s.extract 0 (i + 2) = E) (hTB : ∀ W, Below w.heap.size w W → Lib.Utf8Tabs 8 9 W) (h92 : (ixS E 92 != -1) = false) (h10 : (ixS E 10 != -1) = true) :
    Calls Tryz.prog 93 #[.string s, .bool true] w fun e w' => e = .returned (unqRes s t v (uqLoop (S.size + 1) S [])) ∧ Below w.heap.size w w' := by
  unfold ErrAt at hE
  have h2I : 2 ≤ (s.size : Int) := by omega
  have hx : ∀ h : 0 < s.size, ((s[0]'h).toNat : Int) = bt s 0 := bt_at s 0
  have q0 := eq_true (show 0 < s.size by omega)
  obtain ⟨b0, b1⟩ := bt_range s 0
  have hi2 : (i : Int) + 2 ≤ (s.size : Int) := by omega
  have hn2 : ((i : Int) + 2).toNat = i + 2 := by omega
  have hn1 : ((i : Int) + 1).toNat = i + 1 := by omega
  have HE := Aside0.mk (And.intro (World.block_lt_of_cell? w _ hE) hE)
  have hi := index_any S 34 (by decide) (by decide) w
  rw [hix] at hi
  have HI := Aside0.mk hi
  rw [hq] at hx
  obtain ⟨R, hR⟩ : ∃ R, uqLoop (S.size + 1) S [] = R := ⟨_, rfl⟩
  rw [hR]
  have HR := Aside0.mk hR
  have hSz : S.size ≤ 4096 := by rw [← hS, ByteArray.size_extract]; omega
  have HS4 := Aside0.mk hSz
  obtain ⟨cc, hc1⟩ : ∃ cc : Nat, 3 * (i + 2) / 2 = cc := ⟨_, rfl⟩
  have hcc : 3 * ((i : Int) + 2) / 2 = (cc : Int) := by omega
  have hc4 : cc ≤ 10000 := by omega
  have hbyte : (Tryz.prog.info? 5).map (fun i => (i.zero, i.size, i.bytes)) = some (some (.int .u8 0), 1, 1) := by kernel_rfl
  obtain ⟨i0, hi0, hz00, hz01, hz02⟩ := info_parts hbyte
  obtain ⟨wm, hmk, hownm, hgrowm⟩ := run_make_own (P := Tryz.prog) w w.heap.size 22 5 i0 (.int .u8 0) 1 Tryz.underlying22 hi0 hz00 hz01 .i64 .i64 cc (by rw [hz02]; omega) (by unfold maxLen; omega) (Nat.le_refl _)
  have HO := Aside0.mk hownm
  have HB := Aside0.mk (show Below w.heap.size w wm from (Below.refl _ _).grown hgrowm (Nat.le_refl _) (fun kk hk => by cases hk))
  clear hownm hgrowm
  have HTB := Aside0.mk hTB
  clear hi hix h2 hq hi4 hSz hR hTB hbyte hE hc1 hc4
  go_enter Tryz.func93, Tryz.ntmps93
  go_wp2_with (go_at_call 164; (with_reducible refine HI.out.mono ?_); rintro e w' ⟨rfl, rfl⟩)
  go_wp2_with (go_at_call 165; (with_reducible refine (contains_any _ _ (by decide) (by decide) _).mono ?_); rintro e w' ⟨rfl, rfl⟩)
  clear hmk hcc hx q0 hS hEx h92 h10
  go_loopw [0, 14] (fun sT sB wr => ∃ (T : ByteArray) (acc : List Int) (k : Nat), sT = .string T ∧ T.size ≤ 4096 ∧ Aside0 (wr.ownsRow w.heap.size 5 1 sB acc.length (nums .u8 acc)) ∧ Aside0 (Below w.heap.size w wr) ∧ Aside0 (T.size < k) ∧ Aside0 (uqLoop k T acc = R) ∧ Aside0 (acc.length + 4 * T.size ≤ 20000)) (fun sT _ _ => match sT with | .string T => T.size | _ => 0)
  case atStart => exact ⟨S, [], S.size + 1, rfl, HS4.out, HO, HB, ⟨Nat.lt_succ_self _⟩, HR, ⟨by have := HS4.out; simp; omega⟩⟩
  case round =>
    obtain ⟨T, acc, k, rfl, hT4, HO, HB, HK, HP, HZ⟩ := hrel
    have hEw : wr.cell? ⟨0, 0, none⟩ = some (.iface t v) := (HB.out.cell (p := ⟨0, 0, none⟩) HE.out.1).trans HE.out.2
    obtain ⟨k, rfl⟩ : ∃ k', k = k' + 1 := ⟨k - 1, by have := HK.out; omega⟩
    by_cases hT0 : T.size = 0
    · have hR : none = R := by have := HP.out; unfold uqLoop at this; rw [if_pos hT0] at this; exact this
      have HRN := Aside0.mk hR
      have hTI : (T.size : Int) ≤ 0 := by omega
      clear HO HP HZ HK hT0 hR HR HTB
      go_wp2
      go_region
      go_wp2
      refine bodyPost_ret (v := unqErr s t v) (by simp [unqErr, results, Tryz.results93, go_sem]) rfl ⟨by rw [← HRN.out]; rfl, HB.out.drew⟩
    have hT1 : 1 ≤ (T.size : Int) := by omega
    have hxT : ∀ h : 0 < T.size, ((T[0]'h).toNat : Int) = bt T 0 := bt_at T 0
    have qT := eq_true (show 0 < T.size by omega)
    obtain ⟨bT0, bT1⟩ := bt_range T 0
    by_cases h34 : bt T 0 = 34
    · have hR : some (acc, T.extract 1 T.size) = R := by have := HP.out; unfold uqLoop at this; rw [if_neg hT0, if_pos h34] at this; exact this
      have HRN := Aside0.mk hR
      have hcv := str_own wr _ _ acc HO.out
      rw [h34] at hxT bT0 bT1
      clear HO HP HZ HK hT0 hR HR HTB h34
      go_wp2
      refine bodyPost_ret (v := unqOk (strOfNums acc) (T.extract 1 T.size)) (by simp [unqOk, results, Tryz.results93, go_sem]) rfl ⟨by rw [← HRN.out]; rfl, HB.out⟩
    have n34 : (bt T 0 != 34) = true := by rw [bne_iff_ne]; exact h34
    have hu := uq_any T 34 (Or.inr rfl) t v wr hEw hT4 (Lib.decodeGo T).1 (Lib.decodeGo T).2 (decT_facts T (by omega)).2.2.2 (fun _ => Tryz.utf8_DecodeRuneInString T wr (HTB.out wr HB.out))
    by_cases h10 : bt T 0 = 10
    · have hR : none = R := by have := HP.out; unfold uqLoop at this; rw [if_neg hT0, if_neg h34, if_pos h10] at this; exact this
      have HRN := Aside0.mk hR
      have huc : ucF (decT T) 34 T = some (10, false, T.extract 1 T.size) := by
        unfold ucF
        rw [if_neg hT0, if_neg h34, if_neg (by omega), if_pos (by omega), h10]
      have hu2 : Calls Tryz.prog 26 #[.string T, .int .u8 34] wr fun e w' => e = .returned (uqVal t v (some (10, false, T.extract 1 T.size))) ∧ Below wr.heap.size wr w' := by rw [← huc]; exact hu
      have HU := Aside0.mk hu2
      rw [h10] at hxT bT0 bT1
      clear HO HP HZ HK hT0 hR HR HTB h34 n34 hu huc hu2 h10
      go_wp2_with fail
      refine HU.out.mono ?_
      rintro e w1 ⟨rfl, hb⟩
      have HB1 := Aside0.mk (HB.out.trans (hb.mono HB.out.size))
      have hE1 : w1.cell? ⟨0, 0, none⟩ = some (.iface t v) := (HB1.out.cell (p := ⟨0, 0, none⟩) HE.out.1).trans HE.out.2
      clear hb
      unfold uqVal
      go_wp2
      go_region
      go_wp2
      refine bodyPost_ret (v := unqErr s t v) (by simp [unqErr, results, Tryz.results93, go_sem]) rfl ⟨by rw [← HRN.out]; rfl, HB1.out.drew⟩
    have n10 : (bt T 0 == 10) = false := by rw [beq_eq_false_iff_ne]; exact h10
    cases huc : ucF (decT T) 34 T with
    | none =>
      have hR : none = R := by have := HP.out; unfold uqLoop at this; rw [if_neg hT0, if_neg h34, if_neg h10, huc] at this; exact this
      have HRN := Aside0.mk hR
      have hu2 : Calls Tryz.prog 26 #[.string T, .int .u8 34] wr fun e w' => e = .returned (uqVal t v none) ∧ Below wr.heap.size wr w' := by rw [← huc]; exact hu
      have HU := Aside0.mk hu2
      clear HO HP HZ HK hT0 hR HR HTB h34 hu huc hu2 h10
      go_wp2_with fail
      refine HU.out.mono ?_
      rintro e w1 ⟨rfl, hb⟩
      have HB1 := Aside0.mk (HB.out.trans (hb.mono HB.out.size))
      have hE1 : w1.cell? ⟨0, 0, none⟩ = some (.iface t v) := (HB1.out.cell (p := ⟨0, 0, none⟩) HE.out.1).trans HE.out.2
      clear hb
      unfold uqVal
      go_wp2
      go_region
      go_wp2
      refine bodyPost_ret (v := unqErr s t v) (by simp [unqErr, results, Tryz.results93, go_sem]) rfl ⟨by rw [← HRN.out]; rfl, HB1.out.drew⟩
    | some y =>
      obtain ⟨r, m, rem⟩ := y
      have hP2 : uqLoop k rem (acc ++ chunkU r m) = R := by have := HP.out; unfold uqLoop at this; rw [if_neg hT0, if_neg h34, if_neg h10, huc] at this; exact this
      have hu2 : Calls Tryz.prog 26 #[.string T, .int .u8 34] wr fun e w' => e = .returned (uqVal t v (some (r, m, rem))) ∧ Below wr.heap.size wr w' := by rw [← huc]; exact hu
      have HU := Aside0.mk hu2
      have hf := uc_facts T r m rem huc
      have HF := Aside0.mk hf
      have hr0 : 0 ≤ r := hf.1
      have hr1 : r ≤ 2147483647 := hf.2.1
      have hrem : rem.size ≤ 4096 := by have := hf.2.2.2; omega
      clear HP hT0 h34 hu huc hu2 h10
      by_cases hc : r < 128 ∨ m = false
      · have hch : chunkU r m = [r] := by unfold chunkU; rw [if_pos hc]
        rw [hch] at hP2
        have HP2 := Aside0.mk hP2
        have hr2 : r ≤ 255 := by rcases hc with hc | hc; omega; exact hf.2.2.1 hc
        clear hP2 hch hf
        have hc2 : r < 128 ∨ (128 ≤ r ∧ m = false) := by rcases hc with hc | hc; exact Or.inl hc; by_cases h : r < 128; exact Or.inl h; exact Or.inr ⟨by omega, hc⟩
        clear hc
        rcases hc2 with hc | ⟨hc, rfl⟩
        all_goals
          go_wp2_with fail
          refine HU.out.mono ?_
          rintro e w1 ⟨rfl, hb⟩
          have HB1 := Aside0.mk (HB.out.trans (hb.mono HB.out.size))
          have hown1 := pw_own_below HO.out hb
          have hz1 := HB1.out.size
          clear hb
          unfold uqVal
          have HN := Aside0.mk (show acc.length + 1 ≤ maxLen ∧ (acc.length + 1) * 1 ≤ 140737488355328 from ⟨by have := HZ.out; unfold maxLen; omega, by have := HZ.out; omega⟩)
          have hbase : ∀ o, w.heap.size ≤ (w1.alloc o).heap.size := fun o => by simp; omega
          have HBS := Aside0.mk hbase
          have HO1 := Aside0.mk hown1
          clear hbase hown1
          go_wp2_with (at_builtin; refine wpList_append_own _ rfl _ _ 22 rfl w.heap.size 5 i0 (.int .u8 0) 1 1 Tryz.underlying22 hi0 hz00 hz01 hz02 rfl (by decide) _ _ _ rfl (HO1.out.alloc _) ⟨w1.heap.size, 0, none⟩ 1 1 [.int .u8 r] rfl rfl (news1 w1 r) (news1c r) HN.out.1 HN.out.2 (HBS.out _) ?_; intro v' w2 hown2 hgrow2 _; have HO2 := Aside0.mk hown2; have HB2 := Aside0.mk (show Below w.heap.size w w2 from (below_alloc HB1.out _).grown hgrow2 (HBS.out _) (fun kk hk => (HO1.out.lt kk hk).1)); clear hown2 hgrow2)
          go_roundw
          case rel => exact ⟨rem, acc ++ [r], k, rfl, hrem, ⟨by have := HO2.out; unfold nums at this ⊢; simpa using this⟩, HB2, ⟨by have := HF.out.2.2.2; have := HK.out; omega⟩, HP2, ⟨by have := HF.out.2.2.2; have := HZ.out; simp; omega⟩⟩
          case measure => have := HF.out.2.2.2; simp; omega
      · have hch : chunkU r m = Lib.encodeRuneZ r := by unfold chunkU; rw [if_neg hc]
        rw [hch] at hP2
        have HP2 := Aside0.mk hP2
        have hr2 : 128 ≤ r := by omega
        have hm : m = true := by cases m; exact absurd (Or.inr rfl) hc; rfl
        subst hm
        clear hP2 hch hf hc
        go_wp2_with fail
        refine HU.out.mono ?_
        rintro e w1 ⟨rfl, hb⟩
        have HB1 := Aside0.mk (HB.out.trans (hb.mono HB.out.size))
        have hown1 := pw_own_below HO.out hb
        have hz1 := HB1.out.size
        have har := Tryz.utf8_AppendRune_plain w.heap.size _ acc.length (nums .u8 acc) r (by omega) (by omega) w1 hown1 (by have := HZ.out; omega) hz1
        have HAR := Aside0.mk har
        have HLT := Aside0.mk (fun kk hk => (hown1.lt kk hk).1)
        clear hb har hown1
        unfold uqVal
        go_wp2_with fail
        refine HAR.out.mono ?_
        rintro e w2 ⟨v', rfl, hown2, o, hgrow2⟩
        have HO2 := Aside0.mk hown2
        have HB2 := Aside0.mk (show Below w.heap.size w w2 from (below_alloc HB1.out o).grown hgrow2 (by simp; omega) HLT.out)
        clear hown2 hgrow2
        go_wp2
        go_roundw
        case rel => exact ⟨rem, acc ++ Lib.encodeRuneZ r, k, rfl, hrem, ⟨by have := HO2.out; rw [runeCells_nums] at this; unfold nums at this ⊢; simpa using this⟩, HB2, ⟨by have := HF.out.2.2.2; have := HK.out; omega⟩, HP2, ⟨by have := HF.out.2.2.2; have := HZ.out; have := (enc_len r).2; simp; omega⟩⟩
        case measure => have := HF.out.2.2.2; simp; omega

set_option maxRecDepth 100000 in
set_option maxHeartbeats 400000 in
theorem unq_loopc (s : ByteArray) (hs : s.size ≤ 4096) (t : TypeId) (v : Value) (w : World) (hE : ErrAt w t v) (h2 : 2 ≤ s.size) (S : ByteArray) (hS : s.extract 1 s.size = S) (i : Nat) (hi4 : i + 2 ≤ s.size) (hq : bt s 0 = 34) (hix : ixS S 34 = (i : Int)) (E : ByteArray) (hEx : s.extract 0 (i + 2) = E) (hTB : ∀ W, Below w.heap.size w W → Lib.Utf8Tabs 8 9 W) (h92 : (ixS E 92 != -1) = false) (h10 : (ixS E 10 != -1) = false) (M : ByteArray) (hM : s.extract 1 (i + 1) = M) (hV : ∀ W, Below w.heap.size w W → Calls Tryz.prog 166 #[.string M] W fun e w' => e = .returned (.bool false) ∧ Below W.heap.size W w') :
    Calls Tryz.prog 93 #[.string s, .bool true] w fun e w' => e = .returned (unqRes s t v (uqLoop (S.size + 1) S [])) ∧ Below w.heap.size w w' := by
  unfold ErrAt at hE
  have h2I : 2 ≤ (s.size : Int) := by omega
  have hx : ∀ h : 0 < s.size, ((s[0]'h).toNat : Int) = bt s 0 := bt_at s 0
  have q0 := eq_true (show 0 < s.size by omega)
  obtain ⟨b0, b1⟩ := bt_range s 0
  have hi2 : (i : Int) + 2 ≤ (s.size : Int) := by omega
  have hn2 : ((i : Int) + 2).toNat = i + 2 := by omega
  have hn1 : ((i : Int) + 1).toNat = i + 1 := by omega
  have HE := Aside0.mk (And.intro (World.block_lt_of_cell? w _ hE) hE)
  have hi := index_any S 34 (by decide) (by decide) w
  rw [hix] at hi
  have HI := Aside0.mk hi
  have HV := Aside0.mk hV
  rw [hq] at hx
  obtain ⟨R, hR⟩ : ∃ R, uqLoop (S.size + 1) S [] = R := ⟨_, rfl⟩
  rw [hR]
  have HR := Aside0.mk hR
  have hSz : S.size ≤ 4096 := by rw [← hS, ByteArray.size_extract]; omega
  have HS4 := Aside0.mk hSz
  obtain ⟨cc, hc1⟩ : ∃ cc : Nat, 3 * (i + 2) / 2 = cc := ⟨_, rfl⟩
  have hcc : 3 * ((i : Int) + 2) / 2 = (cc : Int) := by omega
  have hc4 : cc ≤ 10000 := by omega
  have hbyte : (Tryz.prog.info? 5).map (fun i => (i.zero, i.size, i.bytes)) = some (some (.int .u8 0), 1, 1) := by kernel_rfl
  obtain ⟨i0, hi0, hz00, hz01, hz02⟩ := info_parts hbyte
  have HTB := Aside0.mk hTB
  clear hi hix h2 hq hi4 hSz hR hTB hbyte hE hc1 hV
  go_enter Tryz.func93, Tryz.ntmps93
  go_wp2_with (go_at_call 164; (with_reducible refine HI.out.mono ?_); rintro e w' ⟨rfl, rfl⟩)
  go_wp2_with (go_at_call 165; (with_reducible refine (contains_any _ _ (by decide) (by decide) _).mono ?_); rintro e w' ⟨rfl, rfl⟩)
  refine (HV.out _ (Below.refl _ _)).mono ?_
  rintro e w2 ⟨rfl, hb2⟩
  obtain ⟨wm, hmk, hownm, hgrowm⟩ := run_make_own (P := Tryz.prog) w2 w.heap.size 22 5 i0 (.int .u8 0) 1 Tryz.underlying22 hi0 hz00 hz01 .i64 .i64 cc (by rw [hz02]; omega) (by unfold maxLen; omega) hb2.size
  have HO := Aside0.mk hownm
  have HB := Aside0.mk (show Below w.heap.size w wm from (hb2).grown hgrowm hb2.size (fun kk hk => by cases hk))
  clear hownm hgrowm
  clear hb2 hc4
  go_wp2
  clear hmk hcc hx q0 hS hEx h92 h10 hM
  go_loopw [0, 14] (fun sT sB wr => ∃ (T : ByteArray) (acc : List Int) (k : Nat), sT = .string T ∧ T.size ≤ 4096 ∧ Aside0 (wr.ownsRow w.heap.size 5 1 sB acc.length (nums .u8 acc)) ∧ Aside0 (Below w.heap.size w wr) ∧ Aside0 (T.size < k) ∧ Aside0 (uqLoop k T acc = R) ∧ Aside0 (acc.length + 4 * T.size ≤ 20000)) (fun sT _ _ => match sT with | .string T => T.size | _ => 0)
  case atStart => exact ⟨S, [], S.size + 1, rfl, HS4.out, HO, HB, ⟨Nat.lt_succ_self _⟩, HR, ⟨by have := HS4.out; simp; omega⟩⟩
  case round =>
    obtain ⟨T, acc, k, rfl, hT4, HO, HB, HK, HP, HZ⟩ := hrel
    have hEw : wr.cell? ⟨0, 0, none⟩ = some (.iface t v) := (HB.out.cell (p := ⟨0, 0, none⟩) HE.out.1).trans HE.out.2
    obtain ⟨k, rfl⟩ : ∃ k', k = k' + 1 := ⟨k - 1, by have := HK.out; omega⟩
    by_cases hT0 : T.size = 0
    · have hR : none = R := by have := HP.out; unfold uqLoop at this; rw [if_pos hT0] at this; exact this
      have HRN := Aside0.mk hR
      have hTI : (T.size : Int) ≤ 0 := by omega
      clear HO HP HZ HK hT0 hR HR HTB
      go_wp2
      go_region
      go_wp2
      refine bodyPost_ret (v := unqErr s t v) (by simp [unqErr, results, Tryz.results93, go_sem]) rfl ⟨by rw [← HRN.out]; rfl, HB.out.drew⟩
    have hT1 : 1 ≤ (T.size : Int) := by omega
    have hxT : ∀ h : 0 < T.size, ((T[0]'h).toNat : Int) = bt T 0 := bt_at T 0
    have qT := eq_true (show 0 < T.size by omega)
    obtain ⟨bT0, bT1⟩ := bt_range T 0
    by_cases h34 : bt T 0 = 34
    · have hR : some (acc, T.extract 1 T.size) = R := by have := HP.out; unfold uqLoop at this; rw [if_neg hT0, if_pos h34] at this; exact this
      have HRN := Aside0.mk hR
      have hcv := str_own wr _ _ acc HO.out
      rw [h34] at hxT bT0 bT1
      clear HO HP HZ HK hT0 hR HR HTB h34
      go_wp2
      refine bodyPost_ret (v := unqOk (strOfNums acc) (T.extract 1 T.size)) (by simp [unqOk, results, Tryz.results93, go_sem]) rfl ⟨by rw [← HRN.out]; rfl, HB.out⟩
    have n34 : (bt T 0 != 34) = true := by rw [bne_iff_ne]; exact h34
    have hu := uq_any T 34 (Or.inr rfl) t v wr hEw hT4 (Lib.decodeGo T).1 (Lib.decodeGo T).2 (decT_facts T (by omega)).2.2.2 (fun _ => Tryz.utf8_DecodeRuneInString T wr (HTB.out wr HB.out))
    by_cases h10 : bt T 0 = 10
    · have hR : none = R := by have := HP.out; unfold uqLoop at this; rw [if_neg hT0, if_neg h34, if_pos h10] at this; exact this
      have HRN := Aside0.mk hR
      have huc : ucF (decT T) 34 T = some (10, false, T.extract 1 T.size) := by
        unfold ucF
        rw [if_neg hT0, if_neg h34, if_neg (by omega), if_pos (by omega), h10]
      have hu2 : Calls Tryz.prog 26 #[.string T, .int .u8 34] wr fun e w' => e = .returned (uqVal t v (some (10, false, T.extract 1 T.size))) ∧ Below wr.heap.size wr w' := by rw [← huc]; exact hu
      have HU := Aside0.mk hu2
      rw [h10] at hxT bT0 bT1
      clear HO HP HZ HK hT0 hR HR HTB h34 n34 hu huc hu2 h10
      go_wp2_with fail
      refine HU.out.mono ?_
      rintro e w1 ⟨rfl, hb⟩
      have HB1 := Aside0.mk (HB.out.trans (hb.mono HB.out.size))
      have hE1 : w1.cell? ⟨0, 0, none⟩ = some (.iface t v) := (HB1.out.cell (p := ⟨0, 0, none⟩) HE.out.1).trans HE.out.2
      clear hb
      unfold uqVal
      go_wp2
      go_region
      go_wp2
      refine bodyPost_ret (v := unqErr s t v) (by simp [unqErr, results, Tryz.results93, go_sem]) rfl ⟨by rw [← HRN.out]; rfl, HB1.out.drew⟩
    have n10 : (bt T 0 == 10) = false := by rw [beq_eq_false_iff_ne]; exact h10
    cases huc : ucF (decT T) 34 T with
    | none =>
      have hR : none = R := by have := HP.out; unfold uqLoop at this; rw [if_neg hT0, if_neg h34, if_neg h10, huc] at this; exact this
      have HRN := Aside0.mk hR
      have hu2 : Calls Tryz.prog 26 #[.string T, .int .u8 34] wr fun e w' => e = .returned (uqVal t v none) ∧ Below wr.heap.size wr w' := by rw [← huc]; exact hu
      have HU := Aside0.mk hu2
      clear HO HP HZ HK hT0 hR HR HTB h34 hu huc hu2 h10
      go_wp2_with fail
      refine HU.out.mono ?_
      rintro e w1 ⟨rfl, hb⟩
      have HB1 := Aside0.mk (HB.out.trans (hb.mono HB.out.size))
      have hE1 : w1.cell? ⟨0, 0, none⟩ = some (.iface t v) := (HB1.out.cell (p := ⟨0, 0, none⟩) HE.out.1).trans HE.out.2
      clear hb
      unfold uqVal
      go_wp2
      go_region
      go_wp2
      refine bodyPost_ret (v := unqErr s t v) (by simp [unqErr, results, Tryz.results93, go_sem]) rfl ⟨by rw [← HRN.out]; rfl, HB1.out.drew⟩
    | some y =>
      obtain ⟨r, m, rem⟩ := y
      have hP2 : uqLoop k rem (acc ++ chunkU r m) = R := by have := HP.out; unfold uqLoop at this; rw [if_neg hT0, if_neg h34, if_neg h10, huc] at this; exact this
      have hu2 : Calls Tryz.prog 26 #[.string T, .int .u8 34] wr fun e w' => e = .returned (uqVal t v (some (r, m, rem))) ∧ Below wr.heap.size wr w' := by rw [← huc]; exact hu
      have HU := Aside0.mk hu2
      have hf := uc_facts T r m rem huc
      have HF := Aside0.mk hf
      have hr0 : 0 ≤ r := hf.1
      have hr1 : r ≤ 2147483647 := hf.2.1
      have hrem : rem.size ≤ 4096 := by have := hf.2.2.2; omega
      clear HP hT0 h34 hu huc hu2 h10
      by_cases hc : r < 128 ∨ m = false
      · have hch : chunkU r m = [r] := by unfold chunkU; rw [if_pos hc]
        rw [hch] at hP2
        have HP2 := Aside0.mk hP2
        have hr2 : r ≤ 255 := by rcases hc with hc | hc; omega; exact hf.2.2.1 hc
        clear hP2 hch hf
        have hc2 : r < 128 ∨ (128 ≤ r ∧ m = false) := by rcases hc with hc | hc; exact Or.inl hc; by_cases h : r < 128; exact Or.inl h; exact Or.inr ⟨by omega, hc⟩
        clear hc
        rcases hc2 with hc | ⟨hc, rfl⟩
        all_goals
          go_wp2_with fail
          refine HU.out.mono ?_
          rintro e w1 ⟨rfl, hb⟩
          have HB1 := Aside0.mk (HB.out.trans (hb.mono HB.out.size))
          have hown1 := pw_own_below HO.out hb
          have hz1 := HB1.out.size
          clear hb
          unfold uqVal
          have HN := Aside0.mk (show acc.length + 1 ≤ maxLen ∧ (acc.length + 1) * 1 ≤ 140737488355328 from ⟨by have := HZ.out; unfold maxLen; omega, by have := HZ.out; omega⟩)
          have hbase : ∀ o, w.heap.size ≤ (w1.alloc o).heap.size := fun o => by simp; omega
          have HBS := Aside0.mk hbase
          have HO1 := Aside0.mk hown1
          clear hbase hown1
          go_wp2_with (at_builtin; refine wpList_append_own _ rfl _ _ 22 rfl w.heap.size 5 i0 (.int .u8 0) 1 1 Tryz.underlying22 hi0 hz00 hz01 hz02 rfl (by decide) _ _ _ rfl (HO1.out.alloc _) ⟨w1.heap.size, 0, none⟩ 1 1 [.int .u8 r] rfl rfl (news1 w1 r) (news1c r) HN.out.1 HN.out.2 (HBS.out _) ?_; intro v' w2 hown2 hgrow2 _; have HO2 := Aside0.mk hown2; have HB2 := Aside0.mk (show Below w.heap.size w w2 from (below_alloc HB1.out _).grown hgrow2 (HBS.out _) (fun kk hk => (HO1.out.lt kk hk).1)); clear hown2 hgrow2)
          go_roundw
          case rel => exact ⟨rem, acc ++ [r], k, rfl, hrem, ⟨by have := HO2.out; unfold nums at this ⊢; simpa using this⟩, HB2, ⟨by have := HF.out.2.2.2; have := HK.out; omega⟩, HP2, ⟨by have := HF.out.2.2.2; have := HZ.out; simp; omega⟩⟩
          case measure => have := HF.out.2.2.2; simp; omega
      · have hch : chunkU r m = Lib.encodeRuneZ r := by unfold chunkU; rw [if_neg hc]
        rw [hch] at hP2
        have HP2 := Aside0.mk hP2
        have hr2 : 128 ≤ r := by omega
        have hm : m = true := by cases m; exact absurd (Or.inr rfl) hc; rfl
        subst hm
        clear hP2 hch hf hc
        go_wp2_with fail
        refine HU.out.mono ?_
        rintro e w1 ⟨rfl, hb⟩
        have HB1 := Aside0.mk (HB.out.trans (hb.mono HB.out.size))
        have hown1 := pw_own_below HO.out hb
        have hz1 := HB1.out.size
        have har := Tryz.utf8_AppendRune_plain w.heap.size _ acc.length (nums .u8 acc) r (by omega) (by omega) w1 hown1 (by have := HZ.out; omega) hz1
        have HAR := Aside0.mk har
        have HLT := Aside0.mk (fun kk hk => (hown1.lt kk hk).1)
        clear hb har hown1
        unfold uqVal
        go_wp2_with fail
        refine HAR.out.mono ?_
        rintro e w2 ⟨v', rfl, hown2, o, hgrow2⟩
        have HO2 := Aside0.mk hown2
        have HB2 := Aside0.mk (show Below w.heap.size w w2 from (below_alloc HB1.out o).grown hgrow2 (by simp; omega) HLT.out)
        clear hown2 hgrow2
        go_wp2
        go_roundw
        case rel => exact ⟨rem, acc ++ Lib.encodeRuneZ r, k, rfl, hrem, ⟨by have := HO2.out; rw [runeCells_nums] at this; unfold nums at this ⊢; simpa using this⟩, HB2, ⟨by have := HF.out.2.2.2; have := HK.out; omega⟩, HP2, ⟨by have := HF.out.2.2.2; have := HZ.out; have := (enc_len r).2; simp; omega⟩⟩
        case measure => have := HF.out.2.2.2; simp; omega

set_option maxRecDepth 100000 in
set_option maxHeartbeats 2000000 in
theorem unq_quick (s : ByteArray) (hs : s.size ≤ 4096) (t : TypeId) (v : Value) (w : World) (hE : ErrAt w t v) (h2 : 2 ≤ s.size) (S : ByteArray) (hS : s.extract 1 s.size = S) (i : Nat) (hi4 : i + 2 ≤ s.size) (hq : bt s 0 = 34) (hix : ixS S 34 = (i : Int)) (E : ByteArray) (hEx : s.extract 0 (i + 2) = E) (hTB : ∀ W, Below w.heap.size w W → Lib.Utf8Tabs 8 9 W) (h92 : (ixS E 92 != -1) = false) (h10 : (ixS E 10 != -1) = false) (M : ByteArray) (hM : s.extract 1 (i + 1) = M) (hV : ∀ W, Below w.heap.size w W → Calls Tryz.prog 166 #[.string M] W fun e w' => e = .returned (.bool true) ∧ Below W.heap.size W w') :
    Calls Tryz.prog 93 #[.string s, .bool true] w fun e w' => e = .returned (unqOk M (s.extract (i + 2) s.size)) ∧ Below w.heap.size w w' := by
  unfold ErrAt at hE
  have h2I : 2 ≤ (s.size : Int) := by omega
  have hx : ∀ h : 0 < s.size, ((s[0]'h).toNat : Int) = bt s 0 := bt_at s 0
  have q0 := eq_true (show 0 < s.size by omega)
  obtain ⟨b0, b1⟩ := bt_range s 0
  have hi2 : (i : Int) + 2 ≤ (s.size : Int) := by omega
  have hn2 : ((i : Int) + 2).toNat = i + 2 := by omega
  have hn1 : ((i : Int) + 1).toNat = i + 1 := by omega
  have hi := index_any S 34 (by decide) (by decide) w
  rw [hix] at hi
  have HI := Aside0.mk hi
  have HV := Aside0.mk hV
  rw [hq] at hx
  clear hi hix h2 hq hi4 hTB hV
  have hE2 : E.extract 1 (i + 1) = M := by rw [← hEx, ← hM, ByteArray.extract_extract]; congr 1; omega
  have hEz : (E.size : Int) = (i : Int) + 2 := by rw [← hEx, ByteArray.size_extract]; omega
  go_enter Tryz.func93, Tryz.ntmps93
  go_wp2_with (go_at_call 164; (with_reducible refine HI.out.mono ?_); rintro e w' ⟨rfl, rfl⟩)
  go_wp2_with (go_at_call 165; (with_reducible refine (contains_any _ _ (by decide) (by decide) _).mono ?_); rintro e w' ⟨rfl, rfl⟩)
  refine (HV.out _ (Below.refl _ _)).mono ?_
  rintro e w2 ⟨rfl, hb2⟩
  have HB2 := Aside0.mk hb2
  clear hb2
  go_wp2
  go_region
  go_wp2
  refine bodyPost_ret (v := unqOk M (s.extract (i + 2) s.size)) (by simp [unqOk, results, Tryz.results93, go_sem]) rfl ⟨rfl, ?_⟩
  exact HB2.out.drew

set_option maxRecDepth 100000 in
set_option maxHeartbeats 400000 in
theorem unq_rawcr (s : ByteArray) (hs : s.size ≤ 4096) (t : TypeId) (v : Value) (w : World) (hE : ErrAt w t v) (h2 : 2 ≤ s.size) (S : ByteArray) (hS : s.extract 1 s.size = S) (i : Nat) (hi1 : 1 ≤ i) (hi4 : i + 2 ≤ s.size) (hq : bt s 0 = 96) (hix : ixS S 96 = (i : Int)) (E : ByteArray) (hEx : s.extract 0 (i + 2) = E) (h13 : (ixS E 13 != -1) = true) :
    Calls Tryz.prog 93 #[.string s, .bool true] w fun e w' => e = .returned (unqOk (strOfNums (rawGo (((bytesOf s).drop 1).take i) [])) (s.extract (i + 2) s.size)) ∧ Below w.heap.size w w' := by
  unfold ErrAt at hE
  have h2I : 2 ≤ (s.size : Int) := by omega
  have hx : ∀ h : 0 < s.size, ((s[0]'h).toNat : Int) = bt s 0 := bt_at s 0
  have q0 := eq_true (show 0 < s.size by omega)
  obtain ⟨b0, b1⟩ := bt_range s 0
  have hi2 : (i : Int) + 2 ≤ (s.size : Int) := by omega
  have hn2 : ((i : Int) + 2).toNat = i + 2 := by omega
  have hn1 : ((i : Int) + 1).toNat = i + 1 := by omega
  have hi := index_any S 96 (by decide) (by decide) w
  rw [hix] at hi
  have HI := Aside0.mk hi
  rw [hq] at hx
  obtain ⟨R, hR⟩ : ∃ R, rawGo (((bytesOf s).drop 1).take i) [] = R := ⟨_, rfl⟩
  rw [hR]
  have HR := Aside0.mk (show rawGo ((((bytesOf s).drop 1).take i).drop 0) [] = R by rw [List.drop_zero]; exact hR)
  obtain ⟨cc, hc1⟩ : ∃ cc : Nat, i - 1 = cc := ⟨_, rfl⟩
  have hcc : (i : Int) + 2 - 1 - 1 - 1 = (cc : Int) := by omega
  have hc4 : cc ≤ 10000 := by omega
  have hbyte : (Tryz.prog.info? 5).map (fun i => (i.zero, i.size, i.bytes)) = some (some (.int .u8 0), 1, 1) := by kernel_rfl
  obtain ⟨i0, hi0, hz00, hz01, hz02⟩ := info_parts hbyte
  obtain ⟨wm, hmk, hownm, hgrowm⟩ := run_make_own (P := Tryz.prog) w w.heap.size 22 5 i0 (.int .u8 0) 1 Tryz.underlying22 hi0 hz00 hz01 .i64 .i64 cc (by rw [hz02]; omega) (by unfold maxLen; omega) (Nat.le_refl _)
  have HO := Aside0.mk hownm
  have HB := Aside0.mk (show Below w.heap.size w wm from (Below.refl _ _).grown hgrowm (Nat.le_refl _) (fun kk hk => by cases hk))
  clear hownm hgrowm
  have H4 := Aside0.mk hi4
  clear hi hix h2 hq hi4 hR hbyte hE hc1 hc4 hi1
  go_enter Tryz.func93, Tryz.ntmps93
  go_wp2_with (go_at_call 164; (with_reducible refine HI.out.mono ?_); rintro e w' ⟨rfl, rfl⟩)
  go_wp2_with (go_at_call 165; (with_reducible refine (contains_any _ _ (by decide) (by decide) _).mono ?_); rintro e w' ⟨rfl, rfl⟩)
  clear hmk hcc hx q0 hS hEx h13
  go_loopw [9, 10] (fun sB sI wr => ∃ (k : Nat) (acc : List Int), k ≤ i ∧ sI = .int .i64 ((k : Int) + 1) ∧ Aside0 (wr.ownsRow w.heap.size 5 1 sB acc.length (nums .u8 acc)) ∧ Aside0 (Below w.heap.size w wr) ∧ Aside0 (rawGo ((((bytesOf s).drop 1).take i).drop k) acc = R) ∧ Aside0 (acc.length ≤ k)) (fun _ sI _ => i + 1 - (intOf sI).toNat)
  case atStart => exact ⟨0, [], by omega, rfl, HO, HB, HR, ⟨by simp⟩⟩
  case round =>
    obtain ⟨k, acc, hk, rfl, HO, HB, HP, HZ⟩ := hrel
    by_cases hlt : k < i
    · have hltI : (k : Int) + 1 < (i : Int) + 2 - 1 := by omega
      have hP := HP.out
      rw [mid_bytes s 1 i k hlt (by have := H4.out; omega), rawGo_cons] at hP
      have hkn : ((k : Int) + 1).toNat = k + 1 := by omega
      have hk1 : (k : Int) + 1 < (s.size : Int) := by have := H4.out; omega
      obtain ⟨c, hc⟩ : ∃ c, bt s (1 + k : Nat) = c := ⟨_, rfl⟩
      have hxk : ∀ h : k + 1 < s.size, ((s[k + 1]'h).toNat : Int) = c := fun h => by
        rw [← hc, show 1 + k = k + 1 by omega]
        exact bt_at s (k + 1 : Nat) h
      have qk := eq_true (show k + 1 < s.size by have := H4.out; omega)
      rw [hc] at hP
      clear hc HP
      by_cases h13 : c = 13
      · rw [if_pos h13] at hP
        have HP := Aside0.mk hP
        rw [h13] at hxk
        clear hP h13
        go_wp2
        go_roundw
        case rel => exact ⟨k + 1, acc, by omega, by go_num, HO, HB, HP, ⟨by have := HZ.out; omega⟩⟩
        case measure => simp [intOf]; omega
      · rw [if_neg h13] at hP
        have HP := Aside0.mk hP
        have n13 : (c != 13) = true := by rw [bne_iff_ne]; exact h13
        clear hP h13
        have HN := Aside0.mk (show acc.length + 1 ≤ maxLen ∧ (acc.length + 1) * 1 ≤ 140737488355328 from ⟨by have := HZ.out; have := H4.out; unfold maxLen; omega, by have := HZ.out; have := H4.out; omega⟩)
        have hsz := HB.out.size
        have hbase : ∀ o, w.heap.size ≤ (wr.alloc o).heap.size := fun o => by simp; omega
        have HBS := Aside0.mk hbase
        clear hbase hsz
        go_wp2_with (at_builtin; refine wpList_append_own _ rfl _ _ 22 rfl w.heap.size 5 i0 (.int .u8 0) 1 1 Tryz.underlying22 hi0 hz00 hz01 hz02 rfl (by decide) _ _ _ rfl (HO.out.alloc _) ⟨wr.heap.size, 0, none⟩ 1 1 [.int .u8 c] rfl rfl (news1 wr c) (news1c c) HN.out.1 HN.out.2 (HBS.out _) ?_; intro v' w2 hown2 hgrow2 _; have HO2 := Aside0.mk hown2; have HB2 := Aside0.mk (show Below w.heap.size w w2 from (below_alloc HB.out _).grown hgrow2 (HBS.out _) (fun kk hk => (HO.out.lt kk hk).1)); clear hown2 hgrow2)
        go_roundw
        case rel => exact ⟨k + 1, acc ++ [c], by omega, by go_num, ⟨by have := HO2.out; unfold nums at this ⊢; simpa using this⟩, HB2, HP, ⟨by have := HZ.out; simp; omega⟩⟩
        case measure => simp [intOf]; omega
    · obtain rfl : k = i := by omega
      have hP := HP.out
      rw [mid_end s 1 k] at hP
      have HRN := Aside0.mk (show acc = R from hP)
      have hcv := str_own wr _ _ acc HO.out
      have hge : (k : Int) + 2 - 1 ≤ (k : Int) + 1 := by omega
      clear hP HP HR HO HZ hlt
      go_wp2
      go_region
      go_wp2
      refine bodyPost_ret (v := unqOk (strOfNums acc) (s.extract (k + 2) s.size)) (by simp [unqOk, results, Tryz.results93, go_sem]) rfl ⟨by rw [← HRN.out], HB.out.drew⟩

end Go.Proofs.YtlfmgidpdmmpkaaGreatDoor
