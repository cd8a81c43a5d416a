/- Joined of: ScanA SetS. -/
import Derived.Test.YtnhonclncjgjoaaGreatDoorScanD
import Derived.Test.YtnhonclncjgjoaaGreatDoorScanZ
import Derived.Test.YtnhonclncjgjoaaGreatDoorScanO
import Derived.Test.YtnhonclncjgjoaaGreatDoorScanE
import Derived.Test.YtnhonclncjgjoaaGreatDoorScanX
import Derived.Test.YtnhonclncjgjoaaGreatDoorScanB
namespace Go.Proofs.YtnhonclncjgjoaaGreatDoor
open Go Go.RowKit Go.Proofs.YtnhonclncjgjoaaGreatDoorW.PrintWords
set_option linter.unusedVariables false
set_option linter.unusedSimpArgs false

theorem sg_start (b : Int) (l : List Int) : sgF (sg b l 48 false 0 0) = gr b true false 0 l := by
  rw [sg_gr l 48 0 0 (Int.le_refl _)]
  rfl
theorem bytes_two (s : ByteArray) (h : 2 ≤ s.size) : bytesOf s = bt s 0 :: bt s 1 :: (bytesOf s).drop 2 := by
  have h0 := drop_bytes s 0 (by omega)
  have h1 := drop_bytes s 1 (by omega)
  rw [List.drop_zero] at h0
  exact h0.trans (congrArg (bt s 0 :: ·) h1)
theorem bytes_one (s : ByteArray) (h : s.size = 1) : bytesOf s = [bt s 0] := by
  have h0 := drop_bytes s 0 (by omega)
  have h1 := drop_bytes_end s 1 (by omega)
  rw [List.drop_zero] at h0
  exact h0.trans (congrArg (bt s 0 :: ·) h1)
theorem numF_two (c d : Int) (t : List Int) : numF (c :: d :: t) = if c = 48 then (if isB d then gr 2 true false 0 t else if isO d then gr 8 true false 0 t else if isX d then gr 16 true false 0 t else gr 8 true false 0 (d :: t)) else gr 10 false false 0 (c :: d :: t) := rfl
/-- nat.scan is the number of a literal. -/
theorem scan_all (s : ByteArray) (hs : s.size ≤ 60) (h0 : 0 < s.size) (gr' B : Nat) (a : Addr) (ti : TypeId) (vi : Value) (tn : TypeId) (vn : Value) (w : World) (hB : B ≤ w.heap.size) (hg : gr' < B) (hR : RdAt w gr' s 0) (hE : Errs w a ti vi tn vn) (hl : 1 < B ∧ 3 < B ∧ 4 < B) (hn : 1 ≠ gr' ∧ 3 ≠ gr' ∧ 4 ≠ gr') :
    Calls Tryz.prog 88 #[.slice none 0 0, .iface 113 (.pointer (some ⟨gr', 0, none⟩)), .int .i64 0, .bool false] w (ScR s gr' B w (numF (bytesOf s))) := by
  by_cases hc : bt s 0 = 48
  · by_cases h1 : s.size = 1
    · have e : numF (bytesOf s) = sgF (sg 10 ((bytesOf s).drop 1) 48 false 1 0) := by
        rw [drop_bytes_end s 1 (by omega), bytes_one s h1, hc]
        decide
      rw [e]
      exact scan_Z s hs h1 hc gr' B a ti vi tn vn w hB hg hR hE hl hn
    · have h2 : 2 ≤ s.size := by omega
      have hd2 : (bytesOf s).drop 1 = bt s 1 :: (bytesOf s).drop 2 := drop_bytes s 1 (by omega)
      have e := bytes_two s h2
      have hF : numF (bytesOf s) = if isB (bt s 1) then gr 2 true false 0 ((bytesOf s).drop 2) else if isO (bt s 1) then gr 8 true false 0 ((bytesOf s).drop 2) else if isX (bt s 1) then gr 16 true false 0 ((bytesOf s).drop 2) else gr 8 true false 0 ((bytesOf s).drop 1) := by
        conv => lhs; rw [e]
        rw [numF_two, if_pos hc, hd2]
      rw [hF]
      by_cases hb : isB (bt s 1) = true
      · rw [if_pos hb, ← sg_start]
        refine scan_B s hs h2 hc ?_ gr' B a ti vi tn vn w hB hg hR hE hl hn
        simpa [isB] using hb
      · rw [if_neg hb]
        by_cases ho : isO (bt s 1) = true
        · rw [if_pos ho, ← sg_start]
          refine scan_O s hs h2 hc ?_ gr' B a ti vi tn vn w hB hg hR hE hl hn
          simpa [isO] using ho
        · rw [if_neg ho]
          by_cases hx : isX (bt s 1) = true
          · rw [if_pos hx, ← sg_start]
            refine scan_X s hs h2 hc ?_ gr' B a ti vi tn vn w hB hg hR hE hl hn
            simpa [isX] using hx
          · rw [if_neg hx, ← sg_start]
            simp only [isB, isO, isX, Bool.or_eq_true, not_or, Bool.not_eq_true] at hb ho hx
            exact scan_E s hs h2 hc hb.1 hb.2 ho.1 ho.2 hx.1 hx.2 gr' B a ti vi tn vn w hB hg hR hE hl hn
  · have hc' : (bt s 0 == 48) = false := by rw [beq_eq_false_iff_ne]; exact hc
    have e : numF (bytesOf s) = sgF (sg 10 (bytesOf s) 46 false 0 0) := by
      rw [sg_gr _ 46 0 0 (Int.le_refl _)]
      by_cases h1 : s.size = 1
      · rw [bytes_one s h1]
        rfl
      · rw [bytes_two s (by omega), numF_two, if_neg hc]
        rfl
    rw [e]
    exact scan_D s hs h0 hc' gr' B a ti vi tn vn w hB hg hR hE hl hn
end Go.Proofs.YtnhonclncjgjoaaGreatDoor

namespace Go.Proofs.YtnhonclncjgjoaaGreatDoor
open Go Go.RowKit Go.Proofs.YtnhonclncjgjoaaGreatDoorW.PrintWords
set_option linter.unusedVariables false
set_option linter.unusedSimpArgs false

def SgR (s : ByteArray) (gr : Nat) (a : Addr) (w : World) (e : Ending) (w' : World) : Prop :=
  ∃ ev, e = .returned (.tuple #[.bool false, ev]) ∧ ((0 < s.size ∧ ev = .nilIface) ∨ (s.size = 0 ∧ ev = eofV a)) ∧ RdAt w' gr s 0 ∧ (∀ B, KeptB B gr w w') ∧ w'.heap.size = w.heap.size
set_option maxRecDepth 100000 in
set_option maxHeartbeats 400000 in
theorem scanSign_any (s : ByteArray) (hs : s.size ≤ 60) (hm : (bt s 0 == 45) = false) (hp : (bt s 0 == 43) = false) (gr : Nat) (a : Addr) (w : World) (hR : RdAt w gr s 0) (hE : w.cell? ⟨1, 0, none⟩ = some (eofV a)) (hn : 1 ≠ gr) :
    Calls Tryz.prog 90 #[.iface 113 (.pointer (some ⟨gr, 0, none⟩))] w (SgR s gr a w) := by
  have hmR : ∀ w, (method 444 113 (.pointer (some ⟨gr, 0, none⟩)) "ReadByte").run Tryz.prog w = .ok (89, .pointer (some ⟨gr, 0, none⟩)) w := fun _ => by kernel_rfl
  have hmU : ∀ w, (method 444 113 (.pointer (some ⟨gr, 0, none⟩)) "UnreadByte").run Tryz.prog w = .ok (327, .pointer (some ⟨gr, 0, none⟩)) w := fun _ => by kernel_rfl
  by_cases h0 : 0 < s.size
  · have H1 := Aside0.mk (readByte_some gr 0 s (by omega) h0 w hR)
    rw [show bt s ((0 : Nat) : Int) = bt s 0 from rfl] at H1
    have HU := Aside0.mk (fun W (h : RdAt W gr s 1) => unreadByte gr 0 1 s (by omega) rfl h0 W h)
    obtain ⟨c, hc⟩ : ∃ c, bt s 0 = c := ⟨_, rfl⟩
    rw [hc] at hm hp H1
    have H0 := Aside0.mk h0
    clear hc hR hE hn h0
    go_enter Tryz.func90, Tryz.ntmps90
    go_wp2_with fail
    refine H1.out.mono ?_
    rintro e w1 ⟨rfl, hrd⟩
    have HD := Aside0.mk hrd
    clear hrd
    go_wp2_with fail
    refine (HU.out _ HD.out.at').mono ?_
    rintro e w2 ⟨rfl, hrd⟩
    have HD2 := Aside0.mk hrd
    clear hrd
    go_wp2
    go_ret2
    exact ⟨_, rfl, .inl ⟨H0.out, rfl⟩, HD2.out.at', fun B => (HD.out.kept B).trans (HD2.out.kept B), HD2.out.size.trans HD.out.size⟩
  · have H1 := Aside0.mk (readByte_eof gr 0 s (by omega) (by omega) a w hR hE hn)
    have H0 := Aside0.mk (show s.size = 0 by omega)
    clear hR hE hn h0 hm hp
    go_enter Tryz.func90, Tryz.ntmps90
    go_wp2_with fail
    refine H1.out.mono ?_
    rintro e w1 ⟨rfl, hrd⟩
    have HD := Aside0.mk hrd
    clear hrd
    go_wp2
    go_ret2
    exact ⟨_, rfl, .inr ⟨H0.out, rfl⟩, HD.out.at', HD.out.kept, HD.out.size⟩
/-- Two blocks apart, below a bound what was there stands. -/
structure KeptB2 (B g x : Nat) (w w' : World) : Prop where
  os : w'.os = w.os
  tape : w'.tape = w.tape
  output : w'.output = w.output
  size : w.heap.size ≤ w'.heap.size
  block : ∀ k, k < B → k ≠ g → k ≠ x → w'.heap[k]? = w.heap[k]?
theorem KeptB.two {B g : Nat} {w w' : World} (h : KeptB B g w w') (x : Nat) : KeptB2 B g x w w' := ⟨h.os, h.tape, h.output, h.size, fun k hk hg _ => h.block k hk hg⟩
theorem KeptB.two' {B x : Nat} {w w' : World} (h : KeptB B x w w') (g : Nat) : KeptB2 B g x w w' := ⟨h.os, h.tape, h.output, h.size, fun k hk _ hx => h.block k hk hx⟩
theorem KeptB2.trans {B g x : Nat} {w w1 w' : World} (h : KeptB2 B g x w w1) (k : KeptB2 B g x w1 w') : KeptB2 B g x w w' :=
  ⟨k.os.trans h.os, k.tape.trans h.tape, k.output.trans h.output, Nat.le_trans h.size k.size, fun j hj hg hx => (k.block j hj hg hx).trans (h.block j hj hg hx)⟩
/-- An Int in memory. -/
structure ZAt (W : World) (b : Nat) (neg : Bool) (v : Value) : Prop where
  c0 : W.cell? ⟨b, 0, none⟩ = some (.bool neg)
  c1 : W.cell? ⟨b, 1, none⟩ = some v
  z0 : W.frozen? ⟨b, 0, none⟩ = false
  z1 : W.frozen? ⟨b, 1, none⟩ = false
theorem ZAt.kept {W W' : World} {b B g : Nat} {neg : Bool} {v : Value} (h : ZAt W b neg v) (hk : KeptB B g W W') (hb : b < B) (hg : b ≠ g) : ZAt W' b neg v :=
  ⟨(hk.cell hb hg).trans h.c0, (hk.cell hb hg).trans h.c1, (hk.frozen hb hg).trans h.z0, (hk.frozen hb hg).trans h.z1⟩
def IsR (s : ByteArray) (gr gz B : Nat) (w : World) (e : Ending) (w' : World) : Prop :=
  ∃ zp bb ev, e = .returned (.tuple #[.pointer zp, .int .i64 bb, ev]) ∧ KeptB2 B gr gz w w' ∧ ∃ k, k ≤ s.size ∧ RdAt w' gr s k ∧
    ((numF (bytesOf s) = none ∧ ∃ t v, ev = .iface t v) ∨ (numF (bytesOf s) = none ∧ ev = .nilIface ∧ k < s.size) ∨ (ev = .nilIface ∧ k = s.size ∧ zp = some ⟨gz, 0, none⟩ ∧ ∃ x v, numF (bytesOf s) = some x ∧ NatAt w' B v 100 x ∧ ZAt w' gz false v))
theorem numF_empty (s : ByteArray) (h : s.size = 0) : numF (bytesOf s) = none := by
  have h1 := drop_bytes_end s 0 (by omega)
  rw [List.drop_zero] at h1
  rw [h1]
  rfl
theorem RdAt.set {W : World} {b k g i : Nat} {s : ByteArray} {v : Value} (h : RdAt W b s k) (hne : b ≠ g) : RdAt (W.setCell ⟨g, i, none⟩ v) b s k := by
  have e : ∀ j, (W.setCell ⟨g, i, none⟩ v).cell? ⟨b, j, none⟩ = W.cell? ⟨b, j, none⟩ := fun j => World.cell?_setCell_other _ _ _ _ (by intro he; injection he; omega)
  exact ⟨(e 0).trans h.c0, (e 1).trans h.c1, by rw [e 2]; exact h.c2, by simp [h.z0], by simp [h.z1], by simp [h.z2]⟩
theorem NatAt.set {W : World} {B g i : Nat} {v u : Value} {L : Nat} {x : Int} (h : NatAt W B v L x) (hg : g < B) : NatAt (W.setCell ⟨g, i, none⟩ u) B v L x :=
  h.same fun k hk => Below.heap_setCell _ _ _ _ (by simp only []; omega)
theorem ZAt.put {W : World} {b : Nat} {neg : Bool} {v : Value} (h : ZAt W b neg v) (n2 : Bool) (v2 : Value) : ZAt ((W.setCell ⟨b, 1, none⟩ v2).setCell ⟨b, 0, none⟩ (.bool n2)) b n2 v2 := by
  have o : ∀ (i j : Nat), i ≠ j → (⟨b, i, none⟩ : Addr) ≠ ⟨b, j, none⟩ := fun i j hij he => hij (by injection he)
  refine ⟨World.cell?_setCell_same _ _ _ (u := .bool neg) (by rw [World.cell?_setCell_other _ _ _ _ (o 1 0 (by decide))]; exact h.c0), ?_, by simp [h.z0], by simp [h.z1]⟩
  rw [World.cell?_setCell_other _ _ _ _ (o 0 1 (by decide))]
  exact World.cell?_setCell_same _ _ _ h.c1
set_option maxRecDepth 100000 in
set_option maxHeartbeats 1000000 in
theorem intScan (s : ByteArray) (hs : s.size ≤ 60) (hm : (bt s 0 == 45) = false) (hp : (bt s 0 == 43) = false) (gr gz B : Nat) (a : Addr) (ti : TypeId) (vi : Value) (tn : TypeId) (vn : Value) (w : World) (hB : B ≤ w.heap.size) (hg : gr < B) (hz : gz < B) (hne : gz ≠ gr) (hR : RdAt w gr s 0) (hZ : ZAt w gz false (.slice none 0 0)) (hE : Errs w a ti vi tn vn) (hl : 1 < B ∧ 3 < B ∧ 4 < B) (hn : 1 ≠ gr ∧ 3 ≠ gr ∧ 4 ≠ gr) :
    Calls Tryz.prog 82 #[.pointer (some ⟨gz, 0, none⟩), .iface 113 (.pointer (some ⟨gr, 0, none⟩)), .int .i64 0] w (IsR s gr gz B w) := by
  have HS := Aside0.mk (scanSign_any s hs hm hp gr a w hR hE.eof hn.1)
  have HB := Aside0.mk (And.intro hB (And.intro hg (And.intro hz (And.intro hne (And.intro hZ (And.intro hE (And.intro hl (And.intro hn hs))))))))
  have g0 := hZ.c0
  have g1 := hZ.c1
  clear hB hg hz hne hR hZ hE hl hn hs hm hp
  go_enter Tryz.func82, Tryz.ntmps82
  go_wp2_with fail
  refine HS.out.mono ?_
  rintro e w1 ⟨ev, rfl, hev, hrd, hkp, hsz⟩
  have HK := Aside0.mk (And.intro hrd (And.intro hkp hsz))
  clear hrd hkp hsz g0 g1
  rcases hev with ⟨h0, rfl⟩ | ⟨h0, rfl⟩
  · have HC := Aside0.mk (scan_all s HB.out.2.2.2.2.2.2.2.2 h0 gr B a ti vi tn vn w1 (by rw [HK.out.2.2]; exact HB.out.1) HB.out.2.1 HK.out.1 (base_of HB.out.2.2.2.2.2.1 (HK.out.2.1 B) HB.out.2.2.2.2.2.2.1 HB.out.2.2.2.2.2.2.2.1) HB.out.2.2.2.2.2.2.1 HB.out.2.2.2.2.2.2.2.1)
    have hz1 := HB.out.2.2.2.2.1.kept (HK.out.2.1 B) HB.out.2.2.1 HB.out.2.2.2.1
    have g1 := hz1.c1
    have HZ1 := Aside0.mk hz1
    clear hz1 h0
    go_wp2_with fail
    refine HC.out.mono ?_
    rintro e w2 ⟨A, n, c, bb, cc, ev, rfl, hk2, k, hk, hrd, hres⟩
    have hz2 := HZ1.out.kept hk2 HB.out.2.2.1 HB.out.2.2.2.1
    have g0 := hz2.c0
    have g1 := hz2.c1
    have z0 := hz2.z0
    have z1 := hz2.z1
    have HZ2 := Aside0.mk hz2
    have HK2 := Aside0.mk (And.intro hk2 (And.intro hk hrd))
    clear hz2 hk2 hk hrd
    have hput : KeptB2 B gr gz w (w2.setCell ⟨gz, 1, none⟩ (.slice A n c)) := ((HK.out.2.1 B).two gz).trans ((HK2.out.1.two gz).trans (((KeptB.refl B gz w2).set gz 1 _ (.inl rfl)).two' gr))
    have HPut := Aside0.mk hput
    have HRd := Aside0.mk (show RdAt (w2.setCell ⟨gz, 1, none⟩ (.slice A n c)) gr s k from HK2.out.2.2.set (Ne.symm HB.out.2.2.2.1))
    have HPut2 := Aside0.mk (show KeptB2 B gr gz w ((w2.setCell ⟨gz, 1, none⟩ (.slice A n c)).setCell ⟨gz, 0, none⟩ (.bool false)) from hput.trans (((KeptB.refl B gz _).set gz 0 _ (.inl rfl)).two' gr))
    have HRd2 := Aside0.mk (show RdAt ((w2.setCell ⟨gz, 1, none⟩ (.slice A n c)).setCell ⟨gz, 0, none⟩ (.bool false)) gr s k from (HK2.out.2.2.set (Ne.symm HB.out.2.2.2.1)).set (Ne.symm HB.out.2.2.2.1))
    clear hput
    rcases hres with ⟨hF, t, v, rfl⟩ | ⟨hF, rfl, hlt⟩ | ⟨rfl, hks, x, hF, hN⟩
    · have HF := Aside0.mk hF
      clear hF
      go_wp2
      refine bodyPost_ret (v := .tuple #[.pointer none, .int .i64 bb, .iface t v]) (by simp [results, Tryz.results82, go_sem]) rfl ?_
      exact ⟨none, bb, _, rfl, HPut.out, k, HK2.out.2.1, HRd.out, .inl ⟨HF.out, t, v, rfl⟩⟩
    · have HF := Aside0.mk (And.intro hF hlt)
      clear hF hlt
      by_cases hn0 : n = 0
      · subst hn0
        go_wp2
        refine bodyPost_ret (v := .tuple #[.pointer (some ⟨gz, 0, none⟩), .int .i64 bb, .nilIface]) (by simp [results, Tryz.results82, go_sem]) rfl ?_
        exact ⟨_, bb, _, rfl, HPut2.out, k, HK2.out.2.1, HRd2.out, .inr (.inl ⟨HF.out.1, rfl, HF.out.2⟩)⟩
      · have hn1 : (0 : Int) < (n : Int) := by omega
        clear hn0
        go_wp2
        refine bodyPost_ret (v := .tuple #[.pointer (some ⟨gz, 0, none⟩), .int .i64 bb, .nilIface]) (by simp [results, Tryz.results82, go_sem]) rfl ?_
        exact ⟨_, bb, _, rfl, HPut2.out, k, HK2.out.2.1, HRd2.out, .inr (.inl ⟨HF.out.1, rfl, HF.out.2⟩)⟩
    · have HF := Aside0.mk (And.intro hks (And.intro hF (show NatAt ((w2.setCell ⟨gz, 1, none⟩ (.slice A n c)).setCell ⟨gz, 0, none⟩ (.bool false)) B (.slice A n c) 100 x from (hN.set HB.out.2.2.1).set HB.out.2.2.1)))
      clear hF hks hN
      by_cases hn0 : n = 0
      · subst hn0
        go_wp2
        refine bodyPost_ret (v := .tuple #[.pointer (some ⟨gz, 0, none⟩), .int .i64 bb, .nilIface]) (by simp [results, Tryz.results82, go_sem]) rfl ?_
        exact ⟨_, bb, _, rfl, HPut2.out, k, HK2.out.2.1, HRd2.out, .inr (.inr ⟨rfl, HF.out.1, rfl, x, _, HF.out.2.1, HF.out.2.2, HZ2.out.put false _⟩)⟩
      · have hn1 : (0 : Int) < (n : Int) := by omega
        clear hn0
        go_wp2
        refine bodyPost_ret (v := .tuple #[.pointer (some ⟨gz, 0, none⟩), .int .i64 bb, .nilIface]) (by simp [results, Tryz.results82, go_sem]) rfl ?_
        exact ⟨_, bb, _, rfl, HPut2.out, k, HK2.out.2.1, HRd2.out, .inr (.inr ⟨rfl, HF.out.1, rfl, x, _, HF.out.2.1, HF.out.2.2, HZ2.out.put false _⟩)⟩
  · have H0 := Aside0.mk h0
    clear h0
    go_wp2
    refine bodyPost_ret (v := .tuple #[.pointer none, .int .i64 0, eofV a]) (by simp [results, Tryz.results82, go_sem]) rfl ?_
    exact ⟨none, 0, _, rfl, (HK.out.2.1 B).two gz, 0, Nat.zero_le _, HK.out.1, .inl ⟨numF_empty s H0.out, _, _, rfl⟩⟩
theorem nil_neq (a : Addr) (W : World) : (binOp .neq 64 .nilIface (eofV a)).run Tryz.prog W = .ok (.bool true) W := by
  obtain ⟨d, hd⟩ : ∃ d, Op.maxDepth = d + 2 := ⟨Op.maxDepth - 2, by decide⟩
  simp [binOp, Op.equal, hd, Op.equalIn, run_underlying Tryz.underlying64, go_sem]
theorem KeptB2.cell {B g x : Nat} {w w' : World} (h : KeptB2 B g x w w') {k i : Nat} (hk : k < B) (hg : k ≠ g) (hx : k ≠ x) : w'.cell? ⟨k, i, none⟩ = w.cell? ⟨k, i, none⟩ := World.cell?_of_block (w := w) (h.block k hk hg hx)
def SfR (s : ByteArray) (gr gz B : Nat) (w : World) (e : Ending) (w' : World) : Prop :=
  ∃ zp ok, e = .returned (.tuple #[.pointer zp, .bool ok]) ∧ KeptB2 B gr gz w w' ∧
    ((numF (bytesOf s) = none ∧ ok = false) ∨ (ok = true ∧ zp = some ⟨gz, 0, none⟩ ∧ ∃ x v, numF (bytesOf s) = some x ∧ NatAt w' B v 100 x ∧ ZAt w' gz false v))
theorem ZAt.same {W W' : World} {b : Nat} {neg : Bool} {v : Value} (h : ZAt W b neg v) (hw : W'.heap[b]? = W.heap[b]?) : ZAt W' b neg v :=
  have e : ∀ i, W'.cell? ⟨b, i, none⟩ = W.cell? ⟨b, i, none⟩ := fun i => World.cell?_of_block (w := W) hw
  have f : ∀ i, W'.frozen? ⟨b, i, none⟩ = W.frozen? ⟨b, i, none⟩ := fun i => World.frozen?_of_block (w := W) hw
  ⟨(e 0).trans h.c0, (e 1).trans h.c1, (f 0).trans h.z0, (f 1).trans h.z1⟩
set_option maxRecDepth 100000 in
set_option maxHeartbeats 1000000 in
theorem setFrom (s : ByteArray) (hs : s.size ≤ 60) (hm : (bt s 0 == 45) = false) (hp : (bt s 0 == 43) = false) (gr gz B : Nat) (a : Addr) (ti : TypeId) (vi : Value) (tn : TypeId) (vn : Value) (w : World) (hB : B ≤ w.heap.size) (hg : gr < B) (hz : gz < B) (hne : gz ≠ gr) (hR : RdAt w gr s 0) (hZ : ZAt w gz false (.slice none 0 0)) (hE : Errs w a ti vi tn vn) (hl : 1 < B ∧ 3 < B ∧ 4 < B) (hn : 1 ≠ gr ∧ 3 ≠ gr ∧ 4 ≠ gr) (hnz : 1 ≠ gz) :
    Calls Tryz.prog 50 #[.pointer (some ⟨gz, 0, none⟩), .iface 113 (.pointer (some ⟨gr, 0, none⟩)), .int .i64 0] w (SfR s gr gz B w) := by
  have hmR : ∀ w, (method 444 113 (.pointer (some ⟨gr, 0, none⟩)) "ReadByte").run Tryz.prog w = .ok (89, .pointer (some ⟨gr, 0, none⟩)) w := fun _ => by kernel_rfl
  have hq : ∀ W, (binOp .neq 64 (eofV a) (eofV a)).run Tryz.prog W = .ok (.bool false) W := eof_neq a
  have hq2 : ∀ W, (binOp .neq 64 .nilIface (eofV a)).run Tryz.prog W = .ok (.bool true) W := nil_neq a
  have HS := Aside0.mk (intScan s hs hm hp gr gz B a ti vi tn vn w hB hg hz hne hR hZ hE hl hn)
  have HB := Aside0.mk (And.intro hE.eof (And.intro hl.1 (And.intro hn.1 (And.intro hnz (And.intro hs (And.intro hg (And.intro hz hne)))))))
  clear hB hg hz hne hR hZ hE hl hn hs hm hp hnz
  go_enter Tryz.func50, Tryz.ntmps50
  go_wp2_with fail
  refine HS.out.mono ?_
  rintro e w1 ⟨zp, bb, ev, rfl, hk2, k, hk, hrd, hres⟩
  have gE : w1.cell? ⟨1, 0, none⟩ = some (eofV a) := (hk2.cell HB.out.2.1 HB.out.2.2.1 HB.out.2.2.2.1).trans HB.out.1
  have HK := Aside0.mk (And.intro hk2 (And.intro hk hrd))
  have HR1 := Aside0.mk (fun (h : k < s.size) => readByte_some gr k s (by have := HB.out.2.2.2.2.1; omega) h w1 hrd)
  have HR2 := Aside0.mk (fun (h : k = s.size) => readByte_eof gr k s (by have := HB.out.2.2.2.2.1; omega) h a w1 hrd gE HB.out.2.2.1)
  have HGE := Aside0.mk gE
  clear hk2 hk hrd gE
  rcases hres with ⟨hF, t, v, rfl⟩ | ⟨hF, rfl, hlt⟩ | ⟨rfl, hks, rfl, x, v, hF, hN, hZ⟩
  · have HF := Aside0.mk hF
    clear hF
    go_wp2
    go_ret2
    exact ⟨none, false, rfl, HK.out.1, .inl ⟨HF.out, rfl⟩⟩
  · have HF := Aside0.mk hF
    have HT := Aside0.mk hlt
    clear hF hlt
    go_wp2_with fail
    refine (HR1.out HT.out).mono ?_
    rintro e w2 ⟨rfl, hrd⟩
    have gE : w2.cell? ⟨1, 0, none⟩ = some (eofV a) := ((hrd.kept (1 + 1)).cell (Nat.lt_succ_self _) HB.out.2.2.1).trans HGE.out
    have HD := Aside0.mk hrd
    clear hrd
    go_wp2
    go_ret2
    exact ⟨none, false, rfl, HK.out.1.trans ((HD.out.kept B).two gz), .inl ⟨HF.out, rfl⟩⟩
  · have HF := Aside0.mk (And.intro hF (And.intro hN hZ))
    have HT := Aside0.mk hks
    clear hF hks hN hZ
    go_wp2_with fail
    refine (HR2.out HT.out).mono ?_
    rintro e w2 ⟨rfl, hrd⟩
    have gE : w2.cell? ⟨1, 0, none⟩ = some (eofV a) := ((hrd.kept (1 + 1)).cell (Nat.lt_succ_self _) HB.out.2.2.1).trans HGE.out
    have HD := Aside0.mk hrd
    clear hrd
    go_wp2
    go_ret2
    exact ⟨_, true, rfl, HK.out.1.trans ((HD.out.kept B).two gz), .inr ⟨rfl, rfl, x, v, HF.out.1, Rst.nat ⟨HD.out.kept, HD.out.size⟩ HF.out.2.1 HB.out.2.2.2.2.2.1, HF.out.2.2.same ((HD.out.kept B).block gz HB.out.2.2.2.2.2.2.1 HB.out.2.2.2.2.2.2.2)⟩⟩
/-- What SetString leaves. -/
def SsR (s : ByteArray) (gz : Nat) (w : World) (e : Ending) (w' : World) : Prop :=
  ∃ zp ok, e = .returned (.tuple #[.pointer zp, .bool ok]) ∧ KeptB w.heap.size gz w w' ∧
    ((numF (bytesOf s) = none ∧ ok = false) ∨ (ok = true ∧ zp = some ⟨gz, 0, none⟩ ∧ ∃ x v, numF (bytesOf s) = some x ∧ NatAt w' (w.heap.size + 1) v 100 x ∧ ZAt w' gz false v))
set_option maxRecDepth 100000 in
set_option maxHeartbeats 1000000 in
theorem setString (s : ByteArray) (hs : s.size ≤ 60) (hm : (bt s 0 == 45) = false) (hp : (bt s 0 == 43) = false) (gz : Nat) (a : Addr) (ti : TypeId) (vi : Value) (tn : TypeId) (vn : Value) (w : World) (hz : gz < w.heap.size) (hZ : ZAt w gz false (.slice none 0 0)) (hE : Errs w a ti vi tn vn) (hnz : 1 ≠ gz) :
    Calls Tryz.prog 28 #[.pointer (some ⟨gz, 0, none⟩), .string s, .int .i64 0] w (SsR s gz w) := by
  have hlow := hE.low
  have hst : ∀ k, k < w.heap.size → (rdW w s).heap[k]? = w.heap[k]? := fun k hk => Below.heap_alloc w _ k hk
  have hk : KeptB w.heap.size w.heap.size w (rdW w s) := ⟨rfl, rfl, rfl, by simp, fun k hk _ => hst k hk⟩
  have hsz : (rdW w s).heap.size = w.heap.size + 1 := by simp
  have HS := Aside0.mk (setFrom s hs hm hp w.heap.size gz (w.heap.size + 1) a ti vi tn vn (rdW w s) (by rw [hsz]; exact Nat.le_refl _) (Nat.lt_succ_self _) (Nat.lt_succ_of_lt hz) (Nat.ne_of_lt hz) (rdW_at w s) (hZ.same (hst gz hz)) (hE.kept hk (fun _ => trivial) hlow ⟨Nat.ne_of_lt hlow.1, Nat.ne_of_lt hlow.2.1, Nat.ne_of_lt hlow.2.2⟩) ⟨Nat.lt_succ_of_lt hlow.1, Nat.lt_succ_of_lt hlow.2.1, Nat.lt_succ_of_lt hlow.2.2⟩ ⟨Nat.ne_of_lt hlow.1, Nat.ne_of_lt hlow.2.1, Nat.ne_of_lt hlow.2.2⟩ hnz)
  have HK := Aside0.mk (And.intro hst hz)
  clear hs hm hp hz hZ hE hnz hlow hst hk hsz
  go_enter Tryz.func28, Tryz.ntmps28
  go_wp2_with (go_at_call 51; refine (newReader s _).mono ?_; rintro e w' ⟨rfl, rfl⟩)
  refine HS.out.mono ?_
  rintro e w1 ⟨zp, ok, rfl, hk2, hres⟩
  have HR := Aside0.mk (And.intro hk2 hres)
  clear hk2 hres
  go_wp2
  go_ret2
  obtain ⟨hk2, hres⟩ := HR.out
  exact ⟨zp, ok, rfl, ⟨hk2.os, hk2.tape, hk2.output, Nat.le_trans (by simp) hk2.size, fun k hk hx => (hk2.block k (Nat.lt_succ_of_lt hk) (Nat.ne_of_lt hk) hx).trans (HK.out.1 k hk)⟩, hres⟩
end Go.Proofs.YtnhonclncjgjoaaGreatDoor
