/- Joined of: NumL MulR Read Pow ScanW. -/
import Derived.Test.YtnhonclncjgjoaaGreatDoorPu
import Derived.Test.YtnhonclncjgjoaaGreatDoorB
import Derived.Test.YtnhonclncjgjoaaGreatDoorSpec
import Derived.Deep.RegionWith
import Derived.LaidEql
import Derived.Deep.QuietTactic
import Derived.BigQuiet
import Derived.Test.YtnhonclncjgjoaaGreatDoorPs0
import Derived.Test.YtnhonclncjgjoaaGreatDoorPs1
import Derived.Test.YtnhonclncjgjoaaGreatDoorPs2
import Derived.Test.YtnhonclncjgjoaaGreatDoorPs3
import Derived.Deep.DeepCutAuto
import Derived.Deep.CutBlock
namespace Go.Proofs.YtnhonclncjgjoaaGreatDoor
open Go Go.RowKit Go.Proofs.YtnhonclncjgjoaaGreatDoorW.PrintWords
set_option linter.unusedVariables false
set_option linter.unusedSimpArgs false

/-- Figures of a base behind each other: 'al' says whether an underscore may come, 'en' whether the text may end here. -/
def gr (b : Int) : Bool → Bool → Int → List Int → Option Int
  | _, en, n, [] => if en then some n else none
  | al, _, n, c :: t => if c = 95 then (if al then gr b false false n t else none) else if dig36 c < b then gr b true true (n * b + dig36 c) t else none
def isB (c : Int) : Bool := c == 98 || c == 66
def isO (c : Int) : Bool := c == 111 || c == 79
def isX (c : Int) : Bool := c == 120 || c == 88
/-- The number of a literal of an integer. -/
def numF : List Int → Option Int
  | [] => none
  | [c] => gr 10 false false 0 [c]
  | c :: d :: t => if c = 48 then (if isB d then gr 2 true false 0 t else if isO d then gr 8 true false 0 t else if isX d then gr 16 true false 0 t else gr 8 true false 0 (d :: t)) else gr 10 false false 0 (c :: d :: t)

theorem pu_true {b cut : Int} : ∀ (l : List Int) (n m : Int) (u : Bool), puGo b cut l n true = .ok m u → u = true
  | [], n, m, u, h => by simp only [puGo] at h; injection h with _ h; exact h.symm
  | c :: t, n, m, u, h => by
    simp only [puGo] at h
    split at h
    · exact pu_true t _ _ _ h
    · split at h
      · cases h
      · split at h
        · cases h
        · split at h
          · cases h
          · exact pu_true t _ _ _ h
theorem ustep_dig {hex : Bool} {b saw c : Int} (h9 : c ≠ 95) (hb : b ≤ 10 ∨ hex = true ∧ b ≤ 16) (h : ¬ b ≤ dig36 c) : uStep hex saw c = some 48 := by
  unfold uStep
  unfold dig36 at h
  by_cases h1 : 48 ≤ c ∧ c ≤ 57
  · rw [if_pos h1]
  · rw [if_neg h1] at h ⊢
    by_cases h2 : 97 ≤ lowI c ∧ lowI c ≤ 122
    · rw [if_pos h2] at h
      rcases hb with hb | ⟨rfl, hb⟩
      · omega
      · rw [if_pos ⟨rfl, h2.1, by omega⟩]
    · rw [if_neg h2] at h
      omega
/-- What ParseUint takes is the number of a literal. -/
theorem pu_gr {b cut : Int} {hex : Bool} (hb : b ≤ 10 ∨ hex = true ∧ b ≤ 16) : ∀ (l : List Int) (n m saw : Int) (u v en : Bool), puGo b cut l n u = .ok m v → (v = false ∨ uGo hex saw l = true) → (saw = 95 ∧ v = true ∨ en = true ∨ l ≠ []) → gr b (saw == 48) en n l = some m
  | [], n, m, saw, u, v, en, h, hu, he => by
    simp only [puGo] at h
    injection h with h1 h2
    subst h1 h2
    simp only [uGo] at hu
    simp only [gr]
    have : en = true := by
      rcases he with ⟨rfl, rfl⟩ | h | h
      · rcases hu with hu | hu
        · cases hu
        · exact absurd hu (by decide)
      · exact h
      · exact absurd rfl h
    rw [if_pos this]
  | c :: t, n, m, saw, u, v, en, h, hu, he => by
    simp only [puGo] at h
    simp only [gr]
    by_cases hc : c = 95
    · rw [if_pos hc] at h ⊢
      have hv := pu_true _ _ _ _ h
      subst hv
      have hu := hu.resolve_left (by decide)
      simp only [uGo, uStep] at hu
      subst hc
      rw [if_neg (by decide), if_neg (by have : lowI 95 = 127 := by decide
                                         omega), if_pos rfl] at hu
      by_cases hs : saw = 48
      · rw [if_pos hs] at hu
        have := pu_gr hb t n m 95 true true false h (.inr hu) (.inl ⟨rfl, rfl⟩)
        rw [show (saw == 48) = true from by simp [hs], if_pos rfl]
        exact this
      · rw [if_neg hs] at hu
        cases hu
    · rw [if_neg hc] at h ⊢
      split at h
      · cases h
      · next hd =>
        split at h
        · cases h
        · split at h
          · cases h
          · rw [if_pos (by omega)]
            refine pu_gr hb t _ m 48 u v true h ?_ (.inr (.inl rfl))
            rcases hu with hu | hu
            · exact .inl hu
            · simp only [uGo, ustep_dig hc hb hd] at hu
              exact .inr hu
/-- What nat.scan's loop keeps: the sign before, whether an underscore stood wrong, how many figures, the number; none where a byte is left. -/
def sg (b : Int) : List Int → Int → Bool → Int → Int → Option (Int × Bool × Int × Int)
  | [], prev, inv, cnt, n => some (prev, inv, cnt, n)
  | c :: t, prev, inv, cnt, n => if c = 95 then sg b t 95 (inv || prev != 48) cnt n else if dig36 c < b then sg b t 48 inv (cnt + 1) (n * b + dig36 c) else none
/-- What is read of that. -/
def sgF : Option (Int × Bool × Int × Int) → Option Int
  | none => none
  | some (prev, inv, cnt, n) => if inv || prev == 95 || cnt == 0 then none else some n
theorem sg_inv {b : Int} : ∀ (l : List Int) (prev cnt n : Int), sgF (sg b l prev true cnt n) = none
  | [], _, _, _ => rfl
  | c :: t, prev, cnt, n => by
    simp only [sg]
    split
    · exact sg_inv t _ _ _
    · split
      · exact sg_inv t _ _ _
      · rfl
theorem sg_gr {b : Int} : ∀ (l : List Int) (prev cnt n : Int), 0 ≤ cnt → sgF (sg b l prev false cnt n) = gr b (prev == 48) (prev != 95 && cnt != 0) n l
  | [], prev, cnt, n, _ => by
    simp only [sg, sgF, gr, Bool.false_or]
    cases h1 : prev == 95 <;> cases h2 : cnt == 0 <;> simp [h1, h2, bne]
  | c :: t, prev, cnt, n, h0 => by
    simp only [sg, gr]
    split
    · cases h : prev == 48
      · simp only [bne, h, Bool.not_false, Bool.or_true]
        rw [sg_inv]; rfl
      · simp only [bne, h, Bool.not_true, Bool.or_false]
        rw [sg_gr t 95 cnt n h0]
        rfl
    · split
      · rw [sg_gr t 48 (cnt + 1) _ (by omega)]
        rw [show ((48 : Int) == 48) = true from rfl, show ((48 : Int) != 95) = true from rfl, show (cnt + 1 != 0) = true from by simp [bne]; omega]
        rfl
      · rfl
end Go.Proofs.YtnhonclncjgjoaaGreatDoor

namespace Go.Proofs.YtnhonclncjgjoaaGreatDoor
open Go Go.RowKit Go.Proofs.YtnhonclncjgjoaaGreatDoorW.PrintWords
set_option linter.unusedVariables false
set_option linter.unusedSimpArgs false

/-- The two words of a product and a summand, of integers. -/
def mulLI (x y c : Int) : Int := (x * y + c) % 18446744073709551616
def mulHI (x y c : Int) : Int := (x * y + c) / 18446744073709551616
theorem www (x y c : Int) (hx0 : 0 ≤ x) (hx : x < 18446744073709551616) (hy0 : 0 ≤ y) (hy : y < 18446744073709551616) (hc0 : 0 ≤ c) (hc : c < 18446744073709551616) (w : World) :
    Calls Tryz.prog 250 #[.int .u64 x, .int .u64 y, .int .u64 c] w fun e w' => e = .returned (.tuple #[.int .u64 (mulHI x y c), .int .u64 (mulLI x y c)]) ∧ w = w' := by
  obtain ⟨x, rfl⟩ := Int.eq_ofNat_of_zero_le hx0
  obtain ⟨y, rfl⟩ := Int.eq_ofNat_of_zero_le hy0
  obtain ⟨c, rfl⟩ := Int.eq_ofNat_of_zero_le hc0
  have h := mulAddWWW x y c (by omega) (by omega) (by omega) w
  have e1 : mulHI x y c = (mulH x y c : Nat) := by unfold mulHI mulH; omega
  have e2 : mulLI x y c = (mulL x y c : Nat) := by unfold mulLI mulL; omega
  rw [e1, e2]
  exact h
theorem mul_words_int (x y c : Int) (hx0 : 0 ≤ x) (hx : x < 18446744073709551616) (hy0 : 0 ≤ y) (hy : y < 18446744073709551616) (hc0 : 0 ≤ c) (hc : c < 18446744073709551616) :
    0 ≤ mulHI x y c ∧ mulHI x y c < 18446744073709551616 ∧ 0 ≤ mulLI x y c ∧ mulLI x y c < 18446744073709551616 ∧ mulLI x y c + 18446744073709551616 * mulHI x y c = x * y + c := by
  have h : x * y ≤ 18446744073709551615 * 18446744073709551615 := Int.mul_le_mul (by omega) (by omega) hy0 (by omega)
  have h0 : 0 ≤ x * y := Int.mul_nonneg hx0 hy0
  unfold mulHI mulLI
  generalize x * y = p at *
  omega
/-- What a row of words is, of the call's own. -/
abbrev WRow (w : World) (B : Nat) (v : Value) (n : Nat) (xs : List Value) : Prop := w.ownsRow B 148 1 v n xs
abbrev sl (g n c : Nat) : Value := .slice (some ⟨g, 0, none⟩) n c
def MakeR (B m : Nat) (w : World) (e : Ending) (w' : World) : Prop := ∃ g c ys, e = .returned (sl g m c) ∧ WRow w' B (sl g m c) m ys ∧ w.grownBy w' none
theorem row_new (w : World) (B m c : Nat) (hB : B ≤ w.heap.size) (hm : m ≤ c) (hc : c ≤ 100000) : WRow (w.alloc (.cells (Array.replicate c (.int .u64 0)) 148)) B (sl w.heap.size m c) m (List.replicate m (.int .u64 0)) := by
  refine ⟨by simp, .inr ⟨w.heap.size, c, _, rfl, hB, heap_alloc_new w _, hm, by unfold maxLen; omega, by simp, ?_⟩⟩
  rw [Nat.mul_one, Array.toList_replicate, List.take_replicate, Nat.min_eq_left hm]
set_option maxRecDepth 100000 in
set_option maxHeartbeats 400000 in
theorem make_new (A : Option Addr) (n c m : Nat) (w : World) (h1 : 1 ≤ m) (hm : m ≤ 1000) (hc : c < m) :
    Calls Tryz.prog 110 #[.slice A n c, .int .i64 m] w fun e w' => ∃ k, m ≤ k ∧ k ≤ 2000 ∧ e = .returned (sl w.heap.size m k) ∧ w.alloc (.cells (Array.replicate k (.int .u64 0)) 148) = w' := by
  have q1 : ¬ (m : Int) ≤ (c : Int) := by omega
  have q3 : (c : Int) < (m : Int) := by omega
  clear q1
  by_cases he : m = 1
  · have q2 : ((m : Int) == 1) = true := by subst he; rfl
    have hm := mk11
    have HE := Aside0.mk he
    clear he hc h1
    go_enter Tryz.func110, Tryz.ntmps110
    go_wp2
    go_ret
    have he := HE.out
    subst he
    exact ⟨1, Nat.le_refl _, by decide, rfl, rfl⟩
  · have q2 : ((m : Int) == 1) = false := by rw [beq_eq_false_iff_ne]; omega
    have hw : wrap64 ((m : Int) + 4) = (m : Int) + 4 := by unfold wrap64; omega
    have hm' : ∀ w : World, (Instr.makeSlice 94 (.int .i64 m) (.int .i64 ((m : Int) + 4))).run Tryz.prog w = .ok (sl w.heap.size m (m + 4)) (w.alloc (.cells (Array.replicate (m + 4) (.int .u64 0)) 148)) := fun w => mk_run m (m + 4) (by omega) (by omega) w
    have HB : Aside0 (m ≤ m + 4 ∧ m + 4 ≤ 2000) := Aside0.mk (by omega)
    clear hm hc h1 he
    go_enter Tryz.func110, Tryz.ntmps110
    go_wp2
    go_ret
    exact ⟨m + 4, HB.out.1, HB.out.2, rfl, rfl⟩
set_option maxRecDepth 100000 in
set_option maxHeartbeats 400000 in
theorem make_old (A : Option Addr) (n c m : Nat) (w : World) (hc : m ≤ c) :
    Calls Tryz.prog 110 #[.slice A n c, .int .i64 m] w fun e w' => e = .returned (.slice A m c) ∧ w = w' := by
  have q1 : (m : Int) ≤ (c : Int) := by omega
  clear hc
  go_enter Tryz.func110, Tryz.ntmps110
  go_wp2
  go_ret
  exact ⟨rfl, rfl⟩
theorem nat_make (B : Nat) (v : Value) (n m : Nat) (xs : List Value) (w : World) (h : WRow w B v n xs) (hB : B ≤ w.heap.size) (h1 : 1 ≤ m) (hm : m ≤ 1000) :
    Calls Tryz.prog 110 #[v, .int .i64 m] w (MakeR B m w) := by
  have new : ∀ A n c, c < m → Calls Tryz.prog 110 #[.slice A n c, .int .i64 m] w (MakeR B m w) := by
    intro A n c hc
    refine (make_new A n c m w h1 hm hc).mono ?_
    rintro e w' ⟨k, hk, hk2, rfl, rfl⟩
    exact ⟨_, k, _, rfl, row_new w B m k hB hk (by omega), World.grownBy_alloc w _ none⟩
  rcases row_form h with ⟨rfl, _, _⟩ | ⟨g, c, rfl⟩
  · exact new none 0 0 h1
  · by_cases hc : m ≤ c
    · obtain ⟨ys, hy, _⟩ := row_cut h m hc
      refine (make_old _ n c m w hc).mono ?_
      rintro e w' ⟨rfl, rfl⟩
      exact ⟨g, c, ys, rfl, hy, grown_refl w none⟩
    · exact new _ n c (by omega)
/-- Words of a row, as far as they are read. -/
def WCells (w : World) (g i n : Nat) (xs : List Int) : Prop := ∀ j, i ≤ j → j < n → w.cell? ⟨g, j, none⟩ = some (.int .u64 (xs.getD j 0))
def VR (B : Nat) (w : World) (g' cz g n : Nat) (xs : List Int) (y r : Int) (cv iv : Value) (wr : World) : Prop :=
  ∃ (i : Nat) (os : List Int) (c : Int) (zs : List Value), cv = .int .u64 c ∧ iv = .int .i64 i ∧ i ≤ n ∧ os.length = i ∧ InW os ∧ 0 ≤ c ∧ c < 18446744073709551616 ∧ valW os + 18446744073709551616 ^ i * c = valW (xs.take i) * y + r ∧ WRow wr B (sl g' n cz) n zs ∧ zs.take i = nums .u64 os ∧ w.grownBy wr (some g') ∧ WCells wr g i n xs
set_option maxRecDepth 100000 in
set_option maxHeartbeats 400000 in
theorem mulAddVWW_any (B g' cz g cx n : Nat) (y r : Int) (hy0 : 0 ≤ y) (hy : y < 18446744073709551616) (hr0 : 0 ≤ r) (hr : r < 18446744073709551616) (xs : List Int) (hxs : InW xs) (hn : xs.length = n) (hn1 : n ≤ 1000) (zs : List Value) (w : World) (hz : WRow w B (sl g' n cz) n zs) (hx : WCells w g 0 n xs) :
    Calls Tryz.prog 225 #[sl g' n cz, sl g n cx, .int .u64 y, .int .u64 r] w fun e w' => ∃ os c, e = .returned (.int .u64 c) ∧ os.length = n ∧ InW os ∧ 0 ≤ c ∧ c < 18446744073709551616 ∧ valW os + 18446744073709551616 ^ n * c = valW xs * y + r ∧ WRow w' B (sl g' n cz) n (nums .u64 os) ∧ w.grownBy w' (some g') := by
  have HS : Aside0 (VR B w g' cz g n xs y r (.int .u64 r) (.int .i64 0) w) := Aside0.mk ⟨0, [], r, zs, rfl, rfl, Nat.zero_le _, rfl, by intro x hx; simp at hx, hr0, hr, by simp [valW], hz, rfl, grown_refl w _, hx⟩
  have HX := Aside0.mk (And.intro hxs (And.intro hn (And.intro hn1 (And.intro hy0 hy))))
  clear hz hx hxs hn hn1 hy0 hy hr0 hr
  go_enter Tryz.func225, Tryz.ntmps225
  go_wp2
  go_loopw [8, 19] (fun c i wr => VR B w g' cz g n xs y r c i wr) (fun _ i _ => n + 1 - (intOf i).toNat)
  case atStart => exact HS.out
  case round =>
    obtain ⟨i, os, c, zs', rfl, rfl, hi, hos, hoi, hc0, hc1, hval, hzr, htk, hgr, hxc⟩ := hrel
    have h0 : (i : Int) ≥ 0 := by omega
    by_cases hlt : i < n
    · have q1 : (i : Int) < (n : Int) := by omega
      have hc := hxc i (Nat.le_refl _) hlt
      have hf := hzr.frozenAt i
      have hzc := hzr.cellAt i (by omega)
      have hxi : 0 ≤ xs.getD i 0 ∧ xs.getD i 0 < 18446744073709551616 := by
        have hm : xs.getD i 0 ∈ xs := by
          rw [List.getD_eq_getElem?_getD, List.getElem?_eq_getElem (by have := HX.out.2.1; omega)]
          exact List.getElem_mem _
        exact HX.out.1 _ hm
      have hzl := (row_lt hzr).2.2.2
      obtain ⟨u, hu⟩ : ∃ u, zs'[i]? = some u := ⟨zs'[i]'(by omega), List.getElem?_eq_getElem _⟩
      rw [hu] at hzc
      have HW := Aside0.mk (fun w => www (xs.getD i 0) y c hxi.1 hxi.2 HX.out.2.2.2.1 HX.out.2.2.2.2 hc0 hc1 w)
      have HM := Aside0.mk (mul_words_int (xs.getD i 0) y c hxi.1 hxi.2 HX.out.2.2.2.1 HX.out.2.2.2.2 hc0 hc1)
      obtain ⟨x, hxe⟩ : ∃ x, xs.getD i 0 = x := ⟨_, rfl⟩
      obtain ⟨h, hhe⟩ : ∃ h, mulHI x y c = h := ⟨_, rfl⟩
      obtain ⟨l, hle⟩ : ∃ h, mulLI x y c = h := ⟨_, rfl⟩
      rw [hxe] at hc HW HM
      rw [hhe, hle] at HW HM
      have HR := Aside0.mk (And.intro hxe (And.intro hi (And.intro hos (And.intro hoi (And.intro hval (And.intro hzr (And.intro htk (And.intro hgr (And.intro hxc hlt)))))))))
      have hw : wrap64 ((i : Int) + 1) = ((i + 1 : Nat) : Int) := by
        have := HX.out.2.2.1
        unfold wrap64; omega
      have HWR := Aside0.mk hw
      clear hxe hi hos hoi hval hzr htk hgr hxc hhe hle hxi hzl hu hw hlt hc0 hc1
      go_wp2_with fail
      refine (HW.out _).mono ?_
      rintro e w' ⟨rfl, rfl⟩
      go_wp2
      obtain ⟨hxe, hi, hos, hoi, hval, hzr, htk, hgr, hxc, hlt⟩ := HR.out
      have hM := HM.out
      refine ⟨?_, by rw [HWR.out]; show n + 1 - ((i + 1 : Nat) : Int).toNat < n + 1 - (i : Int).toNat; omega⟩
      rw [HWR.out]
      have hst := hzr.stored i (.int .u64 l)
      have hzl := (row_lt hzr).2.2.2
      refine ⟨i + 1, os ++ [l], h, zs'.set i (.int .u64 l), rfl, rfl, hlt, by simp [hos], hoi.snoc hM.2.2.1 hM.2.2.2.1, hM.1, hM.2.1, ?_, hst.1, ?_, grown_trans hgr hst.2, ?_⟩
      · rw [valW_snoc, hos, take_next xs i (by have := HX.out.2.1; omega), valW_snoc, List.length_take, Nat.min_eq_left (by have := HX.out.2.1; omega), hxe, Int.pow_succ]
        exact mul_step _ _ _ c l h x y r hval hM.2.2.2.2
      · rw [List.take_succ_eq_append_getElem (by rw [List.length_set]; omega), List.take_set_of_le (Nat.le_refl _), htk, List.getElem_set_self]
        simp [nums]
      · intro j hj1 hj2
        rw [World.cell?_setCell_other _ _ _ _ (by intro he; injection he; omega)]
        exact hxc j (by omega) hj2
    · have q1 : ¬ (i : Int) < (n : Int) := by omega
      have HR := Aside0.mk (And.intro hi (And.intro hos (And.intro hoi (And.intro hval (And.intro hzr (And.intro htk (And.intro hgr (And.intro hc0 hc1))))))))
      have q2 : (n : Int) ≤ (i : Int) := by omega
      clear hi hos hoi hval hzr htk hgr hxc hlt hc0 hc1 q1
      go_wp2
      go_ret
      obtain ⟨hi, hos, hoi, hval, hzr, htk, hgr, hc0, hc1⟩ := HR.out
      have e : i = n := by omega
      subst e
      have hzl := (row_lt hzr).2.2.2
      rw [List.take_of_length_le (by omega)] at htk
      subst htk
      rw [List.take_of_length_le (by have := HX.out.2.1; omega)] at hval
      exact ⟨os, c, rfl, hos, hoi, hc0, hc1, hval, hzr, hgr⟩
def NR' (w : World) (g n c : Nat) (ws : List Int) (iv : Value) (wr : World) : Prop := ∃ i : Nat, iv = .int .i64 i ∧ i ≤ n ∧ valW (ws.take i) = valW ws ∧ w = wr
set_option maxRecDepth 100000 in
set_option maxHeartbeats 400000 in
/-- norm: what is left out are zeros. -/
theorem norm_any' (B g n c : Nat) (ws : List Int) (hn : ws.length = n) (hn1 : n ≤ 2000) (hw : InW ws) (w : World) (h : WRow w B (sl g n c) n (nums .u64 ws)) :
    Calls Tryz.prog 114 #[sl g n c] w fun e w' => ∃ i, e = .returned (sl g i c) ∧ i ≤ n ∧ Normal (ws.take i) ∧ valW (ws.take i) = valW ws ∧ w = w' := by
  have hnc := (row_lt h).2.2.1
  have hc : (0 : Int) ≤ (c : Int) := by omega
  have HX := Aside0.mk (And.intro hn (And.intro hn1 (And.intro hw (And.intro h hnc))))
  have HS : Aside0 (NR' w g n c ws (.int .i64 n) w) := Aside0.mk ⟨n, rfl, Nat.le_refl _, by rw [List.take_of_length_le (by omega)], rfl⟩
  clear hn hn1 hw h hnc
  go_enter Tryz.func114, Tryz.ntmps114
  go_wp2
  go_loopw [3] (fun i wr => NR' w g n c ws i wr) (fun i _ => (intOf i).toNat)
  case atStart => exact HS.out
  case round =>
    obtain ⟨i, rfl, hi, hv, rfl⟩ := hrel
    obtain ⟨hn, hn1, hw, h, hnc⟩ := HX.out
    cases i with
    | zero =>
      have HV := Aside0.mk hv
      have q : ¬ (((0 : Nat) : Int) > 0) := by omega
      clear hn hn1 hw h hnc hi hv
      go_wp2
      go_ret
      exact ⟨0, rfl, Nat.zero_le _, normal_nil, HV.out, rfl⟩
    | succ i =>
      obtain ⟨k, hk⟩ : ∃ k, i + 1 = k := ⟨_, rfl⟩
      rw [hk] at hi hv ⊢
      have q : (k : Int) > 0 := by omega
      have hs : wrap64 ((k : Int) - 1) = (i : Int) := by unfold wrap64; omega
      have hcell := h.cellAt i (by omega)
      rw [show (nums .u64 ws)[i]? = some (.int .u64 (ws.getD i 0)) from by
        simp only [nums, List.getElem?_map, List.getD_eq_getElem?_getD, List.getElem?_eq_getElem (show i < ws.length by omega)]
        rfl] at hcell
      have h0 : (0 : Int) ≤ (i : Int) := by omega
      have h1 : (i : Int) < (n : Int) := by omega
      have hk0 : (0 : Int) ≤ (k : Int) := by omega
      by_cases hz : ws.getD i 0 = 0
      · rw [hz] at hcell
        have HV := Aside0.mk (And.intro hk (And.intro hv (And.intro hi (And.intro hz hs))))
        clear hn hn1 hw h hnc hi hv hz hk
        go_wp2
        obtain ⟨hk, hv, hi, hz, hs⟩ := HV.out
        obtain ⟨hn, hn1, hw, h, hnc⟩ := HX.out
        subst hk
        rw [hs]
        exact ⟨⟨i, rfl, by omega, by rw [valW_cut0 ws i (by omega) hz]; exact hv, rfl⟩, by show (i : Int).toNat < ((i + 1 : Nat) : Int).toNat; omega⟩
      · obtain ⟨x, hx⟩ : ∃ x, ws.getD i 0 = x := ⟨_, rfl⟩
        have HV := Aside0.mk (And.intro hk (And.intro hv (And.intro hi hz)))
        rw [hx] at hcell hz
        have hxz : (x == 0) = false := by rw [beq_eq_false_iff_ne]; exact hz
        have hic : (k : Int) ≤ (c : Int) := by omega
        clear hn hn1 hw h hnc hi hv hz hx hk
        go_wp2
        go_ret
        obtain ⟨hk, hv, hi, hz⟩ := HV.out
        obtain ⟨hn, hn1, hw, h, hnc⟩ := HX.out
        subst hk
        exact ⟨i + 1, rfl, hi, normal_take ws i hw (by omega) hz, hv, rfl⟩
/-- A natural number of at most L words in a row of the call's own. -/
def NatAt (w : World) (B : Nat) (v : Value) (L : Nat) (x : Int) : Prop := ∃ ws, WRow w B v ws.length (nums .u64 ws) ∧ Normal ws ∧ valW ws = x ∧ ws.length ≤ L
theorem NatAt.kept {w w' : World} {B : Nat} {v : Value} {L : Nat} {x : Int} (h : NatAt w B v L x) {row : Option Nat} (hg : w.grownBy w' row) (hne : v.ownBlock = none ∨ v.ownBlock ≠ row) : NatAt w' B v L x := by
  obtain ⟨ws, h1, h2⟩ := h
  exact ⟨ws, h1.kept hg hne, h2⟩
theorem NatAt.more {w : World} {B : Nat} {v : Value} {L L' : Nat} {x : Int} (h : NatAt w B v L x) (hL : L ≤ L') : NatAt w B v L' x := by
  obtain ⟨ws, h1, h2, h3, h4⟩ := h
  exact ⟨ws, h1, h2, h3, Nat.le_trans h4 hL⟩
theorem cut0 {w : World} {B : Nat} {A : Option Addr} {n c : Nat} {xs : List Value} (h : WRow w B (.slice A n c) n xs) : WRow w B (.slice A 0 c) 0 [] := by
  rcases row_form h with ⟨e, _, _⟩ | ⟨g, c', e⟩
  · injection e with e1 e2 e3
    subst e1 e3
    exact World.ownsRow_nil _ _ _ _
  · injection e with e1 e2 e3
    subst e1 e3
    obtain ⟨ys, hy, ht, _⟩ := row_cut h 0 (Nat.zero_le _)
    rw [ht (Nat.zero_le _), List.take_zero] at hy
    exact hy
/-- What mulAddWW and setWord leave. -/
def MwR (B L : Nat) (x : Int) (w : World) (e : Ending) (w' : World) : Prop := ∃ v, e = .returned v ∧ NatAt w' B v L x ∧ Below B w w'
set_option maxRecDepth 100000 in
set_option maxHeartbeats 400000 in
theorem setWord_zero (A : Option Addr) (n c : Nat) (w : World) : Calls Tryz.prog 96 #[.slice A n c, .int .u64 0] w fun e w' => e = .returned (.slice A 0 c) ∧ w = w' := by
  have hc : (0 : Int) ≤ (c : Int) := by omega
  go_enter Tryz.func96, Tryz.ntmps96
  go_wp2
  go_ret
  exact ⟨rfl, rfl⟩
set_option maxRecDepth 100000 in
set_option maxHeartbeats 400000 in
theorem setWord_some (B : Nat) (v : Value) (n : Nat) (xs : List Value) (r : Int) (hr : (r == 0) = false) (hr0 : 0 ≤ r) (hr1 : r < 18446744073709551616) (w : World) (h : WRow w B v n xs) (hB : B ≤ w.heap.size) :
    Calls Tryz.prog 96 #[v, .int .u64 r] w (MwR B 1 r w) := by
  have HM := Aside0.mk (nat_make B v n 1 xs w h hB (Nat.le_refl _) (by decide))
  have HX := Aside0.mk (And.intro hB (And.intro hr0 hr1))
  clear h hB hr0 hr1
  go_enter Tryz.func96, Tryz.ntmps96
  go_wp2_with fail
  refine HM.out.mono ?_
  rintro e w1 ⟨g, c, ys, rfl, hrow, hgr⟩
  have hl := row_lt hrow
  have hf := hrow.frozenAt 0
  have hcell := hrow.cellAt 0 (by omega)
  obtain ⟨u, hu⟩ : ∃ u, ys[0]? = some u := ⟨ys[0]'(by omega), List.getElem?_eq_getElem _⟩
  rw [hu] at hcell
  have HR := Aside0.mk (And.intro hrow (And.intro hgr hl))
  clear hrow hgr hl hu
  go_wp2
  go_ret
  obtain ⟨hrow, hgr, hl⟩ := HR.out
  have hst := hrow.stored 0 (.int .u64 r)
  refine ⟨_, rfl, ⟨[r], ?_, ⟨by intro x hx; rw [List.mem_singleton.1 hx]; exact ⟨HX.out.2.1, HX.out.2.2⟩, fun _ => by simpa using hr⟩, by simp [valW], Nat.le_refl _⟩, ?_⟩
  · have := hst.1
    match ys, hl.2.2.2 with
    | [y], _ => exact this
  · exact (grown_below hgr HX.out.1 (by simp)).trans (grown_below hst.2 (by have := HX.out.1; have := hl; omega) (by intro k hk; injection hk with hk; have := hl.1; omega))
theorem setWord_any (B : Nat) (v : Value) (n : Nat) (xs : List Value) (r : Int) (hr0 : 0 ≤ r) (hr1 : r < 18446744073709551616) (w : World) (h : WRow w B v n xs) (hB : B ≤ w.heap.size) :
    Calls Tryz.prog 96 #[v, .int .u64 r] w (MwR B 1 r w) := by
  by_cases hr : r = 0
  · subst hr
    obtain ⟨A, c, rfl⟩ : ∃ A c, v = .slice A n c := by
      rcases row_form h with ⟨rfl, rfl, _⟩ | ⟨g, c, rfl⟩
      · exact ⟨_, _, rfl⟩
      · exact ⟨_, _, rfl⟩
    refine (setWord_zero A n c w).mono ?_
    rintro e w' ⟨rfl, rfl⟩
    exact ⟨_, rfl, ⟨[], cut0 h, normal_nil, rfl, Nat.zero_le _⟩, Below.refl _ _⟩
  · exact setWord_some B v n xs r (by rw [beq_eq_false_iff_ne]; exact hr) hr0 hr1 w h hB
set_option maxRecDepth 100000 in
set_option maxHeartbeats 400000 in
theorem mulAddVWWw (B g' cz g cx n : Nat) (y r : Int) (hy0 : 0 ≤ y) (hy : y < 18446744073709551616) (hr0 : 0 ≤ r) (hr : r < 18446744073709551616) (xs : List Int) (hxs : InW xs) (hn : xs.length = n) (hn1 : n ≤ 1000) (zs : List Value) (w : World) (hz : WRow w B (sl g' n cz) n zs) (hx : WCells w g 0 n xs) :
    Calls Tryz.prog 186 #[sl g' n cz, sl g n cx, .int .u64 y, .int .u64 r] w fun e w' => ∃ os c, e = .returned (.int .u64 c) ∧ os.length = n ∧ InW os ∧ 0 ≤ c ∧ c < 18446744073709551616 ∧ valW os + 18446744073709551616 ^ n * c = valW xs * y + r ∧ WRow w' B (sl g' n cz) n (nums .u64 os) ∧ w.grownBy w' (some g') := by
  have HM := Aside0.mk (mulAddVWW_any B g' cz g cx n y r hy0 hy hr0 hr xs hxs hn hn1 zs w hz hx)
  clear hy0 hy hr0 hr hxs hn hn1 hz hx
  go_enter Tryz.func186, Tryz.ntmps186
  go_wp2_with fail
  refine HM.out.mono ?_
  rintro e w' ⟨os, c, rfl, h⟩
  have HR := Aside0.mk h
  clear h
  go_wp2
  go_ret
  exact ⟨os, c, rfl, HR.out⟩
theorem nums_cells {w : World} {B g n c : Nat} {ws : List Int} (h : WRow w B (sl g n c) n (nums .u64 ws)) (hn : ws.length = n) : WCells w g 0 n ws := by
  intro j _ hj
  rw [h.cellAt j (by omega)]
  simp only [nums, List.getElem?_map, List.getD_eq_getElem?_getD, List.getElem?_eq_getElem (show j < ws.length by omega)]
  rfl
set_option maxRecDepth 100000 in
set_option maxHeartbeats 400000 in
theorem mulAddWW_some (B g c n : Nat) (y r : Int) (hy0 : 0 < y) (hy : y < 18446744073709551616) (hr0 : 0 ≤ r) (hr : r < 18446744073709551616) (ws : List Int) (hw : InW ws) (hn : ws.length = n) (hn0 : 0 < n) (hn1 : n ≤ 900) (w : World) (hB : B ≤ w.heap.size) (h : WRow w B (sl g n c) n (nums .u64 ws)) :
    Calls Tryz.prog 130 #[sl g n c, sl g n c, .int .u64 y, .int .u64 r] w (MwR B (n + 1) (valW ws * y + r) w) := by
  have q1 : ((n : Int) == 0) = false := by rw [beq_eq_false_iff_ne]; omega
  have q2 : (y == 0) = false := by rw [beq_eq_false_iff_ne]; omega
  obtain ⟨m, hm⟩ : ∃ m, n + 1 = m := ⟨_, rfl⟩
  have hs : wrap64 ((n : Int) + 1) = (m : Int) := by unfold wrap64; omega
  have HM := Aside0.mk (nat_make B (sl g n c) n m (nums .u64 ws) w h hB (by omega) (by omega))
  have q3 : (n : Int) ≤ (m : Int) := by omega
  have q4 : (n : Int) < (m : Int) := by omega
  have q5 : (0 : Int) ≤ (n : Int) := by omega
  have HX := Aside0.mk (And.intro hm (And.intro hB (And.intro h (And.intro hw (And.intro hn (And.intro hn1 (And.intro hy0 (And.intro hy (And.intro hr0 hr)))))))))
  clear h hB hw hn hn0 hn1 hy0 hy hr0 hr hm
  go_enter Tryz.func130, Tryz.ntmps130
  go_wp2_with fail
  refine HM.out.mono ?_
  rintro e w1 ⟨g', cz, ys, rfl, hrow, hgr⟩
  have hl := row_lt hrow
  have q6 : (m : Int) ≤ (cz : Int) := by omega
  have q7 : (n : Int) ≤ (cz : Int) := by omega
  obtain ⟨hm, hB, h, hw, hn, hn1, hy0, hy, hr0, hr⟩ := HX.out
  obtain ⟨zs, hz, _⟩ := row_cut hrow n (by omega)
  have hx := nums_cells (h.kept hgr (.inr (by simp [Value.ownBlock]))) hn
  have HV := Aside0.mk (mulAddVWWw B g' cz g c n y r (by omega) hy hr0 hr ws hw hn (by omega) zs w1 hz hx)
  have HR := Aside0.mk (And.intro hgr hl)
  clear hl hm hB h hw hn hn1 hy0 hy hr0 hr hz hx hrow hgr
  go_wp2_with fail
  refine HV.out.mono ?_
  rintro e w2 ⟨os, cc, rfl, hos, hoi, hc0, hc1, hval, hz2, hg2⟩
  have hm := HX.out.1
  have hl := HR.out.2
  obtain ⟨ys2, hy2, _, ht2⟩ := row_cut hz2 m (by omega)
  have hl2 := row_lt hy2
  have hf := hy2.frozenAt n
  have hcell := hy2.cellAt n (by omega)
  obtain ⟨u, hu⟩ : ∃ u, ys2[n]? = some u := ⟨ys2[n]'(by omega), List.getElem?_eq_getElem _⟩
  rw [hu] at hcell
  have hst := hy2.stored n (.int .u64 cc)
  have hrow2 : WRow (w2.setCell ⟨g', n, none⟩ (.int .u64 cc)) B (sl g' m cz) m (nums .u64 (os ++ [cc])) := by
    have e : ys2.set n (.int .u64 cc) = nums .u64 (os ++ [cc]) := by
      rw [nums_append, ← ht2 (by omega)]
      have hlen := hl2.2.2.2
      rw [List.set_eq_take_append_cons_drop, if_pos (by omega), List.drop_eq_nil_of_le (by omega)]
      rfl
    rw [← e]
    exact hst.1
  have HN := Aside0.mk (norm_any' B g' m cz (os ++ [cc]) (by simp; omega) (by have := HX.out.2.2.2.2.2.1; omega) (hoi.snoc hc0 hc1) _ hrow2)
  have HR2 := Aside0.mk (And.intro hos (And.intro hval (And.intro hg2 (And.intro hst.2 (And.intro hrow2 hl2)))))
  clear hos hoi hc0 hc1 hval hz2 hg2 hm hl hy2 ht2 hl2 hu hst hrow2
  go_wp2_with fail
  refine HN.out.mono ?_
  rintro e w3 ⟨i, rfl, hi, hN, hv, rfl⟩
  have HR3 := Aside0.mk (And.intro hi (And.intro hN hv))
  clear hi hN hv
  go_wp2
  go_ret
  obtain ⟨hi, hN, hv⟩ := HR3.out
  obtain ⟨hos, hval, hg2, hst, hrow2, hl2⟩ := HR2.out
  obtain ⟨hgr, hl⟩ := HR.out
  obtain ⟨hm, hB, h, hw, hn, hn1, hy0, hy, hr0, hr⟩ := HX.out
  obtain ⟨zs, hz, hzt, _⟩ := row_cut hrow2 i (by omega)
  have hlen : (List.take i (os ++ [cc])).length = i := by rw [List.length_take]; simp; omega
  refine ⟨_, rfl, ⟨_, ?_, hN, ?_, by rw [hlen]; omega⟩, ?_⟩
  · rw [hlen]
    have e : nums .u64 (List.take i (os ++ [cc])) = zs := by rw [hzt hi]; simp [nums, List.map_take]
    rw [e]
    exact hz
  · rw [hv, valW_snoc, hos]
    exact hval
  · have b1 := grown_below hgr hB (by simp)
    have b2 := grown_below hg2 (Nat.le_trans hB hgr.size) (by intro k hk; injection hk with hk; have := hl.1; omega)
    have b3 := grown_below hst (Nat.le_trans hB (Nat.le_trans hgr.size hg2.size)) (by intro k hk; injection hk with hk; have := hl.1; omega)
    exact (b1.trans b2).trans b3
set_option maxRecDepth 100000 in
set_option maxHeartbeats 400000 in
theorem mulAddWW_zero (B : Nat) (A A' : Option Addr) (c c' : Nat) (n : Nat) (xs : List Value) (y r : Int) (hr0 : 0 ≤ r) (hr : r < 18446744073709551616) (w : World) (hB : B ≤ w.heap.size) (h : WRow w B (.slice A n c) n xs) :
    Calls Tryz.prog 130 #[.slice A n c, .slice A' 0 c', .int .u64 y, .int .u64 r] w (MwR B 1 r w) := by
  have HM := Aside0.mk (setWord_any B (.slice A n c) n xs r hr0 hr w h hB)
  clear h hB hr0 hr
  go_enter Tryz.func130, Tryz.ntmps130
  go_wp2_with fail
  refine HM.out.mono ?_
  rintro e w1 ⟨v, rfl, h⟩
  have HR := Aside0.mk h
  clear h
  go_wp2
  go_ret
  exact ⟨_, rfl, HR.out⟩
/-- z.mulAddWW(z, y, r) is z times y and r. -/
theorem mulAddWW_any (B L : Nat) (hL : L ≤ 900) (v : Value) (x y r : Int) (hy0 : 0 < y) (hy : y < 18446744073709551616) (hr0 : 0 ≤ r) (hr : r < 18446744073709551616) (w : World) (hB : B ≤ w.heap.size) (h : NatAt w B v L x) :
    Calls Tryz.prog 130 #[v, v, .int .u64 y, .int .u64 r] w (MwR B (L + 1) (x * y + r) w) := by
  obtain ⟨ws, hrow, hN, hv, hl⟩ := h
  by_cases h0 : ws = []
  · subst h0
    have hx : x = 0 := hv.symm
    subst hx
    rcases row_form hrow with ⟨rfl, _, _⟩ | ⟨g, c, rfl⟩ <;>
    · refine (mulAddWW_zero B _ _ _ _ _ _ y r hr0 hr w hB hrow).mono ?_
      rintro e w' ⟨v, rfl, hn, hb⟩
      exact ⟨v, rfl, by rw [Int.zero_mul, Int.zero_add]; exact hn.more (by omega), hb⟩
  · have hpos : 0 < ws.length := by
      cases ws with
      | nil => exact absurd rfl h0
      | cons a t => simp
    rcases row_form hrow with ⟨_, h0, _⟩ | ⟨g, c, rfl⟩
    · omega
    · refine (mulAddWW_some B g c ws.length y r hy0 hy hr0 hr ws hN.1 rfl hpos (by omega) w hB hrow).mono ?_
      rintro e w' ⟨v, rfl, hn, hb⟩
      subst hv
      exact ⟨v, rfl, hn.more (by omega), hb⟩
end Go.Proofs.YtnhonclncjgjoaaGreatDoor

namespace Go.Proofs.YtnhonclncjgjoaaGreatDoor
open Go Go.RowKit Go.Proofs.YtnhonclncjgjoaaGreatDoorW.PrintWords
set_option linter.unusedVariables false
set_option linter.unusedSimpArgs false

/-- Below a bound, one block apart, what was there stands as it was. -/
structure KeptB (B g : Nat) (w w' : World) : Prop where
  os : w'.os = w.os
  tape : w'.tape = w.tape
  output : w'.output = w.output
  size : w.heap.size ≤ w'.heap.size
  block : ∀ k, k < B → k ≠ g → w'.heap[k]? = w.heap[k]?
theorem KeptB.trans {g B : Nat} {w w1 w' : World} (h : KeptB B g w w1) (k : KeptB B g w1 w') : KeptB B g w w' :=
  ⟨k.os.trans h.os, k.tape.trans h.tape, k.output.trans h.output, Nat.le_trans h.size k.size, fun j hj hx => (k.block j hj hx).trans (h.block j hj hx)⟩
theorem KeptB.set {g B : Nat} {w w' : World} (h : KeptB B g w w') (b i : Nat) (v : Value) (hg : b = g ∨ B ≤ b) : KeptB B g w (w'.setCell ⟨b, i, none⟩ v) :=
  have k := (Below.refl 0 w').setCell (p := ⟨b, i, none⟩) (Nat.zero_le _) v
  ⟨k.os.trans h.os, k.tape.trans h.tape, k.output.trans h.output, Nat.le_trans h.size k.size, fun j hj hx => (Below.heap_setCell w' ⟨b, i, none⟩ v j (by simp only []; omega)).trans (h.block j hj hx)⟩
theorem KeptB.refl (B g : Nat) (w : World) : KeptB B g w w := ⟨rfl, rfl, rfl, Nat.le_refl _, fun _ _ _ => rfl⟩
theorem KeptB.below {g B B' : Nat} {w w1 w' : World} (h : KeptB B g w w1) (hB : B ≤ B') (hb : Below B' w1 w') : KeptB B g w w' :=
  ⟨hb.os.trans h.os, hb.tape.trans h.tape, hb.output.trans h.output, Nat.le_trans h.size hb.size, fun k hk hx => (hb.block k (by omega)).trans (h.block k hk hx)⟩
theorem KeptB.mono {g B B' : Nat} {w w' : World} (h : KeptB B g w w') (hB : B' ≤ B) : KeptB B' g w w' := ⟨h.os, h.tape, h.output, h.size, fun k hk hx => h.block k (by omega) hx⟩
theorem KeptB.drew {g B : Nat} {w w' : World} (h : KeptB B g w w') : KeptB B g w w'.drew := ⟨h.os, h.tape, h.output, h.size, h.block⟩
theorem KeptB.cell {B g : Nat} {w w' : World} (h : KeptB B g w w') {k i : Nat} (hk : k < B) (hg : k ≠ g) : w'.cell? ⟨k, i, none⟩ = w.cell? ⟨k, i, none⟩ := World.cell?_of_block (w := w) (h.block k hk hg)
theorem KeptB.frozen {B g : Nat} {w w' : World} (h : KeptB B g w w') {k i : Nat} (hk : k < B) (hg : k ≠ g) : w'.frozen? ⟨k, i, none⟩ = w.frozen? ⟨k, i, none⟩ := World.frozen?_of_block (w := w) (h.block k hk hg)
/-- A reader at a place of its text. -/
structure RdAt (W : World) (b : Nat) (s : ByteArray) (k : Nat) : Prop where
  c0 : W.cell? ⟨b, 0, none⟩ = some (.string s)
  c1 : W.cell? ⟨b, 1, none⟩ = some (.int .i64 k)
  c2 : ∃ p, W.cell? ⟨b, 2, none⟩ = some (.int .i64 p)
  z0 : W.frozen? ⟨b, 0, none⟩ = false
  z1 : W.frozen? ⟨b, 1, none⟩ = false
  z2 : W.frozen? ⟨b, 2, none⟩ = false
theorem RdAt.lt {W : World} {b k : Nat} {s : ByteArray} (h : RdAt W b s k) : b < W.heap.size := World.block_lt_of_cell? W _ h.c0
theorem RdAt.below {W W' : World} {b k B : Nat} {s : ByteArray} (h : RdAt W b s k) (hb : Below B W W') (hB : b < B) : RdAt W' b s k := by
  have e : ∀ i, W'.cell? ⟨b, i, none⟩ = W.cell? ⟨b, i, none⟩ := fun i => hb.cell (p := ⟨b, i, none⟩) hB
  have f : ∀ i, W'.frozen? ⟨b, i, none⟩ = W.frozen? ⟨b, i, none⟩ := fun i => hb.frozen (p := ⟨b, i, none⟩) hB
  exact ⟨(e 0).trans h.c0, (e 1).trans h.c1, by rw [e 2]; exact h.c2, (f 0).trans h.z0, (f 1).trans h.z1, (f 2).trans h.z2⟩
/-- The listed values: io.EOF, and the two errors of scan. -/
structure Errs (w : World) (a : Addr) (ti : TypeId) (vi : Value) (tn : TypeId) (vn : Value) : Prop where
  eof : w.cell? ⟨1, 0, none⟩ = some (.iface 261 (.pointer (some a)))
  inv : w.cell? ⟨3, 0, none⟩ = some (.iface ti vi)
  non : w.cell? ⟨4, 0, none⟩ = some (.iface tn vn)
abbrev eofV (a : Addr) : Value := .iface 261 (.pointer (some a))
theorem Errs.kept {w W : World} {a : Addr} {ti : TypeId} {vi : Value} {tn : TypeId} {vn : Value} {B g : Nat} (h : Errs w a ti vi tn vn) (hk : KeptB B g w W) (hB : B ≤ w.heap.size → True) (h0 : 1 < B ∧ 3 < B ∧ 4 < B) (h1 : 1 ≠ g ∧ 3 ≠ g ∧ 4 ≠ g) : Errs W a ti vi tn vn :=
  ⟨(hk.cell h0.1 h1.1).trans h.eof, (hk.cell h0.2.1 h1.2.1).trans h.inv, (hk.cell h0.2.2 h1.2.2).trans h.non⟩
theorem Errs.low {w : World} {a : Addr} {ti : TypeId} {vi : Value} {tn : TypeId} {vn : Value} (h : Errs w a ti vi tn vn) : 1 < w.heap.size ∧ 3 < w.heap.size ∧ 4 < w.heap.size :=
  ⟨World.block_lt_of_cell? w _ h.eof, World.block_lt_of_cell? w _ h.inv, World.block_lt_of_cell? w _ h.non⟩
theorem eof_eql (a : Addr) (W : World) : (binOp .eql 64 (eofV a) (eofV a)).run Tryz.prog W = .ok (.bool true) W := by
  obtain ⟨d, hd⟩ : ∃ d, Op.maxDepth = d + 2 := ⟨Op.maxDepth - 2, by decide⟩
  have hc : Tryz.t261.comparable = true := by kernel_rfl
  simp [binOp, Op.equal, hd, Op.equalIn, run_underlying Tryz.underlying64, run_underlying Tryz.underlying261, run_sameAddr_same, sizeOf, go_sem, hc]
theorem eof_neq (a : Addr) (W : World) : (binOp .neq 64 (eofV a) (eofV a)).run Tryz.prog W = .ok (.bool false) W := by
  obtain ⟨d, hd⟩ : ∃ d, Op.maxDepth = d + 2 := ⟨Op.maxDepth - 2, by decide⟩
  have hc : Tryz.t261.comparable = true := by kernel_rfl
  simp [binOp, Op.equal, hd, Op.equalIn, run_underlying Tryz.underlying64, run_underlying Tryz.underlying261, run_sameAddr_same, sizeOf, go_sem, hc]
/-- What reading and unreading leave of the world: the reader's block apart it stands. -/
structure Rdd (b : Nat) (s : ByteArray) (k : Nat) (w w' : World) : Prop where
  at' : RdAt w' b s k
  kept : ∀ B, KeptB B b w w'
  size : w'.heap.size = w.heap.size
theorem drewN_cell (w : World) (n : Nat) (p : Addr) : (w.drewN n).cell? p = w.cell? p := by induction n generalizing w with | zero => rfl | succ n ih => exact ih w.drew
theorem drewN_frozen (w : World) (n : Nat) (p : Addr) : (w.drewN n).frozen? p = w.frozen? p := by induction n generalizing w with | zero => rfl | succ n ih => exact ih w.drew
theorem drewN_heap (w : World) (n : Nat) : (w.drewN n).heap = w.heap := by induction n generalizing w with | zero => rfl | succ n ih => exact ih w.drew
theorem drewN_rest (w : World) (n : Nat) : (w.drewN n).os = w.os ∧ (w.drewN n).tape = w.tape ∧ (w.drewN n).output = w.output := by induction n generalizing w with | zero => exact ⟨rfl, rfl, rfl⟩ | succ n ih => exact ih w.drew
theorem RdAt.drewN {W : World} {b k : Nat} {s : ByteArray} (h : RdAt W b s k) (n : Nat) : RdAt (W.drewN n) b s k :=
  ⟨(drewN_cell W n _).trans h.c0, (drewN_cell W n _).trans h.c1, by rw [drewN_cell]; exact h.c2, (drewN_frozen W n _).trans h.z0, (drewN_frozen W n _).trans h.z1, (drewN_frozen W n _).trans h.z2⟩
theorem KeptB.drewN {g B : Nat} {w w' : World} (h : KeptB B g w w') (n : Nat) : KeptB B g w (w'.drewN n) := by
  have r := drewN_rest w' n
  exact ⟨r.1.trans h.os, r.2.1.trans h.tape, r.2.2.trans h.output, by rw [drewN_heap]; exact h.size, by rw [drewN_heap]; exact h.block⟩
theorem Rdd.drewN {b k : Nat} {s : ByteArray} {w w' : World} (h : Rdd b s k w w') (n : Nat) : Rdd b s k w (w'.drewN n) := ⟨h.at'.drewN n, fun B => (h.kept B).drewN n, by rw [drewN_heap]; exact h.size⟩
theorem rdd_end {W : World} {b k : Nat} {s : ByteArray} (h : RdAt W b s k) (m q : Nat) : Rdd b s m W (((W.setCell ⟨b, 2, none⟩ (.int .i64 (-1))).drewN q).setCell ⟨b, 1, none⟩ (.int .i64 m)) := by
  obtain ⟨p, hp⟩ := h.c2
  have o : ∀ (i j : Nat), i ≠ j → (⟨b, i, none⟩ : Addr) ≠ ⟨b, j, none⟩ := fun i j hij he => hij (by injection he)
  refine ⟨⟨?_, ?_, ⟨-1, ?_⟩, by simp [drewN_frozen, h.z0], by simp [drewN_frozen, h.z1], by simp [drewN_frozen, h.z2]⟩, fun B => (((KeptB.refl B b W).set b 2 _ (.inl rfl)).drewN q).set b 1 _ (.inl rfl), by simp [drewN_heap]⟩
  · rw [World.cell?_setCell_other _ _ _ _ (o 1 0 (by decide)), drewN_cell, World.cell?_setCell_other _ _ _ _ (o 2 0 (by decide))]; exact h.c0
  · exact World.cell?_setCell_same _ _ _ (u := .int .i64 k) (by rw [drewN_cell, World.cell?_setCell_other _ _ _ _ (o 2 1 (by decide))]; exact h.c1)
  · rw [World.cell?_setCell_other _ _ _ _ (o 1 2 (by decide)), drewN_cell]; exact World.cell?_setCell_same _ _ _ hp
theorem rdd_end0 {W : World} {b k : Nat} {s : ByteArray} (h : RdAt W b s k) (q : Nat) : Rdd b s k W ((W.setCell ⟨b, 2, none⟩ (.int .i64 (-1))).drewN q) := by
  obtain ⟨p, hp⟩ := h.c2
  have o : ∀ (i j : Nat), i ≠ j → (⟨b, i, none⟩ : Addr) ≠ ⟨b, j, none⟩ := fun i j hij he => hij (by injection he)
  refine ⟨⟨?_, ?_, ⟨-1, ?_⟩, by simp [drewN_frozen, h.z0], by simp [drewN_frozen, h.z1], by simp [drewN_frozen, h.z2]⟩, fun B => ((KeptB.refl B b W).set b 2 _ (.inl rfl)).drewN q, by simp [drewN_heap]⟩
  · rw [drewN_cell, World.cell?_setCell_other _ _ _ _ (o 2 0 (by decide))]; exact h.c0
  · rw [drewN_cell, World.cell?_setCell_other _ _ _ _ (o 2 1 (by decide))]; exact h.c1
  · rw [drewN_cell]; exact World.cell?_setCell_same _ _ _ hp
set_option maxRecDepth 100000 in
set_option maxHeartbeats 400000 in
theorem readByte_some (b k : Nat) (s : ByteArray) (hs : s.size ≤ 4096) (hk : k < s.size) (w : World) (h : RdAt w b s k) :
    Calls Tryz.prog 89 #[.pointer (some ⟨b, 0, none⟩)] w fun e w' => e = .returned (.tuple #[.int .u8 (bt s k), .nilIface]) ∧ Rdd b s (k + 1) w w' := by
  obtain ⟨p, hp⟩ := h.c2
  have c0 := h.c0
  have c1 := h.c1
  have z0 := h.z0
  have z1 := h.z1
  have z2 := h.z2
  have q1 : (k : Int) < (s.size : Int) := by omega
  have q0 : (0 : Int) ≤ (k : Int) := by omega
  have HT := Aside0.mk (show (s[k]'hk).toNat = bt s k from bt_at s k hk)
  have hw : wrap64 ((k : Int) + 1) = (k : Int) + 1 := by unfold wrap64; omega
  have HR := Aside0.mk h
  clear h
  go_enter Tryz.func89, Tryz.ntmps89
  go_wp2
  go_quiet (fail)
  go_wp2
  go_quiet (fail)
  go_wp2
  go_ret2
  exact ⟨by rw [HT.out]; rfl, rdd_end HR.out (k + 1) _⟩
set_option maxRecDepth 100000 in
set_option maxHeartbeats 400000 in
theorem readByte_eof (b k : Nat) (s : ByteArray) (hs : s.size ≤ 4096) (hk : k = s.size) (a : Addr) (w : World) (h : RdAt w b s k) (hE : w.cell? ⟨1, 0, none⟩ = some (eofV a)) (hb : 1 ≠ b) :
    Calls Tryz.prog 89 #[.pointer (some ⟨b, 0, none⟩)] w fun e w' => e = .returned (.tuple #[.int .u8 0, eofV a]) ∧ Rdd b s k w w' := by
  obtain ⟨p, hp⟩ := h.c2
  have c0 := h.c0
  have c1 := h.c1
  have z0 := h.z0
  have z1 := h.z1
  have z2 := h.z2
  have q1 : ¬ (k : Int) < (s.size : Int) := by omega
  have q3 : (s.size : Int) ≤ (k : Int) := by omega
  have q0 : (0 : Int) ≤ (k : Int) := by omega
  have hE2 : ∀ v, (w.setCell ⟨b, 2, none⟩ v).cell? ⟨1, 0, none⟩ = some (eofV a) := fun v => by
    rw [World.cell?_setCell_other _ _ _ _ (by intro he; injection he; omega)]; exact hE
  have HR := Aside0.mk h
  clear h hk q1
  go_enter Tryz.func89, Tryz.ntmps89
  go_wp2
  go_quiet (fail)
  go_wp2
  go_quiet (fail)
  go_wp2
  go_ret2
  exact ⟨rfl, (rdd_end0 HR.out _).drewN _⟩
/-- What ReadByte gives at a place. -/
def NextAt (W : World) (b : Nat) (s : ByteArray) (a : Addr) (k : Nat) (ch ev : Value) : Prop :=
  (k < s.size ∧ ch = .int .u8 (bt s k) ∧ ev = .nilIface ∧ RdAt W b s (k + 1)) ∨ (k = s.size ∧ ch = .int .u8 0 ∧ ev = eofV a ∧ RdAt W b s k)
def RbR (b : Nat) (s : ByteArray) (a : Addr) (k : Nat) (w : World) (e : Ending) (w' : World) : Prop := ∃ ch ev, e = .returned (.tuple #[.int .u8 ch, ev]) ∧ NextAt w' b s a k (.int .u8 ch) ev ∧ (∀ B, KeptB B b w w') ∧ w'.heap.size = w.heap.size
theorem readByte_any (b k : Nat) (s : ByteArray) (hs : s.size ≤ 4096) (hk : k ≤ s.size) (a : Addr) (w : World) (h : RdAt w b s k) (hE : w.cell? ⟨1, 0, none⟩ = some (eofV a)) (hb : 1 ≠ b) :
    Calls Tryz.prog 89 #[.pointer (some ⟨b, 0, none⟩)] w (RbR b s a k w) := by
  by_cases hlt : k < s.size
  · refine (readByte_some b k s hs hlt w h).mono ?_
    rintro e w' ⟨rfl, hr⟩
    exact ⟨_, _, rfl, .inl ⟨hlt, rfl, rfl, hr.at'⟩, hr.kept, hr.size⟩
  · refine (readByte_eof b k s hs (by omega) a w h hE hb).mono ?_
    rintro e w' ⟨rfl, hr⟩
    exact ⟨_, _, rfl, .inr ⟨by omega, rfl, rfl, hr.at'⟩, hr.kept, hr.size⟩
set_option maxRecDepth 100000 in
set_option maxHeartbeats 400000 in
theorem unreadByte (b k m : Nat) (s : ByteArray) (hs : s.size ≤ 4096) (hm : m = k + 1) (hk : m ≤ s.size) (w : World) (h : RdAt w b s m) :
    Calls Tryz.prog 327 #[.pointer (some ⟨b, 0, none⟩)] w fun e w' => e = .returned .nilIface ∧ Rdd b s k w w' := by
  obtain ⟨p, hp⟩ := h.c2
  have c0 := h.c0
  have c1 := h.c1
  have z0 := h.z0
  have z1 := h.z1
  have z2 := h.z2
  have q1 : ¬ (m : Int) ≤ 0 := by omega
  have q0 : (0 : Int) < (m : Int) := by omega
  have hw : wrap64 ((m : Int) - 1) = (k : Int) := by unfold wrap64; omega
  have HR := Aside0.mk h
  clear h hm hk q1
  go_enter Tryz.func327, Tryz.ntmps327
  go_wp2
  go_ret
  exact ⟨rfl, rdd_end HR.out k 0⟩
/-- The world with a new reader. -/
abbrev rdW (w : World) (s : ByteArray) : World := w.alloc (.cells #[.string s, .int .i64 0, .int .i64 (-1)] 170)
theorem rdW_at (w : World) (s : ByteArray) : RdAt (rdW w s) w.heap.size s 0 := ⟨cn rfl, cn rfl, ⟨-1, cn rfl⟩, fn rfl, fn rfl, fn rfl⟩
set_option maxRecDepth 100000 in
set_option maxHeartbeats 400000 in
theorem newReader (s : ByteArray) (w : World) :
    Calls Tryz.prog 51 #[.string s] w fun e w' => e = .returned (.pointer (some ⟨w.heap.size, 0, none⟩)) ∧ rdW w s = w' := by
  go_enter Tryz.func51, Tryz.ntmps51
  go_wp2
  go_ret
  exact ⟨rfl, rfl⟩
end Go.Proofs.YtnhonclncjgjoaaGreatDoor

namespace Go.Proofs.YtnhonclncjgjoaaGreatDoor
open Go Go.RowKit Go.Proofs.YtnhonclncjgjoaaGreatDoorW.PrintWords Ps
set_option linter.unusedVariables false
set_option linter.unusedSimpArgs false

theorem pow_ge1 {b : Int} (hb : 1 ≤ b) (i : Nat) : 1 ≤ b ^ i := by
  induction i with
  | zero => simp
  | succ n ih =>
    rw [Int.pow_succ]
    have := Int.mul_le_mul ih hb (by omega) (by omega)
    omega
theorem pow_le {b : Int} (hb : 1 ≤ b) {i j : Nat} (h : i ≤ j) : b ^ i ≤ b ^ j := by
  induction h with
  | refl => exact Int.le_refl _
  | step h ih =>
    rename_i m
    rw [Int.pow_succ]
    have h1 := pow_ge1 hb m
    have h2 : b ^ m * 1 ≤ b ^ m * b := Int.mul_le_mul_of_nonneg_left hb (by omega)
    omega
def MpR (b : Int) (m : Nat) (w : World) (p n : Value) (wr : World) : Prop := ∃ j : Nat, j + 1 ≤ m ∧ p = .int .u64 (b ^ (j + 1)) ∧ n = .int .i64 ((j + 1 : Nat) : Int) ∧ w = wr
/-- maxPow at b: the m-th power is the last one in a word. -/
theorem maxPow_any (b : Int) (M : Int) (m : Nat) (hb : 2 ≤ b) (hm : 1 ≤ m) (hm1 : m ≤ 100) (hM : (18446744073709551615 : Int) / b = M) (h1 : b ^ (m - 1) ≤ M) (h2 : M < b ^ m) (h3 : b ^ m < 18446744073709551616) (w : World) :
    Calls Tryz.prog 129 #[.int .u64 b] w fun e w' => e = .returned (.tuple #[.int .u64 (b ^ m), .int .i64 m]) ∧ w = w' := by
  have hz : (b == 0) = false := by rw [beq_eq_false_iff_ne]; omega
  have hz2 : ¬ b = 0 := by omega
  have hd : Int.tdiv 18446744073709551615 b = M := by rw [Int.tdiv_eq_ediv_of_nonneg (by omega)]; exact hM
  have hw : IntKind.u64.wrap M = M := by
    have : M ≤ 18446744073709551615 := by rw [← hM]; exact Int.ediv_le_self _ (by omega)
    have : 0 ≤ M := by rw [← hM]; exact Int.ediv_nonneg (by omega) (by omega)
    rw [IntKind.wrap_u64]; omega
  have HX := Aside0.mk (And.intro hb (And.intro hm (And.intro hm1 (And.intro h1 (And.intro h2 h3)))))
  have HS : Aside0 (MpR b m w (.int .u64 b) (.int .i64 1) w) := Aside0.mk ⟨0, by omega, by rw [Int.pow_succ]; simp, rfl, rfl⟩
  clear hM h1 h2 h3 hb hm hm1
  go_enter Tryz.func129, Tryz.ntmps129
  go_wp2
  go_loopw [2, 3] (fun p n wr => MpR b m w p n wr) (fun _ n _ => m + 1 - (intOf n).toNat)
  case atStart => exact HS.out
  case round =>
    obtain ⟨j, hj, rfl, rfl, rfl⟩ := hrel
    obtain ⟨hb, hm, hm1, h1, h2, h3⟩ := HX.out
    obtain ⟨P, hP⟩ : ∃ P, b ^ (j + 1) = P := ⟨_, rfl⟩
    obtain ⟨n, hn⟩ : ∃ n, j + 1 = n := ⟨_, rfl⟩
    rw [hP, hn]
    have HP := Aside0.mk (And.intro hP (And.intro hn hj))
    by_cases he : j + 1 = m
    · have q : ¬ P ≤ M := by rw [← hP, he]; omega
      have HE := Aside0.mk he
      clear hP hn hj h1 h2 h3 he hb hm hm1
      go_wp2
      go_ret2
      obtain ⟨hP, hn, hj⟩ := HP.out
      have he := HE.out
      refine ⟨?_, rfl⟩
      rw [← hP, ← hn, he]
      rfl
    · have q : P ≤ M := by
        rw [← hP]
        exact Int.le_trans (pow_le (show 1 ≤ b by clear h1 h2 h3; omega) (show j + 1 ≤ m - 1 by clear h1 h2 h3; omega)) h1
      have hw2 : wrap64 ((n : Int) + 1) = ((n : Int) + 1) := by unfold wrap64; omega
      have g1 : 1 ≤ b := by clear h1 h2 h3 q; omega
      have g2 : j + 1 + 1 ≤ m := by clear h1 h2 h3 q; omega
      have hle := pow_le g1 g2
      have hge := pow_ge1 g1 (j + 1 + 1)
      have hw3 : IntKind.u64.wrap (P * b) = b ^ (n + 1) := by
        rw [← hP, ← hn, ← Int.pow_succ, IntKind.wrap_u64]
        generalize b ^ (j + 1 + 1) = t at *
        omega
      have HW := Aside0.mk (And.intro hw3 hw2)
      clear hP hn hj h1 h2 h3 hb hm hm1 hle hge hw3 hw2
      go_wp2
      obtain ⟨hP, hn, hj⟩ := HP.out
      rw [HW.out.1, HW.out.2]
      exact ⟨⟨n, by omega, rfl, rfl, rfl⟩, by show m + 1 - ((n : Int) + 1).toNat < m + 1 - (n : Int).toNat; omega⟩
theorem maxPow10 (w : World) : Calls Tryz.prog 129 #[.int .u64 10] w fun e w' => e = .returned (.tuple #[.int .u64 10000000000000000000, .int .i64 19]) ∧ w = w' := by
  have h := maxPow_any 10 1844674407370955161 19 (by decide) (by decide) (by decide) (by decide +kernel) (by decide +kernel) (by decide +kernel) (by decide +kernel) w
  rw [show (10 : Int) ^ 19 = 10000000000000000000 from by decide +kernel] at h
  exact h
theorem maxPow8 (w : World) : Calls Tryz.prog 129 #[.int .u64 8] w fun e w' => e = .returned (.tuple #[.int .u64 9223372036854775808, .int .i64 21]) ∧ w = w' := by
  have h := maxPow_any 8 2305843009213693951 21 (by decide) (by decide) (by decide) (by decide +kernel) (by decide +kernel) (by decide +kernel) (by decide +kernel) w
  rw [show (8 : Int) ^ 21 = 9223372036854775808 from by decide +kernel] at h
  exact h
def powOK (b : Int) (m : Nat) : Bool := (List.range (m + 1)).all fun i => bigall_pow.f 20000 b i == some (IntKind.u64.wrap (b ^ i))
theorem pow_ok10 : powOK 10 19 = true := by decide +kernel
theorem pow_ok8 : powOK 8 21 = true := by decide +kernel
theorem pow_ok16 : powOK 16 16 = true := by decide +kernel
theorem pow_ok2 : powOK 2 64 = true := by decide +kernel
theorem pow_of {b : Int} {m : Nat} (h : powOK b m = true) (i : Nat) (hi : i ≤ m) (w : World) : Calls Tryz.prog 131 #[.int .u64 b, .int .i64 i] w fun e w' => e = .returned (.int .u64 (IntKind.u64.wrap (b ^ i))) ∧ Drawn0 w w' := by
  have := List.all_eq_true.1 h i (List.mem_range.2 (by omega))
  exact bigall_pow.calls 20000 b i _ w (eq_of_beq this)
end Go.Proofs.YtnhonclncjgjoaaGreatDoor

namespace Go.Proofs.YtnhonclncjgjoaaGreatDoor
open Go Go.RowKit Go.Proofs.YtnhonclncjgjoaaGreatDoorW.PrintWords
set_option linter.unusedVariables false
set_option linter.unusedSimpArgs false

def digOK (c : Nat) : Bool := decide ((48 ≤ c ∧ c ≤ 57 → dig36 c = c - 48) ∧ (97 ≤ c ∧ c ≤ 122 → dig36 c = c - 87) ∧ (65 ≤ c ∧ c ≤ 90 → dig36 c = c - 55) ∧ (c < 48 ∨ (57 < c ∧ c < 65) ∨ (90 < c ∧ c < 97) ∨ 122 < c → dig36 c = 99))
theorem digOK_all : (List.range 256).all digOK = true := by decide +kernel
theorem dig_all (c : Int) (h0 : 0 ≤ c) (h1 : c < 256) : (48 ≤ c ∧ c ≤ 57 → dig36 c = c - 48) ∧ (97 ≤ c ∧ c ≤ 122 → dig36 c = c - 87) ∧ (65 ≤ c ∧ c ≤ 90 → dig36 c = c - 55) ∧ (c < 48 ∨ (57 < c ∧ c < 65) ∨ (90 < c ∧ c < 97) ∨ 122 < c → dig36 c = 99) := by
  obtain ⟨n, rfl⟩ := Int.eq_ofNat_of_zero_le h0
  have := of_decide_eq_true (List.all_eq_true.1 digOK_all n (List.mem_range.2 (by omega)))
  exact ⟨fun h => this.1 (by omega), fun h => this.2.1 (by omega), fun h => this.2.2.1 (by omega), fun h => this.2.2.2 (by omega)⟩

theorem NatAt.form {w : World} {B : Nat} {v : Value} {L : Nat} {x : Int} (h : NatAt w B v L x) : ∃ A n c, v = .slice A n c := by
  obtain ⟨ws, h1, _⟩ := h
  rcases row_form h1 with ⟨rfl, _, _⟩ | ⟨g, c, rfl⟩
  · exact ⟨_, _, _, rfl⟩
  · exact ⟨_, _, _, rfl⟩
theorem NatAt.nil (w : World) (B : Nat) (A : Option Addr) (c : Nat) (h : WRow w B (.slice A 0 c) 0 []) (L : Nat) : NatAt w B (.slice A 0 c) L 0 := ⟨[], h, normal_nil, rfl, Nat.zero_le _⟩
theorem NatAt.same {w w' : World} {B : Nat} {v : Value} {L : Nat} {x : Int} (h : NatAt w B v L x) (hw : ∀ k, B ≤ k → w'.heap[k]? = w.heap[k]?) : NatAt w' B v L x := by
  obtain ⟨ws, ⟨h1, h2⟩, h3⟩ := h
  refine ⟨ws, ⟨h1, ?_⟩, h3⟩
  rcases h2 with h2 | ⟨g, cap, cur, e, hb, hg, r⟩
  · exact .inl h2
  · exact .inr ⟨g, cap, cur, e, hb, (hw g hb).trans hg, r⟩

theorem nil_eql (a : Addr) (W : World) : (binOp .eql 64 .nilIface (eofV a)).run Tryz.prog W = .ok (.bool false) W := by
  obtain ⟨d, hd⟩ : ∃ d, Op.maxDepth = d + 2 := ⟨Op.maxDepth - 2, by decide⟩
  simp [binOp, Op.equal, hd, Op.equalIn, run_underlying Tryz.underlying64, go_sem]
/-- What reading leaves: the reader's block apart all stands. -/
structure Rst (gr : Nat) (w w' : World) : Prop where
  kept : ∀ B, KeptB B gr w w'
  size : w'.heap.size = w.heap.size
theorem Rst.nat {gr : Nat} {w w' : World} (h : Rst gr w w') {B : Nat} {v : Value} {L : Nat} {x : Int} (hn : NatAt w B v L x) (hg : gr < B) : NatAt w' B v L x :=
  hn.same fun k hk => by
    by_cases hlt : k < w.heap.size
    · exact (h.kept w.heap.size).block k hlt (by omega)
    · rw [Array.getElem?_eq_none (by have := h.size; omega), Array.getElem?_eq_none (by omega)]
theorem Rst.refl (gr : Nat) (w : World) : Rst gr w w := ⟨fun B => KeptB.refl B gr w, rfl⟩
/-- The loop of scan at bases 8 and 10. -/
def SRel (b : Int) (n k0 : Nat) (s : ByteArray) (gr B : Nat) (a : Addr) (w : World) (R : Option (Int × Bool × Int × Int)) (zv fo cnt errv prev inv ch di i dp : Value) (wr : World) : Prop :=
  ∃ (k : Nat) (X D c p : Int) (j cn : Nat) (iv : Bool) (A : Option Addr) (zn zc : Nat),
    zv = .slice A zn zc ∧ fo = .bool false ∧ cnt = .int .i64 cn ∧ prev = .int .i32 p ∧ inv = .bool iv ∧ ch = .int .u8 c ∧ di = .int .u64 D ∧ i = .int .i64 j ∧ dp = .int .i64 (-1) ∧
    NextAt wr gr s a k (.int .u8 c) errv ∧ k ≤ s.size ∧ cn ≤ k ∧ j ≤ cn ∧ j < n ∧ 0 ≤ D ∧ D < b ^ j ∧ NatAt wr B (.slice A zn zc) cn X ∧ sg b ((bytesOf s).drop k) p iv cn (X * b ^ j + D) = R ∧ KeptB B gr w wr ∧ (k = k0 ∨ 0 < cn ∨ p = 95)
/-- What scan leaves. -/
def ScR (s : ByteArray) (gr B : Nat) (w : World) (F : Option Int) (e : Ending) (w' : World) : Prop :=
  ∃ A n c bb cc ev, e = .returned (.tuple #[.slice A n c, .int .i64 bb, .int .i64 cc, ev]) ∧ KeptB B gr w w' ∧ ∃ k, k ≤ s.size ∧ RdAt w' gr s k ∧
    ((F = none ∧ ∃ t v, ev = .iface t v) ∨ (F = none ∧ ev = .nilIface ∧ k < s.size) ∨ (ev = .nilIface ∧ k = s.size ∧ ∃ x, F = some x ∧ NatAt w' B (.slice A n c) 100 x))
/-- How far the loop is. -/
def posR (wr : World) (gr : Nat) : Nat := match wr.cell? ⟨gr, 1, none⟩ with | some (.int _ p) => p.toNat | _ => 0
def isNil : Value → Nat | .nilIface => 1 | _ => 0
def msr (s : ByteArray) (gr : Nat) (errv : Value) (wr : World) : Nat := 2 * (s.size + 1 - posR wr gr) + isNil errv
theorem posR_at {wr : World} {gr k : Nat} {s : ByteArray} (h : RdAt wr gr s k) : posR wr gr = k := by unfold posR; rw [h.c1]; simp
/-- A round goes on. -/
theorem msr_lt {s : ByteArray} {gr k : Nat} {a : Addr} {w w' : World} {ch ev : Value} (hk : k < s.size) (h : RdAt w gr s (k + 1)) (h' : NextAt w' gr s a (k + 1) ch ev) : msr s gr ev w' < msr s gr .nilIface w := by
  unfold msr
  rw [posR_at h]
  rcases h' with ⟨h1, _, rfl, h2⟩ | ⟨h1, _, rfl, h2⟩
  · rw [posR_at h2]; simp only [isNil]; omega
  · rw [posR_at h2]; simp only [isNil, eofV]; omega
theorem big_lt {b D d : Int} {j n : Nat} (hb : 2 ≤ b) (h0 : 0 ≤ D) (hD : D < b ^ j) (hd0 : 0 ≤ d) (hd : d < b) (hj : j < n) (hn : b ^ n < 18446744073709551616) : 0 ≤ D * b ∧ D * b + d < b ^ (j + 1) ∧ D * b + d < 18446744073709551616 := by
  have h1 : 0 ≤ D * b := Int.mul_nonneg h0 (by omega)
  have h2 : (D + 1) * b ≤ b ^ j * b := Int.mul_le_mul_of_nonneg_right (by omega) (by omega)
  rw [Int.add_mul, Int.one_mul, ← Int.pow_succ] at h2
  have h3 : b ^ (j + 1) ≤ b ^ n := pow_le (by omega) (by omega)
  generalize b ^ (j + 1) = p at *
  generalize b ^ n = q at *
  omega
/-- One figure more. -/
theorem num_step (X D d b : Int) (j : Nat) : (X * b ^ j + D) * b + d = X * b ^ (j + 1) + (D * b + d) := by
  rw [Int.add_mul, Int.pow_succ, ← Int.mul_assoc, Int.add_assoc]
/-- Behind the loop: at the text's end, or at a byte that is none of the number's. -/
def LEx (b : Int) (n k0 : Nat) (s : ByteArray) (gr B : Nat) (a : Addr) (w : World) (R : Option (Int × Bool × Int × Int)) (zv cnt errv prev inv di i dp : Value) (wr : World) : Prop :=
  ∃ (k : Nat) (X D p : Int) (j cn : Nat) (iv : Bool) (A : Option Addr) (zn zc : Nat),
    zv = .slice A zn zc ∧ cnt = .int .i64 cn ∧ prev = .int .i32 p ∧ inv = .bool iv ∧ di = .int .u64 D ∧ i = .int .i64 j ∧ dp = .int .i64 (-1) ∧
    RdAt wr gr s k ∧ k ≤ s.size ∧ cn ≤ k ∧ j ≤ cn ∧ j < n ∧ 0 ≤ D ∧ D < b ^ j ∧ NatAt wr B (.slice A zn zc) cn X ∧ KeptB B gr w wr ∧
    ((errv = eofV a ∧ k = s.size ∧ R = some (p, iv, (cn : Int), X * b ^ j + D) ∧ (k = k0 ∨ 0 < cn ∨ p = 95)) ∨ (errv = .nilIface ∧ k < s.size ∧ R = none))
/-- The base behind the reading of a byte. -/
theorem base_of {gr B : Nat} {a : Addr} {w wr : World} {ti : TypeId} {vi : Value} {tn : TypeId} {vn : Value} (hE : Errs w a ti vi tn vn) (hK : KeptB B gr w wr) (hl : 1 < B ∧ 3 < B ∧ 4 < B) (hn : 1 ≠ gr ∧ 3 ≠ gr ∧ 4 ≠ gr) : Errs wr a ti vi tn vn :=
  hE.kept hK (fun _ => trivial) hl hn
theorem NatAt.drewN {w : World} {B : Nat} {v : Value} {L : Nat} {x : Int} (h : NatAt w B v L x) (n : Nat) : NatAt (w.drewN n) B v L x := h.same fun k _ => by rw [drewN_heap]
theorem sgF_bad {p : Int} {iv : Bool} {cnt n : Int} (h : (iv || p == 95) = true) : sgF (some (p, iv, cnt, n)) = none := by unfold sgF; simp only [h, Bool.true_or, if_true]
theorem sgF_zero {p : Int} {iv : Bool} {cnt n : Int} (h : cnt = 0) : sgF (some (p, iv, cnt, n)) = none := by subst h; unfold sgF; simp
theorem sgF_ok {p : Int} {iv : Bool} {cnt n : Int} (h : (iv || p == 95) = false) (h0 : cnt ≠ 0) : sgF (some (p, iv, cnt, n)) = some n := by
  unfold sgF
  have : (cnt == 0) = false := by rw [beq_eq_false_iff_ne]; exact h0
  simp only [h, this, Bool.or_false]
  rfl
/-- The end of scan: an error. -/
theorem ScR.err {s : ByteArray} {gr B : Nat} {w W : World} {F : Option Int} {A : Option Addr} {n c k : Nat} {bb cc : Int} {t : TypeId} {v : Value} (hF : F = none) (hK : KeptB B gr w W) (hk : k ≤ s.size) (hR : RdAt W gr s k) :
    ScR s gr B w F (.returned (.tuple #[.slice A n c, .int .i64 bb, .int .i64 cc, .iface t v])) W := ⟨A, n, c, bb, cc, _, rfl, hK, k, hk, hR, .inl ⟨hF, t, v, rfl⟩⟩
/-- How the loop ended. -/
def ExT (s : ByteArray) (a : Addr) (k0 k : Nat) (p : Int) (iv : Bool) (cn : Nat) (N : Int) (R : Option (Int × Bool × Int × Int)) (errv : Value) : Prop :=
  (errv = eofV a ∧ k = s.size ∧ R = some (p, iv, (cn : Int), N) ∧ (k = k0 ∨ 0 < cn ∨ p = 95)) ∨ (errv = .nilIface ∧ k < s.size ∧ R = none)
def EvT (ti : TypeId) (vi : Value) (bb : Bool) (ev : Value) : Prop := (bb = true ∧ ev = .iface ti vi) ∨ (bb = false ∧ ev = .nilIface)
theorem ExT.zero {s : ByteArray} {a : Addr} {k0 k : Nat} {p : Int} {iv : Bool} {cn : Nat} {N : Int} {R : Option (Int × Bool × Int × Int)} {errv : Value} (h : ExT s a k0 k p iv cn N R errv) (h0 : cn = 0) : sgF R = none := by
  rcases h with ⟨_, _, rfl, _⟩ | ⟨_, _, rfl⟩
  · exact sgF_zero (by omega)
  · rfl
theorem ScR.fin {s : ByteArray} {a : Addr} {k0 k : Nat} {p : Int} {iv bb : Bool} {cn : Nat} {N : Int} {R : Option (Int × Bool × Int × Int)} {errv ev : Value} {ti : TypeId} {vi : Value} {gr B : Nat} {w W : World} {A : Option Addr} {n c : Nat} {b1 b2 : Int}
    (hT : ExT s a k0 k p iv cn N R errv) (hbb : (iv || p == 95) = bb) (hev : EvT ti vi bb ev) (hc : cn ≠ 0) (hK : KeptB B gr w W) (hk : k ≤ s.size) (hR : RdAt W gr s k) (hn : NatAt W B (.slice A n c) 100 N) :
    ScR s gr B w (sgF R) (.returned (.tuple #[.slice A n c, .int .i64 b1, .int .i64 b2, ev])) W := by
  rcases hev with ⟨rfl, rfl⟩ | ⟨rfl, rfl⟩
  · refine ScR.err ?_ hK hk hR
    rcases hT with ⟨_, _, rfl, _⟩ | ⟨_, _, rfl⟩
    · exact sgF_bad hbb
    · rfl
  · rcases hT with ⟨_, hks, rfl, _⟩ | ⟨_, hlt, rfl⟩
    · exact ⟨A, n, c, _, _, _, rfl, hK, k, hk, hR, .inr (.inr ⟨rfl, hks, N, sgF_ok hbb (by omega), hn⟩)⟩
    · exact ⟨A, n, c, _, _, _, rfl, hK, k, hk, hR, .inr (.inl ⟨rfl, rfl, hlt⟩)⟩
theorem ScR.oct {s : ByteArray} {a : Addr} {k0 k : Nat} {p : Int} {iv bb : Bool} {cn : Nat} {N : Int} {R : Option (Int × Bool × Int × Int)} {errv ev : Value} {ti : TypeId} {vi : Value} {gr B : Nat} {w W : World} {A : Option Addr} {n c : Nat} {b1 b2 : Int}
    (hT : ExT s a k0 k p iv cn N R errv) (hbb : (iv || p == 95) = bb) (hev : EvT ti vi bb ev) (hc : cn = 0) (hk0 : k0 < s.size) (hK : KeptB B gr w W) (hk : k ≤ s.size) (hR : RdAt W gr s k) :
    ScR s gr B w (sgF R) (.returned (.tuple #[.slice A n c, .int .i64 b1, .int .i64 b2, ev])) W := by
  have hz := hT.zero hc
  rcases hev with ⟨rfl, rfl⟩ | ⟨rfl, rfl⟩
  · exact ScR.err hz hK hk hR
  · rcases hT with ⟨_, hks, rfl, h⟩ | ⟨_, hlt, rfl⟩
    · exfalso
      rcases h with h | h | h
      · omega
      · omega
      · subst h
        simp at hbb
    · exact ⟨A, n, c, _, _, _, rfl, hK, k, hk, hR, .inr (.inl ⟨rfl, rfl, hlt⟩)⟩
end Go.Proofs.YtnhonclncjgjoaaGreatDoor
