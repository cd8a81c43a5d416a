/- Joined of: Told Seven Pint. -/
import Derived.Test.YtnhonclncjgjoaaGreatDoorProg
import Derived.Test.YtnhonclncjgjoaaGreatDoorB
namespace Go.Proofs.YtnhonclncjgjoaaGreatDoor
open Go Go.RowKit Go.Proofs.YtnhonclncjgjoaaGreatDoorW.PrintWords
set_option linter.unusedVariables false
set_option linter.unusedSimpArgs false

theorem infoUint : (Tryz.prog.info? 48).map (fun i => (i.zero, i.size, i.bytes)) = some (some (.int .u64 0), 1, 8) := by kernel_rfl

theorem bcell {W w1 : World} (hb : Below W.heap.size W w1) : (∀ b o, b < W.heap.size → w1.cell? ⟨b, o, none⟩ = W.cell? ⟨b, o, none⟩) ∧ (∀ b o, b < W.heap.size → w1.frozen? ⟨b, o, none⟩ = W.frozen? ⟨b, o, none⟩) :=
  ⟨fun b o h => hb.cell (p := ⟨b, o, none⟩) h, fun b o h => hb.frozen (p := ⟨b, o, none⟩) h⟩

theorem own_lower {w : World} {base base' : Nat} {e : TypeId} {size n : Nat} {v : Value} {xs : List Value} (h : w.ownsRow base e size v n xs) (hb : base' ≤ base) : w.ownsRow base' e size v n xs := by
  refine ⟨h.1, ?_⟩
  rcases h.2 with h2 | ⟨g, cap, cur, hv, hg, r⟩
  · exact .inl h2
  · exact .inr ⟨g, cap, cur, hv, by omega, r⟩

theorem bits_any (b off : Nat) (v : Value) (w : World) (hc1 : w.cell? ⟨b, off + 1, none⟩ = some v) :
    Calls Tryz.prog 71 #[.pointer (some ⟨b, off, none⟩)] w fun e w' => e = .returned v ∧ w = w' := by
  go_enter Tryz.func71, Tryz.ntmps71
  go_wp2
  go_ret
  exact ⟨rfl, rfl⟩

theorem take_snoc (ws : List Int) (k : Nat) (h : k < ws.length) : ws.take (k + 1) = ws.take k ++ [rd ws k] := by
  rw [List.take_succ_eq_append_getElem h]
  congr 2
  simp [rd, List.getD_eq_getElem?_getD, List.getElem?_eq_getElem h]

set_option maxHeartbeats 800000 in
theorem plain_any (b off : Nat) (A : Option Addr) (n c : Nat) (ws : List Int) (w : World) (hn : n ≤ 100000) (hc1 : w.cell? ⟨b, off + 1, none⟩ = some (.slice A n c)) (hr : ReadsInt w .u64 A n ws) :
    Calls Tryz.prog 45 #[.pointer (some ⟨b, off, none⟩)] w fun e w' => ∃ v, e = .returned v ∧ w'.ownsRow w.heap.size 48 1 v ws.length (nums .u64 ws) ∧ Below w.heap.size w w' := by
  have hl : ws.length ≤ n ∧ n ≤ ws.length := ⟨by have := hr.1; omega, by have := hr.1; omega⟩
  have HR := Aside0.mk hr
  clear hr
  go_enter Tryz.func45, Tryz.ntmps45
  go_wp2_with (go_at_call 71; (with_reducible refine (bits_any b off _ _ hc1).mono ?_); rintro e w' ⟨rfl, rfl⟩)
  clear hc1
  go_loopw [3, 9] (fun v i wr => ∃ k : Nat, k ≤ n ∧ i = .int .i64 k ∧ Aside0 (wr.ownsRow w.heap.size 48 1 v (ws.take k).length (nums .u64 (ws.take k))) ∧ Aside0 (Below w.heap.size w wr)) (fun _ i _ => n - (intOf i).toNat)
  case atStart => exact ⟨0, Nat.zero_le _, rfl, ⟨by simpa [nums] using own_nil w _ _ _⟩, ⟨Below.refl _ _⟩⟩
  case round =>
    obtain ⟨k, hk, rfl, HO, HB⟩ := hrel
    by_cases hlt : k < n
    · obtain ⟨ad, hA, hc⟩ := HR.out.at_ k (by omega) (by omega)
      subst hA
      have hc := pw_cell_below HB.out hc
      simp only [Int.toNat_natCast] at hc
      have ht := Aside0.mk (take_snoc ws k (by omega))
      have hle : (ws.take k).length ≤ k := by simp; omega
      go_wp2_with (at_builtin; refine print_append_num w.heap.size rfl (.tmp 13) (.tmp 15) 27 48 .u64 8 rfl Tryz.underlying27 infoUint (by decide) _ (ws.take k) (rd ws k) rfl rfl HO.out HB.out ?hb ?hl ?_; (case hb => exact HB.out.size); (case hl => omega); intro v1 w1 HO1 HB1 hg1 _; replace HO1 := Aside0.mk HO1; replace HB1 := Aside0.mk HB1; clear hg1)
      go_roundw
      case rel => exact ⟨k + 1, by omega, by go_num, ⟨by rw [ht.out]; exact HO1.out⟩, HB1⟩
      case measure => simp [intOf]; omega
    · have ht : ws.take k = ws := List.take_of_length_le (by omega)
      rw [ht] at HO
      clear ht
      go_wp2
      go_ret
      exact ⟨_, rfl, HO.out, HB.out⟩

/-- 'nat(nil).make(1)'. -/
theorem make_nil1 (w : World) : Calls Tryz.prog 110 #[.slice none 0 0, .int .i64 1] w fun e w' => e = .returned (.slice (some ⟨w.heap.size, 0, none⟩) 1 1) ∧ w.alloc (.cells #[.int .u64 0] 148) = w' := by
  have hmk : ∀ w, (Instr.makeSlice 94 (.int .i64 1) (.int .i64 1)).run Tryz.prog w = .ok (.slice (some ⟨w.heap.size, 0, none⟩) 1 1) (w.alloc (.cells #[.int .u64 0] 148)) := fun _ => by kernel_rfl
  go_enter Tryz.func110, Tryz.ntmps110
  go_wp2
  go_ret
  exact ⟨rfl, rfl⟩

theorem setWord_nil (x : Int) (h : (x == 0) = false) (w : World) : Calls Tryz.prog 96 #[.slice none 0 0, .int .u64 x] w fun e w' => e = .returned (.slice (some ⟨w.heap.size, 0, none⟩) 1 1) ∧ w.alloc (.cells #[.int .u64 x] 148) = w' := by
  go_enter Tryz.func96, Tryz.ntmps96
  go_wp2_with (go_at_call 110; (with_reducible refine (make_nil1 _).mono ?_); rintro e w' ⟨rfl, rfl⟩)
  go_ret
  exact ⟨rfl, rfl⟩
theorem setWord_nil0 (w : World) : Calls Tryz.prog 96 #[.slice none 0 0, .int .u64 0] w fun e w' => e = .returned (.slice none 0 0) ∧ w = w' := by
  go_enter Tryz.func96, Tryz.ntmps96
  go_wp2
  go_ret
  exact ⟨rfl, rfl⟩
theorem setUint64_nil (x : Int) (h : (x == 0) = false) (h0 : 0 ≤ x) (h1 : x ≤ 18446744073709551615) (w : World) : Calls Tryz.prog 70 #[.slice none 0 0, .int .u64 x] w fun e w' => e = .returned (.slice (some ⟨w.heap.size, 0, none⟩) 1 1) ∧ w.alloc (.cells #[.int .u64 x] 148) = w' := by
  have hxx : (x == x) = true := beq_self_eq_true x
  go_enter Tryz.func70, Tryz.ntmps70
  go_wp2_with (go_at_call 96; (with_reducible refine (setWord_nil x h _).mono ?_); rintro e w' ⟨rfl, rfl⟩)
  go_ret
  exact ⟨rfl, rfl⟩
theorem setUint64_nil0 (w : World) : Calls Tryz.prog 70 #[.slice none 0 0, .int .u64 0] w fun e w' => e = .returned (.slice none 0 0) ∧ w = w' := by
  go_enter Tryz.func70, Tryz.ntmps70
  go_wp2_with (go_at_call 96; (with_reducible refine (setWord_nil0 _).mono ?_); rintro e w' ⟨rfl, rfl⟩)
  go_ret
  exact ⟨rfl, rfl⟩

theorem setInt64_pos (b : Nat) (n : Int) (h0 : 0 < n) (h1 : n ≤ 9223372036854775807) (w : World) (c0 : w.cell? ⟨b, 0, none⟩ = some (.bool false)) (c1 : w.cell? ⟨b, 1, none⟩ = some (.slice none 0 0)) (z0 : w.frozen? ⟨b, 0, none⟩ = false) (z1 : w.frozen? ⟨b, 1, none⟩ = false) (hb : b < w.heap.size) :
    Calls Tryz.prog 43 #[.pointer (some ⟨b, 0, none⟩), .int .i64 n] w fun e w' => e = .returned (.pointer (some ⟨b, 0, none⟩)) ∧ ((w.setCell ⟨b, 1, none⟩ (.slice (some ⟨w.heap.size, 0, none⟩) 1 1)).setCell ⟨b, 0, none⟩ (.bool false)).alloc (.cells #[.int .u64 n] 148) = w' := by
  have hn : (n == 0) = false := beq_eq_false_iff_ne.mpr (by omega)
  go_enter Tryz.func43, Tryz.ntmps43
  go_wp2_with (go_at_call 70; (with_reducible refine (setUint64_nil n hn (by omega) (by omega) _).mono ?_); rintro e w' ⟨rfl, rfl⟩)
  go_ret
  exact ⟨rfl, rfl⟩
theorem setInt64_zero (b : Nat) (w : World) (c0 : w.cell? ⟨b, 0, none⟩ = some (.bool false)) (c1 : w.cell? ⟨b, 1, none⟩ = some (.slice none 0 0)) (z0 : w.frozen? ⟨b, 0, none⟩ = false) (z1 : w.frozen? ⟨b, 1, none⟩ = false) :
    Calls Tryz.prog 43 #[.pointer (some ⟨b, 0, none⟩), .int .i64 0] w fun e w' => e = .returned (.pointer (some ⟨b, 0, none⟩)) ∧ (w.setCell ⟨b, 1, none⟩ (.slice none 0 0)).setCell ⟨b, 0, none⟩ (.bool false) = w' := by
  go_enter Tryz.func43, Tryz.ntmps43
  go_wp2_with (go_at_call 70; (with_reducible refine (setUint64_nil0 _).mono ?_); rintro e w' ⟨rfl, rfl⟩)
  go_ret
  exact ⟨rfl, rfl⟩

def sgn (neg : Bool) (n : Nat) : Int := if n = 0 then 0 else if neg then -1 else 1
theorem sign_any (b off : Nat) (neg : Bool) (A : Option Addr) (n c : Nat) (w : World) (hc0 : w.cell? ⟨b, off, none⟩ = some (.bool neg)) (hc1 : w.cell? ⟨b, off + 1, none⟩ = some (.slice A n c)) :
    Calls Tryz.prog 69 #[.pointer (some ⟨b, off, none⟩)] w fun e w' => e = .returned (.int .i64 (sgn neg n)) ∧ w = w' := by
  by_cases hn : n = 0
  · subst hn
    go_enter Tryz.func69, Tryz.ntmps69
    go_wp2
    go_ret
    exact ⟨rfl, rfl⟩
  · have hn' : ((n : Int) == 0) = false := beq_eq_false_iff_ne.mpr (by omega)
    have hs : sgn neg n = if neg then -1 else 1 := by unfold sgn; rw [if_neg hn]
    rw [hs]
    clear hs hn
    cases neg
    all_goals
      go_enter Tryz.func69, Tryz.ntmps69
      go_wp2
      go_ret
      exact ⟨rfl, rfl⟩
def below0 (neg : Bool) (n : Nat) : Bool := decide (sgn neg n < 0)

set_option maxHeartbeats 800000 in
theorem number_any (b off : Nat) (neg : Bool) (A : Option Addr) (n c : Nat) (ws : List Int) (w : World) (hn : n ≤ 100000) (hc0 : w.cell? ⟨b, off, none⟩ = some (.bool neg)) (hc1 : w.cell? ⟨b, off + 1, none⟩ = some (.slice A n c)) (hr : ReadsInt w .u64 A n ws) :
    Calls Tryz.prog 42 #[.pointer (some ⟨b, off, none⟩)] w fun e w' => ∃ v, e = .returned (.agg #[.bool (below0 neg n), v]) ∧ w'.ownsRow w.heap.size 48 1 v ws.length (nums .u64 ws) ∧ Below w.heap.size w w' := by
  obtain ⟨q, hq⟩ : ∃ q, sgn neg n = q := ⟨_, rfl⟩
  have hq2 : below0 neg n = decide (q < 0) := by unfold below0; rw [hq]
  rw [hq2]
  clear hq2
  have hs := fun w h0 h1 => hq ▸ sign_any b off neg A n c w h0 h1
  clear hq
  have HR := Aside0.mk hr
  clear hr
  have hb : b < w.heap.size := World.block_lt_of_cell? w _ hc0
  go_enter Tryz.func42, Tryz.ntmps42
  go_wp2_with (go_at_call 69; (with_reducible refine (hs _ (by first | exact hc0 | exact (World.cell?_alloc_lt w _ _ hb).trans hc0) (by first | exact hc1 | exact (World.cell?_alloc_lt w _ _ hb).trans hc1)).mono ?_); rintro e w' ⟨rfl, rfl⟩)
  refine (plain_any b off A n c ws _ hn ((World.cell?_alloc_lt w _ _ hb).trans hc1) (HR.out.below ((Below.refl _ _).alloc (Nat.le_refl _) _))).mono ?_
  rintro e w1 ⟨v, rfl, hown, hbel⟩
  have HO := Aside0.mk hown
  have HB := Aside0.mk hbel
  obtain ⟨hcl, hfr⟩ := bcell hbel
  have hz := hbel.size
  simp only [World.size_alloc] at hz
  clear hown hbel
  obtain ⟨A1, c1, hv⟩ : ∃ A1 c1, v = .slice A1 ws.length c1 := own_slice HO.out
  rw [hv]
  rw [hv] at HO
  go_wp2
  refine bodyPost_ret (v := .agg #[.bool (decide (q < 0)), .slice A1 ws.length c1]) (by simp [results, Tryz.results42, go_sem, hcl, hz]) rfl ⟨_, rfl, ?_, ?_⟩
  · exact own_lower (ownsRow_setCell_below (ownsRow_setCell_below HO.out (by simp) _) (by simp) _) (by simp)
  · exact ((((Below.refl _ _).alloc (Nat.le_refl _) _).trans (HB.out.mono (by simp))).setCell (by simp) _).setCell (by simp) _

/-- The value that 'told' hands back of an integer. -/
def toldInt (neg : Bool) (v : Value) : Value := .agg #[.int .i64 3, .bool false, .string ⟨#[]⟩, .bool neg, v, .slice none 0 0, .bool false, .slice none 0 0, .slice none 0 0]
def toldUnknown : Value := .agg #[.int .i64 0, .bool false, .string ⟨#[]⟩, .bool false, .slice none 0 0, .slice none 0 0, .bool false, .slice none 0 0, .slice none 0 0]


set_option maxRecDepth 100000 in
theorem val_int64 (n : Int) (w : World) : Calls Tryz.prog 41 #[.iface 67 (.int .i64 n)] w fun e w' => e = .returned (.iface 2 (.int .i64 n)) ∧ w = w' := by
  have ta1 : ∀ w, (Instr.typeAssert (.iface 67 (.int .i64 n)) 46 88 true).run Tryz.prog w = .ok (.tuple #[.bool false, .bool false]) w := fun _ => by kernel_rfl
  have ta2 : ∀ w, (Instr.typeAssert (.iface 67 (.int .i64 n)) 46 89 true).run Tryz.prog w = .ok (.tuple #[.pointer none, .bool false]) w := fun _ => by kernel_rfl
  have ta3 : ∀ w, (Instr.typeAssert (.iface 67 (.int .i64 n)) 46 67 true).run Tryz.prog w = .ok (.tuple #[.int .i64 n, .bool true]) w := fun _ => by kernel_rfl
  go_enter Tryz.func41, Tryz.ntmps41
  go_wp2
  go_ret
  exact ⟨rfl, rfl⟩

set_option maxRecDepth 100000 in
theorem told_unknown (w : World) : Calls Tryz.prog 12 #[.iface 82 (.agg #[])] w fun e w' => e = .returned toldUnknown ∧ Below w.heap.size w w' := by
  have hm : ∀ w, (method 444 82 (.agg #[]) "Kind").run Tryz.prog w = .ok (298, .agg #[]) w := fun _ => by kernel_rfl
  go_enter Tryz.func12, Tryz.ntmps12
  go_wp2
  refine bodyPost_ret (v := toldUnknown) (by simp [toldUnknown, results, Tryz.results12, go_sem]) rfl ⟨rfl, ?_⟩
  exact below_alloc (below_alloc (below_alloc (below_alloc (Below.refl _ _) _) _) _) _

theorem reads_one (W : World) (g : Nat) (x : Int) (h : W.cell? ⟨g, 0, none⟩ = some (.int .u64 x)) : ReadsInt W .u64 (some ⟨g, 0, none⟩) 1 [x] := by
  refine ⟨rfl, by omega, fun _ => ⟨_, rfl, fun j hj => ?_⟩⟩
  obtain rfl : j = 0 := by omega
  simpa [Addr.add] using h

/-- What 'parts' hands back of an int64 that is not below 0, in one shape for 0 and for others. -/
def wordList (n : Int) : List Int := if n = 0 then [] else [n]

set_option maxRecDepth 100000 in
set_option maxHeartbeats 1000000 in
theorem parts_int64 (n : Int) (h0 : 0 ≤ n) (h1 : n ≤ 9223372036854775807) (w : World) :
    Calls Tryz.prog 23 #[.iface 67 (.int .i64 n)] w fun e w' => ∃ v d, e = .returned (.tuple #[.agg #[.bool false, v], d]) ∧ w'.ownsRow w.heap.size 48 1 v (wordList n).length (nums .u64 (wordList n)) ∧ Below w.heap.size w w' := by
  have ta1 : ∀ w, (Instr.typeAssert (.iface 2 (.int .i64 n)) 20 2 true).run Tryz.prog w = .ok (.tuple #[.int .i64 n, .bool true]) w := fun _ => by kernel_rfl
  by_cases hn : n = 0
  · subst hn
    go_enter Tryz.func23, Tryz.ntmps23
    go_wp2_with (first | (go_at_call 41; (with_reducible refine (val_int64 0 _).mono ?_); rintro e w' ⟨rfl, rfl⟩) | (go_at_call 43; (with_reducible refine (setInt64_zero _ _ (by simp) (by simp) (by simp) (by simp)).mono ?_); rintro e w' ⟨rfl, rfl⟩))
    refine (number_any (w.heap.size + 1) 0 false none 0 0 [] _ (by omega) (by simp) (by simp) ⟨rfl, by omega, fun h => absurd h (by omega)⟩).mono ?_
    rintro e w1 ⟨v, rfl, hown, hbel⟩
    have HO := Aside0.mk hown
    have HB := Aside0.mk hbel
    have hz := hbel.size
    simp only [World.size_alloc] at hz
    have e0 : w1.cell? ⟨w.heap.size, 0, none⟩ = some (.bool false) := (hbel.cell (by simp only [World.size_alloc]; omega)).trans (by simp [World.cell?_alloc_old])
    have e1 : w1.cell? ⟨w.heap.size, 1, none⟩ = some (.slice none 0 0) := (hbel.cell (by simp only [World.size_alloc]; omega)).trans (by simp [World.cell?_alloc_old])
    have f0 : w1.frozen? ⟨w.heap.size, 0, none⟩ = false := (hbel.frozen (by simp only [World.size_alloc]; omega)).trans (by simp [World.frozen?_alloc_old])
    have f1 : w1.frozen? ⟨w.heap.size, 1, none⟩ = false := (hbel.frozen (by simp only [World.size_alloc]; omega)).trans (by simp [World.frozen?_alloc_old])
    clear hown hbel
    obtain ⟨A1, c1, hv⟩ : ∃ A1 c1, v = .slice A1 (([] : List Int)).length c1 := own_slice HO.out
    rw [hv]
    rw [hv] at HO
    clear hv
    have hne : w.heap.size ≠ w1.heap.size := by omega
    have hlt : w.heap.size < w1.heap.size := by omega
    go_wp2
    refine bodyPost_ret (v := .tuple #[.agg #[.bool false, .slice A1 (([] : List Int)).length c1], .slice (some ⟨w1.heap.size, 0, none⟩) 1 1]) (by simp [results, Tryz.results23, go_sem, e0, e1, hz, below0, sgn, World.cell?_alloc_old, hne]) rfl ⟨_, _, rfl, ?_, ?_⟩
    · exact (own_lower (ownsRow_setCell_below (ownsRow_setCell_below HO.out (by simp only [World.size_alloc]; omega) _) (by simp only [World.size_alloc]; omega) _) (by simp only [World.size_alloc]; omega)).alloc _
    · exact below_alloc ((((Below.refl _ _).alloc (Nat.le_refl _) _).alloc (by simp) _).trans (HB.out.mono (by simp only [World.size_alloc]; omega)) |>.setCell (by simp) _ |>.setCell (by simp) _) _
  · have hw1 : wordList n = [n] := by unfold wordList; rw [if_neg hn]
    go_enter Tryz.func23, Tryz.ntmps23
    go_wp2_with (first | (go_at_call 41; (with_reducible refine (val_int64 n _).mono ?_); rintro e w' ⟨rfl, rfl⟩) | (go_at_call 43; (with_reducible refine (setInt64_pos _ n (by omega) h1 _ (by simp) (by simp) (by simp) (by simp) (by simp)).mono ?_); rintro e w' ⟨rfl, rfl⟩))
    refine (number_any (w.heap.size + 1) 0 false (some ⟨w.heap.size + 1 + 1, 0, none⟩) 1 1 [n] _ (by omega) ?_ ?_ ?_).mono ?_
    · exact (ca (by simp only [World.size_alloc]; omega)).trans (cn (by simp))
    · exact (ca (by simp only [World.size_alloc]; omega)).trans (cn (by simp))
    · exact reads_one _ _ _ (cn (by simp))
    rintro e w1 ⟨v, rfl, hown, hbel⟩
    have HO := Aside0.mk hown
    have HB := Aside0.mk hbel
    have hz := hbel.size
    simp only [World.size_alloc] at hz
    have e0 : w1.cell? ⟨w.heap.size, 0, none⟩ = some (.bool false) := (hbel.cell (by simp only [World.size_alloc]; omega)).trans ((ca (by simp only [World.size_alloc]; omega)).trans ((ca (by simp only [World.size_alloc]; omega)).trans (cn rfl)))
    have e1 : w1.cell? ⟨w.heap.size, 1, none⟩ = some (.slice none 0 0) := (hbel.cell (by simp only [World.size_alloc]; omega)).trans ((ca (by simp only [World.size_alloc]; omega)).trans ((ca (by simp only [World.size_alloc]; omega)).trans (cn rfl)))
    have f0 : w1.frozen? ⟨w.heap.size, 0, none⟩ = false := (hbel.frozen (by simp only [World.size_alloc]; omega)).trans ((fa (by simp only [World.size_alloc]; omega)).trans ((fa (by simp only [World.size_alloc]; omega)).trans (fn rfl)))
    have f1 : w1.frozen? ⟨w.heap.size, 1, none⟩ = false := (hbel.frozen (by simp only [World.size_alloc]; omega)).trans ((fa (by simp only [World.size_alloc]; omega)).trans ((fa (by simp only [World.size_alloc]; omega)).trans (fn rfl)))
    clear hown hbel
    obtain ⟨A1, c1, hv⟩ : ∃ A1 c1, v = .slice A1 (([n] : List Int)).length c1 := own_slice HO.out
    rw [hv]
    rw [hv] at HO
    clear hv
    have hne : w.heap.size ≠ w1.heap.size := by omega
    have hlt : w.heap.size < w1.heap.size := by omega
    go_wp2
    refine bodyPost_ret (v := .tuple #[.agg #[.bool false, .slice A1 (([n] : List Int)).length c1], .slice (some ⟨w1.heap.size, 0, none⟩) 1 1]) (by simp [results, Tryz.results23, go_sem, e0, e1, hz, below0, sgn, World.cell?_alloc_old, hne]) rfl ⟨_, _, rfl, ?_, ?_⟩
    · rw [hw1]
      exact (own_lower (ownsRow_setCell_below (ownsRow_setCell_below HO.out (by simp only [World.size_alloc]; omega) _) (by simp only [World.size_alloc]; omega) _) (by simp only [World.size_alloc]; omega)).alloc _
    · exact below_alloc (((((Below.refl _ _).alloc (Nat.le_refl _) _).alloc (by simp) _).alloc (by simp only [World.size_alloc]; omega) _).trans (HB.out.mono (by simp only [World.size_alloc]; omega)) |>.setCell (by simp) _ |>.setCell (by simp) _) _

set_option maxRecDepth 100000 in
set_option maxHeartbeats 1000000 in
theorem told_int64 (n : Int) (h0 : 0 ≤ n) (h1 : n ≤ 9223372036854775807) (w : World) :
    Calls Tryz.prog 12 #[.iface 67 (.int .i64 n)] w fun e w' => ∃ v, e = .returned (toldInt false v) ∧ w'.ownsRow w.heap.size 48 1 v (wordList n).length (nums .u64 (wordList n)) ∧ Below w.heap.size w w' := by
  have hm : ∀ w, (method 444 67 (.int .i64 n) "Kind").run Tryz.prog w = .ok (288, .int .i64 n) w := fun _ => by kernel_rfl
  go_enter Tryz.func12, Tryz.ntmps12
  go_wp2_with (first | (go_at_call 288; go_in))
  refine (parts_int64 n h0 h1 _).mono ?_
  rintro e w1 ⟨v, d, rfl, hown, hbel⟩
  have HO := Aside0.mk hown
  have HB := Aside0.mk hbel
  have hz := hbel.size
  simp only [World.size_alloc] at hz
  have e0 : ∀ i, w1.cell? ⟨w.heap.size, i, none⟩ = (#[.int .i64 0, .bool false, .string { data := #[] }, .bool false, .slice none 0 0, .slice none 0 0, .bool false, .slice none 0 0, .slice none 0 0] : Array Value)[i]? := fun i => (hbel.cell (p := ⟨w.heap.size, i, none⟩) (by simp only [World.size_alloc]; omega)).trans ((ca (by simp only [World.size_alloc]; omega)).trans (cn rfl))
  have e1 : ∀ i, w1.cell? ⟨w.heap.size + 1, i, none⟩ = (#[.int .i64 3, .bool false, .string { data := #[] }, .bool false, .slice none 0 0, .slice none 0 0, .bool false, .slice none 0 0, .slice none 0 0] : Array Value)[i]? := fun i => (hbel.cell (p := ⟨w.heap.size + 1, i, none⟩) (by simp only [World.size_alloc]; omega)).trans (cn (by simp))
  have f0 : ∀ i, w1.frozen? ⟨w.heap.size, i, none⟩ = false := fun i => (hbel.frozen (p := ⟨w.heap.size, i, none⟩) (by simp only [World.size_alloc]; omega)).trans ((fa (by simp only [World.size_alloc]; omega)).trans (fn rfl))
  have f1 : ∀ i, w1.frozen? ⟨w.heap.size + 1, i, none⟩ = false := fun i => (hbel.frozen (p := ⟨w.heap.size + 1, i, none⟩) (by simp only [World.size_alloc]; omega)).trans (fn (by simp))
  clear hown hbel
  obtain ⟨A1, c1, hv⟩ : ∃ A1 c1, v = .slice A1 (wordList n).length c1 := own_slice HO.out
  rw [hv]
  rw [hv] at HO
  clear hv
  go_wp2
  refine bodyPost_ret (v := toldInt false (.slice A1 (wordList n).length c1)) (by simp [toldInt, results, Tryz.results12, go_sem, e0, e1]) rfl ⟨_, rfl, ?_, ?_⟩
  · have HO2 := HO.out
    simp only [World.size_alloc] at HO2
    refine own_lower (base := w.heap.size + 1 + 1) ?_ (by omega)
    repeat refine ownsRow_setCell_below ?_ (by simp only []; omega) _
    exact HO2
  · repeat refine Below.setCell ?_ (by simp only []; omega) _
    exact (below_alloc (below_alloc (Below.refl _ _) _) _).trans (HB.out.mono (by simp only [World.size_alloc]; omega))
end Go.Proofs.YtnhonclncjgjoaaGreatDoor

namespace Go.Proofs.YtnhonclncjgjoaaGreatDoor
open Go Go.RowKit Go.Proofs.YtnhonclncjgjoaaGreatDoorW.PrintWords
set_option linter.unusedVariables false
set_option linter.unusedSimpArgs false

def seven : ByteArray := { data := #[55] }
set_option maxRecDepth 100000 in
set_option maxHeartbeats 2000000 in
theorem seven_pu (w : World) : Calls Tryz.prog 77 #[.string seven, .int .i64 0, .int .i64 64] w fun e w' => e = .returned (.tuple #[.int .u64 7, .nilIface]) ∧ Below w.heap.size w w' := by
  obtain ⟨s, hs7⟩ : ∃ s, seven = s := ⟨_, rfl⟩
  have hb7 : bt s 0 = 55 := by rw [← hs7]; rfl
  have hz : s.size = 1 := by rw [← hs7]; rfl
  rw [hs7]
  have kb := fun W => print_bytes (P := Tryz.prog) 9 191 5 Tryz.underlying9 Tryz.underlying191 Tryz.underlying5 s W
  have hx : ∀ h : 0 < s.size, ((s[0]'h).toNat : Int) = 55 := fun h => (bt_at s 0 h).trans hb7
  have q0 := eq_true (show 0 < s.size by omega)
  have hne : (s.toList.isEmpty) = false := not_empty (by omega)
  have HZ := Aside0.mk hz
  have HB7 := Aside0.mk hb7
  clear hs7 hz hb7
  go_enter Tryz.func77, Tryz.ntmps77
  go_wp2
  clear kb hx q0 hne
  rw [HZ.out]
  go_loop [12, 13, 101] (fun u n i => ∃ (k : Nat) (m : Int), k ≤ 1 ∧ u = .bool false ∧ n = .int .u64 m ∧ i = .int .i64 k ∧ Aside0 (m = 7 * (k : Int))) (fun _ _ i => 1 - (intOf i).toNat)
  case atStart => exact ⟨0, 0, by omega, rfl, rfl, rfl, ⟨rfl⟩⟩
  case round =>
    obtain ⟨k, m, hk, rfl, rfl, rfl, HM⟩ := hrel
    by_cases hlt : k < 1
    · have hcell : (Lib.bytesWorld w 5 s).cell? ⟨w.heap.size, k, none⟩ = some (.int .u8 55) := by
        have h0 : k = 0 := by omega
        subst h0
        have h1 := bytes_cell w 5 s (by have := HZ.out; omega) 0 (by have := HZ.out; omega)
        rw [show ((0 : Nat) : Int) = 0 by rfl, HB7.out] at h1
        exact h1
      have hm : m = 0 := by have := HM.out; omega
      subst hm
      have HK := Aside0.mk (show k = 0 by omega)
      go_wp2
      go_round
      case rel => exact ⟨k + 1, 7, by omega, rfl, rfl, by go_num, ⟨by have := HK.out; omega⟩⟩
      case measure => simp [intOf]; omega
    · have hk1 : k = 1 := by omega
      have hm : m = 7 := by have := HM.out; omega
      subst hk1 hm
      go_wp2
      go_ret2
      exact ⟨rfl, bytes_below (Below.refl _ _) (Nat.le_refl _) 5 _⟩
end Go.Proofs.YtnhonclncjgjoaaGreatDoor

namespace Go.Proofs.YtnhonclncjgjoaaGreatDoor
open Go Go.RowKit Go.Proofs.YtnhonclncjgjoaaGreatDoorW.PrintWords
set_option linter.unusedVariables false
set_option linter.unusedSimpArgs false

set_option maxRecDepth 100000 in
set_option maxHeartbeats 2000000 in
theorem pint_ok (s : ByteArray) (h0 : 0 < s.size) (hm : (bt s 0 == 45) = false) (hp : (bt s 0 == 43) = false) (n : Int) (hn0 : 0 ≤ n) (hn1 : n < 9223372036854775808) (w : World)
    (hU : Calls Tryz.prog 77 #[.string s, .int .i64 0, .int .i64 64] w fun e w' => e = .returned (.tuple #[.int .u64 n, .nilIface]) ∧ Below w.heap.size w w') :
    Calls Tryz.prog 48 #[.string s, .int .i64 0, .int .i64 64] w fun e w' => e = .returned (.tuple #[.int .i64 n, .nilIface]) ∧ Below w.heap.size w w' := by
  have hx : ∀ h : 0 < s.size, ((s[0]'h).toNat : Int) = bt s 0 := bt_at s 0
  have q0 := eq_true (show 0 < s.size by omega)
  have hne : (s.toList.isEmpty) = false := not_empty (by omega)
  have HU := Aside0.mk hU
  clear hU
  go_enter Tryz.func48, Tryz.ntmps48
  go_wp2_with fail
  refine HU.out.mono ?_
  rintro e w1 ⟨rfl, hbel⟩
  have HB := Aside0.mk hbel
  clear hbel
  have hw : wrap64 n = n := by unfold wrap64; omega
  go_wp2
  go_ret2
  exact ⟨by first | rfl | simp [hw], HB.out⟩

set_option maxRecDepth 100000 in
set_option maxHeartbeats 2000000 in
theorem ppint_ok (s : ByteArray) (n : Int) (w : World)
    (hU : Calls Tryz.prog 48 #[.string s, .int .i64 0, .int .i64 64] w fun e w' => e = .returned (.tuple #[.int .i64 n, .nilIface]) ∧ Below w.heap.size w w') :
    Calls Tryz.prog 26 #[.string s, .int .i64 0, .int .i64 64] w fun e w' => e = .returned (.tuple #[.int .i64 n, .nilIface]) ∧ Below w.heap.size w w' := by
  have HU := Aside0.mk hU
  clear hU
  go_enter Tryz.func26, Tryz.ntmps26
  go_wp2_with fail
  refine HU.out.mono ?_
  rintro e w1 ⟨rfl, hbel⟩
  have HB := Aside0.mk hbel
  clear hbel
  go_wp2
  go_ret2
  exact ⟨rfl, HB.out⟩

set_option maxRecDepth 100000 in
set_option maxHeartbeats 2000000 in
theorem mfl_int_ok (s : ByteArray) (n : Int) (w : World)
    (hU : Calls Tryz.prog 26 #[.string s, .int .i64 0, .int .i64 64] w fun e w' => e = .returned (.tuple #[.int .i64 n, .nilIface]) ∧ Below w.heap.size w w') :
    Calls Tryz.prog 13 #[.string s, .int .i64 5, .int .u64 0] w fun e w' => e = .returned (.iface 67 (.int .i64 n)) ∧ Below w.heap.size w w' := by
  have HU := Aside0.mk hU
  clear hU
  go_enter Tryz.func13, Tryz.ntmps13
  go_wp2_with fail
  refine HU.out.mono ?_
  rintro e w1 ⟨rfl, hbel⟩
  have HB := Aside0.mk hbel
  clear hbel
  go_wp2
  go_ret
  exact ⟨rfl, HB.out⟩
end Go.Proofs.YtnhonclncjgjoaaGreatDoor
