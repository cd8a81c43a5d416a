/- Joined of: B Row Nat Arith. -/
import Derived.Test.YtnhonclncjgjoaaGreatDoorProg
import Derived.Test.YtnhonclncjgjoaaGreatDoorWWords
import Derived.Test.YtnhonclncjgjoaaGreatDoorWLast
import Derived.Test.YtnhonclncjgjoaaGreatDoorWTab
import Derived.Test.YtnhonclncjgjoaaGreatDoorWMore
import Derived.WalkKit
import Derived.KernelRfl
import Derived.WalkLawsBesides
import Derived.WalkSpells
import Derived.OwnWalk
import Derived.Laws.OwnMore
import Derived.Laws.CopyOwn
import Derived.LaidEql
import Derived.Test.YtnhonclncjgjoaaGreatDoorShelf
import Derived.Laws.Externs
namespace Go.Proofs.YtnhonclncjgjoaaGreatDoor
open Go Go.RowKit Go.Proofs.YtnhonclncjgjoaaGreatDoorW.PrintWords
set_option linter.unusedVariables false
set_option linter.unusedSimpArgs false

theorem drop_bytes (s : ByteArray) (k : Nat) (h : k < s.size) : (bytesOf s).drop k = bt s k :: (bytesOf s).drop (k + 1) := by
  have hl := bytesOf_length s
  rw [List.drop_eq_getElem_cons (by omega)]
  congr 1
  have := rd_bytesOf s k
  unfold rd at this
  rw [← this]
  simp [List.getD_eq_getElem?_getD, List.getElem?_eq_getElem (show k < (bytesOf s).length by omega)]

theorem drop_bytes_end (s : ByteArray) (k : Nat) (h : ¬ k < s.size) : (bytesOf s).drop k = [] := by
  have hl := bytesOf_length s
  exact List.drop_eq_nil_of_le (by omega)

theorem bytes_cell (W : World) (e : TypeId) (s : ByteArray) (hs : s.size ≤ 4096) (k : Nat) (h : k < s.size) : (Lib.bytesWorld W e s).cell? ⟨W.heap.size, k, none⟩ = some (.int .u8 (bt s k)) := by
  have hr := bytes_reads W e s (by omega)
  obtain ⟨ad, he, hc⟩ := hr.2.2 (by omega)
  injection he with he
  subst he
  have := hc k h
  rw [add_plain] at this
  rw [this]
  have h2 := rd_bytesOf s k
  unfold rd at h2
  rw [← h2]
  simp

theorem not_empty {s : ByteArray} (h : 0 < s.size) : s.toList.isEmpty = false := by
  rw [ByteArray.toList_eq]
  have h1 : s.data.toList.length = s.size := data_length s
  cases hl : s.data.toList with
  | nil => rw [hl] at h1; simp at h1; omega
  | cons a t => rfl

/-- Cells and marks of a world with one block more: of an older block, of the new one. -/
theorem ca {w : World} {o : Obj} {b i : Nat} (h : b < w.heap.size) : (w.alloc o).cell? ⟨b, i, none⟩ = w.cell? ⟨b, i, none⟩ := World.cell?_alloc_lt w o _ h
theorem cn {w : World} {c : Array Value} {t : TypeId} {b i : Nat} (h : b = w.heap.size) : (w.alloc (.cells c t)).cell? ⟨b, i, none⟩ = c[i]? := by subst h; exact World.cell?_alloc_new w c t i
theorem fa {w : World} {o : Obj} {b i : Nat} (h : b < w.heap.size) : (w.alloc o).frozen? ⟨b, i, none⟩ = w.frozen? ⟨b, i, none⟩ := World.frozen?_alloc_old w o _ (Nat.ne_of_lt h)
theorem fn {w : World} {c : Array Value} {t : TypeId} {b i : Nat} (h : b = w.heap.size) : (w.alloc (.cells c t)).frozen? ⟨b, i, none⟩ = false := by subst h; exact World.frozen?_alloc_new w c t i

def lowI (c : Int) : Int := Go.bits .or .u8 c 32
theorem lowI_nat (c : Int) (h0 : 0 ≤ c) (h1 : c < 256) : lowI c = ((c.toNat ||| 32 : Nat) : Int) := by
  unfold lowI
  have := u8_or c 32 h0 h1 (by omega) (by omega)
  rw [this]
  rfl
def lowOK (c : Nat) : Bool := decide ((c ||| 32) < 256 ∧ (48 ≤ c → c ≤ 57 → (c ||| 32) ≤ 63) ∧ (97 ≤ (c ||| 32) → (c ||| 32) ≤ 122 → ((65 ≤ c ∧ c ≤ 90 ∧ (c ||| 32) = c + 32) ∨ (97 ≤ c ∧ c ≤ 122 ∧ (c ||| 32) = c))) ∧ (65 ≤ c → c ≤ 90 → (c ||| 32) = c + 32) ∧ (97 ≤ c → c ≤ 122 → (c ||| 32) = c))
theorem lowOK_all : (List.range 256).all lowOK = true := by decide +kernel
theorem lowI_all (c : Nat) (h : c < 256) : (c ||| 32) < 256 ∧ (48 ≤ c → c ≤ 57 → (c ||| 32) ≤ 63) ∧ (97 ≤ (c ||| 32) → (c ||| 32) ≤ 122 → ((65 ≤ c ∧ c ≤ 90 ∧ (c ||| 32) = c + 32) ∨ (97 ≤ c ∧ c ≤ 122 ∧ (c ||| 32) = c))) ∧ (65 ≤ c → c ≤ 90 → (c ||| 32) = c + 32) ∧ (97 ≤ c → c ≤ 122 → (c ||| 32) = c) :=
  of_decide_eq_true (List.all_eq_true.1 lowOK_all c (List.mem_range.2 h))
theorem lowI_range (c : Int) (h0 : 0 ≤ c) (h1 : c < 256) : 0 ≤ lowI c ∧ lowI c < 256 := by
  rw [lowI_nat c h0 h1]
  have := (lowI_all c.toNat (by omega)).1
  omega
theorem lowI_dig (c : Int) (h0 : 48 ≤ c) (h1 : c ≤ 57) : lowI c ≤ 63 := by
  rw [lowI_nat c (by omega) (by omega)]
  have := (lowI_all c.toNat (by omega)).2.1 (by omega) (by omega)
  omega

theorem lower_any (c : Int) (w : World) : Calls Tryz.prog 120 #[.int .u8 c] w fun e w' => e = .returned (.int .u8 (lowI c)) ∧ w = w' := by
  go_enter Tryz.func120, Tryz.ntmps120
  go_wp2
  go_ret
  exact ⟨rfl, rfl⟩

end Go.Proofs.YtnhonclncjgjoaaGreatDoor

namespace Go.Proofs.YtnhonclncjgjoaaGreatDoor
open Go Go.RowKit Go.Proofs.YtnhonclncjgjoaaGreatDoorW.PrintWords
set_option linter.unusedVariables false
set_option linter.unusedSimpArgs false

theorem grown_below {B : Nat} {w w' : World} {row : Option Nat} (hg : w.grownBy w' row) (hB : B ≤ w.heap.size) (hr : ∀ k, row = some k → B ≤ k) : Below B w w' := (Below.refl B w).grown hg hB hr
theorem grown_trans {w w1 w' : World} {row : Option Nat} (h : w.grownBy w1 row) (k : w1.grownBy w' row) : w.grownBy w' row :=
  ⟨k.os.trans h.os, k.tape.trans h.tape, k.output.trans h.output, Nat.le_trans h.size k.size, fun i hi hn => (k.block i (Nat.lt_of_lt_of_le hi h.size) hn).trans (h.block i hi hn)⟩
theorem grown_refl (w : World) (row : Option Nat) : w.grownBy w row := ⟨rfl, rfl, rfl, Nat.le_refl _, fun _ _ _ => rfl⟩
/-- Another cut of an own row, within what it has. -/
theorem row_cut {w : World} {B : Nat} {T : TypeId} {g n c : Nat} {xs : List Value} (h : w.ownsRow B T 1 (.slice (some ⟨g, 0, none⟩) n c) n xs) (m : Nat) (hm : m ≤ c) :
    ∃ ys, w.ownsRow B T 1 (.slice (some ⟨g, 0, none⟩) m c) m ys ∧ (m ≤ n → ys = xs.take m) ∧ (n ≤ m → ys.take n = xs) := by
  obtain ⟨h1, ⟨h', _⟩ | ⟨g', cap, cur, h', hb, hg, hnc, hcm, hcs, ht⟩⟩ := h
  · simp at h'
  · simp only [Value.slice.injEq, Option.some.injEq, Addr.mk.injEq, and_true, true_and] at h'
    obtain ⟨rfl, rfl⟩ := h'
    rw [Nat.mul_one] at ht hcs h1
    refine ⟨cur.toList.take m, ⟨by rw [List.length_take, Array.length_toList]; omega, .inr ⟨g, c, cur, rfl, hb, hg, hm, hcm, by rw [Nat.mul_one]; exact hcs, by rw [Nat.mul_one]⟩⟩, ?_, ?_⟩
    · intro hle
      rw [← ht, List.take_take, Nat.min_eq_left hle]
    · intro hle
      rw [List.take_take, Nat.min_eq_left hle]
      exact ht
theorem row_lt {w : World} {B : Nat} {T : TypeId} {g n c : Nat} {xs : List Value} (h : w.ownsRow B T 1 (.slice (some ⟨g, 0, none⟩) n c) n xs) : B ≤ g ∧ g < w.heap.size ∧ n ≤ c ∧ xs.length = n := by
  have := h.lt g rfl
  refine ⟨this.1, this.2, ?_, by have := h.1; omega⟩
  obtain ⟨h1, ⟨h', _⟩ | ⟨g', cap, cur, h', hb, hg, hnc, hcm, hcs, ht⟩⟩ := h
  · simp at h'
  · simp only [Value.slice.injEq, Option.some.injEq, Addr.mk.injEq, and_true, true_and] at h'
    obtain ⟨rfl, rfl⟩ := h'
    exact hnc
/-- The form of an own row. -/
theorem row_form {w : World} {B : Nat} {T : TypeId} {v : Value} {n : Nat} {xs : List Value} (h : w.ownsRow B T 1 v n xs) : (v = .slice none 0 0 ∧ n = 0 ∧ xs = []) ∨ ∃ g c, v = .slice (some ⟨g, 0, none⟩) n c := by
  obtain ⟨h1, ⟨rfl, rfl⟩ | ⟨g', cap, cur, rfl, hb, hg, hnc, hcm, hcs, ht⟩⟩ := h
  · exact .inl ⟨rfl, rfl, List.eq_nil_of_length_eq_zero (by simpa using h1)⟩
  · exact .inr ⟨_, _, rfl⟩
end Go.Proofs.YtnhonclncjgjoaaGreatDoor

namespace Go.Proofs.YtnhonclncjgjoaaGreatDoor
open Go Go.RowKit Go.Proofs.YtnhonclncjgjoaaGreatDoorW.PrintWords
set_option linter.unusedVariables false
set_option linter.unusedSimpArgs false

theorem word_info : ∃ i : TypeInfo, Tryz.prog.info? 148 = some i ∧ i.zero = some (.int .u64 0) ∧ i.size = 1 ∧ i.bytes = 8 := by
  have hinfo : (Tryz.prog.info? 148).map (fun i => (i.zero, i.size, i.bytes)) = some (some (.int .u64 0), 1, 8) := by kernel_rfl
  obtain ⟨i, h, h0, h1, h2⟩ := info_parts hinfo
  exact ⟨i, h, h0, h1, h2⟩
/-- What makeSlice lays: a row of zeros. -/
theorem mk_run (l c : Nat) (hl : l ≤ c) (hc : c ≤ 100000) (w : World) :
    (Instr.makeSlice 94 (.int .i64 l) (.int .i64 c)).run Tryz.prog w = .ok (.slice (some ⟨w.heap.size, 0, none⟩) l c) (w.alloc (.cells (Array.replicate c (.int .u64 0)) 148)) := by
  obtain ⟨i, hi, hz, hs, hb⟩ := word_info
  have h := run_make (P := Tryz.prog) w 94 148 i (.int .u64 0) Tryz.underlying94 hi hz .i64 .i64 l c (by omega) (by omega) (by rw [hb]; omega) (by omega)
  rw [h, hs]
  have e : madeCells (Value.int .u64 0).cells ((c : Int).toNat * 1) = Array.replicate c (.int .u64 0) := by
    apply Array.ext
    · simp [madeCells]
    · intro j h1 h2
      simp [madeCells, Value.cells, Nat.mod_one]
  rw [e]
  simp
theorem mk11 (w : World) : (Instr.makeSlice 94 (.int .i64 1) (.int .i64 1)).run Tryz.prog w = .ok (.slice (some ⟨w.heap.size, 0, none⟩) 1 1) (w.alloc (.cells #[.int .u64 0] 148)) := mk_run 1 1 (by decide) (by decide) w
set_option maxRecDepth 100000 in
set_option maxHeartbeats 400000 in
theorem norm0 (A : Option Addr) (c : Nat) (w : World) : Calls Tryz.prog 114 #[.slice A 0 c] w fun e w' => e = .returned (.slice A 0 c) ∧ w = w' := by
  have hc : (0 : Int) ≤ (c : Int) := by omega
  go_enter Tryz.func114, Tryz.ntmps114
  go_wp2
  go_loop [3] (fun i => i = .int .i64 0) (fun _ => 0)
  case atStart => rfl
  case round =>
    subst hrel
    go_wp2
    go_ret
    exact ⟨rfl, rfl⟩
end Go.Proofs.YtnhonclncjgjoaaGreatDoor

namespace Go.Proofs.YtnhonclncjgjoaaGreatDoor
open Go Go.RowKit Go.Proofs.YtnhonclncjgjoaaGreatDoorW.PrintWords
set_option linter.unusedVariables false
set_option linter.unusedSimpArgs false

theorem add64_ext (x y c : Nat) (hc : c ≤ 1) (w : World) :
    (callFunc 247 #[.int .u64 x, .int .u64 y, .int .u64 c]).run Tryz.prog w = .ok (.value (.tuple #[.int .u64 (((x + y + c) % 18446744073709551616 : Nat) : Int), .int .u64 (((x + y + c) / 18446744073709551616 : Nat) : Int)])) w := by
  rw [run_callFunc_extern Tryz.func247 (by kernel_rfl) (by kernel_rfl) (by kernel_rfl) (e := add64Entry) (by kernel_rfl), run_add64 x y c (by omega) (by omega) (by omega) (by omega)]
  simp only [Result.andThen]
  congr 5 <;> omega
/-- The two words of a sum. -/
def sumL (x y c : Nat) : Nat := (x + y + c) % 18446744073709551616
def sumH (x y c : Nat) : Nat := (x + y + c) / 18446744073709551616
set_option maxRecDepth 100000 in
set_option maxHeartbeats 400000 in
theorem bits_add (x y c : Nat) (hc : c ≤ 1) (w : World) :
    Calls Tryz.prog 220 #[.int .u64 x, .int .u64 y, .int .u64 c] w fun e w' => e = .returned (.tuple #[.int .u64 (sumL x y c : Nat), .int .u64 (sumH x y c : Nat)]) ∧ w = w' := by
  have ha : ∀ w, (callFunc 247 #[.int .u64 x, .int .u64 y, .int .u64 c]).run Tryz.prog w = .ok (.value (.tuple #[.int .u64 (sumL x y c : Nat), .int .u64 (sumH x y c : Nat)])) w := add64_ext x y c hc
  have HC := Aside0.mk hc
  clear hc
  go_enter Tryz.func220, Tryz.ntmps220
  go_wp2
  go_ret2
  exact ⟨rfl, rfl⟩
/-- The two words of a product and a summand. -/
def mulL (x y c : Nat) : Nat := (x * y + c) % 18446744073709551616
def mulH (x y c : Nat) : Nat := (x * y + c) / 18446744073709551616
theorem mul_words (x y c : Nat) (hx : x < 18446744073709551616) (hy : y < 18446744073709551616) (hc : c < 18446744073709551616) :
    sumL (x * y % 18446744073709551616) c 0 = mulL x y c ∧ x * y / 18446744073709551616 + sumH (x * y % 18446744073709551616) c 0 = mulH x y c ∧ mulH x y c < 18446744073709551616 := by
  have h : x * y ≤ 18446744073709551615 * 18446744073709551615 := Nat.mul_le_mul (by omega) (by omega)
  unfold sumL sumH mulL mulH
  generalize x * y = p at *
  omega
set_option maxRecDepth 100000 in
set_option maxHeartbeats 400000 in
theorem mulAddWWW (x y c : Nat) (hx : x < 18446744073709551616) (hy : y < 18446744073709551616) (hc : c < 18446744073709551616) (w : World) :
    Calls Tryz.prog 250 #[.int .u64 x, .int .u64 y, .int .u64 c] w fun e w' => e = .returned (.tuple #[.int .u64 (mulH x y c : Nat), .int .u64 (mulL x y c : Nat)]) ∧ w = w' := by
  obtain ⟨h1, h2, h3⟩ := mul_words x y c hx hy hc
  have HM := Aside0.mk (fun w => Tryz.bits_Mul x y hx hy w)
  obtain ⟨p, hp⟩ : ∃ p, x * y / 18446744073709551616 = p := ⟨_, rfl⟩
  obtain ⟨q, hq⟩ : ∃ q, x * y % 18446744073709551616 = q := ⟨_, rfl⟩
  rw [hq] at h1 h2
  rw [hp] at h2
  have hs : IntKind.u64.wrap ((p : Int) + (sumH q c 0 : Nat)) = (mulH x y c : Nat) := by
    rw [← h2, IntKind.wrap_u64]
    omega
  rw [hp, hq] at HM
  have HA := Aside0.mk (fun w => (show Calls Tryz.prog 220 #[.int .u64 q, .int .u64 c, .int .u64 0] w fun e w' => e = .returned (.tuple #[.int .u64 (mulL x y c : Nat), .int .u64 (sumH q c 0 : Nat)]) ∧ w = w' from by rw [← h1]; exact bits_add q c 0 (by decide) w))
  clear h1 h2 h3 hp hq hx hy hc
  go_enter Tryz.func250, Tryz.ntmps250
  go_wp2_with fail
  refine (HM.out _).mono ?_
  rintro e w' ⟨rfl, rfl⟩
  go_wp2_with fail
  refine (HA.out _).mono ?_
  rintro e w' ⟨rfl, rfl⟩
  go_wp2
  go_ret2
  exact ⟨rfl, rfl⟩
/-- One word by one word. -/
theorem mul_one (x : Nat) (hx : x < 18446744073709551616) : mulH x 1 0 = 0 ∧ mulL x 1 0 = x := by unfold mulH mulL; omega
end Go.Proofs.YtnhonclncjgjoaaGreatDoor
