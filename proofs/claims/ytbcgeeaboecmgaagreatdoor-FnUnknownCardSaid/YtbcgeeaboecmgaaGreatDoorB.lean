/- Small lemmas that all walks of this session share: bytes of a text, the letters made small. -/
import Derived.Test.YtbcgeeaboecmgaaGreatDoorProg
import Derived.Test.YtbcgeeaboecmgaaGreatDoorWWords
import Derived.Test.YtbcgeeaboecmgaaGreatDoorWLast
import Derived.Test.YtbcgeeaboecmgaaGreatDoorWTab
import Derived.Test.YtbcgeeaboecmgaaGreatDoorWMore
import Derived.WalkKit
import Derived.KernelRfl
import Derived.WalkLawsBesides
import Derived.WalkSpells
namespace Go.Proofs.YtbcgeeaboecmgaaGreatDoor
open Go Go.RowKit Go.Proofs.YtbcgeeaboecmgaaGreatDoorW.PrintWords
set_option linter.unusedVariables false
set_option linter.unusedSimpArgs false

theorem drop_bytes (s : ByteArray) (k : Nat) (h : k < s.size) : (bytesOf s).drop k = bt s k :: (bytesOf s).drop (k + 1) := by
  have hl := bytesOf_length s
  rw [List.drop_eq_getElem_cons (by omega)]
  congr 1
  have := rd_bytesOf s k
  unfold rd at this
  rw [← this]
  simp [List.getD_eq_getElem?_getD, List.getElem?_eq_getElem (show k < (bytesOf s).length by omega)]

theorem drop_bytes_end (s : ByteArray) (k : Nat) (h : ¬ k < s.size) : (bytesOf s).drop k = [] := by
  have hl := bytesOf_length s
  exact List.drop_eq_nil_of_le (by omega)

theorem bytes_cell (W : World) (e : TypeId) (s : ByteArray) (hs : s.size ≤ 4096) (k : Nat) (h : k < s.size) : (Lib.bytesWorld W e s).cell? ⟨W.heap.size, k, none⟩ = some (.int .u8 (bt s k)) := by
  have hr := bytes_reads W e s (by omega)
  obtain ⟨ad, he, hc⟩ := hr.2.2 (by omega)
  injection he with he
  subst he
  have := hc k h
  rw [add_plain] at this
  rw [this]
  have h2 := rd_bytesOf s k
  unfold rd at h2
  rw [← h2]
  simp

theorem not_empty {s : ByteArray} (h : 0 < s.size) : s.toList.isEmpty = false := by
  rw [ByteArray.toList_eq]
  have h1 : s.data.toList.length = s.size := data_length s
  cases hl : s.data.toList with
  | nil => rw [hl] at h1; simp at h1; omega
  | cons a t => rfl

/-- Cells and marks of a world with one block more: of an older block, of the new one. -/
theorem ca {w : World} {o : Obj} {b i : Nat} (h : b < w.heap.size) : (w.alloc o).cell? ⟨b, i, none⟩ = w.cell? ⟨b, i, none⟩ := World.cell?_alloc_lt w o _ h
theorem cn {w : World} {c : Array Value} {t : TypeId} {b i : Nat} (h : b = w.heap.size) : (w.alloc (.cells c t)).cell? ⟨b, i, none⟩ = c[i]? := by subst h; exact World.cell?_alloc_new w c t i
theorem fa {w : World} {o : Obj} {b i : Nat} (h : b < w.heap.size) : (w.alloc o).frozen? ⟨b, i, none⟩ = w.frozen? ⟨b, i, none⟩ := World.frozen?_alloc_old w o _ (Nat.ne_of_lt h)
theorem fn {w : World} {c : Array Value} {t : TypeId} {b i : Nat} (h : b = w.heap.size) : (w.alloc (.cells c t)).frozen? ⟨b, i, none⟩ = false := by subst h; exact World.frozen?_alloc_new w c t i

def lowI (c : Int) : Int := Go.bits .or .u8 c 32
theorem lowI_nat (c : Int) (h0 : 0 ≤ c) (h1 : c < 256) : lowI c = ((c.toNat ||| 32 : Nat) : Int) := by
  unfold lowI
  have := u8_or c 32 h0 h1 (by omega) (by omega)
  rw [this]
  rfl
def lowOK (c : Nat) : Bool := decide ((c ||| 32) < 256 ∧ (48 ≤ c → c ≤ 57 → (c ||| 32) ≤ 63) ∧ (97 ≤ (c ||| 32) → (c ||| 32) ≤ 122 → ((65 ≤ c ∧ c ≤ 90 ∧ (c ||| 32) = c + 32) ∨ (97 ≤ c ∧ c ≤ 122 ∧ (c ||| 32) = c))) ∧ (65 ≤ c → c ≤ 90 → (c ||| 32) = c + 32) ∧ (97 ≤ c → c ≤ 122 → (c ||| 32) = c))
theorem lowOK_all : (List.range 256).all lowOK = true := by decide +kernel
theorem lowI_all (c : Nat) (h : c < 256) : (c ||| 32) < 256 ∧ (48 ≤ c → c ≤ 57 → (c ||| 32) ≤ 63) ∧ (97 ≤ (c ||| 32) → (c ||| 32) ≤ 122 → ((65 ≤ c ∧ c ≤ 90 ∧ (c ||| 32) = c + 32) ∨ (97 ≤ c ∧ c ≤ 122 ∧ (c ||| 32) = c))) ∧ (65 ≤ c → c ≤ 90 → (c ||| 32) = c + 32) ∧ (97 ≤ c → c ≤ 122 → (c ||| 32) = c) :=
  of_decide_eq_true (List.all_eq_true.1 lowOK_all c (List.mem_range.2 h))
theorem lowI_range (c : Int) (h0 : 0 ≤ c) (h1 : c < 256) : 0 ≤ lowI c ∧ lowI c < 256 := by
  rw [lowI_nat c h0 h1]
  have := (lowI_all c.toNat (by omega)).1
  omega
theorem lowI_dig (c : Int) (h0 : 48 ≤ c) (h1 : c ≤ 57) : lowI c ≤ 63 := by
  rw [lowI_nat c (by omega) (by omega)]
  have := (lowI_all c.toNat (by omega)).2.1 (by omega) (by omega)
  omega

theorem lower_any (c : Int) (w : World) : Calls Tryz.prog 284 #[.int .u8 c] w fun e w' => e = .returned (.int .u8 (lowI c)) ∧ w = w' := by
  go_enter Tryz.func284, Tryz.ntmps284
  go_wp2
  go_ret
  exact ⟨rfl, rfl⟩

end Go.Proofs.YtbcgeeaboecmgaaGreatDoor
