/- strconv.index and contains. -/
import Derived.Test.YtlfmgidpdmmpkaaGreatDoorB
import Derived.Lib.Bytealg
namespace Go.Proofs.YtlfmgidpdmmpkaaGreatDoor
open Go Go.RowKit Go.Proofs.YtlfmgidpdmmpkaaGreatDoorW.PrintWords
set_option linter.unusedVariables false
set_option linter.unusedSimpArgs false

/-- The place of the first byte c of a list, or -1. -/
def ixL : List Int → Int → Int
  | [], _ => -1
  | b :: l, c => if b = c then 0 else if ixL l c = -1 then -1 else ixL l c + 1
def ixS (s : ByteArray) (c : Int) : Int := ixL (bytesOf s) c
theorem ixL_byte (l : List UInt8) (c : Int) (h0 : 0 ≤ c) (h1 : c ≤ 255) : Lib.indexByte l c.toNat.toUInt8 = ixL (l.map fun b => (b.toNat : Int)) c := by
  induction l with
  | nil => rfl
  | cons b l ih =>
    have hb : b.toNat < 256 := b.toNat_lt
    have hc : c.toNat.toUInt8.toNat = c.toNat := by
      rw [UInt8.toNat_ofNat']
      omega
    have he : (b == c.toNat.toUInt8) = decide ((b.toNat : Int) = c) := by
      rw [Bool.eq_iff_iff]
      simp only [beq_iff_eq, decide_eq_true_eq]
      constructor
      · intro h; subst h; omega
      · intro h; apply UInt8.toNat_inj.1; omega
    rw [List.map_cons]
    unfold Lib.indexByte ixL
    rw [ih, he]
    by_cases h : (b.toNat : Int) = c
    · rw [if_pos h, if_pos (by simpa using h)]
    · rw [if_neg h, if_neg (by simpa using h)]
      by_cases k : ixL (l.map fun b => (b.toNat : Int)) c = -1
      · rw [if_pos k, if_pos (by simpa using k)]
      · rw [if_neg k, if_neg (by simpa using k)]
theorem ixL_ge (l : List Int) (c : Int) : -1 ≤ ixL l c := by
  induction l with
  | nil => exact Int.le_refl _
  | cons b l ih =>
    unfold ixL
    split
    · decide
    · split
      · exact Int.le_refl _
      · omega
theorem ixL_lt (l : List Int) (c : Int) : ixL l c < l.length := by
  induction l with
  | nil => show (-1 : Int) < 0; decide
  | cons b l ih =>
    unfold ixL
    rw [List.length_cons]
    split
    · omega
    · split
      · omega
      · omega
theorem index_ext (s : ByteArray) (c : Int) (h0 : 0 ≤ c) (h1 : c ≤ 255) (w : World) : (callFunc 230 #[.string s, .int .u8 c]).run Tryz.prog w = .ok (.value (.int .i64 (ixS s c))) w := by
  rw [run_callFunc_extern (e := Extern.BytealgIndexByte.indexByte) Tryz.func230 (by kernel_rfl) (by kernel_rfl) (by kernel_rfl) (by kernel_rfl), Lib.run_indexByteString, ixL_byte _ _ h0 h1]
  rfl
theorem index_any (s : ByteArray) (c : Int) (h0 : 0 ≤ c) (h1 : c ≤ 255) (w : World) : Calls Tryz.prog 164 #[.string s, .int .u8 c] w fun e w' => e = .returned (.int .i64 (ixS s c)) ∧ w = w' := by
  have hx := index_ext s c h0 h1
  go_enter Tryz.func164, Tryz.ntmps164
  go_wp2
  go_ret
  exact ⟨rfl, rfl⟩
theorem contains_any (s : ByteArray) (c : Int) (h0 : 0 ≤ c) (h1 : c ≤ 255) (w : World) : Calls Tryz.prog 165 #[.string s, .int .u8 c] w fun e w' => e = .returned (.bool (ixS s c != -1)) ∧ w = w' := by
  go_enter Tryz.func165, Tryz.ntmps165
  go_wp2_with (go_at_call 164; (with_reducible refine (index_any s c h0 h1 _).mono ?_); rintro e w' ⟨rfl, rfl⟩)
  go_ret
  exact ⟨rfl, rfl⟩
end Go.Proofs.YtlfmgidpdmmpkaaGreatDoor
