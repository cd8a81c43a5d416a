/- strconv.ParseInt at base 0 and 64 bits, of a text without a sign, over what ParseUint gives. -/
import Derived.Test.YtbcgeeaboecmgaaGreatDoorB
namespace Go.Proofs.YtbcgeeaboecmgaaGreatDoor
open Go Go.RowKit Go.Proofs.YtbcgeeaboecmgaaGreatDoorW.PrintWords
set_option linter.unusedVariables false
set_option linter.unusedSimpArgs false

set_option maxRecDepth 100000 in
set_option maxHeartbeats 2000000 in
theorem pint_ok (s : ByteArray) (h0 : 0 < s.size) (hm : (bt s 0 == 45) = false) (hp : (bt s 0 == 43) = false) (n : Int) (hn0 : 0 ≤ n) (hn1 : n < 9223372036854775808) (w : World)
    (hU : Calls Tryz.prog 232 #[.string s, .int .i64 0, .int .i64 64] w fun e w' => e = .returned (.tuple #[.int .u64 n, .nilIface]) ∧ Below w.heap.size w w') :
    Calls Tryz.prog 182 #[.string s, .int .i64 0, .int .i64 64] w fun e w' => e = .returned (.tuple #[.int .i64 n, .nilIface]) ∧ Below w.heap.size w w' := by
  have hx : ∀ h : 0 < s.size, ((s[0]'h).toNat : Int) = bt s 0 := bt_at s 0
  have q0 := eq_true (show 0 < s.size by omega)
  have hne : (s.toList.isEmpty) = false := not_empty (by omega)
  have HU := Aside0.mk hU
  clear hU
  go_enter Tryz.func182, Tryz.ntmps182
  go_wp2_with fail
  refine HU.out.mono ?_
  rintro e w1 ⟨rfl, hbel⟩
  have HB := Aside0.mk hbel
  clear hbel
  have hw : wrap64 n = n := by unfold wrap64; omega
  go_wp2
  go_ret2
  exact ⟨by first | rfl | simp [hw], HB.out⟩

set_option maxRecDepth 100000 in
set_option maxHeartbeats 2000000 in
theorem ppint_ok (s : ByteArray) (n : Int) (w : World)
    (hU : Calls Tryz.prog 182 #[.string s, .int .i64 0, .int .i64 64] w fun e w' => e = .returned (.tuple #[.int .i64 n, .nilIface]) ∧ Below w.heap.size w w') :
    Calls Tryz.prog 133 #[.string s, .int .i64 0, .int .i64 64] w fun e w' => e = .returned (.tuple #[.int .i64 n, .nilIface]) ∧ Below w.heap.size w w' := by
  have HU := Aside0.mk hU
  clear hU
  go_enter Tryz.func133, Tryz.ntmps133
  go_wp2_with fail
  refine HU.out.mono ?_
  rintro e w1 ⟨rfl, hbel⟩
  have HB := Aside0.mk hbel
  clear hbel
  go_wp2
  go_ret2
  exact ⟨rfl, HB.out⟩

set_option maxRecDepth 100000 in
set_option maxHeartbeats 2000000 in
theorem mfl_int_ok (s : ByteArray) (n : Int) (w : World)
    (hU : Calls Tryz.prog 133 #[.string s, .int .i64 0, .int .i64 64] w fun e w' => e = .returned (.tuple #[.int .i64 n, .nilIface]) ∧ Below w.heap.size w w') :
    Calls Tryz.prog 73 #[.string s, .int .i64 5, .int .u64 0] w fun e w' => e = .returned (.iface 65 (.int .i64 n)) ∧ Below w.heap.size w w' := by
  have HU := Aside0.mk hU
  clear hU
  go_enter Tryz.func73, Tryz.ntmps73
  go_wp2_with fail
  refine HU.out.mono ?_
  rintro e w1 ⟨rfl, hbel⟩
  have HB := Aside0.mk hbel
  clear hbel
  go_wp2
  go_ret
  exact ⟨rfl, HB.out⟩
end Go.Proofs.YtbcgeeaboecmgaaGreatDoor
