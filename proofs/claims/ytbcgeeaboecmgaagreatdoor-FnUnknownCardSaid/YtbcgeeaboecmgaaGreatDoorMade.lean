/- Joined of: Ord OrdM Mk BinR BinC Made. -/
import Derived.Test.YtbcgeeaboecmgaaGreatDoorBigP
namespace Go.Proofs.YtbcgeeaboecmgaaGreatDoor
open Go Go.RowKit Go.Proofs.YtbcgeeaboecmgaaGreatDoorW.PrintWords
set_option linter.unusedVariables false
set_option linter.unusedSimpArgs false

abbrev strU (g : Nat) : Value := .iface 91 (.pointer (some ⟨g, 0, none⟩))
abbrev unkV : Value := .iface 63 (.agg #[])
abbrev boolV (b : Bool) : Value := .iface 64 (.bool b)
abbrev i64V (n : Int) : Value := .iface 65 (.int .i64 n)
abbrev intV (g : Nat) : Value := .iface 76 (.agg #[.pointer (some ⟨g, 0, none⟩)])
abbrev cpxV (a b : Value) : Value := .iface 89 (.agg #[a, b])
theorem ta_unk_unk  : ∀ w, (Instr.typeAssert unkV 44 63 true).run Tryz.prog w = .ok (.tuple #[.agg #[], .bool true]) w := fun _ => by kernel_rfl
theorem ta_unk_bool  : ∀ w, (Instr.typeAssert unkV 44 64 true).run Tryz.prog w = .ok (.tuple #[.bool false, .bool false]) w := fun _ => by kernel_rfl
theorem ta_unk_str  : ∀ w, (Instr.typeAssert unkV 44 91 true).run Tryz.prog w = .ok (.tuple #[.pointer none, .bool false]) w := fun _ => by kernel_rfl
theorem ta_unk_i64  : ∀ w, (Instr.typeAssert unkV 44 65 true).run Tryz.prog w = .ok (.tuple #[.int .i64 0, .bool false]) w := fun _ => by kernel_rfl
theorem ta_unk_int  : ∀ w, (Instr.typeAssert unkV 44 76 true).run Tryz.prog w = .ok (.tuple #[.agg #[.pointer none], .bool false]) w := fun _ => by kernel_rfl
theorem ta_unk_rat  : ∀ w, (Instr.typeAssert unkV 44 80 true).run Tryz.prog w = .ok (.tuple #[.agg #[.pointer none], .bool false]) w := fun _ => by kernel_rfl
theorem ta_unk_flt  : ∀ w, (Instr.typeAssert unkV 44 84 true).run Tryz.prog w = .ok (.tuple #[.agg #[.pointer none], .bool false]) w := fun _ => by kernel_rfl
theorem ta_unk_cpx  : ∀ w, (Instr.typeAssert unkV 44 89 true).run Tryz.prog w = .ok (.tuple #[.agg #[.nilIface, .nilIface], .bool false]) w := fun _ => by kernel_rfl
theorem ta_bool_unk (b : Bool) : ∀ w, (Instr.typeAssert (boolV b) 44 63 true).run Tryz.prog w = .ok (.tuple #[.agg #[], .bool false]) w := fun _ => by kernel_rfl
theorem ta_bool_bool (b : Bool) : ∀ w, (Instr.typeAssert (boolV b) 44 64 true).run Tryz.prog w = .ok (.tuple #[.bool b, .bool true]) w := fun _ => by kernel_rfl
theorem ta_bool_str (b : Bool) : ∀ w, (Instr.typeAssert (boolV b) 44 91 true).run Tryz.prog w = .ok (.tuple #[.pointer none, .bool false]) w := fun _ => by kernel_rfl
theorem ta_bool_i64 (b : Bool) : ∀ w, (Instr.typeAssert (boolV b) 44 65 true).run Tryz.prog w = .ok (.tuple #[.int .i64 0, .bool false]) w := fun _ => by kernel_rfl
theorem ta_bool_int (b : Bool) : ∀ w, (Instr.typeAssert (boolV b) 44 76 true).run Tryz.prog w = .ok (.tuple #[.agg #[.pointer none], .bool false]) w := fun _ => by kernel_rfl
theorem ta_bool_rat (b : Bool) : ∀ w, (Instr.typeAssert (boolV b) 44 80 true).run Tryz.prog w = .ok (.tuple #[.agg #[.pointer none], .bool false]) w := fun _ => by kernel_rfl
theorem ta_bool_flt (b : Bool) : ∀ w, (Instr.typeAssert (boolV b) 44 84 true).run Tryz.prog w = .ok (.tuple #[.agg #[.pointer none], .bool false]) w := fun _ => by kernel_rfl
theorem ta_bool_cpx (b : Bool) : ∀ w, (Instr.typeAssert (boolV b) 44 89 true).run Tryz.prog w = .ok (.tuple #[.agg #[.nilIface, .nilIface], .bool false]) w := fun _ => by kernel_rfl
theorem ta_str_unk (g : Nat) : ∀ w, (Instr.typeAssert (strU g) 44 63 true).run Tryz.prog w = .ok (.tuple #[.agg #[], .bool false]) w := fun _ => by kernel_rfl
theorem ta_str_bool (g : Nat) : ∀ w, (Instr.typeAssert (strU g) 44 64 true).run Tryz.prog w = .ok (.tuple #[.bool false, .bool false]) w := fun _ => by kernel_rfl
theorem ta_str_str (g : Nat) : ∀ w, (Instr.typeAssert (strU g) 44 91 true).run Tryz.prog w = .ok (.tuple #[.pointer (some ⟨g, 0, none⟩), .bool true]) w := fun _ => by kernel_rfl
theorem ta_str_i64 (g : Nat) : ∀ w, (Instr.typeAssert (strU g) 44 65 true).run Tryz.prog w = .ok (.tuple #[.int .i64 0, .bool false]) w := fun _ => by kernel_rfl
theorem ta_str_int (g : Nat) : ∀ w, (Instr.typeAssert (strU g) 44 76 true).run Tryz.prog w = .ok (.tuple #[.agg #[.pointer none], .bool false]) w := fun _ => by kernel_rfl
theorem ta_str_rat (g : Nat) : ∀ w, (Instr.typeAssert (strU g) 44 80 true).run Tryz.prog w = .ok (.tuple #[.agg #[.pointer none], .bool false]) w := fun _ => by kernel_rfl
theorem ta_str_flt (g : Nat) : ∀ w, (Instr.typeAssert (strU g) 44 84 true).run Tryz.prog w = .ok (.tuple #[.agg #[.pointer none], .bool false]) w := fun _ => by kernel_rfl
theorem ta_str_cpx (g : Nat) : ∀ w, (Instr.typeAssert (strU g) 44 89 true).run Tryz.prog w = .ok (.tuple #[.agg #[.nilIface, .nilIface], .bool false]) w := fun _ => by kernel_rfl
theorem ta_i64_unk (n : Int) : ∀ w, (Instr.typeAssert (i64V n) 44 63 true).run Tryz.prog w = .ok (.tuple #[.agg #[], .bool false]) w := fun _ => by kernel_rfl
theorem ta_i64_bool (n : Int) : ∀ w, (Instr.typeAssert (i64V n) 44 64 true).run Tryz.prog w = .ok (.tuple #[.bool false, .bool false]) w := fun _ => by kernel_rfl
theorem ta_i64_str (n : Int) : ∀ w, (Instr.typeAssert (i64V n) 44 91 true).run Tryz.prog w = .ok (.tuple #[.pointer none, .bool false]) w := fun _ => by kernel_rfl
theorem ta_i64_i64 (n : Int) : ∀ w, (Instr.typeAssert (i64V n) 44 65 true).run Tryz.prog w = .ok (.tuple #[.int .i64 n, .bool true]) w := fun _ => by kernel_rfl
theorem ta_i64_int (n : Int) : ∀ w, (Instr.typeAssert (i64V n) 44 76 true).run Tryz.prog w = .ok (.tuple #[.agg #[.pointer none], .bool false]) w := fun _ => by kernel_rfl
theorem ta_i64_rat (n : Int) : ∀ w, (Instr.typeAssert (i64V n) 44 80 true).run Tryz.prog w = .ok (.tuple #[.agg #[.pointer none], .bool false]) w := fun _ => by kernel_rfl
theorem ta_i64_flt (n : Int) : ∀ w, (Instr.typeAssert (i64V n) 44 84 true).run Tryz.prog w = .ok (.tuple #[.agg #[.pointer none], .bool false]) w := fun _ => by kernel_rfl
theorem ta_i64_cpx (n : Int) : ∀ w, (Instr.typeAssert (i64V n) 44 89 true).run Tryz.prog w = .ok (.tuple #[.agg #[.nilIface, .nilIface], .bool false]) w := fun _ => by kernel_rfl
theorem ta_int_unk (g : Nat) : ∀ w, (Instr.typeAssert (intV g) 44 63 true).run Tryz.prog w = .ok (.tuple #[.agg #[], .bool false]) w := fun _ => by kernel_rfl
theorem ta_int_bool (g : Nat) : ∀ w, (Instr.typeAssert (intV g) 44 64 true).run Tryz.prog w = .ok (.tuple #[.bool false, .bool false]) w := fun _ => by kernel_rfl
theorem ta_int_str (g : Nat) : ∀ w, (Instr.typeAssert (intV g) 44 91 true).run Tryz.prog w = .ok (.tuple #[.pointer none, .bool false]) w := fun _ => by kernel_rfl
theorem ta_int_i64 (g : Nat) : ∀ w, (Instr.typeAssert (intV g) 44 65 true).run Tryz.prog w = .ok (.tuple #[.int .i64 0, .bool false]) w := fun _ => by kernel_rfl
theorem ta_int_int (g : Nat) : ∀ w, (Instr.typeAssert (intV g) 44 76 true).run Tryz.prog w = .ok (.tuple #[.agg #[.pointer (some ⟨g, 0, none⟩)], .bool true]) w := fun _ => by kernel_rfl
theorem ta_int_rat (g : Nat) : ∀ w, (Instr.typeAssert (intV g) 44 80 true).run Tryz.prog w = .ok (.tuple #[.agg #[.pointer none], .bool false]) w := fun _ => by kernel_rfl
theorem ta_int_flt (g : Nat) : ∀ w, (Instr.typeAssert (intV g) 44 84 true).run Tryz.prog w = .ok (.tuple #[.agg #[.pointer none], .bool false]) w := fun _ => by kernel_rfl
theorem ta_int_cpx (g : Nat) : ∀ w, (Instr.typeAssert (intV g) 44 89 true).run Tryz.prog w = .ok (.tuple #[.agg #[.nilIface, .nilIface], .bool false]) w := fun _ => by kernel_rfl
theorem ta_rat_unk (g : Nat) : ∀ w, (Instr.typeAssert (ratV g) 44 63 true).run Tryz.prog w = .ok (.tuple #[.agg #[], .bool false]) w := fun _ => by kernel_rfl
theorem ta_rat_bool (g : Nat) : ∀ w, (Instr.typeAssert (ratV g) 44 64 true).run Tryz.prog w = .ok (.tuple #[.bool false, .bool false]) w := fun _ => by kernel_rfl
theorem ta_rat_str (g : Nat) : ∀ w, (Instr.typeAssert (ratV g) 44 91 true).run Tryz.prog w = .ok (.tuple #[.pointer none, .bool false]) w := fun _ => by kernel_rfl
theorem ta_rat_i64 (g : Nat) : ∀ w, (Instr.typeAssert (ratV g) 44 65 true).run Tryz.prog w = .ok (.tuple #[.int .i64 0, .bool false]) w := fun _ => by kernel_rfl
theorem ta_rat_int (g : Nat) : ∀ w, (Instr.typeAssert (ratV g) 44 76 true).run Tryz.prog w = .ok (.tuple #[.agg #[.pointer none], .bool false]) w := fun _ => by kernel_rfl
theorem ta_rat_rat (g : Nat) : ∀ w, (Instr.typeAssert (ratV g) 44 80 true).run Tryz.prog w = .ok (.tuple #[.agg #[.pointer (some ⟨g, 0, none⟩)], .bool true]) w := fun _ => by kernel_rfl
theorem ta_rat_flt (g : Nat) : ∀ w, (Instr.typeAssert (ratV g) 44 84 true).run Tryz.prog w = .ok (.tuple #[.agg #[.pointer none], .bool false]) w := fun _ => by kernel_rfl
theorem ta_rat_cpx (g : Nat) : ∀ w, (Instr.typeAssert (ratV g) 44 89 true).run Tryz.prog w = .ok (.tuple #[.agg #[.nilIface, .nilIface], .bool false]) w := fun _ => by kernel_rfl
theorem ta_cpx_unk (a b : Value) : ∀ w, (Instr.typeAssert (cpxV a b) 44 63 true).run Tryz.prog w = .ok (.tuple #[.agg #[], .bool false]) w := fun _ => by kernel_rfl
theorem ta_cpx_bool (a b : Value) : ∀ w, (Instr.typeAssert (cpxV a b) 44 64 true).run Tryz.prog w = .ok (.tuple #[.bool false, .bool false]) w := fun _ => by kernel_rfl
theorem ta_cpx_str (a b : Value) : ∀ w, (Instr.typeAssert (cpxV a b) 44 91 true).run Tryz.prog w = .ok (.tuple #[.pointer none, .bool false]) w := fun _ => by kernel_rfl
theorem ta_cpx_i64 (a b : Value) : ∀ w, (Instr.typeAssert (cpxV a b) 44 65 true).run Tryz.prog w = .ok (.tuple #[.int .i64 0, .bool false]) w := fun _ => by kernel_rfl
theorem ta_cpx_int (a b : Value) : ∀ w, (Instr.typeAssert (cpxV a b) 44 76 true).run Tryz.prog w = .ok (.tuple #[.agg #[.pointer none], .bool false]) w := fun _ => by kernel_rfl
theorem ta_cpx_rat (a b : Value) : ∀ w, (Instr.typeAssert (cpxV a b) 44 80 true).run Tryz.prog w = .ok (.tuple #[.agg #[.pointer none], .bool false]) w := fun _ => by kernel_rfl
theorem ta_cpx_flt (a b : Value) : ∀ w, (Instr.typeAssert (cpxV a b) 44 84 true).run Tryz.prog w = .ok (.tuple #[.agg #[.pointer none], .bool false]) w := fun _ => by kernel_rfl
theorem ta_cpx_cpx (a b : Value) : ∀ w, (Instr.typeAssert (cpxV a b) 44 89 true).run Tryz.prog w = .ok (.tuple #[.agg #[a, b], .bool true]) w := fun _ => by kernel_rfl
set_option maxRecDepth 100000 in
set_option maxHeartbeats 1000000 in
theorem ord_unk  (w : World) : Calls Tryz.prog 82 #[unkV] w fun e w' => e = .returned (.int .i64 0) ∧ w = w' := by
  have t_unk := ta_unk_unk
  have t_bool := ta_unk_bool
  have t_str := ta_unk_str
  have t_i64 := ta_unk_i64
  have t_int := ta_unk_int
  have t_rat := ta_unk_rat
  have t_flt := ta_unk_flt
  have t_cpx := ta_unk_cpx
  go_enter Tryz.func82, Tryz.ntmps82
  go_wp2
  go_ret
  exact ⟨rfl, rfl⟩
set_option maxRecDepth 100000 in
set_option maxHeartbeats 1000000 in
theorem ord_bool (b : Bool) (w : World) : Calls Tryz.prog 82 #[(boolV b)] w fun e w' => e = .returned (.int .i64 1) ∧ w = w' := by
  have t_unk := ta_bool_unk b
  have t_bool := ta_bool_bool b
  have t_str := ta_bool_str b
  have t_i64 := ta_bool_i64 b
  have t_int := ta_bool_int b
  have t_rat := ta_bool_rat b
  have t_flt := ta_bool_flt b
  have t_cpx := ta_bool_cpx b
  go_enter Tryz.func82, Tryz.ntmps82
  go_wp2
  go_ret
  exact ⟨rfl, rfl⟩
set_option maxRecDepth 100000 in
set_option maxHeartbeats 1000000 in
theorem ord_str (g : Nat) (w : World) : Calls Tryz.prog 82 #[(strU g)] w fun e w' => e = .returned (.int .i64 1) ∧ w = w' := by
  have t_unk := ta_str_unk g
  have t_bool := ta_str_bool g
  have t_str := ta_str_str g
  have t_i64 := ta_str_i64 g
  have t_int := ta_str_int g
  have t_rat := ta_str_rat g
  have t_flt := ta_str_flt g
  have t_cpx := ta_str_cpx g
  go_enter Tryz.func82, Tryz.ntmps82
  go_wp2
  go_ret
  exact ⟨rfl, rfl⟩
set_option maxRecDepth 100000 in
set_option maxHeartbeats 1000000 in
theorem ord_i64 (n : Int) (w : World) : Calls Tryz.prog 82 #[(i64V n)] w fun e w' => e = .returned (.int .i64 2) ∧ w = w' := by
  have t_unk := ta_i64_unk n
  have t_bool := ta_i64_bool n
  have t_str := ta_i64_str n
  have t_i64 := ta_i64_i64 n
  have t_int := ta_i64_int n
  have t_rat := ta_i64_rat n
  have t_flt := ta_i64_flt n
  have t_cpx := ta_i64_cpx n
  go_enter Tryz.func82, Tryz.ntmps82
  go_wp2
  go_ret
  exact ⟨rfl, rfl⟩
set_option maxRecDepth 100000 in
set_option maxHeartbeats 1000000 in
theorem ord_int (g : Nat) (w : World) : Calls Tryz.prog 82 #[(intV g)] w fun e w' => e = .returned (.int .i64 3) ∧ w = w' := by
  have t_unk := ta_int_unk g
  have t_bool := ta_int_bool g
  have t_str := ta_int_str g
  have t_i64 := ta_int_i64 g
  have t_int := ta_int_int g
  have t_rat := ta_int_rat g
  have t_flt := ta_int_flt g
  have t_cpx := ta_int_cpx g
  go_enter Tryz.func82, Tryz.ntmps82
  go_wp2
  go_ret
  exact ⟨rfl, rfl⟩
set_option maxRecDepth 100000 in
set_option maxHeartbeats 1000000 in
theorem ord_rat (g : Nat) (w : World) : Calls Tryz.prog 82 #[(ratV g)] w fun e w' => e = .returned (.int .i64 4) ∧ w = w' := by
  have t_unk := ta_rat_unk g
  have t_bool := ta_rat_bool g
  have t_str := ta_rat_str g
  have t_i64 := ta_rat_i64 g
  have t_int := ta_rat_int g
  have t_rat := ta_rat_rat g
  have t_flt := ta_rat_flt g
  have t_cpx := ta_rat_cpx g
  go_enter Tryz.func82, Tryz.ntmps82
  go_wp2
  go_ret
  exact ⟨rfl, rfl⟩
set_option maxRecDepth 100000 in
set_option maxHeartbeats 1000000 in
theorem ord_cpx (a b : Value) (w : World) : Calls Tryz.prog 82 #[(cpxV a b)] w fun e w' => e = .returned (.int .i64 6) ∧ w = w' := by
  have t_unk := ta_cpx_unk a b
  have t_bool := ta_cpx_bool a b
  have t_str := ta_cpx_str a b
  have t_i64 := ta_cpx_i64 a b
  have t_int := ta_cpx_int a b
  have t_rat := ta_cpx_rat a b
  have t_flt := ta_cpx_flt a b
  have t_cpx := ta_cpx_cpx a b
  go_enter Tryz.func82, Tryz.ntmps82
  go_wp2
  go_ret
  exact ⟨rfl, rfl⟩
end Go.Proofs.YtbcgeeaboecmgaaGreatDoor

namespace Go.Proofs.YtbcgeeaboecmgaaGreatDoor
open Go Go.RowKit Go.Proofs.YtbcgeeaboecmgaaGreatDoorW.PrintWords
set_option linter.unusedVariables false
set_option linter.unusedSimpArgs false

set_option maxRecDepth 100000 in
set_option maxHeartbeats 1000000 in
theorem match_u_unk  (w : World) : Calls Tryz.prog 25 #[unkV, unkV] w fun e w' => e = .returned (.tuple #[unkV, unkV]) ∧ w = w' := by
  go_enter Tryz.func25, Tryz.ntmps25
  go_wp2_with (first
    | (go_at_call 82; (with_reducible refine (ord_unk _).mono ?_); rintro e w' ⟨rfl, rfl⟩)
    )
  go_ret2
  exact ⟨rfl, rfl⟩
set_option maxRecDepth 100000 in
set_option maxHeartbeats 1000000 in
theorem match0_bool (b : Bool) (w : World) : Calls Tryz.prog 83 #[unkV, (boolV b)] w fun e w' => e = .returned (.tuple #[unkV, unkV]) ∧ w = w' := by
  have t_int := ta_bool_int b
  have t_rat := ta_bool_rat b
  have t_flt := ta_bool_flt b
  have t_cpx := ta_bool_cpx b
  go_enter Tryz.func83, Tryz.ntmps83
  go_wp2
  go_ret2
  exact ⟨rfl, rfl⟩
set_option maxRecDepth 100000 in
set_option maxHeartbeats 1000000 in
theorem match_u_bool (b : Bool) (w : World) : Calls Tryz.prog 25 #[unkV, (boolV b)] w fun e w' => e = .returned (.tuple #[unkV, unkV]) ∧ w = w' := by
  go_enter Tryz.func25, Tryz.ntmps25
  go_wp2_with (first
    | (go_at_call 82; (with_reducible refine (ord_unk _).mono ?_); rintro e w' ⟨rfl, rfl⟩)
    | (go_at_call 82; (with_reducible refine (ord_bool _ _).mono ?_); rintro e w' ⟨rfl, rfl⟩)
    | (go_at_call 83; (with_reducible refine (match0_bool _ _).mono ?_); rintro e w' ⟨rfl, rfl⟩)
    )
  go_ret2
  exact ⟨rfl, rfl⟩
set_option maxRecDepth 100000 in
set_option maxHeartbeats 1000000 in
theorem match_bool_u (b : Bool) (w : World) : Calls Tryz.prog 25 #[(boolV b), unkV] w fun e w' => e = .returned (.tuple #[unkV, unkV]) ∧ w = w' := by
  go_enter Tryz.func25, Tryz.ntmps25
  go_wp2_with (first
    | (go_at_call 82; (with_reducible refine (ord_unk _).mono ?_); rintro e w' ⟨rfl, rfl⟩)
    | (go_at_call 82; (with_reducible refine (ord_bool _ _).mono ?_); rintro e w' ⟨rfl, rfl⟩)
    | (go_at_call 83; (with_reducible refine (match0_bool _ _).mono ?_); rintro e w' ⟨rfl, rfl⟩)
    )
  go_ret2
  exact ⟨rfl, rfl⟩
set_option maxRecDepth 100000 in
set_option maxHeartbeats 1000000 in
theorem match0_str (g : Nat) (w : World) : Calls Tryz.prog 83 #[unkV, (strU g)] w fun e w' => e = .returned (.tuple #[unkV, unkV]) ∧ w = w' := by
  have t_int := ta_str_int g
  have t_rat := ta_str_rat g
  have t_flt := ta_str_flt g
  have t_cpx := ta_str_cpx g
  go_enter Tryz.func83, Tryz.ntmps83
  go_wp2
  go_ret2
  exact ⟨rfl, rfl⟩
set_option maxRecDepth 100000 in
set_option maxHeartbeats 1000000 in
theorem match_u_str (g : Nat) (w : World) : Calls Tryz.prog 25 #[unkV, (strU g)] w fun e w' => e = .returned (.tuple #[unkV, unkV]) ∧ w = w' := by
  go_enter Tryz.func25, Tryz.ntmps25
  go_wp2_with (first
    | (go_at_call 82; (with_reducible refine (ord_unk _).mono ?_); rintro e w' ⟨rfl, rfl⟩)
    | (go_at_call 82; (with_reducible refine (ord_str _ _).mono ?_); rintro e w' ⟨rfl, rfl⟩)
    | (go_at_call 83; (with_reducible refine (match0_str _ _).mono ?_); rintro e w' ⟨rfl, rfl⟩)
    )
  go_ret2
  exact ⟨rfl, rfl⟩
set_option maxRecDepth 100000 in
set_option maxHeartbeats 1000000 in
theorem match_str_u (g : Nat) (w : World) : Calls Tryz.prog 25 #[(strU g), unkV] w fun e w' => e = .returned (.tuple #[unkV, unkV]) ∧ w = w' := by
  go_enter Tryz.func25, Tryz.ntmps25
  go_wp2_with (first
    | (go_at_call 82; (with_reducible refine (ord_unk _).mono ?_); rintro e w' ⟨rfl, rfl⟩)
    | (go_at_call 82; (with_reducible refine (ord_str _ _).mono ?_); rintro e w' ⟨rfl, rfl⟩)
    | (go_at_call 83; (with_reducible refine (match0_str _ _).mono ?_); rintro e w' ⟨rfl, rfl⟩)
    )
  go_ret2
  exact ⟨rfl, rfl⟩
set_option maxRecDepth 100000 in
set_option maxHeartbeats 1000000 in
theorem match0_i64 (n : Int) (w : World) : Calls Tryz.prog 83 #[unkV, (i64V n)] w fun e w' => e = .returned (.tuple #[unkV, unkV]) ∧ w = w' := by
  have t_int := ta_i64_int n
  have t_rat := ta_i64_rat n
  have t_flt := ta_i64_flt n
  have t_cpx := ta_i64_cpx n
  go_enter Tryz.func83, Tryz.ntmps83
  go_wp2
  go_ret2
  exact ⟨rfl, rfl⟩
set_option maxRecDepth 100000 in
set_option maxHeartbeats 1000000 in
theorem match_u_i64 (n : Int) (w : World) : Calls Tryz.prog 25 #[unkV, (i64V n)] w fun e w' => e = .returned (.tuple #[unkV, unkV]) ∧ w = w' := by
  go_enter Tryz.func25, Tryz.ntmps25
  go_wp2_with (first
    | (go_at_call 82; (with_reducible refine (ord_unk _).mono ?_); rintro e w' ⟨rfl, rfl⟩)
    | (go_at_call 82; (with_reducible refine (ord_i64 _ _).mono ?_); rintro e w' ⟨rfl, rfl⟩)
    | (go_at_call 83; (with_reducible refine (match0_i64 _ _).mono ?_); rintro e w' ⟨rfl, rfl⟩)
    )
  go_ret2
  exact ⟨rfl, rfl⟩
set_option maxRecDepth 100000 in
set_option maxHeartbeats 1000000 in
theorem match_i64_u (n : Int) (w : World) : Calls Tryz.prog 25 #[(i64V n), unkV] w fun e w' => e = .returned (.tuple #[unkV, unkV]) ∧ w = w' := by
  go_enter Tryz.func25, Tryz.ntmps25
  go_wp2_with (first
    | (go_at_call 82; (with_reducible refine (ord_unk _).mono ?_); rintro e w' ⟨rfl, rfl⟩)
    | (go_at_call 82; (with_reducible refine (ord_i64 _ _).mono ?_); rintro e w' ⟨rfl, rfl⟩)
    | (go_at_call 83; (with_reducible refine (match0_i64 _ _).mono ?_); rintro e w' ⟨rfl, rfl⟩)
    )
  go_ret2
  exact ⟨rfl, rfl⟩
set_option maxRecDepth 100000 in
set_option maxHeartbeats 1000000 in
theorem match0_int (g : Nat) (w : World) : Calls Tryz.prog 83 #[unkV, (intV g)] w fun e w' => e = .returned (.tuple #[unkV, unkV]) ∧ w = w' := by
  have t_int := ta_int_int g
  have t_rat := ta_int_rat g
  have t_flt := ta_int_flt g
  have t_cpx := ta_int_cpx g
  have u_i64 := ta_unk_i64
  have u_int := ta_unk_int
  have u_rat := ta_unk_rat
  have u_flt := ta_unk_flt
  go_enter Tryz.func83, Tryz.ntmps83
  go_wp2
  go_ret2
  exact ⟨rfl, rfl⟩
set_option maxRecDepth 100000 in
set_option maxHeartbeats 1000000 in
theorem match_u_int (g : Nat) (w : World) : Calls Tryz.prog 25 #[unkV, (intV g)] w fun e w' => e = .returned (.tuple #[unkV, unkV]) ∧ w = w' := by
  go_enter Tryz.func25, Tryz.ntmps25
  go_wp2_with (first
    | (go_at_call 82; (with_reducible refine (ord_unk _).mono ?_); rintro e w' ⟨rfl, rfl⟩)
    | (go_at_call 82; (with_reducible refine (ord_int _ _).mono ?_); rintro e w' ⟨rfl, rfl⟩)
    | (go_at_call 83; (with_reducible refine (match0_int _ _).mono ?_); rintro e w' ⟨rfl, rfl⟩)
    )
  go_ret2
  exact ⟨rfl, rfl⟩
set_option maxRecDepth 100000 in
set_option maxHeartbeats 1000000 in
theorem match_int_u (g : Nat) (w : World) : Calls Tryz.prog 25 #[(intV g), unkV] w fun e w' => e = .returned (.tuple #[unkV, unkV]) ∧ w = w' := by
  go_enter Tryz.func25, Tryz.ntmps25
  go_wp2_with (first
    | (go_at_call 82; (with_reducible refine (ord_unk _).mono ?_); rintro e w' ⟨rfl, rfl⟩)
    | (go_at_call 82; (with_reducible refine (ord_int _ _).mono ?_); rintro e w' ⟨rfl, rfl⟩)
    | (go_at_call 83; (with_reducible refine (match0_int _ _).mono ?_); rintro e w' ⟨rfl, rfl⟩)
    )
  go_ret2
  exact ⟨rfl, rfl⟩
set_option maxRecDepth 100000 in
set_option maxHeartbeats 1000000 in
theorem match0_rat (g : Nat) (w : World) : Calls Tryz.prog 83 #[unkV, (ratV g)] w fun e w' => e = .returned (.tuple #[unkV, unkV]) ∧ w = w' := by
  have t_int := ta_rat_int g
  have t_rat := ta_rat_rat g
  have t_flt := ta_rat_flt g
  have t_cpx := ta_rat_cpx g
  have u_i64 := ta_unk_i64
  have u_int := ta_unk_int
  have u_rat := ta_unk_rat
  have u_flt := ta_unk_flt
  go_enter Tryz.func83, Tryz.ntmps83
  go_wp2
  go_ret2
  exact ⟨rfl, rfl⟩
set_option maxRecDepth 100000 in
set_option maxHeartbeats 1000000 in
theorem match_u_rat (g : Nat) (w : World) : Calls Tryz.prog 25 #[unkV, (ratV g)] w fun e w' => e = .returned (.tuple #[unkV, unkV]) ∧ w = w' := by
  go_enter Tryz.func25, Tryz.ntmps25
  go_wp2_with (first
    | (go_at_call 82; (with_reducible refine (ord_unk _).mono ?_); rintro e w' ⟨rfl, rfl⟩)
    | (go_at_call 82; (with_reducible refine (ord_rat _ _).mono ?_); rintro e w' ⟨rfl, rfl⟩)
    | (go_at_call 83; (with_reducible refine (match0_rat _ _).mono ?_); rintro e w' ⟨rfl, rfl⟩)
    )
  go_ret2
  exact ⟨rfl, rfl⟩
set_option maxRecDepth 100000 in
set_option maxHeartbeats 1000000 in
theorem match_rat_u (g : Nat) (w : World) : Calls Tryz.prog 25 #[(ratV g), unkV] w fun e w' => e = .returned (.tuple #[unkV, unkV]) ∧ w = w' := by
  go_enter Tryz.func25, Tryz.ntmps25
  go_wp2_with (first
    | (go_at_call 82; (with_reducible refine (ord_unk _).mono ?_); rintro e w' ⟨rfl, rfl⟩)
    | (go_at_call 82; (with_reducible refine (ord_rat _ _).mono ?_); rintro e w' ⟨rfl, rfl⟩)
    | (go_at_call 83; (with_reducible refine (match0_rat _ _).mono ?_); rintro e w' ⟨rfl, rfl⟩)
    )
  go_ret2
  exact ⟨rfl, rfl⟩
set_option maxRecDepth 100000 in
set_option maxHeartbeats 1000000 in
theorem match0_cpx (a b : Value) (w : World) : Calls Tryz.prog 83 #[unkV, (cpxV a b)] w fun e w' => e = .returned (.tuple #[unkV, unkV]) ∧ w = w' := by
  have t_int := ta_cpx_int a b
  have t_rat := ta_cpx_rat a b
  have t_flt := ta_cpx_flt a b
  have t_cpx := ta_cpx_cpx a b
  have u_i64 := ta_unk_i64
  have u_int := ta_unk_int
  have u_rat := ta_unk_rat
  have u_flt := ta_unk_flt
  go_enter Tryz.func83, Tryz.ntmps83
  go_wp2
  go_ret2
  exact ⟨rfl, rfl⟩
set_option maxRecDepth 100000 in
set_option maxHeartbeats 1000000 in
theorem match_u_cpx (a b : Value) (w : World) : Calls Tryz.prog 25 #[unkV, (cpxV a b)] w fun e w' => e = .returned (.tuple #[unkV, unkV]) ∧ w = w' := by
  go_enter Tryz.func25, Tryz.ntmps25
  go_wp2_with (first
    | (go_at_call 82; (with_reducible refine (ord_unk _).mono ?_); rintro e w' ⟨rfl, rfl⟩)
    | (go_at_call 82; (with_reducible refine (ord_cpx _ _ _).mono ?_); rintro e w' ⟨rfl, rfl⟩)
    | (go_at_call 83; (with_reducible refine (match0_cpx _ _ _).mono ?_); rintro e w' ⟨rfl, rfl⟩)
    )
  go_ret2
  exact ⟨rfl, rfl⟩
set_option maxRecDepth 100000 in
set_option maxHeartbeats 1000000 in
theorem match_cpx_u (a b : Value) (w : World) : Calls Tryz.prog 25 #[(cpxV a b), unkV] w fun e w' => e = .returned (.tuple #[unkV, unkV]) ∧ w = w' := by
  go_enter Tryz.func25, Tryz.ntmps25
  go_wp2_with (first
    | (go_at_call 82; (with_reducible refine (ord_unk _).mono ?_); rintro e w' ⟨rfl, rfl⟩)
    | (go_at_call 82; (with_reducible refine (ord_cpx _ _ _).mono ?_); rintro e w' ⟨rfl, rfl⟩)
    | (go_at_call 83; (with_reducible refine (match0_cpx _ _ _).mono ?_); rintro e w' ⟨rfl, rfl⟩)
    )
  go_ret2
  exact ⟨rfl, rfl⟩
/-- The values in reach. -/
inductive Un : Value → Prop
  | unk  : Un unkV
  | bool (b : Bool) : Un (boolV b)
  | str (g : Nat) : Un (strU g)
  | i64 (n : Int) : Un (i64V n)
  | int (g : Nat) : Un (intV g)
  | rat (g : Nat) : Un (ratV g)
  | cpx (a b : Value) : Un (cpxV a b)
theorem Un.left {v : Value} (h : Un v) (w : World) : Calls Tryz.prog 25 #[v, unkV] w fun e w' => e = .returned (.tuple #[unkV, unkV]) ∧ w = w' := by
  cases h
  · exact match_u_unk _
  · exact match_bool_u _ _
  · exact match_str_u _ _
  · exact match_i64_u _ _
  · exact match_int_u _ _
  · exact match_rat_u _ _
  · exact match_cpx_u _ _ _
theorem Un.right {v : Value} (h : Un v) (w : World) : Calls Tryz.prog 25 #[unkV, v] w fun e w' => e = .returned (.tuple #[unkV, unkV]) ∧ w = w' := by
  cases h
  · exact match_u_unk _
  · exact match_u_bool _ _
  · exact match_u_str _ _
  · exact match_u_i64 _ _
  · exact match_u_int _ _
  · exact match_u_rat _ _
  · exact match_u_cpx _ _ _
end Go.Proofs.YtbcgeeaboecmgaaGreatDoor

namespace Go.Proofs.YtbcgeeaboecmgaaGreatDoor
open Go Go.RowKit Go.Proofs.YtbcgeeaboecmgaaGreatDoorW.PrintWords
set_option linter.unusedVariables false
set_option linter.unusedSimpArgs false

set_option maxRecDepth 100000 in
set_option maxHeartbeats 1000000 in
theorem bin_u (v u : Value) (op : Int) (w : World) (hm : ∀ W, Calls Tryz.prog 25 #[v, u] W fun e w' => e = .returned (.tuple #[unkV, unkV]) ∧ W = w') :
    Calls Tryz.prog 12 #[v, .int .i64 op, u] w fun e w' => e = .returned unkV ∧ Below w.heap.size w w' := by
  have t1 := ta_unk_unk
  have HM := Aside0.mk hm
  clear hm
  go_enter Tryz.func12, Tryz.ntmps12
  go_wp2
  go_step3
  go_wp2_with (go_at_call 25; (with_reducible refine (HM.out _).mono ?_); rintro e w' ⟨rfl, rfl⟩)
  rw [Exit.noGoto_ret]
  go_ret
  exact ⟨rfl, below_alloc (Below.refl _ _) _⟩
set_option maxRecDepth 100000 in
set_option maxHeartbeats 1000000 in
theorem cmp_u (v u : Value) (op : Int) (w : World) (hm : ∀ W, Calls Tryz.prog 25 #[v, u] W fun e w' => e = .returned (.tuple #[unkV, unkV]) ∧ W = w') :
    Calls Tryz.prog 15 #[v, .int .i64 op, u] w fun e w' => e = .returned (.bool false) ∧ Below w.heap.size w w' := by
  have t1 := ta_unk_unk
  have HM := Aside0.mk hm
  clear hm
  go_enter Tryz.func15, Tryz.ntmps15
  go_wp2_with (go_at_call 25; (with_reducible refine (HM.out _).mono ?_); rintro e w' ⟨rfl, rfl⟩)
  go_ret
  exact ⟨rfl, below_alloc (Below.refl _ _) _⟩
abbrev anyI (g : Nat) : Value := .iface 68 (.pointer (some ⟨g, 0, none⟩))
abbrev anyR (g : Nat) : Value := .iface 73 (.pointer (some ⟨g, 0, none⟩))
/-- The unsigned word as a whole number and back. -/
def LowR (x : Int) (w : World) (e : Ending) (w' : World) : Prop := e = .returned (.int .u64 x) ∧ w = w'
set_option maxRecDepth 100000 in
set_option maxHeartbeats 1000000 in
theorem low1 (v : Value) (x : Int) (w : World) (h : N1 w v x) : Calls Tryz.prog 152 #[v] w (LowR x w) := by
  cases h with
  | zero A c =>
    go_enter Tryz.func152, Tryz.ntmps152
    go_wp2
    go_ret
    exact ⟨rfl, rfl⟩
  | one g c x h0 h1 hc hx hz =>
    go_enter Tryz.func152, Tryz.ntmps152
    go_wp2
    go_ret
    exact ⟨rfl, rfl⟩
def SomeB (w : World) (e : Ending) (w' : World) : Prop := ∃ b, e = .returned (.bool b) ∧ w = w'
def SomeI (w : World) (e : Ending) (w' : World) : Prop := ∃ n, e = .returned (.int .i64 n) ∧ w = w'
set_option maxRecDepth 100000 in
set_option maxHeartbeats 1000000 in
theorem int64_1 (g : Nat) (neg : Bool) (v : Value) (x : Int) (w : World) (hI : IntAt w g 0 neg v) (h : N1 w v x) : Calls Tryz.prog 85 #[.pointer (some ⟨g, 0, none⟩)] w (SomeI w) := by
  have c0 := hI.c0
  have c1 : w.cell? ⟨g, 1, none⟩ = some v := hI.c1
  have HL := Aside0.mk (low1 v x w h)
  obtain ⟨A, n, c, rfl⟩ := h.sl
  clear hI h
  cases neg
  all_goals
    go_enter Tryz.func85, Tryz.ntmps85
    go_wp2_with (go_at_call 152; (with_reducible refine HL.out.mono ?_); rintro e w' ⟨rfl, rfl⟩)
    go_ret
    exact ⟨_, rfl, rfl⟩
set_option maxRecDepth 100000 in
set_option maxHeartbeats 1000000 in
theorem isInt64_1 (g : Nat) (neg : Bool) (v : Value) (x : Int) (w : World) (hI : IntAt w g 0 neg v) (h : N1 w v x) : Calls Tryz.prog 84 #[.pointer (some ⟨g, 0, none⟩)] w (SomeB w) := by
  have c0 := hI.c0
  have c1 : w.cell? ⟨g, 1, none⟩ = some v := hI.c1
  have HL := Aside0.mk (low1 v x w h)
  obtain ⟨A, n, c, rfl⟩ := h.sl
  have hn : n ≤ 1 := by
    rcases h.shape with ⟨_, A', c', e⟩ | ⟨_, A', c', e⟩ <;> (injection e with e1 e2 e3; omega)
  have hd : decide ((n : Int) ≤ 1) = true := by simp; omega
  clear hI h
  go_enter Tryz.func84, Tryz.ntmps84
  go_wp2_with (go_at_call 152; (with_reducible refine HL.out.mono ?_); rintro e w' ⟨rfl, rfl⟩)
  all_goals
    go_ret
    exact ⟨_, rfl, rfl⟩
/-- A value in reach, above what was there. -/
def UnR (w : World) (e : Ending) (w' : World) : Prop := ∃ u, e = .returned u ∧ Un u ∧ Below w.heap.size w w'
set_option maxRecDepth 100000 in
set_option maxHeartbeats 1000000 in
theorem makeInt1 (g : Nat) (neg : Bool) (v : Value) (x : Int) (w : World) (hI : IntAt w g 0 neg v) (h : N1 w v x) : Calls Tryz.prog 27 #[.pointer (some ⟨g, 0, none⟩)] w (UnR w) := by
  have HA := Aside0.mk (isInt64_1 g neg v x w hI h)
  have HB := Aside0.mk (int64_1 g neg v x w hI h)
  clear hI h
  go_enter Tryz.func27, Tryz.ntmps27
  go_wp2_with (first
    | (go_at_call 84; (with_reducible refine HA.out.mono ?_); rintro e w' ⟨b, rfl, rfl⟩; cases b)
    | (go_at_call 85; (with_reducible refine HB.out.mono ?_); rintro e w' ⟨n, rfl, rfl⟩))
  · go_ret
    exact ⟨_, rfl, .int _, Below.refl _ _⟩
  · go_ret
    exact ⟨_, rfl, .i64 _, Below.refl _ _⟩
set_option maxRecDepth 100000 in
set_option maxHeartbeats 1000000 in
theorem make_int (g : Nat) (neg : Bool) (v : Value) (x : Int) (w : World) (hI : IntAt w g 0 neg v) (h : N1 w v x) : Calls Tryz.prog 61 #[anyI g] w (UnR w) := by
  have t1 : ∀ w, (Instr.typeAssert (anyI g) 20 4 true).run Tryz.prog w = .ok (.tuple #[.bool false, .bool false]) w := fun _ => by kernel_rfl
  have t2 : ∀ w, (Instr.typeAssert (anyI g) 20 9 true).run Tryz.prog w = .ok (.tuple #[.string ⟨#[]⟩, .bool false]) w := fun _ => by kernel_rfl
  have t3 : ∀ w, (Instr.typeAssert (anyI g) 20 2 true).run Tryz.prog w = .ok (.tuple #[.int .i64 0, .bool false]) w := fun _ => by kernel_rfl
  have t4 : ∀ w, (Instr.typeAssert (anyI g) 20 68 true).run Tryz.prog w = .ok (.tuple #[.pointer (some ⟨g, 0, none⟩), .bool true]) w := fun _ => by kernel_rfl
  have HA := Aside0.mk (makeInt1 g neg v x w hI h)
  clear hI h
  go_enter Tryz.func61, Tryz.ntmps61
  go_wp2_with (go_at_call 27; (with_reducible refine HA.out.mono ?_); rintro e w' ⟨u, rfl, hU, hb⟩; have HU := Aside0.mk (And.intro hU hb); clear hU hb)
  go_ret
  exact ⟨_, rfl, HU.out.1, HU.out.2⟩
set_option maxRecDepth 100000 in
set_option maxHeartbeats 1000000 in
theorem make_rat (g : Nat) (neg : Bool) (v1 v2 : Value) (x : Int) (w : World) (hR : RatAt w g neg v1 v2) (h1 : N1 w v1 x) (h2 : N1 w v2 1) : Calls Tryz.prog 61 #[anyR g] w fun e w' => e = .returned (ratV g) ∧ w = w' := by
  have t1 : ∀ w, (Instr.typeAssert (anyR g) 20 4 true).run Tryz.prog w = .ok (.tuple #[.bool false, .bool false]) w := fun _ => by kernel_rfl
  have t2 : ∀ w, (Instr.typeAssert (anyR g) 20 9 true).run Tryz.prog w = .ok (.tuple #[.string ⟨#[]⟩, .bool false]) w := fun _ => by kernel_rfl
  have t3 : ∀ w, (Instr.typeAssert (anyR g) 20 2 true).run Tryz.prog w = .ok (.tuple #[.int .i64 0, .bool false]) w := fun _ => by kernel_rfl
  have t4 : ∀ w, (Instr.typeAssert (anyR g) 20 68 true).run Tryz.prog w = .ok (.tuple #[.pointer none, .bool false]) w := fun _ => by kernel_rfl
  have t5 : ∀ w, (Instr.typeAssert (anyR g) 20 73 true).run Tryz.prog w = .ok (.tuple #[.pointer (some ⟨g, 0, none⟩), .bool true]) w := fun _ => by kernel_rfl
  have HA := Aside0.mk (makeRat1 g neg v1 v2 x w hR h1 h2)
  clear hR h1 h2
  go_enter Tryz.func61, Tryz.ntmps61
  go_wp2_with (go_at_call 34; (with_reducible refine HA.out.mono ?_); rintro e w' ⟨rfl, rfl⟩)
  go_ret
  exact ⟨rfl, rfl⟩
end Go.Proofs.YtbcgeeaboecmgaaGreatDoor

namespace Go.Proofs.YtbcgeeaboecmgaaGreatDoor
open Go Go.RowKit Go.Proofs.YtbcgeeaboecmgaaGreatDoorW.PrintWords
set_option linter.unusedVariables false
set_option linter.unusedSimpArgs false

/-- Two Rats: a given one and a new zero. -/
def MrR (f : Value → Value → Value) (a : Nat) (w : World) (e : Ending) (w' : World) : Prop := ∃ g v1 v2 neg, e = .returned (f (ratV a) (ratV g)) ∧ w.heap.size ≤ g ∧ RatAt w' g neg v1 v2 ∧ N1 w' v1 0 ∧ N1 w' v2 1 ∧ Below w.heap.size w w'
set_option maxRecDepth 100000 in
set_option maxHeartbeats 1000000 in
theorem match0_zr (a : Nat) (w : World) : Calls Tryz.prog 83 #[i64V 0, ratV a] w (MrR (fun x y => .tuple #[y, x]) a w) := by
  have t1 := ta_rat_int a
  have t2 := ta_rat_rat a
  have t3 := ta_i64_i64 0
  have HA := Aside0.mk (fun W => i64tor0 W)
  go_enter Tryz.func83, Tryz.ntmps83
  go_wp2_with (go_at_call 146; (with_reducible refine (HA.out _).mono ?_); rintro e w' ⟨g, v1, v2, neg, rfl, hg, hR, h1, h2, hb⟩; have HX := Aside0.mk (And.intro hg (And.intro hR (And.intro h1 (And.intro h2 hb)))); clear hg hR h1 h2 hb)
  go_ret2
  obtain ⟨hg, hR, h1, h2, hb⟩ := HX.out
  exact ⟨g, v1, v2, neg, rfl, hg, hR, h1, h2, hb⟩
set_option maxRecDepth 100000 in
set_option maxHeartbeats 1000000 in
theorem match_rz (a : Nat) (w : World) : Calls Tryz.prog 25 #[ratV a, i64V 0] w (MrR (fun x y => .tuple #[x, y]) a w) := by
  go_enter Tryz.func25, Tryz.ntmps25
  go_wp2_with (first
    | (go_at_call 82; (with_reducible refine (ord_rat _ _).mono ?_); rintro e w' ⟨rfl, rfl⟩)
    | (go_at_call 82; (with_reducible refine (ord_i64 _ _).mono ?_); rintro e w' ⟨rfl, rfl⟩)
    | (go_at_call 83; (with_reducible refine (match0_zr _ _).mono ?_); rintro e w' ⟨g, v1, v2, neg, rfl, hg, hR, h1, h2, hb⟩; have HX := Aside0.mk (And.intro hg (And.intro hR (And.intro h1 (And.intro h2 hb)))); clear hg hR h1 h2 hb))
  go_ret2
  obtain ⟨hg, hR, h1, h2, hb⟩ := HX.out
  exact ⟨g, v1, v2, neg, rfl, hg, hR, h1, h2, hb⟩
set_option maxRecDepth 100000 in
set_option maxHeartbeats 1000000 in
theorem match_zr (a : Nat) (w : World) : Calls Tryz.prog 25 #[i64V 0, ratV a] w (MrR (fun x y => .tuple #[y, x]) a w) := by
  go_enter Tryz.func25, Tryz.ntmps25
  go_wp2_with (first
    | (go_at_call 82; (with_reducible refine (ord_rat _ _).mono ?_); rintro e w' ⟨rfl, rfl⟩)
    | (go_at_call 82; (with_reducible refine (ord_i64 _ _).mono ?_); rintro e w' ⟨rfl, rfl⟩)
    | (go_at_call 83; (with_reducible refine (match0_zr _ _).mono ?_); rintro e w' ⟨g, v1, v2, neg, rfl, hg, hR, h1, h2, hb⟩; have HX := Aside0.mk (And.intro hg (And.intro hR (And.intro h1 (And.intro h2 hb)))); clear hg hR h1 h2 hb))
  go_ret2
  obtain ⟨hg, hR, h1, h2, hb⟩ := HX.out
  exact ⟨g, v1, v2, neg, rfl, hg, hR, h1, h2, hb⟩
/-- A new Rat as a value. -/
def RvR (w : World) (e : Ending) (w' : World) : Prop := ∃ g, e = .returned (ratV g) ∧ Below w.heap.size w w'
/-- What match gives: two Rats whose sum is in reach. -/
def TwoR (w : World) (e : Ending) (w1 : World) : Prop := ∃ a b na nb va wa vb wb x y r, e = .returned (.tuple #[ratV a, ratV b]) ∧ Below w.heap.size w w1 ∧ RatAt w1 a na va wa ∧ RatAt w1 b nb vb wb ∧ N1 w1 va x ∧ N1 w1 wa 1 ∧ N1 w1 vb y ∧ N1 w1 wb 1 ∧ Sums x y r
theorem ta_rat_ok (b : Nat) : ∀ w, (Instr.typeAssert (ratV b) 44 80 false).run Tryz.prog w = .ok (.agg #[.pointer (some ⟨b, 0, none⟩)]) w := fun _ => by kernel_rfl
theorem fld_rat (b : Nat) : ∀ w, (Instr.field 80 (.agg #[.pointer (some ⟨b, 0, none⟩)]) 0).run Tryz.prog w = .ok (.pointer (some ⟨b, 0, none⟩)) w := fun _ => by kernel_rfl
set_option maxRecDepth 100000 in
set_option maxHeartbeats 1000000 in
theorem bin_rats (p q : Value) (w : World) (hm : Calls Tryz.prog 25 #[p, q] w (TwoR w)) :
    Calls Tryz.prog 12 #[p, .int .i64 12, q] w (RvR w) := by
  have HM := Aside0.mk hm
  clear hm
  go_enter Tryz.func12, Tryz.ntmps12
  go_wp2
  go_step3
  go_wp2_with fail
  refine HM.out.mono ?_
  rintro e w1 ⟨a, b, na, nb, va, wa, vb, wb, x, y, r, rfl, hh⟩
  have HH := Aside0.mk hh
  clear hh
  have t1 := ta_rat_unk a
  have t2 := ta_rat_bool a
  have t3 := ta_rat_i64 a
  have t4 := ta_rat_int a
  have t5 := ta_rat_rat a
  have t9 := ta_rat_ok b
  have f1 := fld_rat b
  go_wp2_with (go_at_call 36; (with_reducible refine (newRat1 _).mono ?_); rintro e w' ⟨rfl, rfl⟩)
  obtain ⟨hb, hA, hB, h1, h2, h3, h4, hs⟩ := HH.out
  have la := hA.a.lt
  have lb := hB.a.lt
  have hN := RatAt.new (w1.alloc (.cells #[.pointer (some ⟨a, 0, none⟩)] 80)) false (.slice none 0 0) (.slice none 0 0)
  rw [World.size_alloc] at hN
  have hW : Below w1.heap.size w1 (ratW (w1.alloc (.cells #[.pointer (some ⟨a, 0, none⟩)] 80))) := below_alloc (below_alloc (Below.refl _ _) _) _
  refine (rat_add (w1.heap.size + 1) a b na nb va wa vb wb x y r hs _ hN (hA.below hW la) (hB.below hW lb) (h1.below hW) (h2.below hW) (h3.below hW) (h4.below hW) (by omega) (by omega)).mono ?_
  rintro e w2 ⟨neg, v1, v2, rfl, hR, m1, m2, o1, o2, hK⟩
  have HX : Aside0 (Below w.heap.size w w2 ∧ RatAt w2 (w1.heap.size + 1) neg v1 v2 ∧ N1 w2 v1 r ∧ N1 w2 v2 1) :=
    ⟨hK.new (hb.trans (hW.mono hb.size)) (Nat.le_trans hb.size (by simp; omega)) (Nat.le_trans hb.size (by omega)), hR, m1, m2⟩
  clear hb hA hB h1 h2 h3 h4 hs la lb hN hW hR m1 m2 o1 o2 hK HH
  go_wp2_with (go_at_call 34; (with_reducible refine (makeRat1 _ _ _ _ _ _ HX.out.2.1 HX.out.2.2.1 HX.out.2.2.2).mono ?_); rintro e w' ⟨rfl, rfl⟩)
  rw [Exit.noGoto_ret]
  go_ret
  exact ⟨_, rfl, HX.out.1⟩
theorem bin_rz (a : Nat) (na : Bool) (va wa : Value) (x : Int) (w : World) (hA : RatAt w a na va wa) (h1 : N1 w va x) (h2 : N1 w wa 1) : Calls Tryz.prog 12 #[ratV a, .int .i64 12, i64V 0] w (RvR w) := by
  refine bin_rats _ _ w ((match_rz a w).mono ?_)
  rintro e w' ⟨g, v1, v2, neg, rfl, hg, hR, m1, m2, hb⟩
  exact ⟨a, g, na, neg, va, wa, v1, v2, x, 0, x, rfl, hb, hA.below hb hA.a.lt, hR, h1.below hb, h2.below hb, m1, m2, .inl ⟨rfl, rfl⟩⟩
theorem bin_zr (a : Nat) (na : Bool) (va wa : Value) (x : Int) (w : World) (hA : RatAt w a na va wa) (h1 : N1 w va x) (h2 : N1 w wa 1) : Calls Tryz.prog 12 #[i64V 0, .int .i64 12, ratV a] w (RvR w) := by
  refine bin_rats _ _ w ((match_zr a w).mono ?_)
  rintro e w' ⟨g, v1, v2, neg, rfl, hg, hR, m1, m2, hb⟩
  have hs : ∃ r, Sums 0 x r := by
    rcases h1.shape with ⟨rfl, _⟩ | ⟨h, _⟩
    · exact ⟨0, .inl ⟨rfl, rfl⟩⟩
    · exact ⟨x, .inr ⟨rfl, h, rfl⟩⟩
  obtain ⟨r, hs⟩ := hs
  exact ⟨g, a, neg, na, v1, v2, va, wa, 0, x, r, rfl, hb, hR, hA.below hb hA.a.lt, m1, m2, h1.below hb, h2.below hb, hs⟩
end Go.Proofs.YtbcgeeaboecmgaaGreatDoor

namespace Go.Proofs.YtbcgeeaboecmgaaGreatDoor
open Go Go.RowKit Go.Proofs.YtbcgeeaboecmgaaGreatDoorW.PrintWords
set_option linter.unusedVariables false
set_option linter.unusedSimpArgs false

theorem kind_rat (g : Nat) : ∀ w, (method 477 80 (.agg #[.pointer (some ⟨g, 0, none⟩)]) "Kind").run Tryz.prog w = .ok (373, .agg #[.pointer (some ⟨g, 0, none⟩)]) w := fun _ => by kernel_rfl
theorem kind_i64 (n : Int) : ∀ w, (method 477 65 (.int .i64 n) "Kind").run Tryz.prog w = .ok (363, .int .i64 n) w := fun _ => by kernel_rfl
def CxR (p q : Value) (w : World) (e : Ending) (w' : World) : Prop := e = .returned (cpxV p q) ∧ Below w.heap.size w w'
set_option maxRecDepth 100000 in
set_option maxHeartbeats 1000000 in
theorem mkc_ir (b : Nat) (w : World) : Calls Tryz.prog 58 #[i64V 0, ratV b] w (CxR (i64V 0) (ratV b) w) := by
  have k1 := kind_rat b
  have k2 := kind_i64 0
  go_enter Tryz.func58, Tryz.ntmps58
  go_wp2
  go_ret
  exact ⟨rfl, by repeat (first | exact Below.refl _ _ | refine below_alloc ?_ _)⟩
set_option maxRecDepth 100000 in
set_option maxHeartbeats 1000000 in
theorem mkc_rr (a b : Nat) (w : World) : Calls Tryz.prog 58 #[ratV a, ratV b] w (CxR (ratV a) (ratV b) w) := by
  have k1 := kind_rat b
  have k2 := kind_rat a
  go_enter Tryz.func58, Tryz.ntmps58
  go_wp2
  go_ret
  exact ⟨rfl, by repeat (first | exact Below.refl _ _ | refine below_alloc ?_ _)⟩
set_option maxRecDepth 100000 in
set_option maxHeartbeats 1000000 in
theorem mkimag (b : Nat) (w : World) : Calls Tryz.prog 64 #[ratV b] w (CxR (i64V 0) (ratV b) w) := by
  have t1 := ta_rat_unk b
  have t2 := ta_rat_i64 b
  have t3 := ta_rat_int b
  have t4 := ta_rat_rat b
  have t5 := ta_rat_flt b
  go_enter Tryz.func64, Tryz.ntmps64
  go_wp2_with (go_at_call 58; (with_reducible refine (mkc_ir _ _).mono ?_); rintro e w' ⟨rfl, hb⟩; have HB := Aside0.mk hb; clear hb)
  go_ret
  exact ⟨rfl, HB.out⟩
def CmatR (a : Nat) (p q : Value) (w : World) (e : Ending) (w' : World) : Prop := e = .returned (.tuple #[cpxV (ratV a) (i64V 0), cpxV p q]) ∧ Below w.heap.size w w'
set_option maxRecDepth 100000 in
set_option maxHeartbeats 1000000 in
theorem vtoc1 (a : Nat) (w : World) : Calls Tryz.prog 151 #[ratV a] w fun e w' => e = .returned (.agg #[ratV a, i64V 0]) ∧ Below w.heap.size w w' := by
  go_enter Tryz.func151, Tryz.ntmps151
  go_wp2
  refine bodyPost_ret (v := .agg #[ratV a, i64V 0]) (by simp [results, Tryz.results151, go_sem]) rfl ⟨rfl, ?_⟩
  repeat refine Below.setCell ?_ (by simp only []; omega) _
  repeat (first | exact Below.refl _ _ | refine below_alloc ?_ _)
set_option maxRecDepth 100000 in
set_option maxHeartbeats 1000000 in
theorem match0_rc (a : Nat) (p q : Value) (w : World) : Calls Tryz.prog 83 #[ratV a, cpxV p q] w (CmatR a p q w) := by
  have t1 := ta_cpx_int p q
  have t2 := ta_cpx_rat p q
  have t3 := ta_cpx_flt p q
  have t4 := ta_cpx_cpx p q
  have u2 := ta_rat_i64 a
  have u3 := ta_rat_int a
  have u4 := ta_rat_rat a
  have u5 := ta_rat_flt a
  go_enter Tryz.func83, Tryz.ntmps83
  go_wp2_with (go_at_call 151; (with_reducible refine (vtoc1 _ _).mono ?_); rintro e w' ⟨rfl, hb⟩; have HB := Aside0.mk hb; clear hb)
  go_ret2
  exact ⟨rfl, HB.out⟩
set_option maxRecDepth 100000 in
set_option maxHeartbeats 1000000 in
theorem match_rc (a : Nat) (p q : Value) (w : World) : Calls Tryz.prog 25 #[ratV a, cpxV p q] w (CmatR a p q w) := by
  go_enter Tryz.func25, Tryz.ntmps25
  go_wp2_with (first
    | (go_at_call 82; (with_reducible refine (ord_rat _ _).mono ?_); rintro e w' ⟨rfl, rfl⟩)
    | (go_at_call 82; (with_reducible refine (ord_cpx _ _ _).mono ?_); rintro e w' ⟨rfl, rfl⟩)
    | (go_at_call 83; (with_reducible refine (match0_rc _ _ _ _).mono ?_); rintro e w' ⟨rfl, hb⟩; have HB := Aside0.mk hb; clear hb))
  go_ret2
  exact ⟨rfl, HB.out⟩
set_option maxRecDepth 100000 in
set_option maxHeartbeats 1000000 in
theorem add_rz (a : Nat) (na : Bool) (va wa : Value) (x : Int) (w : World) (hA : RatAt w a na va wa) (h1 : N1 w va x) (h2 : N1 w wa 1) : Calls Tryz.prog 54 #[ratV a, i64V 0] w (RvR w) := by
  have HH := Aside0.mk (bin_rz a na va wa x w hA h1 h2)
  clear hA h1 h2
  go_enter Tryz.func54, Tryz.ntmps54
  go_wp2_with (go_at_call 12; (with_reducible refine HH.out.mono ?_); rintro e w' ⟨g, rfl, hb⟩; have HB := Aside0.mk hb; clear hb)
  go_ret
  exact ⟨_, rfl, HB.out⟩
set_option maxRecDepth 100000 in
set_option maxHeartbeats 1000000 in
theorem add_zr (a : Nat) (na : Bool) (va wa : Value) (x : Int) (w : World) (hA : RatAt w a na va wa) (h1 : N1 w va x) (h2 : N1 w wa 1) : Calls Tryz.prog 54 #[i64V 0, ratV a] w (RvR w) := by
  have HH := Aside0.mk (bin_zr a na va wa x w hA h1 h2)
  clear hA h1 h2
  go_enter Tryz.func54, Tryz.ntmps54
  go_wp2_with (go_at_call 12; (with_reducible refine HH.out.mono ?_); rintro e w' ⟨g, rfl, hb⟩; have HB := Aside0.mk hb; clear hb)
  go_ret
  exact ⟨_, rfl, HB.out⟩
set_option maxRecDepth 100000 in
set_option maxHeartbeats 2000000 in
theorem bin_cpx (a b : Nat) (na nb : Bool) (va wa vb wb : Value) (x y : Int) (w : World) (hA : RatAt w a na va wa) (h1 : N1 w va x) (h2 : N1 w wa 1) (hB : RatAt w b nb vb wb) (h3 : N1 w vb y) (h4 : N1 w wb 1) :
    Calls Tryz.prog 12 #[ratV a, .int .i64 12, cpxV (i64V 0) (ratV b)] w (UnR w) := by
  have la := hA.a.lt
  have lb := hB.a.lt
  have HH := Aside0.mk (fun W (hW : Below w.heap.size w W) => add_rz a na va wa x W (hA.below hW la) (h1.below hW) (h2.below hW))
  have HI := Aside0.mk (fun W (hW : Below w.heap.size w W) => add_zr b nb vb wb y W (hB.below hW lb) (h3.below hW) (h4.below hW))
  clear hA h1 h2 hB h3 h4 la lb
  have t1 := ta_cpx_unk (ratV a) (i64V 0)
  have t2 := ta_cpx_bool (ratV a) (i64V 0)
  have t3 := ta_cpx_i64 (ratV a) (i64V 0)
  have t4 := ta_cpx_int (ratV a) (i64V 0)
  have t5 := ta_cpx_rat (ratV a) (i64V 0)
  have t6 := ta_cpx_flt (ratV a) (i64V 0)
  have t7 := ta_cpx_cpx (ratV a) (i64V 0)
  have t9 : ∀ w, (Instr.typeAssert (cpxV (i64V 0) (ratV b)) 44 89 false).run Tryz.prog w = .ok (.agg #[i64V 0, ratV b]) w := fun _ => by kernel_rfl
  have f1 : ∀ w, (Instr.field 89 (.agg #[i64V 0, ratV b]) 0).run Tryz.prog w = .ok (i64V 0) w := fun _ => by kernel_rfl
  have f2 : ∀ w, (Instr.field 89 (.agg #[i64V 0, ratV b]) 1).run Tryz.prog w = .ok (ratV b) w := fun _ => by kernel_rfl
  have f3 : ∀ w, (Instr.field 89 (.agg #[ratV a, i64V 0]) 0).run Tryz.prog w = .ok (ratV a) w := fun _ => by kernel_rfl
  have f4 : ∀ w, (Instr.field 89 (.agg #[ratV a, i64V 0]) 1).run Tryz.prog w = .ok (i64V 0) w := fun _ => by kernel_rfl
  go_enter Tryz.func12, Tryz.ntmps12
  go_wp2
  go_step3
  go_wp2_with fail
  refine (match_rc _ _ _ _).mono ?_
  rintro e w1 ⟨rfl, hb1⟩
  have B1 := Aside0.mk hb1
  clear hb1
  go_wp2_with fail
  go_quiet (fail)
  go_wp2_with fail
  go_quiet (fail)
  go_wp2_with fail
  refine (HH.out _ ?_).mono ?_
  · exact B1.out.trans ((below_drewN (below_alloc (below_alloc (Below.refl _ _) _) _) _).mono B1.out.size)
  rintro e w2 ⟨g, rfl, hb2⟩
  have B2 : Aside0 (Below w.heap.size w w2) := ⟨(B1.out.trans ((below_drewN (below_alloc (below_alloc (Below.refl _ _) _) _) _).mono B1.out.size)).trans (hb2.mono (Nat.le_trans B1.out.size (by simp <;> omega)))⟩
  clear hb2
  go_wp2_with fail
  refine (HI.out _ B2.out).mono ?_
  rintro e w3 ⟨g', rfl, hb3⟩
  have B3 : Aside0 (Below w.heap.size w w3) := ⟨B2.out.trans (hb3.mono B2.out.size)⟩
  clear hb3
  go_wp2_with fail
  refine (mkc_rr g g' _).mono ?_
  rintro e w4 ⟨rfl, hb4⟩
  have B4 : Aside0 (Below w.heap.size w w4) := ⟨B3.out.trans (hb4.mono B3.out.size)⟩
  clear hb4
  go_wp2_with fail
  rw [Exit.noGoto_ret]
  go_ret
  exact ⟨_, rfl, .cpx _ _, B4.out⟩
end Go.Proofs.YtbcgeeaboecmgaaGreatDoor

namespace Go.Proofs.YtbcgeeaboecmgaaGreatDoor
open Go Go.RowKit Go.Proofs.YtbcgeeaboecmgaaGreatDoorW.PrintWords
set_option linter.unusedVariables false
set_option linter.unusedSimpArgs false

/-- A value of the thin package. -/
abbrev valJ (k : Int) (t : Bool) (s : ByteArray) (n1 : Bool) (w1 d1 : Value) (n2 : Bool) (w2 d2 : Value) : Value := .agg #[.int .i64 k, .bool t, .string s, .bool n1, w1, d1, .bool n2, w2, d2]
abbrev nilS : Value := .slice none 0 0
set_option maxRecDepth 100000 in
set_option maxHeartbeats 1000000 in
theorem made_0 (w : World) : Calls Tryz.prog 13 #[valJ 0 false ⟨#[]⟩ false nilS nilS false nilS nilS] w (UnR w) := by
  go_enter Tryz.func13, Tryz.ntmps13
  go_wp2
  go_ret
  exact ⟨_, rfl, .unk, by repeat (first | exact Below.refl _ _ | refine below_alloc ?_ _)⟩
set_option maxRecDepth 100000 in
set_option maxHeartbeats 1000000 in
theorem made_1 (b : Bool) (w : World) : Calls Tryz.prog 13 #[valJ 1 b ⟨#[]⟩ false nilS nilS false nilS nilS] w (UnR w) := by
  go_enter Tryz.func13, Tryz.ntmps13
  go_wp2
  go_ret
  exact ⟨_, rfl, .bool _, by repeat (first | exact Below.refl _ _ | refine below_alloc ?_ _)⟩
set_option maxRecDepth 100000 in
set_option maxHeartbeats 1000000 in
theorem made_2 (s : ByteArray) (hs : s.toList.isEmpty = false) (w : World) : Calls Tryz.prog 13 #[valJ 2 false s false nilS nilS false nilS nilS] w (UnR w) := by
  go_enter Tryz.func13, Tryz.ntmps13
  go_wp2
  go_ret
  exact ⟨_, rfl, .str _, by repeat (first | exact Below.refl _ _ | refine below_alloc ?_ _)⟩
set_option maxRecDepth 100000 in
set_option maxHeartbeats 1000000 in
theorem made_3 (neg : Bool) (A : Option Addr) (c : Nat) (l : List Int) (hl : Short l) (w : World) (hr : (Kd.int .u64).C w A l.length l) (hc : l.length ≤ c) :
    Calls Tryz.prog 13 #[valJ 3 false ⟨#[]⟩ neg (.slice A l.length c) nilS false nilS nilS] w (UnR w) := by
  have HO := Aside0.mk (fun W (hb : Below w.heap.size w W) => of_any neg A c l hl W (Kd.C_below hr hb) hc)
  clear hl hr hc
  go_enter Tryz.func13, Tryz.ntmps13
  go_wp2_with fail
  refine (HO.out _ (below_alloc (Below.refl _ _) _)).mono ?_
  rintro e w1 ⟨g, ng, v, rfl, hg, hI, hN, hb⟩
  have HX : Aside0 (Below w.heap.size w w1 ∧ IntAt w1 g 0 ng v ∧ N1 w1 v (hd0 l)) := ⟨(below_alloc (Below.refl _ _) _).trans (hb.mono (by simp)), hI, hN⟩
  clear hg hI hN hb
  go_wp2_with (go_at_call 61; (with_reducible refine (make_int _ _ _ _ _ HX.out.2.1 HX.out.2.2).mono ?_); rintro e w' ⟨u, rfl, hU, hb⟩; have HY := Aside0.mk (And.intro hU hb); clear hU hb)
  go_ret
  exact ⟨_, rfl, HY.out.1, HX.out.1.trans (HY.out.2.mono HX.out.1.size)⟩
set_option maxRecDepth 100000 in
set_option maxHeartbeats 1000000 in
theorem made_4 (neg : Bool) (A : Option Addr) (c : Nat) (l : List Int) (hl : Short l) (B : Option Addr) (d : Nat) (w : World) (hr : (Kd.int .u64).C w A l.length l) (hc : l.length ≤ c) (hr2 : (Kd.int .u64).C w B 1 [1]) (hc2 : 1 ≤ d) :
    Calls Tryz.prog 13 #[valJ 4 false ⟨#[]⟩ neg (.slice A l.length c) (.slice B 1 d) false nilS nilS] w (UnR w) := by
  have HO := Aside0.mk (fun W (hb : Below w.heap.size w W) => over_any neg A c l hl B d W (Kd.C_below hr hb) hc (Kd.C_below hr2 hb) hc2)
  clear hl hr hc hr2 hc2
  go_enter Tryz.func13, Tryz.ntmps13
  go_wp2_with fail
  refine (HO.out _ (below_alloc (Below.refl _ _) _)).mono ?_
  rintro e w1 ⟨g, ng, v1, v2, rfl, hg, hR, h1, h2, hb⟩
  have HX : Aside0 (Below w.heap.size w w1 ∧ RatAt w1 g ng v1 v2 ∧ N1 w1 v1 (hd0 l) ∧ N1 w1 v2 1) := ⟨(below_alloc (Below.refl _ _) _).trans (hb.mono (by simp)), hR, h1, h2⟩
  clear hg hR h1 h2 hb
  go_wp2_with (go_at_call 61; (with_reducible refine (make_rat _ _ _ _ _ _ HX.out.2.1 HX.out.2.2.1 HX.out.2.2.2).mono ?_); rintro e w' ⟨rfl, rfl⟩)
  go_ret
  exact ⟨_, rfl, .rat _, HX.out.1⟩
/-- A Rat of one word over 1. -/
def RP (W : World) (g : Nat) : Prop := ∃ neg v1 v2 x, RatAt W g neg v1 v2 ∧ N1 W v1 x ∧ N1 W v2 1
theorem RP.below {W W' : World} {g : Nat} (h : Aside0 (RP W g)) (hb : Aside0 (Below W.heap.size W W')) : Aside0 (RP W' g) := by
  obtain ⟨neg, v1, v2, x, hR, h1, h2⟩ := h.out
  exact ⟨neg, v1, v2, x, hR.below hb.out hR.a.lt, h1.below hb.out, h2.below hb.out⟩
theorem RP.below2 {W W1 W' : World} {g : Nat} (h : Aside0 (RP W g)) (hb : Aside0 (Below W.heap.size W W1)) (hc : Aside0 (Below W1.heap.size W1 W')) : Aside0 (RP W' g) := RP.below (RP.below h hb) hc
/-- What stands of the value while its numbers are made. -/
abbrev S5 (w : World) (n1 : Bool) (w1 d1 : Value) (n2 : Bool) (w2 d2 : Value) (W : World) : Prop :=
  W.cell? ⟨w.heap.size, 3, none⟩ = some (.bool n1) ∧ W.cell? ⟨w.heap.size, 4, none⟩ = some w1 ∧ W.cell? ⟨w.heap.size, 5, none⟩ = some d1 ∧ W.cell? ⟨w.heap.size, 6, none⟩ = some (.bool n2) ∧ W.cell? ⟨w.heap.size, 7, none⟩ = some w2 ∧ W.cell? ⟨w.heap.size, 8, none⟩ = some d2 ∧ Aside0 (w.heap.size < W.heap.size ∧ Below w.heap.size w W)
theorem S5.step {w : World} {n1 : Bool} {w1 d1 : Value} {n2 : Bool} {w2 d2 : Value} {W W' : World} (h : S5 w n1 w1 d1 n2 w2 d2 W) (hb : Below W.heap.size W W') : S5 w n1 w1 d1 n2 w2 d2 W' := by
  obtain ⟨c3, c4, c5, c6, c7, c8, h⟩ := h
  have hl := h.out.1
  exact ⟨(hb.cell (p := ⟨w.heap.size, 3, none⟩) hl).trans c3, (hb.cell (p := ⟨w.heap.size, 4, none⟩) hl).trans c4, (hb.cell (p := ⟨w.heap.size, 5, none⟩) hl).trans c5, (hb.cell (p := ⟨w.heap.size, 6, none⟩) hl).trans c6, (hb.cell (p := ⟨w.heap.size, 7, none⟩) hl).trans c7, (hb.cell (p := ⟨w.heap.size, 8, none⟩) hl).trans c8, ⟨Nat.lt_of_lt_of_le hl hb.size, h.out.2.trans (hb.mono h.out.2.size)⟩⟩
theorem make_rp {W : World} {g : Nat} (h : Aside0 (RP W g)) : Calls Tryz.prog 61 #[anyR g] W fun e w' => e = .returned (ratV g) ∧ W = w' := by
  obtain ⟨neg, v1, v2, x, hR, h1, h2⟩ := h.out
  exact make_rat g neg v1 v2 x W hR h1 h2
theorem over_rp {l : List Int} {P : World → Prop} {F : Value → Array Value} {n : Bool} {v d : Value} {W : World} (h : Calls Tryz.prog 63 #[.agg #[.bool n, v], d] W (OvR l W)) (hP : P W) (hs : ∀ W', P W → Below W.heap.size W W' → P W') :
    Calls Tryz.prog 63 #[.agg #[.bool n, v], d] W fun e w' => ∃ g, e = .returned (.pointer (some ⟨g, 0, none⟩)) ∧ Aside0 (RP w' g) ∧ Aside0 (Below W.heap.size W w') ∧ P w' := by
  refine h.mono ?_
  rintro e w' ⟨g, ng, v1, v2, rfl, hg, hR, h1, h2, hb⟩
  exact ⟨g, rfl, ⟨_, _, _, _, hR, h1, h2⟩, ⟨hb⟩, hs _ hP hb⟩
theorem mkimag5 {w : World} {n1 : Bool} {w1 d1 : Value} {n2 : Bool} {w2 d2 : Value} {W : World} (h : S5 w n1 w1 d1 n2 w2 d2 W) (b : Nat) :
    Calls Tryz.prog 64 #[ratV b] W fun e w' => e = .returned (cpxV (i64V 0) (ratV b)) ∧ Aside0 (Below W.heap.size W w') ∧ S5 w n1 w1 d1 n2 w2 d2 w' := by
  refine (mkimag b W).mono ?_
  rintro e w' ⟨rfl, hb⟩
  exact ⟨rfl, ⟨hb⟩, h.step hb⟩
theorem bin5 {w : World} {n1 : Bool} {w1 d1 : Value} {n2 : Bool} {w2 d2 : Value} {W : World} (h : S5 w n1 w1 d1 n2 w2 d2 W) {a b : Nat} (ha : Aside0 (RP W a)) (hb : Aside0 (RP W b)) :
    Calls Tryz.prog 12 #[ratV a, .int .i64 12, cpxV (i64V 0) (ratV b)] W fun e w' => ∃ u, e = .returned u ∧ Aside0 (Un u) ∧ S5 w n1 w1 d1 n2 w2 d2 w' := by
  obtain ⟨neg, v1, v2, x, hR, h1, h2⟩ := ha.out
  obtain ⟨neg', v1', v2', x', hR', h1', h2'⟩ := hb.out
  refine (bin_cpx a b neg neg' v1 v2 v1' v2' x x' W hR h1 h2 hR' h1' h2').mono ?_
  rintro e w' ⟨u, rfl, hU, hb⟩
  exact ⟨u, rfl, ⟨hU⟩, h.step hb⟩
set_option maxRecDepth 100000 in
set_option maxHeartbeats 8000000 in
theorem made_5 (neg : Bool) (A : Option Addr) (c : Nat) (l : List Int) (hl : Short l) (B : Option Addr) (d : Nat) (B' : Option Addr) (d' : Nat) (w : World) (hr : (Kd.int .u64).C w A l.length l) (hc : l.length ≤ c) (hr2 : (Kd.int .u64).C w B 1 [1]) (hc2 : 1 ≤ d) (hr3 : (Kd.int .u64).C w B' 1 [1]) (hc3 : 1 ≤ d') :
    Calls Tryz.prog 13 #[valJ 5 false ⟨#[]⟩ neg (.slice A l.length c) (.slice B 1 d) neg (.slice A l.length c) (.slice B' 1 d')] w (UnR w) := by
  have HO : Aside0 (∀ W, S5 w neg (.slice A l.length c) (.slice B 1 d) neg (.slice A l.length c) (.slice B' 1 d') W → Calls Tryz.prog 63 #[.agg #[.bool neg, .slice A l.length c], .slice B 1 d] W fun e w' => ∃ g, e = .returned (.pointer (some ⟨g, 0, none⟩)) ∧ Aside0 (RP w' g) ∧ Aside0 (Below W.heap.size W w') ∧ S5 w neg (.slice A l.length c) (.slice B 1 d) neg (.slice A l.length c) (.slice B' 1 d') w') :=
    ⟨fun W hS => over_rp (F := fun _ => #[]) (P := S5 w neg (.slice A l.length c) (.slice B 1 d) neg (.slice A l.length c) (.slice B' 1 d')) (over_any neg A c l hl B d W (Kd.C_below hr hS.2.2.2.2.2.2.out.2) hc (Kd.C_below hr2 hS.2.2.2.2.2.2.out.2) hc2) hS fun _ h hb => h.step hb⟩
  have HP : Aside0 (∀ W, S5 w neg (.slice A l.length c) (.slice B 1 d) neg (.slice A l.length c) (.slice B' 1 d') W → Calls Tryz.prog 63 #[.agg #[.bool neg, .slice A l.length c], .slice B' 1 d'] W fun e w' => ∃ g, e = .returned (.pointer (some ⟨g, 0, none⟩)) ∧ Aside0 (RP w' g) ∧ Aside0 (Below W.heap.size W w') ∧ S5 w neg (.slice A l.length c) (.slice B 1 d) neg (.slice A l.length c) (.slice B' 1 d') w') :=
    ⟨fun W hS => over_rp (F := fun _ => #[]) (P := S5 w neg (.slice A l.length c) (.slice B 1 d) neg (.slice A l.length c) (.slice B' 1 d')) (over_any neg A c l hl B' d' W (Kd.C_below hr hS.2.2.2.2.2.2.out.2) hc (Kd.C_below hr3 hS.2.2.2.2.2.2.out.2) hc3) hS fun _ h hb => h.step hb⟩
  clear hl hr hc hr2 hc2 hr3 hc3
  go_enter Tryz.func13, Tryz.ntmps13
  go_wp2_with fail
  have HT : Aside0 (S5 w neg (.slice A l.length c) (.slice B 1 d) neg (.slice A l.length c) (.slice B' 1 d') (w.alloc (.cells #[.int .i64 5, .bool false, .string ⟨#[]⟩, .bool neg, .slice A l.length c, .slice B 1 d, .bool neg, .slice A l.length c, .slice B' 1 d'] 26)).drew) :=
    ⟨cn rfl, cn rfl, cn rfl, cn rfl, cn rfl, cn rfl, ⟨by simp, below_drew (below_alloc (Below.refl _ _) _)⟩⟩
  go_region_held3 (fun W => W.cell? ⟨w.heap.size, 3, none⟩ = some (.bool neg) ∧ W.cell? ⟨w.heap.size, 4, none⟩ = some (.slice A l.length c) ∧ W.cell? ⟨w.heap.size, 5, none⟩ = some (.slice B 1 d) ∧ W.cell? ⟨w.heap.size, 6, none⟩ = some (.bool neg) ∧ W.cell? ⟨w.heap.size, 7, none⟩ = some (.slice A l.length c) ∧ W.cell? ⟨w.heap.size, 8, none⟩ = some (.slice B' 1 d') ∧ Aside0 (w.heap.size < W.heap.size ∧ Below w.heap.size w W))
    (first | with_reducible assumption | exact HT.out)
    (first
      | (go_at_call 63; (with_reducible refine (HO.out _ (by with_reducible assumption)).mono ?_); rintro e w' ⟨g, rfl, hRP, hbb, hsi⟩)
      | (go_at_call 63; (with_reducible refine (HP.out _ (by with_reducible assumption)).mono ?_); rintro e w' ⟨g, rfl, hRP, hbb, hsi⟩)
      | (go_at_call 61; (with_reducible refine (make_rp (by with_reducible assumption)).mono ?_); rintro e w' ⟨rfl, rfl⟩)
      | (go_at_call 64; (with_reducible refine (mkimag5 (by with_reducible assumption) _).mono ?_); rintro e w' ⟨rfl, hbb, hsi⟩)
      | (go_at_call 12; (with_reducible refine (bin5 (by with_reducible assumption) (RP.below2 (by with_reducible assumption) (by with_reducible assumption) (by with_reducible assumption)) (RP.below (by with_reducible assumption) (by with_reducible assumption))).mono ?_); rintro e w' ⟨u, rfl, hU, hsi⟩))
  all_goals
    go_wp2
    go_ret
    exact ⟨_, rfl, hU.out, hsi.2.2.2.2.2.2.out.2⟩
end Go.Proofs.YtbcgeeaboecmgaaGreatDoor
