/- strconv.UnquoteChar: its ways, each by its own walk. -/
import Derived.Test.YtlfmgidpdmmpkaaGreatDoorB
import Derived.Test.YtlfmgidpdmmpkaaGreatDoorPs0
import Derived.Test.YtlfmgidpdmmpkaaGreatDoorPs1
import Derived.Test.YtlfmgidpdmmpkaaGreatDoorPs2
import Derived.Test.YtlfmgidpdmmpkaaGreatDoorEsc
namespace Go.Proofs.YtlfmgidpdmmpkaaGreatDoor
open Go Go.RowKit Go.Proofs.YtlfmgidpdmmpkaaGreatDoorW.PrintWords Ps
set_option linter.unusedVariables false
set_option linter.unusedSimpArgs false

/-- What UnquoteChar gives: an error, or a character, whether it is of several bytes, and the rest. -/
def uqVal (t : TypeId) (v : Value) : Option (Int × Bool × ByteArray) → Value
  | none => .tuple #[.int .i32 0, .bool false, .string ⟨#[]⟩, .iface t v]
  | some (n, m, r) => .tuple #[.int .i32 n, .bool m, .string r, .nilIface]
abbrev ErrAt (w : World) (t : TypeId) (v : Value) : Prop := w.cell? ⟨0, 0, none⟩ = some (.iface t v)

set_option maxRecDepth 100000 in
set_option maxHeartbeats 2000000 in
theorem uq_empty (s : ByteArray) (q : Int) (t : TypeId) (v : Value) (w : World) (hE : ErrAt w t v) (h0 : s.size = 0) :
    Calls Tryz.prog 26 #[.string s, .int .u8 q] w fun e w' => e = .returned (uqVal t v none) ∧ w' = w := by
  unfold ErrAt at hE
  have h2 : ((s.size : Int) == 0) = true := by rw [h0]; rfl
  clear h0
  go_enter Tryz.func26, Tryz.ntmps26
  go_wp2
  refine bodyPost_ret (v := .tuple #[.int .i32 0, .bool false, .string ⟨#[]⟩, .iface t v]) (by simp [results, Tryz.results26, go_sem]) rfl ⟨rfl, rfl⟩

set_option maxRecDepth 100000 in
set_option maxHeartbeats 2000000 in
theorem uq_quote (s : ByteArray) (q : Int) (t : TypeId) (v : Value) (w : World) (hE : ErrAt w t v) (h0 : 0 < s.size) (hq : (bt s 0 == q) = true) (hq2 : (q == 39) = true) :
    Calls Tryz.prog 26 #[.string s, .int .u8 q] w fun e w' => e = .returned (uqVal t v none) ∧ w' = w := by
  unfold ErrAt at hE
  have hx : ∀ h : 0 < s.size, ((s[0]'h).toNat : Int) = bt s 0 := bt_at s 0
  have q0 := eq_true (show 0 < s.size by omega)
  have h2 : ((s.size : Int) == 0) = false := by rw [beq_eq_false_iff_ne]; omega
  go_enter Tryz.func26, Tryz.ntmps26
  go_wp2
  refine bodyPost_ret (v := .tuple #[.int .i32 0, .bool false, .string ⟨#[]⟩, .iface t v]) (by simp [results, Tryz.results26, go_sem]) rfl ⟨rfl, rfl⟩

set_option maxRecDepth 100000 in
set_option maxHeartbeats 2000000 in
theorem uq_quote34 (s : ByteArray) (q : Int) (t : TypeId) (v : Value) (w : World) (hE : ErrAt w t v) (h0 : 0 < s.size) (hq : (bt s 0 == q) = true) (hq2 : (q == 39) = false) (hq3 : (q == 34) = true) :
    Calls Tryz.prog 26 #[.string s, .int .u8 q] w fun e w' => e = .returned (uqVal t v none) ∧ w' = w := by
  unfold ErrAt at hE
  have hx : ∀ h : 0 < s.size, ((s[0]'h).toNat : Int) = bt s 0 := bt_at s 0
  have q0 := eq_true (show 0 < s.size by omega)
  have h2 : ((s.size : Int) == 0) = false := by rw [beq_eq_false_iff_ne]; omega
  go_enter Tryz.func26, Tryz.ntmps26
  go_wp2
  refine bodyPost_ret (v := .tuple #[.int .i32 0, .bool false, .string ⟨#[]⟩, .iface t v]) (by simp [results, Tryz.results26, go_sem]) rfl ⟨rfl, rfl⟩

set_option maxRecDepth 100000 in
set_option maxHeartbeats 2000000 in
theorem uq_plain (s : ByteArray) (q : Int) (t : TypeId) (v : Value) (w : World) (hE : ErrAt w t v) (h0 : 0 < s.size) (hs : s.size ≤ 4096) (hq : (bt s 0 == q) = false) (hl : bt s 0 < 128) (hb : (bt s 0 != 92) = true) :
    Calls Tryz.prog 26 #[.string s, .int .u8 q] w fun e w' => e = .returned (uqVal t v (some (bt s 0, false, s.extract 1 s.size))) ∧ Drawn0 w w' := by
  unfold ErrAt at hE
  have hx : ∀ h : 0 < s.size, ((s[0]'h).toNat : Int) = bt s 0 := bt_at s 0
  have q0 := eq_true (show 0 < s.size by omega)
  have h2 : ((s.size : Int) == 0) = false := by rw [beq_eq_false_iff_ne]; omega
  go_enter Tryz.func26, Tryz.ntmps26
  go_wp2
  go_region
  go_wp2
  have hw : wrap32 (bt s 0) = bt s 0 := by have := bt_range s 0; unfold wrap32; omega
  rw [hw]
  refine bodyPost_ret (v := .tuple #[.int .i32 (bt s 0), .bool false, .string (s.extract 1 s.size), .nilIface]) (by simp [results, Tryz.results26, go_sem]) rfl ⟨rfl, ⟨1, rfl⟩⟩

set_option maxRecDepth 100000 in
set_option maxHeartbeats 2000000 in
theorem uq_wide (s : ByteArray) (q : Int) (t : TypeId) (v : Value) (w : World) (hE : ErrAt w t v) (h0 : 0 < s.size) (hs : s.size ≤ 4096) (hq : (bt s 0 == q) = false) (hl : 128 ≤ bt s 0) (r n : Nat) (hn : n ≤ s.size) (hd : Calls Tryz.prog 90 #[.string s] w fun e w' => e = .returned (.tuple #[.int .i32 r, .int .i64 n]) ∧ Below w.heap.size w w') :
    Calls Tryz.prog 26 #[.string s, .int .u8 q] w fun e w' => e = .returned (uqVal t v (some ((r : Int), true, s.extract n s.size))) ∧ Below w.heap.size w w' := by
  unfold ErrAt at hE
  have hx : ∀ h : 0 < s.size, ((s[0]'h).toNat : Int) = bt s 0 := bt_at s 0
  have q0 := eq_true (show 0 < s.size by omega)
  have h2 : ((s.size : Int) == 0) = false := by rw [beq_eq_false_iff_ne]; omega
  have HD := Aside0.mk hd
  clear hd
  go_enter Tryz.func26, Tryz.ntmps26
  go_wp2_with fail
  refine HD.out.mono ?_
  rintro e w1 ⟨rfl, hbel⟩
  have HB := Aside0.mk hbel
  clear hbel
  go_wp2
  go_region
  go_wp2
  refine bodyPost_ret (v := .tuple #[.int .i32 r, .bool true, .string (s.extract n s.size), .nilIface]) (by simp [results, Tryz.results26, go_sem]) rfl ⟨rfl, ?_⟩
  exact HB.out.drew

set_option maxRecDepth 100000 in
set_option maxHeartbeats 2000000 in
theorem uq_lone (s : ByteArray) (q : Int) (t : TypeId) (v : Value) (w : World) (hE : ErrAt w t v) (h1 : s.size = 1) (hq : (92 == q) = false) (hb : bt s 0 = 92) :
    Calls Tryz.prog 26 #[.string s, .int .u8 q] w fun e w' => e = .returned (uqVal t v none) ∧ w' = w := by
  unfold ErrAt at hE
  have h0 : 0 < s.size := by omega
  have hx : ∀ h : 0 < s.size, ((s[0]'h).toNat : Int) = bt s 0 := bt_at s 0
  have q0 := eq_true (show 0 < s.size by omega)
  rw [hb] at hx
  have h2 : ((s.size : Int) == 0) = false := by rw [beq_eq_false_iff_ne]; omega
  have h3 : (s.size : Int) ≤ 1 := by omega
  clear h1 hb
  go_enter Tryz.func26, Tryz.ntmps26
  go_wp2
  refine bodyPost_ret (v := .tuple #[.int .i32 0, .bool false, .string ⟨#[]⟩, .iface t v]) (by simp [results, Tryz.results26, go_sem]) rfl ⟨rfl, rfl⟩

set_option maxRecDepth 100000 in
set_option maxHeartbeats 2000000 in
theorem uq_e97 (s : ByteArray) (q : Int) (t : TypeId) (v : Value) (w : World) (hE : ErrAt w t v) (h1 : 1 < s.size) (hs : s.size ≤ 4096) (hq : (92 == q) = false) (hb : bt s 0 = 92) (hc : bt s 1 = 97) :
    Calls Tryz.prog 26 #[.string s, .int .u8 q] w fun e w' => e = .returned (uqVal t v (some (7, false, s.extract 2 s.size))) ∧ w' = w := by
  unfold ErrAt at hE
  have h0 : 0 < s.size := by omega
  have hx : ∀ h : 0 < s.size, ((s[0]'h).toNat : Int) = bt s 0 := bt_at s 0
  have q0 := eq_true (show 0 < s.size by omega)
  have hx1 : ∀ h : 1 < s.size, ((s[1]'h).toNat : Int) = bt s 1 := bt_at s 1
  have q1 := eq_true (show 1 < s.size by omega)
  have h2 : ((s.size : Int) == 0) = false := by rw [beq_eq_false_iff_ne]; omega
  rw [hb] at hx
  rw [hc] at hx1
  clear hb hc
  go_enter Tryz.func26, Tryz.ntmps26
  go_wp2
  refine bodyPost_ret (v := .tuple #[.int .i32 7, .bool false, .string (s.extract 2 s.size), .nilIface]) (by simp [results, Tryz.results26, go_sem]) rfl ⟨rfl, rfl⟩

set_option maxRecDepth 100000 in
set_option maxHeartbeats 2000000 in
theorem uq_e98 (s : ByteArray) (q : Int) (t : TypeId) (v : Value) (w : World) (hE : ErrAt w t v) (h1 : 1 < s.size) (hs : s.size ≤ 4096) (hq : (92 == q) = false) (hb : bt s 0 = 92) (hc : bt s 1 = 98) :
    Calls Tryz.prog 26 #[.string s, .int .u8 q] w fun e w' => e = .returned (uqVal t v (some (8, false, s.extract 2 s.size))) ∧ w' = w := by
  unfold ErrAt at hE
  have h0 : 0 < s.size := by omega
  have hx : ∀ h : 0 < s.size, ((s[0]'h).toNat : Int) = bt s 0 := bt_at s 0
  have q0 := eq_true (show 0 < s.size by omega)
  have hx1 : ∀ h : 1 < s.size, ((s[1]'h).toNat : Int) = bt s 1 := bt_at s 1
  have q1 := eq_true (show 1 < s.size by omega)
  have h2 : ((s.size : Int) == 0) = false := by rw [beq_eq_false_iff_ne]; omega
  rw [hb] at hx
  rw [hc] at hx1
  clear hb hc
  go_enter Tryz.func26, Tryz.ntmps26
  go_wp2
  refine bodyPost_ret (v := .tuple #[.int .i32 8, .bool false, .string (s.extract 2 s.size), .nilIface]) (by simp [results, Tryz.results26, go_sem]) rfl ⟨rfl, rfl⟩

set_option maxRecDepth 100000 in
set_option maxHeartbeats 2000000 in
theorem uq_e102 (s : ByteArray) (q : Int) (t : TypeId) (v : Value) (w : World) (hE : ErrAt w t v) (h1 : 1 < s.size) (hs : s.size ≤ 4096) (hq : (92 == q) = false) (hb : bt s 0 = 92) (hc : bt s 1 = 102) :
    Calls Tryz.prog 26 #[.string s, .int .u8 q] w fun e w' => e = .returned (uqVal t v (some (12, false, s.extract 2 s.size))) ∧ w' = w := by
  unfold ErrAt at hE
  have h0 : 0 < s.size := by omega
  have hx : ∀ h : 0 < s.size, ((s[0]'h).toNat : Int) = bt s 0 := bt_at s 0
  have q0 := eq_true (show 0 < s.size by omega)
  have hx1 : ∀ h : 1 < s.size, ((s[1]'h).toNat : Int) = bt s 1 := bt_at s 1
  have q1 := eq_true (show 1 < s.size by omega)
  have h2 : ((s.size : Int) == 0) = false := by rw [beq_eq_false_iff_ne]; omega
  rw [hb] at hx
  rw [hc] at hx1
  clear hb hc
  go_enter Tryz.func26, Tryz.ntmps26
  go_wp2
  refine bodyPost_ret (v := .tuple #[.int .i32 12, .bool false, .string (s.extract 2 s.size), .nilIface]) (by simp [results, Tryz.results26, go_sem]) rfl ⟨rfl, rfl⟩

set_option maxRecDepth 100000 in
set_option maxHeartbeats 2000000 in
theorem uq_e110 (s : ByteArray) (q : Int) (t : TypeId) (v : Value) (w : World) (hE : ErrAt w t v) (h1 : 1 < s.size) (hs : s.size ≤ 4096) (hq : (92 == q) = false) (hb : bt s 0 = 92) (hc : bt s 1 = 110) :
    Calls Tryz.prog 26 #[.string s, .int .u8 q] w fun e w' => e = .returned (uqVal t v (some (10, false, s.extract 2 s.size))) ∧ w' = w := by
  unfold ErrAt at hE
  have h0 : 0 < s.size := by omega
  have hx : ∀ h : 0 < s.size, ((s[0]'h).toNat : Int) = bt s 0 := bt_at s 0
  have q0 := eq_true (show 0 < s.size by omega)
  have hx1 : ∀ h : 1 < s.size, ((s[1]'h).toNat : Int) = bt s 1 := bt_at s 1
  have q1 := eq_true (show 1 < s.size by omega)
  have h2 : ((s.size : Int) == 0) = false := by rw [beq_eq_false_iff_ne]; omega
  rw [hb] at hx
  rw [hc] at hx1
  clear hb hc
  go_enter Tryz.func26, Tryz.ntmps26
  go_wp2
  refine bodyPost_ret (v := .tuple #[.int .i32 10, .bool false, .string (s.extract 2 s.size), .nilIface]) (by simp [results, Tryz.results26, go_sem]) rfl ⟨rfl, rfl⟩

set_option maxRecDepth 100000 in
set_option maxHeartbeats 2000000 in
theorem uq_e114 (s : ByteArray) (q : Int) (t : TypeId) (v : Value) (w : World) (hE : ErrAt w t v) (h1 : 1 < s.size) (hs : s.size ≤ 4096) (hq : (92 == q) = false) (hb : bt s 0 = 92) (hc : bt s 1 = 114) :
    Calls Tryz.prog 26 #[.string s, .int .u8 q] w fun e w' => e = .returned (uqVal t v (some (13, false, s.extract 2 s.size))) ∧ w' = w := by
  unfold ErrAt at hE
  have h0 : 0 < s.size := by omega
  have hx : ∀ h : 0 < s.size, ((s[0]'h).toNat : Int) = bt s 0 := bt_at s 0
  have q0 := eq_true (show 0 < s.size by omega)
  have hx1 : ∀ h : 1 < s.size, ((s[1]'h).toNat : Int) = bt s 1 := bt_at s 1
  have q1 := eq_true (show 1 < s.size by omega)
  have h2 : ((s.size : Int) == 0) = false := by rw [beq_eq_false_iff_ne]; omega
  rw [hb] at hx
  rw [hc] at hx1
  clear hb hc
  go_enter Tryz.func26, Tryz.ntmps26
  go_wp2
  refine bodyPost_ret (v := .tuple #[.int .i32 13, .bool false, .string (s.extract 2 s.size), .nilIface]) (by simp [results, Tryz.results26, go_sem]) rfl ⟨rfl, rfl⟩

set_option maxRecDepth 100000 in
set_option maxHeartbeats 2000000 in
theorem uq_e116 (s : ByteArray) (q : Int) (t : TypeId) (v : Value) (w : World) (hE : ErrAt w t v) (h1 : 1 < s.size) (hs : s.size ≤ 4096) (hq : (92 == q) = false) (hb : bt s 0 = 92) (hc : bt s 1 = 116) :
    Calls Tryz.prog 26 #[.string s, .int .u8 q] w fun e w' => e = .returned (uqVal t v (some (9, false, s.extract 2 s.size))) ∧ w' = w := by
  unfold ErrAt at hE
  have h0 : 0 < s.size := by omega
  have hx : ∀ h : 0 < s.size, ((s[0]'h).toNat : Int) = bt s 0 := bt_at s 0
  have q0 := eq_true (show 0 < s.size by omega)
  have hx1 : ∀ h : 1 < s.size, ((s[1]'h).toNat : Int) = bt s 1 := bt_at s 1
  have q1 := eq_true (show 1 < s.size by omega)
  have h2 : ((s.size : Int) == 0) = false := by rw [beq_eq_false_iff_ne]; omega
  rw [hb] at hx
  rw [hc] at hx1
  clear hb hc
  go_enter Tryz.func26, Tryz.ntmps26
  go_wp2
  refine bodyPost_ret (v := .tuple #[.int .i32 9, .bool false, .string (s.extract 2 s.size), .nilIface]) (by simp [results, Tryz.results26, go_sem]) rfl ⟨rfl, rfl⟩

set_option maxRecDepth 100000 in
set_option maxHeartbeats 2000000 in
theorem uq_e118 (s : ByteArray) (q : Int) (t : TypeId) (v : Value) (w : World) (hE : ErrAt w t v) (h1 : 1 < s.size) (hs : s.size ≤ 4096) (hq : (92 == q) = false) (hb : bt s 0 = 92) (hc : bt s 1 = 118) :
    Calls Tryz.prog 26 #[.string s, .int .u8 q] w fun e w' => e = .returned (uqVal t v (some (11, false, s.extract 2 s.size))) ∧ w' = w := by
  unfold ErrAt at hE
  have h0 : 0 < s.size := by omega
  have hx : ∀ h : 0 < s.size, ((s[0]'h).toNat : Int) = bt s 0 := bt_at s 0
  have q0 := eq_true (show 0 < s.size by omega)
  have hx1 : ∀ h : 1 < s.size, ((s[1]'h).toNat : Int) = bt s 1 := bt_at s 1
  have q1 := eq_true (show 1 < s.size by omega)
  have h2 : ((s.size : Int) == 0) = false := by rw [beq_eq_false_iff_ne]; omega
  rw [hb] at hx
  rw [hc] at hx1
  clear hb hc
  go_enter Tryz.func26, Tryz.ntmps26
  go_wp2
  refine bodyPost_ret (v := .tuple #[.int .i32 11, .bool false, .string (s.extract 2 s.size), .nilIface]) (by simp [results, Tryz.results26, go_sem]) rfl ⟨rfl, rfl⟩

set_option maxRecDepth 100000 in
set_option maxHeartbeats 2000000 in
theorem uq_e92 (s : ByteArray) (q : Int) (t : TypeId) (v : Value) (w : World) (hE : ErrAt w t v) (h1 : 1 < s.size) (hs : s.size ≤ 4096) (hq : (92 == q) = false) (hb : bt s 0 = 92) (hc : bt s 1 = 92) :
    Calls Tryz.prog 26 #[.string s, .int .u8 q] w fun e w' => e = .returned (uqVal t v (some (92, false, s.extract 2 s.size))) ∧ w' = w := by
  unfold ErrAt at hE
  have h0 : 0 < s.size := by omega
  have hx : ∀ h : 0 < s.size, ((s[0]'h).toNat : Int) = bt s 0 := bt_at s 0
  have q0 := eq_true (show 0 < s.size by omega)
  have hx1 : ∀ h : 1 < s.size, ((s[1]'h).toNat : Int) = bt s 1 := bt_at s 1
  have q1 := eq_true (show 1 < s.size by omega)
  have h2 : ((s.size : Int) == 0) = false := by rw [beq_eq_false_iff_ne]; omega
  rw [hb] at hx
  rw [hc] at hx1
  clear hb hc
  go_enter Tryz.func26, Tryz.ntmps26
  go_wp2
  refine bodyPost_ret (v := .tuple #[.int .i32 92, .bool false, .string (s.extract 2 s.size), .nilIface]) (by simp [results, Tryz.results26, go_sem]) rfl ⟨rfl, rfl⟩

theorem unhex_any (c : Int) (h0 : 0 ≤ c) (h1 : c ≤ 255) (w : World) : Calls Tryz.prog 91 #[.int .u8 c] w fun e w' => e = .returned (.tuple #[.int .i32 ((uhx c).getD 0), .bool (uhx c).isSome]) ∧ w' = w := by
  have hw : wrap32 c = c := by unfold wrap32; omega
  obtain ⟨R, hR⟩ : ∃ R, uhx c = R := ⟨_, rfl⟩
  rw [hR]
  unfold uhx at hR
  by_cases a : 48 ≤ c ∧ c ≤ 57
  · rw [if_pos a] at hR
    obtain ⟨a1, a2⟩ := a
    subst hR
    have hw2 : wrap32 (c - 48) = c - 48 := by unfold wrap32; omega
    go_enter Tryz.func91, Tryz.ntmps91
    go_wp2
    go_ret2
    exact ⟨by simp [hw], rfl⟩
  · rw [if_neg a] at hR
    have a' : c < 48 ∨ 57 < c := by omega
    clear a
    by_cases b : 97 ≤ c ∧ c ≤ 102
    · rw [if_pos b] at hR
      obtain ⟨b1, b2⟩ := b
      subst hR
      have a2 : 57 < c := by omega
      clear a'
      have hw2 : wrap32 (wrap32 (c - 97) + 10) = c - 87 := by unfold wrap32; omega
      go_enter Tryz.func91, Tryz.ntmps91
      go_wp2
      go_ret2
      exact ⟨by simp [hw, hw2]; omega, rfl⟩
    · rw [if_neg b] at hR
      have b' : c < 97 ∨ 102 < c := by omega
      clear b
      by_cases d : 65 ≤ c ∧ c ≤ 70
      · rw [if_pos d] at hR
        obtain ⟨d1, d2⟩ := d
        subst hR
        have a2 : 57 < c := by omega
        have b2 : c < 97 := by omega
        clear a' b'
        have hw2 : wrap32 (wrap32 (c - 65) + 10) = c - 55 := by unfold wrap32; omega
        go_enter Tryz.func91, Tryz.ntmps91
        go_wp2
        go_ret2
        exact ⟨by simp [hw, hw2]; omega, rfl⟩
      · rw [if_neg d] at hR
        have d' : c < 65 ∨ 70 < c := by omega
        clear d
        subst hR
        rcases a' with a' | a' <;> rcases b' with b' | b' <;> rcases d' with d' | d'
        all_goals first
          | omega
          | (go_enter Tryz.func91, Tryz.ntmps91
             go_wp2
             go_ret2
             exact ⟨by simp, rfl⟩)
theorem valid_any (v : Int) (w : World) : Calls Tryz.prog 92 #[.int .i32 v] w fun e w' => e = .returned (.bool (vR v)) ∧ w' = w := by
  obtain ⟨R, hR⟩ : ∃ R, vR v = R := ⟨_, rfl⟩
  rw [hR]
  unfold vR at hR
  have hc : v < 0 ∨ (0 ≤ v ∧ v < 55296) ∨ (55296 ≤ v ∧ v ≤ 57343) ∨ (57343 < v ∧ v ≤ 1114111) ∨ 1114111 < v := by omega
  rcases hc with a | ⟨a, b⟩ | ⟨a, b⟩ | ⟨a, b⟩ | a
  · rw [decide_eq_false (by omega)] at hR; subst hR
    go_enter Tryz.func92, Tryz.ntmps92
    go_wp2
    go_ret
    exact ⟨rfl, rfl⟩
  · rw [decide_eq_true (by omega)] at hR; subst hR
    go_enter Tryz.func92, Tryz.ntmps92
    go_wp2
    go_ret
    exact ⟨rfl, rfl⟩
  · rw [decide_eq_false (by omega)] at hR; subst hR
    have a0 : 0 ≤ v := by omega
    go_enter Tryz.func92, Tryz.ntmps92
    go_wp2
    go_ret
    exact ⟨rfl, rfl⟩
  · rw [decide_eq_true (by omega)] at hR; subst hR
    have a0 : 0 ≤ v := by omega
    have a1 : 55296 ≤ v := by omega
    go_enter Tryz.func92, Tryz.ntmps92
    go_wp2
    go_ret
    exact ⟨rfl, rfl⟩
  · rw [decide_eq_false (by omega)] at hR; subst hR
    have a0 : 0 ≤ v := by omega
    have a1 : 55296 ≤ v := by omega
    have a2 : 57343 < v := by omega
    go_enter Tryz.func92, Tryz.ntmps92
    go_wp2
    go_ret
    exact ⟨rfl, rfl⟩

theorem take_bytes (S : ByteArray) (n k : Nat) (h : k < n) (hn : n ≤ S.size) : ((bytesOf S).take n).drop k = bt S k :: ((bytesOf S).take n).drop (k + 1) := by
  have hd := drop_bytes S k (by omega)
  rw [List.drop_take, hd, List.drop_take, show n - k = (n - (k + 1)) + 1 by omega, List.take_succ_cons]
theorem take_bytes_end (S : ByteArray) (n : Nat) : ((bytesOf S).take n).drop n = [] := List.drop_eq_nil_of_le (by simp; omega)
theorem hexGo_cons (v c : Int) (t : List Int) : hexGo v (c :: t) = match uhx c with | none => none | some x => hexGo (hexStep v x) t := rfl

set_option maxRecDepth 100000 in
set_option maxHeartbeats 2000000 in
theorem uq_h120_short (s : ByteArray) (q : Int) (t : TypeId) (v : Value) (w : World) (hE : ErrAt w t v) (S : ByteArray) (hS : s.extract 2 s.size = S) (hn : S.size < 2) (h1 : 1 < s.size) (hs : s.size ≤ 4096) (hq : (92 == q) = false) (hb : bt s 0 = 92) (hc : bt s 1 = 120) :
    Calls Tryz.prog 26 #[.string s, .int .u8 q] w fun e w' => e = .returned (uqVal t v none) ∧ w' = w := by
  unfold ErrAt at hE
  have h0 : 0 < s.size := by omega
  have hx : ∀ h : 0 < s.size, ((s[0]'h).toNat : Int) = bt s 0 := bt_at s 0
  have q0 := eq_true (show 0 < s.size by omega)
  have hx1 : ∀ h : 1 < s.size, ((s[1]'h).toNat : Int) = bt s 1 := bt_at s 1
  have q1 := eq_true (show 1 < s.size by omega)
  have h2 : ((s.size : Int) == 0) = false := by rw [beq_eq_false_iff_ne]; omega
  rw [hb] at hx
  rw [hc] at hx1
  clear hb hc
  go_enter Tryz.func26, Tryz.ntmps26
  go_wp2
  refine bodyPost_ret (v := .tuple #[.int .i32 0, .bool false, .string ⟨#[]⟩, .iface t v]) (by simp [results, Tryz.results26, go_sem]) rfl ⟨rfl, rfl⟩

set_option maxRecDepth 100000 in
set_option maxHeartbeats 2000000 in
theorem uq_h120 (s : ByteArray) (q : Int) (t : TypeId) (v : Value) (w : World) (hE : ErrAt w t v) (S : ByteArray) (hS : s.extract 2 s.size = S) (hn : 2 ≤ S.size) (h1 : 1 < s.size) (hs : s.size ≤ 4096) (hq : (92 == q) = false) (hb : bt s 0 = 92) (hc : bt s 1 = 120) :
    Calls Tryz.prog 26 #[.string s, .int .u8 q] w fun e w' => e = .returned (uqVal t v ((hexGo 0 ((bytesOf S).take 2)).bind fun v => some (v, false, S.extract 2 S.size))) ∧ w' = w := by
  unfold ErrAt at hE
  have h0 : 0 < s.size := by omega
  have hx : ∀ h : 0 < s.size, ((s[0]'h).toNat : Int) = bt s 0 := bt_at s 0
  have q0 := eq_true (show 0 < s.size by omega)
  have hx1 : ∀ h : 1 < s.size, ((s[1]'h).toNat : Int) = bt s 1 := bt_at s 1
  have q1 := eq_true (show 1 < s.size by omega)
  have h2 : ((s.size : Int) == 0) = false := by rw [beq_eq_false_iff_ne]; omega
  rw [hb] at hx
  rw [hc] at hx1
  clear hb hc
  obtain ⟨R, hR⟩ : ∃ R, hexGo 0 ((bytesOf S).take 2) = R := ⟨_, rfl⟩
  rw [hR]
  have HR := Aside0.mk hR
  clear hR
  go_enter Tryz.func26, Tryz.ntmps26
  go_wp2
  clear hx q0 hx1 q1 hS hq h2
  go_loop [7, 13, 14] (fun er u i => ∃ (k : Nat) (x : Int), k ≤ 2 ∧ er = .nilIface ∧ u = .int .i32 x ∧ i = .int .i64 k ∧ Aside0 (hexGo x (((bytesOf S).take 2).drop k) = R)) (fun _ _ i => 2 - (intOf i).toNat)
  case atStart => exact ⟨0, 0, by omega, rfl, rfl, rfl, HR⟩
  case round =>
    obtain ⟨k, x, hk, rfl, rfl, rfl, HP⟩ := hrel
    by_cases hlt : k < 2
    · have hP := HP.out
      rw [take_bytes S 2 k hlt hn, hexGo_cons] at hP
      have hb := bt_range S k
      have hxk : ∀ h : k < S.size, ((S[k]'h).toNat : Int) = bt S k := bt_at S k
      have qk := eq_true (show k < S.size by omega)
      clear HP
      obtain ⟨c, hc⟩ : ∃ c, bt S k = c := ⟨_, rfl⟩
      rw [hc] at hxk hP hb
      clear hc
      have hun := unhex_any c hb.1 hb.2 w
      cases hu : uhx c with
      | none =>
        rw [hu] at hP hun
        have HP := Aside0.mk hP
        have HUN := Aside0.mk hun
        clear hP hun hu
        go_wp2_with (go_at_call 91; (with_reducible refine HUN.out.mono ?_); rintro e w' ⟨rfl, rfl⟩)
        refine bodyPost_ret (v := .tuple #[.int .i32 0, .bool false, .string ⟨#[]⟩, .iface t v]) (by simp [results, Tryz.results26, go_sem]) rfl ⟨by rw [← HP.out]; rfl, rfl⟩
      | some y =>
        rw [hu] at hP hun
        have HP := Aside0.mk hP
        have HUN := Aside0.mk hun
        clear hP hun hu
        go_wp2_with (go_at_call 91; (with_reducible refine HUN.out.mono ?_); rintro e w' ⟨rfl, rfl⟩)
        go_round
        case rel => exact ⟨k + 1, hexStep x y, by omega, rfl, rfl, by go_num, HP⟩
        case measure => simp [intOf]; omega
    · have hk3 : k = 2 := by omega
      subst hk3
      have hP := HP.out
      rw [take_bytes_end S 2] at hP
      have hP2 : some x = R := hP
      have HP2 := Aside0.mk hP2
      clear hP hP2 HP
      go_wp2
      refine bodyPost_ret (v := .tuple #[.int .i32 x, .bool false, .string (S.extract 2 S.size), .nilIface]) (by simp [results, Tryz.results26, go_sem]) rfl ⟨by rw [← HP2.out]; rfl, rfl⟩

set_option maxRecDepth 100000 in
set_option maxHeartbeats 2000000 in
theorem uq_h117_short (s : ByteArray) (q : Int) (t : TypeId) (v : Value) (w : World) (hE : ErrAt w t v) (S : ByteArray) (hS : s.extract 2 s.size = S) (hn : S.size < 4) (h1 : 1 < s.size) (hs : s.size ≤ 4096) (hq : (92 == q) = false) (hb : bt s 0 = 92) (hc : bt s 1 = 117) :
    Calls Tryz.prog 26 #[.string s, .int .u8 q] w fun e w' => e = .returned (uqVal t v none) ∧ w' = w := by
  unfold ErrAt at hE
  have h0 : 0 < s.size := by omega
  have hx : ∀ h : 0 < s.size, ((s[0]'h).toNat : Int) = bt s 0 := bt_at s 0
  have q0 := eq_true (show 0 < s.size by omega)
  have hx1 : ∀ h : 1 < s.size, ((s[1]'h).toNat : Int) = bt s 1 := bt_at s 1
  have q1 := eq_true (show 1 < s.size by omega)
  have h2 : ((s.size : Int) == 0) = false := by rw [beq_eq_false_iff_ne]; omega
  rw [hb] at hx
  rw [hc] at hx1
  clear hb hc
  go_enter Tryz.func26, Tryz.ntmps26
  go_wp2
  refine bodyPost_ret (v := .tuple #[.int .i32 0, .bool false, .string ⟨#[]⟩, .iface t v]) (by simp [results, Tryz.results26, go_sem]) rfl ⟨rfl, rfl⟩

set_option maxRecDepth 100000 in
set_option maxHeartbeats 2000000 in
theorem uq_h117 (s : ByteArray) (q : Int) (t : TypeId) (v : Value) (w : World) (hE : ErrAt w t v) (S : ByteArray) (hS : s.extract 2 s.size = S) (hn : 4 ≤ S.size) (h1 : 1 < s.size) (hs : s.size ≤ 4096) (hq : (92 == q) = false) (hb : bt s 0 = 92) (hc : bt s 1 = 117) :
    Calls Tryz.prog 26 #[.string s, .int .u8 q] w fun e w' => e = .returned (uqVal t v ((hexGo 0 ((bytesOf S).take 4)).bind fun v => if vR v = true then some (v, true, S.extract 4 S.size) else none)) ∧ w' = w := by
  unfold ErrAt at hE
  have h0 : 0 < s.size := by omega
  have hx : ∀ h : 0 < s.size, ((s[0]'h).toNat : Int) = bt s 0 := bt_at s 0
  have q0 := eq_true (show 0 < s.size by omega)
  have hx1 : ∀ h : 1 < s.size, ((s[1]'h).toNat : Int) = bt s 1 := bt_at s 1
  have q1 := eq_true (show 1 < s.size by omega)
  have h2 : ((s.size : Int) == 0) = false := by rw [beq_eq_false_iff_ne]; omega
  rw [hb] at hx
  rw [hc] at hx1
  clear hb hc
  obtain ⟨R, hR⟩ : ∃ R, hexGo 0 ((bytesOf S).take 4) = R := ⟨_, rfl⟩
  rw [hR]
  have HR := Aside0.mk hR
  clear hR
  go_enter Tryz.func26, Tryz.ntmps26
  go_wp2
  clear hx q0 hx1 q1 hS hq h2
  go_loop [7, 13, 14] (fun er u i => ∃ (k : Nat) (x : Int), k ≤ 4 ∧ er = .nilIface ∧ u = .int .i32 x ∧ i = .int .i64 k ∧ Aside0 (hexGo x (((bytesOf S).take 4).drop k) = R)) (fun _ _ i => 4 - (intOf i).toNat)
  case atStart => exact ⟨0, 0, by omega, rfl, rfl, rfl, HR⟩
  case round =>
    obtain ⟨k, x, hk, rfl, rfl, rfl, HP⟩ := hrel
    by_cases hlt : k < 4
    · have hP := HP.out
      rw [take_bytes S 4 k hlt hn, hexGo_cons] at hP
      have hb := bt_range S k
      have hxk : ∀ h : k < S.size, ((S[k]'h).toNat : Int) = bt S k := bt_at S k
      have qk := eq_true (show k < S.size by omega)
      clear HP
      obtain ⟨c, hc⟩ : ∃ c, bt S k = c := ⟨_, rfl⟩
      rw [hc] at hxk hP hb
      clear hc
      have hun := unhex_any c hb.1 hb.2 w
      cases hu : uhx c with
      | none =>
        rw [hu] at hP hun
        have HP := Aside0.mk hP
        have HUN := Aside0.mk hun
        clear hP hun hu
        go_wp2_with (go_at_call 91; (with_reducible refine HUN.out.mono ?_); rintro e w' ⟨rfl, rfl⟩)
        refine bodyPost_ret (v := .tuple #[.int .i32 0, .bool false, .string ⟨#[]⟩, .iface t v]) (by simp [results, Tryz.results26, go_sem]) rfl ⟨by rw [← HP.out]; rfl, rfl⟩
      | some y =>
        rw [hu] at hP hun
        have HP := Aside0.mk hP
        have HUN := Aside0.mk hun
        clear hP hun hu
        go_wp2_with (go_at_call 91; (with_reducible refine HUN.out.mono ?_); rintro e w' ⟨rfl, rfl⟩)
        go_round
        case rel => exact ⟨k + 1, hexStep x y, by omega, rfl, rfl, by go_num, HP⟩
        case measure => simp [intOf]; omega
    · have hk3 : k = 4 := by omega
      subst hk3
      have hP := HP.out
      rw [take_bytes_end S 4] at hP
      have hP2 : some x = R := hP
      have HP2 := Aside0.mk hP2
      clear hP hP2 HP
      cases hv : vR x with
      | true =>
        have hva := valid_any x w
        rw [hv] at hva
        have HV := Aside0.mk hva
        have HVR := Aside0.mk hv
        clear hva hv
        go_wp2_with (go_at_call 92; (with_reducible refine HV.out.mono ?_); rintro e w' ⟨rfl, rfl⟩)
        refine bodyPost_ret (v := .tuple #[.int .i32 x, .bool true, .string (S.extract 4 S.size), .nilIface]) (by simp [results, Tryz.results26, go_sem]) rfl ⟨by rw [← HP2.out]; simp [HVR.out, uqVal], rfl⟩
      | false =>
        have hva := valid_any x w
        rw [hv] at hva
        have HV := Aside0.mk hva
        have HVR := Aside0.mk hv
        clear hva hv
        go_wp2_with (go_at_call 92; (with_reducible refine HV.out.mono ?_); rintro e w' ⟨rfl, rfl⟩)
        refine bodyPost_ret (v := .tuple #[.int .i32 0, .bool false, .string ⟨#[]⟩, .iface t v]) (by simp [results, Tryz.results26, go_sem]) rfl ⟨by rw [← HP2.out]; simp [HVR.out, uqVal], rfl⟩

set_option maxRecDepth 100000 in
set_option maxHeartbeats 2000000 in
theorem uq_h85_short (s : ByteArray) (q : Int) (t : TypeId) (v : Value) (w : World) (hE : ErrAt w t v) (S : ByteArray) (hS : s.extract 2 s.size = S) (hn : S.size < 8) (h1 : 1 < s.size) (hs : s.size ≤ 4096) (hq : (92 == q) = false) (hb : bt s 0 = 92) (hc : bt s 1 = 85) :
    Calls Tryz.prog 26 #[.string s, .int .u8 q] w fun e w' => e = .returned (uqVal t v none) ∧ w' = w := by
  unfold ErrAt at hE
  have h0 : 0 < s.size := by omega
  have hx : ∀ h : 0 < s.size, ((s[0]'h).toNat : Int) = bt s 0 := bt_at s 0
  have q0 := eq_true (show 0 < s.size by omega)
  have hx1 : ∀ h : 1 < s.size, ((s[1]'h).toNat : Int) = bt s 1 := bt_at s 1
  have q1 := eq_true (show 1 < s.size by omega)
  have h2 : ((s.size : Int) == 0) = false := by rw [beq_eq_false_iff_ne]; omega
  rw [hb] at hx
  rw [hc] at hx1
  clear hb hc
  go_enter Tryz.func26, Tryz.ntmps26
  go_wp2
  refine bodyPost_ret (v := .tuple #[.int .i32 0, .bool false, .string ⟨#[]⟩, .iface t v]) (by simp [results, Tryz.results26, go_sem]) rfl ⟨rfl, rfl⟩

set_option maxRecDepth 100000 in
set_option maxHeartbeats 2000000 in
theorem uq_h85 (s : ByteArray) (q : Int) (t : TypeId) (v : Value) (w : World) (hE : ErrAt w t v) (S : ByteArray) (hS : s.extract 2 s.size = S) (hn : 8 ≤ S.size) (h1 : 1 < s.size) (hs : s.size ≤ 4096) (hq : (92 == q) = false) (hb : bt s 0 = 92) (hc : bt s 1 = 85) :
    Calls Tryz.prog 26 #[.string s, .int .u8 q] w fun e w' => e = .returned (uqVal t v ((hexGo 0 ((bytesOf S).take 8)).bind fun v => if vR v = true then some (v, true, S.extract 8 S.size) else none)) ∧ w' = w := by
  unfold ErrAt at hE
  have h0 : 0 < s.size := by omega
  have hx : ∀ h : 0 < s.size, ((s[0]'h).toNat : Int) = bt s 0 := bt_at s 0
  have q0 := eq_true (show 0 < s.size by omega)
  have hx1 : ∀ h : 1 < s.size, ((s[1]'h).toNat : Int) = bt s 1 := bt_at s 1
  have q1 := eq_true (show 1 < s.size by omega)
  have h2 : ((s.size : Int) == 0) = false := by rw [beq_eq_false_iff_ne]; omega
  rw [hb] at hx
  rw [hc] at hx1
  clear hb hc
  obtain ⟨R, hR⟩ : ∃ R, hexGo 0 ((bytesOf S).take 8) = R := ⟨_, rfl⟩
  rw [hR]
  have HR := Aside0.mk hR
  clear hR
  go_enter Tryz.func26, Tryz.ntmps26
  go_wp2
  clear hx q0 hx1 q1 hS hq h2
  go_loop [7, 13, 14] (fun er u i => ∃ (k : Nat) (x : Int), k ≤ 8 ∧ er = .nilIface ∧ u = .int .i32 x ∧ i = .int .i64 k ∧ Aside0 (hexGo x (((bytesOf S).take 8).drop k) = R)) (fun _ _ i => 8 - (intOf i).toNat)
  case atStart => exact ⟨0, 0, by omega, rfl, rfl, rfl, HR⟩
  case round =>
    obtain ⟨k, x, hk, rfl, rfl, rfl, HP⟩ := hrel
    by_cases hlt : k < 8
    · have hP := HP.out
      rw [take_bytes S 8 k hlt hn, hexGo_cons] at hP
      have hb := bt_range S k
      have hxk : ∀ h : k < S.size, ((S[k]'h).toNat : Int) = bt S k := bt_at S k
      have qk := eq_true (show k < S.size by omega)
      clear HP
      obtain ⟨c, hc⟩ : ∃ c, bt S k = c := ⟨_, rfl⟩
      rw [hc] at hxk hP hb
      clear hc
      have hun := unhex_any c hb.1 hb.2 w
      cases hu : uhx c with
      | none =>
        rw [hu] at hP hun
        have HP := Aside0.mk hP
        have HUN := Aside0.mk hun
        clear hP hun hu
        go_wp2_with (go_at_call 91; (with_reducible refine HUN.out.mono ?_); rintro e w' ⟨rfl, rfl⟩)
        refine bodyPost_ret (v := .tuple #[.int .i32 0, .bool false, .string ⟨#[]⟩, .iface t v]) (by simp [results, Tryz.results26, go_sem]) rfl ⟨by rw [← HP.out]; rfl, rfl⟩
      | some y =>
        rw [hu] at hP hun
        have HP := Aside0.mk hP
        have HUN := Aside0.mk hun
        clear hP hun hu
        go_wp2_with (go_at_call 91; (with_reducible refine HUN.out.mono ?_); rintro e w' ⟨rfl, rfl⟩)
        go_round
        case rel => exact ⟨k + 1, hexStep x y, by omega, rfl, rfl, by go_num, HP⟩
        case measure => simp [intOf]; omega
    · have hk3 : k = 8 := by omega
      subst hk3
      have hP := HP.out
      rw [take_bytes_end S 8] at hP
      have hP2 : some x = R := hP
      have HP2 := Aside0.mk hP2
      clear hP hP2 HP
      cases hv : vR x with
      | true =>
        have hva := valid_any x w
        rw [hv] at hva
        have HV := Aside0.mk hva
        have HVR := Aside0.mk hv
        clear hva hv
        go_wp2_with (go_at_call 92; (with_reducible refine HV.out.mono ?_); rintro e w' ⟨rfl, rfl⟩)
        refine bodyPost_ret (v := .tuple #[.int .i32 x, .bool true, .string (S.extract 8 S.size), .nilIface]) (by simp [results, Tryz.results26, go_sem]) rfl ⟨by rw [← HP2.out]; simp [HVR.out, uqVal], rfl⟩
      | false =>
        have hva := valid_any x w
        rw [hv] at hva
        have HV := Aside0.mk hva
        have HVR := Aside0.mk hv
        clear hva hv
        go_wp2_with (go_at_call 92; (with_reducible refine HV.out.mono ?_); rintro e w' ⟨rfl, rfl⟩)
        refine bodyPost_ret (v := .tuple #[.int .i32 0, .bool false, .string ⟨#[]⟩, .iface t v]) (by simp [results, Tryz.results26, go_sem]) rfl ⟨by rw [← HP2.out]; simp [HVR.out, uqVal], rfl⟩

theorem octGo_cons (v c : Int) (t : List Int) : octGo v (c :: t) = if c < 48 ∨ 55 < c then none else octGo (octStep v (c - 48)) t := rfl

set_option maxRecDepth 100000 in
set_option maxHeartbeats 2000000 in
theorem uq_o48_short (s : ByteArray) (q : Int) (t : TypeId) (v : Value) (w : World) (hE : ErrAt w t v) (S : ByteArray) (hS : s.extract 2 s.size = S) (hn : S.size < 2) (h1 : 1 < s.size) (hs : s.size ≤ 4096) (hq : (92 == q) = false) (hb : bt s 0 = 92) (hc : bt s 1 = 48) :
    Calls Tryz.prog 26 #[.string s, .int .u8 q] w fun e w' => e = .returned (uqVal t v none) ∧ w' = w := by
  unfold ErrAt at hE
  have h0 : 0 < s.size := by omega
  have hx : ∀ h : 0 < s.size, ((s[0]'h).toNat : Int) = bt s 0 := bt_at s 0
  have q0 := eq_true (show 0 < s.size by omega)
  have hx1 : ∀ h : 1 < s.size, ((s[1]'h).toNat : Int) = bt s 1 := bt_at s 1
  have q1 := eq_true (show 1 < s.size by omega)
  have h2 : ((s.size : Int) == 0) = false := by rw [beq_eq_false_iff_ne]; omega
  rw [hb] at hx
  rw [hc] at hx1
  clear hb hc
  go_enter Tryz.func26, Tryz.ntmps26
  go_wp2
  refine bodyPost_ret (v := .tuple #[.int .i32 0, .bool false, .string ⟨#[]⟩, .iface t v]) (by simp [results, Tryz.results26, go_sem]) rfl ⟨rfl, rfl⟩

set_option maxRecDepth 100000 in
set_option maxHeartbeats 2000000 in
theorem uq_o48 (s : ByteArray) (q : Int) (t : TypeId) (v : Value) (w : World) (hE : ErrAt w t v) (S : ByteArray) (hS : s.extract 2 s.size = S) (hn : 2 ≤ S.size) (h1 : 1 < s.size) (hs : s.size ≤ 4096) (hq : (92 == q) = false) (hb : bt s 0 = 92) (hc : bt s 1 = 48) :
    Calls Tryz.prog 26 #[.string s, .int .u8 q] w fun e w' => e = .returned (uqVal t v ((octGo 0 ((bytesOf S).take 2)).bind fun v => if 255 < v then none else some (v, false, S.extract 2 S.size))) ∧ w' = w := by
  unfold ErrAt at hE
  have h0 : 0 < s.size := by omega
  have hx : ∀ h : 0 < s.size, ((s[0]'h).toNat : Int) = bt s 0 := bt_at s 0
  have q0 := eq_true (show 0 < s.size by omega)
  have hx1 : ∀ h : 1 < s.size, ((s[1]'h).toNat : Int) = bt s 1 := bt_at s 1
  have q1 := eq_true (show 1 < s.size by omega)
  have h2 : ((s.size : Int) == 0) = false := by rw [beq_eq_false_iff_ne]; omega
  rw [hb] at hx
  rw [hc] at hx1
  clear hb hc
  obtain ⟨R, hR⟩ : ∃ R, octGo 0 ((bytesOf S).take 2) = R := ⟨_, rfl⟩
  rw [hR]
  have HR := Aside0.mk hR
  clear hR
  go_enter Tryz.func26, Tryz.ntmps26
  go_wp2
  clear hx q0 hx1 q1 hS hq h2
  go_loop [7, 17, 18] (fun er u i => ∃ (k : Nat) (x : Int), k ≤ 2 ∧ er = .nilIface ∧ u = .int .i32 x ∧ i = .int .i64 k ∧ Aside0 (octGo x (((bytesOf S).take 2).drop k) = R)) (fun _ _ i => 2 - (intOf i).toNat)
  case atStart => exact ⟨0, 0, by omega, rfl, rfl, rfl, HR⟩
  case round =>
    obtain ⟨k, x, hk, rfl, rfl, rfl, HP⟩ := hrel
    by_cases hlt : k < 2
    · have hP := HP.out
      rw [take_bytes S 2 k hlt hn, octGo_cons] at hP
      have hb := bt_range S k
      have hxk : ∀ h : k < S.size, ((S[k]'h).toNat : Int) = bt S k := bt_at S k
      have qk := eq_true (show k < S.size by omega)
      clear HP
      obtain ⟨c, hc⟩ : ∃ c, bt S k = c := ⟨_, rfl⟩
      rw [hc] at hxk hP hb
      clear hc
      by_cases hu : c < 48 ∨ 55 < c
      · rw [if_pos hu] at hP
        have HP := Aside0.mk hP
        clear hP
        have hw : wrap32 (wrap32 c - 48) = c - 48 := by unfold wrap32; omega
        have hw2 : wrap32 (c - 48) = c - 48 := by unfold wrap32; omega
        rcases hu with hu | hu
        · have hu2 : c - 48 < 0 := by omega
          go_wp2
          refine bodyPost_ret (v := .tuple #[.int .i32 0, .bool false, .string ⟨#[]⟩, .iface t v]) (by simp [results, Tryz.results26, go_sem]) rfl ⟨by rw [← HP.out]; rfl, rfl⟩
        · have hu2 : 7 < c - 48 := by omega
          have hu3 : ¬ (c - 48 < 0) := by omega
          go_wp2
          refine bodyPost_ret (v := .tuple #[.int .i32 0, .bool false, .string ⟨#[]⟩, .iface t v]) (by simp [results, Tryz.results26, go_sem]) rfl ⟨by rw [← HP.out]; rfl, rfl⟩
      · rw [if_neg hu] at hP
        have HP := Aside0.mk hP
        clear hP
        have hw : wrap32 (wrap32 c - 48) = c - 48 := by unfold wrap32; omega
        have hw2 : wrap32 (c - 48) = c - 48 := by unfold wrap32; omega
        have hu2 : c - 48 ≤ 7 := by omega
        have hu3 : 0 ≤ c - 48 := by omega
        clear hu
        go_wp2
        go_round
        case rel => exact ⟨k + 1, octStep x (c - 48), by omega, rfl, by unfold octStep; rfl, by go_num, HP⟩
        case measure => simp [intOf]; omega
    · have hk3 : k = 2 := by omega
      subst hk3
      have hP := HP.out
      rw [take_bytes_end S 2] at hP
      have hP2 : some x = R := hP
      have HP2 := Aside0.mk hP2
      clear hP hP2 HP
      by_cases hv : 255 < x
      · go_wp2
        have HV := Aside0.mk hv
        refine bodyPost_ret (v := .tuple #[.int .i32 0, .bool false, .string ⟨#[]⟩, .iface t v]) (by simp [results, Tryz.results26, go_sem]) rfl ⟨by rw [← HP2.out]; simp [HV.out, uqVal], rfl⟩
      · have hv2 : x ≤ 255 := by omega
        clear hv
        go_wp2
        have HV := Aside0.mk hv2
        refine bodyPost_ret (v := .tuple #[.int .i32 x, .bool false, .string (S.extract 2 S.size), .nilIface]) (by simp [results, Tryz.results26, go_sem]) rfl ⟨by rw [← HP2.out]; simp only [Option.bind_some]; rw [if_neg (by have := HV.out; omega)]; rfl, rfl⟩

set_option maxRecDepth 100000 in
set_option maxHeartbeats 2000000 in
theorem uq_o49_short (s : ByteArray) (q : Int) (t : TypeId) (v : Value) (w : World) (hE : ErrAt w t v) (S : ByteArray) (hS : s.extract 2 s.size = S) (hn : S.size < 2) (h1 : 1 < s.size) (hs : s.size ≤ 4096) (hq : (92 == q) = false) (hb : bt s 0 = 92) (hc : bt s 1 = 49) :
    Calls Tryz.prog 26 #[.string s, .int .u8 q] w fun e w' => e = .returned (uqVal t v none) ∧ w' = w := by
  unfold ErrAt at hE
  have h0 : 0 < s.size := by omega
  have hx : ∀ h : 0 < s.size, ((s[0]'h).toNat : Int) = bt s 0 := bt_at s 0
  have q0 := eq_true (show 0 < s.size by omega)
  have hx1 : ∀ h : 1 < s.size, ((s[1]'h).toNat : Int) = bt s 1 := bt_at s 1
  have q1 := eq_true (show 1 < s.size by omega)
  have h2 : ((s.size : Int) == 0) = false := by rw [beq_eq_false_iff_ne]; omega
  rw [hb] at hx
  rw [hc] at hx1
  clear hb hc
  go_enter Tryz.func26, Tryz.ntmps26
  go_wp2
  refine bodyPost_ret (v := .tuple #[.int .i32 0, .bool false, .string ⟨#[]⟩, .iface t v]) (by simp [results, Tryz.results26, go_sem]) rfl ⟨rfl, rfl⟩

set_option maxRecDepth 100000 in
set_option maxHeartbeats 2000000 in
theorem uq_o49 (s : ByteArray) (q : Int) (t : TypeId) (v : Value) (w : World) (hE : ErrAt w t v) (S : ByteArray) (hS : s.extract 2 s.size = S) (hn : 2 ≤ S.size) (h1 : 1 < s.size) (hs : s.size ≤ 4096) (hq : (92 == q) = false) (hb : bt s 0 = 92) (hc : bt s 1 = 49) :
    Calls Tryz.prog 26 #[.string s, .int .u8 q] w fun e w' => e = .returned (uqVal t v ((octGo 1 ((bytesOf S).take 2)).bind fun v => if 255 < v then none else some (v, false, S.extract 2 S.size))) ∧ w' = w := by
  unfold ErrAt at hE
  have h0 : 0 < s.size := by omega
  have hx : ∀ h : 0 < s.size, ((s[0]'h).toNat : Int) = bt s 0 := bt_at s 0
  have q0 := eq_true (show 0 < s.size by omega)
  have hx1 : ∀ h : 1 < s.size, ((s[1]'h).toNat : Int) = bt s 1 := bt_at s 1
  have q1 := eq_true (show 1 < s.size by omega)
  have h2 : ((s.size : Int) == 0) = false := by rw [beq_eq_false_iff_ne]; omega
  rw [hb] at hx
  rw [hc] at hx1
  clear hb hc
  obtain ⟨R, hR⟩ : ∃ R, octGo 1 ((bytesOf S).take 2) = R := ⟨_, rfl⟩
  rw [hR]
  have HR := Aside0.mk hR
  clear hR
  go_enter Tryz.func26, Tryz.ntmps26
  go_wp2
  clear hx q0 hx1 q1 hS hq h2
  go_loop [7, 17, 18] (fun er u i => ∃ (k : Nat) (x : Int), k ≤ 2 ∧ er = .nilIface ∧ u = .int .i32 x ∧ i = .int .i64 k ∧ Aside0 (octGo x (((bytesOf S).take 2).drop k) = R)) (fun _ _ i => 2 - (intOf i).toNat)
  case atStart => exact ⟨0, 1, by omega, rfl, rfl, rfl, HR⟩
  case round =>
    obtain ⟨k, x, hk, rfl, rfl, rfl, HP⟩ := hrel
    by_cases hlt : k < 2
    · have hP := HP.out
      rw [take_bytes S 2 k hlt hn, octGo_cons] at hP
      have hb := bt_range S k
      have hxk : ∀ h : k < S.size, ((S[k]'h).toNat : Int) = bt S k := bt_at S k
      have qk := eq_true (show k < S.size by omega)
      clear HP
      obtain ⟨c, hc⟩ : ∃ c, bt S k = c := ⟨_, rfl⟩
      rw [hc] at hxk hP hb
      clear hc
      by_cases hu : c < 48 ∨ 55 < c
      · rw [if_pos hu] at hP
        have HP := Aside0.mk hP
        clear hP
        have hw : wrap32 (wrap32 c - 48) = c - 48 := by unfold wrap32; omega
        have hw2 : wrap32 (c - 48) = c - 48 := by unfold wrap32; omega
        rcases hu with hu | hu
        · have hu2 : c - 48 < 0 := by omega
          go_wp2
          refine bodyPost_ret (v := .tuple #[.int .i32 0, .bool false, .string ⟨#[]⟩, .iface t v]) (by simp [results, Tryz.results26, go_sem]) rfl ⟨by rw [← HP.out]; rfl, rfl⟩
        · have hu2 : 7 < c - 48 := by omega
          have hu3 : ¬ (c - 48 < 0) := by omega
          go_wp2
          refine bodyPost_ret (v := .tuple #[.int .i32 0, .bool false, .string ⟨#[]⟩, .iface t v]) (by simp [results, Tryz.results26, go_sem]) rfl ⟨by rw [← HP.out]; rfl, rfl⟩
      · rw [if_neg hu] at hP
        have HP := Aside0.mk hP
        clear hP
        have hw : wrap32 (wrap32 c - 48) = c - 48 := by unfold wrap32; omega
        have hw2 : wrap32 (c - 48) = c - 48 := by unfold wrap32; omega
        have hu2 : c - 48 ≤ 7 := by omega
        have hu3 : 0 ≤ c - 48 := by omega
        clear hu
        go_wp2
        go_round
        case rel => exact ⟨k + 1, octStep x (c - 48), by omega, rfl, by unfold octStep; rfl, by go_num, HP⟩
        case measure => simp [intOf]; omega
    · have hk3 : k = 2 := by omega
      subst hk3
      have hP := HP.out
      rw [take_bytes_end S 2] at hP
      have hP2 : some x = R := hP
      have HP2 := Aside0.mk hP2
      clear hP hP2 HP
      by_cases hv : 255 < x
      · go_wp2
        have HV := Aside0.mk hv
        refine bodyPost_ret (v := .tuple #[.int .i32 0, .bool false, .string ⟨#[]⟩, .iface t v]) (by simp [results, Tryz.results26, go_sem]) rfl ⟨by rw [← HP2.out]; simp [HV.out, uqVal], rfl⟩
      · have hv2 : x ≤ 255 := by omega
        clear hv
        go_wp2
        have HV := Aside0.mk hv2
        refine bodyPost_ret (v := .tuple #[.int .i32 x, .bool false, .string (S.extract 2 S.size), .nilIface]) (by simp [results, Tryz.results26, go_sem]) rfl ⟨by rw [← HP2.out]; simp only [Option.bind_some]; rw [if_neg (by have := HV.out; omega)]; rfl, rfl⟩

set_option maxRecDepth 100000 in
set_option maxHeartbeats 2000000 in
theorem uq_o50_short (s : ByteArray) (q : Int) (t : TypeId) (v : Value) (w : World) (hE : ErrAt w t v) (S : ByteArray) (hS : s.extract 2 s.size = S) (hn : S.size < 2) (h1 : 1 < s.size) (hs : s.size ≤ 4096) (hq : (92 == q) = false) (hb : bt s 0 = 92) (hc : bt s 1 = 50) :
    Calls Tryz.prog 26 #[.string s, .int .u8 q] w fun e w' => e = .returned (uqVal t v none) ∧ w' = w := by
  unfold ErrAt at hE
  have h0 : 0 < s.size := by omega
  have hx : ∀ h : 0 < s.size, ((s[0]'h).toNat : Int) = bt s 0 := bt_at s 0
  have q0 := eq_true (show 0 < s.size by omega)
  have hx1 : ∀ h : 1 < s.size, ((s[1]'h).toNat : Int) = bt s 1 := bt_at s 1
  have q1 := eq_true (show 1 < s.size by omega)
  have h2 : ((s.size : Int) == 0) = false := by rw [beq_eq_false_iff_ne]; omega
  rw [hb] at hx
  rw [hc] at hx1
  clear hb hc
  go_enter Tryz.func26, Tryz.ntmps26
  go_wp2
  refine bodyPost_ret (v := .tuple #[.int .i32 0, .bool false, .string ⟨#[]⟩, .iface t v]) (by simp [results, Tryz.results26, go_sem]) rfl ⟨rfl, rfl⟩

set_option maxRecDepth 100000 in
set_option maxHeartbeats 2000000 in
theorem uq_o50 (s : ByteArray) (q : Int) (t : TypeId) (v : Value) (w : World) (hE : ErrAt w t v) (S : ByteArray) (hS : s.extract 2 s.size = S) (hn : 2 ≤ S.size) (h1 : 1 < s.size) (hs : s.size ≤ 4096) (hq : (92 == q) = false) (hb : bt s 0 = 92) (hc : bt s 1 = 50) :
    Calls Tryz.prog 26 #[.string s, .int .u8 q] w fun e w' => e = .returned (uqVal t v ((octGo 2 ((bytesOf S).take 2)).bind fun v => if 255 < v then none else some (v, false, S.extract 2 S.size))) ∧ w' = w := by
  unfold ErrAt at hE
  have h0 : 0 < s.size := by omega
  have hx : ∀ h : 0 < s.size, ((s[0]'h).toNat : Int) = bt s 0 := bt_at s 0
  have q0 := eq_true (show 0 < s.size by omega)
  have hx1 : ∀ h : 1 < s.size, ((s[1]'h).toNat : Int) = bt s 1 := bt_at s 1
  have q1 := eq_true (show 1 < s.size by omega)
  have h2 : ((s.size : Int) == 0) = false := by rw [beq_eq_false_iff_ne]; omega
  rw [hb] at hx
  rw [hc] at hx1
  clear hb hc
  obtain ⟨R, hR⟩ : ∃ R, octGo 2 ((bytesOf S).take 2) = R := ⟨_, rfl⟩
  rw [hR]
  have HR := Aside0.mk hR
  clear hR
  go_enter Tryz.func26, Tryz.ntmps26
  go_wp2
  clear hx q0 hx1 q1 hS hq h2
  go_loop [7, 17, 18] (fun er u i => ∃ (k : Nat) (x : Int), k ≤ 2 ∧ er = .nilIface ∧ u = .int .i32 x ∧ i = .int .i64 k ∧ Aside0 (octGo x (((bytesOf S).take 2).drop k) = R)) (fun _ _ i => 2 - (intOf i).toNat)
  case atStart => exact ⟨0, 2, by omega, rfl, rfl, rfl, HR⟩
  case round =>
    obtain ⟨k, x, hk, rfl, rfl, rfl, HP⟩ := hrel
    by_cases hlt : k < 2
    · have hP := HP.out
      rw [take_bytes S 2 k hlt hn, octGo_cons] at hP
      have hb := bt_range S k
      have hxk : ∀ h : k < S.size, ((S[k]'h).toNat : Int) = bt S k := bt_at S k
      have qk := eq_true (show k < S.size by omega)
      clear HP
      obtain ⟨c, hc⟩ : ∃ c, bt S k = c := ⟨_, rfl⟩
      rw [hc] at hxk hP hb
      clear hc
      by_cases hu : c < 48 ∨ 55 < c
      · rw [if_pos hu] at hP
        have HP := Aside0.mk hP
        clear hP
        have hw : wrap32 (wrap32 c - 48) = c - 48 := by unfold wrap32; omega
        have hw2 : wrap32 (c - 48) = c - 48 := by unfold wrap32; omega
        rcases hu with hu | hu
        · have hu2 : c - 48 < 0 := by omega
          go_wp2
          refine bodyPost_ret (v := .tuple #[.int .i32 0, .bool false, .string ⟨#[]⟩, .iface t v]) (by simp [results, Tryz.results26, go_sem]) rfl ⟨by rw [← HP.out]; rfl, rfl⟩
        · have hu2 : 7 < c - 48 := by omega
          have hu3 : ¬ (c - 48 < 0) := by omega
          go_wp2
          refine bodyPost_ret (v := .tuple #[.int .i32 0, .bool false, .string ⟨#[]⟩, .iface t v]) (by simp [results, Tryz.results26, go_sem]) rfl ⟨by rw [← HP.out]; rfl, rfl⟩
      · rw [if_neg hu] at hP
        have HP := Aside0.mk hP
        clear hP
        have hw : wrap32 (wrap32 c - 48) = c - 48 := by unfold wrap32; omega
        have hw2 : wrap32 (c - 48) = c - 48 := by unfold wrap32; omega
        have hu2 : c - 48 ≤ 7 := by omega
        have hu3 : 0 ≤ c - 48 := by omega
        clear hu
        go_wp2
        go_round
        case rel => exact ⟨k + 1, octStep x (c - 48), by omega, rfl, by unfold octStep; rfl, by go_num, HP⟩
        case measure => simp [intOf]; omega
    · have hk3 : k = 2 := by omega
      subst hk3
      have hP := HP.out
      rw [take_bytes_end S 2] at hP
      have hP2 : some x = R := hP
      have HP2 := Aside0.mk hP2
      clear hP hP2 HP
      by_cases hv : 255 < x
      · go_wp2
        have HV := Aside0.mk hv
        refine bodyPost_ret (v := .tuple #[.int .i32 0, .bool false, .string ⟨#[]⟩, .iface t v]) (by simp [results, Tryz.results26, go_sem]) rfl ⟨by rw [← HP2.out]; simp [HV.out, uqVal], rfl⟩
      · have hv2 : x ≤ 255 := by omega
        clear hv
        go_wp2
        have HV := Aside0.mk hv2
        refine bodyPost_ret (v := .tuple #[.int .i32 x, .bool false, .string (S.extract 2 S.size), .nilIface]) (by simp [results, Tryz.results26, go_sem]) rfl ⟨by rw [← HP2.out]; simp only [Option.bind_some]; rw [if_neg (by have := HV.out; omega)]; rfl, rfl⟩

set_option maxRecDepth 100000 in
set_option maxHeartbeats 2000000 in
theorem uq_o51_short (s : ByteArray) (q : Int) (t : TypeId) (v : Value) (w : World) (hE : ErrAt w t v) (S : ByteArray) (hS : s.extract 2 s.size = S) (hn : S.size < 2) (h1 : 1 < s.size) (hs : s.size ≤ 4096) (hq : (92 == q) = false) (hb : bt s 0 = 92) (hc : bt s 1 = 51) :
    Calls Tryz.prog 26 #[.string s, .int .u8 q] w fun e w' => e = .returned (uqVal t v none) ∧ w' = w := by
  unfold ErrAt at hE
  have h0 : 0 < s.size := by omega
  have hx : ∀ h : 0 < s.size, ((s[0]'h).toNat : Int) = bt s 0 := bt_at s 0
  have q0 := eq_true (show 0 < s.size by omega)
  have hx1 : ∀ h : 1 < s.size, ((s[1]'h).toNat : Int) = bt s 1 := bt_at s 1
  have q1 := eq_true (show 1 < s.size by omega)
  have h2 : ((s.size : Int) == 0) = false := by rw [beq_eq_false_iff_ne]; omega
  rw [hb] at hx
  rw [hc] at hx1
  clear hb hc
  go_enter Tryz.func26, Tryz.ntmps26
  go_wp2
  refine bodyPost_ret (v := .tuple #[.int .i32 0, .bool false, .string ⟨#[]⟩, .iface t v]) (by simp [results, Tryz.results26, go_sem]) rfl ⟨rfl, rfl⟩

set_option maxRecDepth 100000 in
set_option maxHeartbeats 2000000 in
theorem uq_o51 (s : ByteArray) (q : Int) (t : TypeId) (v : Value) (w : World) (hE : ErrAt w t v) (S : ByteArray) (hS : s.extract 2 s.size = S) (hn : 2 ≤ S.size) (h1 : 1 < s.size) (hs : s.size ≤ 4096) (hq : (92 == q) = false) (hb : bt s 0 = 92) (hc : bt s 1 = 51) :
    Calls Tryz.prog 26 #[.string s, .int .u8 q] w fun e w' => e = .returned (uqVal t v ((octGo 3 ((bytesOf S).take 2)).bind fun v => if 255 < v then none else some (v, false, S.extract 2 S.size))) ∧ w' = w := by
  unfold ErrAt at hE
  have h0 : 0 < s.size := by omega
  have hx : ∀ h : 0 < s.size, ((s[0]'h).toNat : Int) = bt s 0 := bt_at s 0
  have q0 := eq_true (show 0 < s.size by omega)
  have hx1 : ∀ h : 1 < s.size, ((s[1]'h).toNat : Int) = bt s 1 := bt_at s 1
  have q1 := eq_true (show 1 < s.size by omega)
  have h2 : ((s.size : Int) == 0) = false := by rw [beq_eq_false_iff_ne]; omega
  rw [hb] at hx
  rw [hc] at hx1
  clear hb hc
  obtain ⟨R, hR⟩ : ∃ R, octGo 3 ((bytesOf S).take 2) = R := ⟨_, rfl⟩
  rw [hR]
  have HR := Aside0.mk hR
  clear hR
  go_enter Tryz.func26, Tryz.ntmps26
  go_wp2
  clear hx q0 hx1 q1 hS hq h2
  go_loop [7, 17, 18] (fun er u i => ∃ (k : Nat) (x : Int), k ≤ 2 ∧ er = .nilIface ∧ u = .int .i32 x ∧ i = .int .i64 k ∧ Aside0 (octGo x (((bytesOf S).take 2).drop k) = R)) (fun _ _ i => 2 - (intOf i).toNat)
  case atStart => exact ⟨0, 3, by omega, rfl, rfl, rfl, HR⟩
  case round =>
    obtain ⟨k, x, hk, rfl, rfl, rfl, HP⟩ := hrel
    by_cases hlt : k < 2
    · have hP := HP.out
      rw [take_bytes S 2 k hlt hn, octGo_cons] at hP
      have hb := bt_range S k
      have hxk : ∀ h : k < S.size, ((S[k]'h).toNat : Int) = bt S k := bt_at S k
      have qk := eq_true (show k < S.size by omega)
      clear HP
      obtain ⟨c, hc⟩ : ∃ c, bt S k = c := ⟨_, rfl⟩
      rw [hc] at hxk hP hb
      clear hc
      by_cases hu : c < 48 ∨ 55 < c
      · rw [if_pos hu] at hP
        have HP := Aside0.mk hP
        clear hP
        have hw : wrap32 (wrap32 c - 48) = c - 48 := by unfold wrap32; omega
        have hw2 : wrap32 (c - 48) = c - 48 := by unfold wrap32; omega
        rcases hu with hu | hu
        · have hu2 : c - 48 < 0 := by omega
          go_wp2
          refine bodyPost_ret (v := .tuple #[.int .i32 0, .bool false, .string ⟨#[]⟩, .iface t v]) (by simp [results, Tryz.results26, go_sem]) rfl ⟨by rw [← HP.out]; rfl, rfl⟩
        · have hu2 : 7 < c - 48 := by omega
          have hu3 : ¬ (c - 48 < 0) := by omega
          go_wp2
          refine bodyPost_ret (v := .tuple #[.int .i32 0, .bool false, .string ⟨#[]⟩, .iface t v]) (by simp [results, Tryz.results26, go_sem]) rfl ⟨by rw [← HP.out]; rfl, rfl⟩
      · rw [if_neg hu] at hP
        have HP := Aside0.mk hP
        clear hP
        have hw : wrap32 (wrap32 c - 48) = c - 48 := by unfold wrap32; omega
        have hw2 : wrap32 (c - 48) = c - 48 := by unfold wrap32; omega
        have hu2 : c - 48 ≤ 7 := by omega
        have hu3 : 0 ≤ c - 48 := by omega
        clear hu
        go_wp2
        go_round
        case rel => exact ⟨k + 1, octStep x (c - 48), by omega, rfl, by unfold octStep; rfl, by go_num, HP⟩
        case measure => simp [intOf]; omega
    · have hk3 : k = 2 := by omega
      subst hk3
      have hP := HP.out
      rw [take_bytes_end S 2] at hP
      have hP2 : some x = R := hP
      have HP2 := Aside0.mk hP2
      clear hP hP2 HP
      by_cases hv : 255 < x
      · go_wp2
        have HV := Aside0.mk hv
        refine bodyPost_ret (v := .tuple #[.int .i32 0, .bool false, .string ⟨#[]⟩, .iface t v]) (by simp [results, Tryz.results26, go_sem]) rfl ⟨by rw [← HP2.out]; simp [HV.out, uqVal], rfl⟩
      · have hv2 : x ≤ 255 := by omega
        clear hv
        go_wp2
        have HV := Aside0.mk hv2
        refine bodyPost_ret (v := .tuple #[.int .i32 x, .bool false, .string (S.extract 2 S.size), .nilIface]) (by simp [results, Tryz.results26, go_sem]) rfl ⟨by rw [← HP2.out]; simp only [Option.bind_some]; rw [if_neg (by have := HV.out; omega)]; rfl, rfl⟩

set_option maxRecDepth 100000 in
set_option maxHeartbeats 2000000 in
theorem uq_o52_short (s : ByteArray) (q : Int) (t : TypeId) (v : Value) (w : World) (hE : ErrAt w t v) (S : ByteArray) (hS : s.extract 2 s.size = S) (hn : S.size < 2) (h1 : 1 < s.size) (hs : s.size ≤ 4096) (hq : (92 == q) = false) (hb : bt s 0 = 92) (hc : bt s 1 = 52) :
    Calls Tryz.prog 26 #[.string s, .int .u8 q] w fun e w' => e = .returned (uqVal t v none) ∧ w' = w := by
  unfold ErrAt at hE
  have h0 : 0 < s.size := by omega
  have hx : ∀ h : 0 < s.size, ((s[0]'h).toNat : Int) = bt s 0 := bt_at s 0
  have q0 := eq_true (show 0 < s.size by omega)
  have hx1 : ∀ h : 1 < s.size, ((s[1]'h).toNat : Int) = bt s 1 := bt_at s 1
  have q1 := eq_true (show 1 < s.size by omega)
  have h2 : ((s.size : Int) == 0) = false := by rw [beq_eq_false_iff_ne]; omega
  rw [hb] at hx
  rw [hc] at hx1
  clear hb hc
  go_enter Tryz.func26, Tryz.ntmps26
  go_wp2
  refine bodyPost_ret (v := .tuple #[.int .i32 0, .bool false, .string ⟨#[]⟩, .iface t v]) (by simp [results, Tryz.results26, go_sem]) rfl ⟨rfl, rfl⟩

set_option maxRecDepth 100000 in
set_option maxHeartbeats 2000000 in
theorem uq_o52 (s : ByteArray) (q : Int) (t : TypeId) (v : Value) (w : World) (hE : ErrAt w t v) (S : ByteArray) (hS : s.extract 2 s.size = S) (hn : 2 ≤ S.size) (h1 : 1 < s.size) (hs : s.size ≤ 4096) (hq : (92 == q) = false) (hb : bt s 0 = 92) (hc : bt s 1 = 52) :
    Calls Tryz.prog 26 #[.string s, .int .u8 q] w fun e w' => e = .returned (uqVal t v ((octGo 4 ((bytesOf S).take 2)).bind fun v => if 255 < v then none else some (v, false, S.extract 2 S.size))) ∧ w' = w := by
  unfold ErrAt at hE
  have h0 : 0 < s.size := by omega
  have hx : ∀ h : 0 < s.size, ((s[0]'h).toNat : Int) = bt s 0 := bt_at s 0
  have q0 := eq_true (show 0 < s.size by omega)
  have hx1 : ∀ h : 1 < s.size, ((s[1]'h).toNat : Int) = bt s 1 := bt_at s 1
  have q1 := eq_true (show 1 < s.size by omega)
  have h2 : ((s.size : Int) == 0) = false := by rw [beq_eq_false_iff_ne]; omega
  rw [hb] at hx
  rw [hc] at hx1
  clear hb hc
  obtain ⟨R, hR⟩ : ∃ R, octGo 4 ((bytesOf S).take 2) = R := ⟨_, rfl⟩
  rw [hR]
  have HR := Aside0.mk hR
  clear hR
  go_enter Tryz.func26, Tryz.ntmps26
  go_wp2
  clear hx q0 hx1 q1 hS hq h2
  go_loop [7, 17, 18] (fun er u i => ∃ (k : Nat) (x : Int), k ≤ 2 ∧ er = .nilIface ∧ u = .int .i32 x ∧ i = .int .i64 k ∧ Aside0 (octGo x (((bytesOf S).take 2).drop k) = R)) (fun _ _ i => 2 - (intOf i).toNat)
  case atStart => exact ⟨0, 4, by omega, rfl, rfl, rfl, HR⟩
  case round =>
    obtain ⟨k, x, hk, rfl, rfl, rfl, HP⟩ := hrel
    by_cases hlt : k < 2
    · have hP := HP.out
      rw [take_bytes S 2 k hlt hn, octGo_cons] at hP
      have hb := bt_range S k
      have hxk : ∀ h : k < S.size, ((S[k]'h).toNat : Int) = bt S k := bt_at S k
      have qk := eq_true (show k < S.size by omega)
      clear HP
      obtain ⟨c, hc⟩ : ∃ c, bt S k = c := ⟨_, rfl⟩
      rw [hc] at hxk hP hb
      clear hc
      by_cases hu : c < 48 ∨ 55 < c
      · rw [if_pos hu] at hP
        have HP := Aside0.mk hP
        clear hP
        have hw : wrap32 (wrap32 c - 48) = c - 48 := by unfold wrap32; omega
        have hw2 : wrap32 (c - 48) = c - 48 := by unfold wrap32; omega
        rcases hu with hu | hu
        · have hu2 : c - 48 < 0 := by omega
          go_wp2
          refine bodyPost_ret (v := .tuple #[.int .i32 0, .bool false, .string ⟨#[]⟩, .iface t v]) (by simp [results, Tryz.results26, go_sem]) rfl ⟨by rw [← HP.out]; rfl, rfl⟩
        · have hu2 : 7 < c - 48 := by omega
          have hu3 : ¬ (c - 48 < 0) := by omega
          go_wp2
          refine bodyPost_ret (v := .tuple #[.int .i32 0, .bool false, .string ⟨#[]⟩, .iface t v]) (by simp [results, Tryz.results26, go_sem]) rfl ⟨by rw [← HP.out]; rfl, rfl⟩
      · rw [if_neg hu] at hP
        have HP := Aside0.mk hP
        clear hP
        have hw : wrap32 (wrap32 c - 48) = c - 48 := by unfold wrap32; omega
        have hw2 : wrap32 (c - 48) = c - 48 := by unfold wrap32; omega
        have hu2 : c - 48 ≤ 7 := by omega
        have hu3 : 0 ≤ c - 48 := by omega
        clear hu
        go_wp2
        go_round
        case rel => exact ⟨k + 1, octStep x (c - 48), by omega, rfl, by unfold octStep; rfl, by go_num, HP⟩
        case measure => simp [intOf]; omega
    · have hk3 : k = 2 := by omega
      subst hk3
      have hP := HP.out
      rw [take_bytes_end S 2] at hP
      have hP2 : some x = R := hP
      have HP2 := Aside0.mk hP2
      clear hP hP2 HP
      by_cases hv : 255 < x
      · go_wp2
        have HV := Aside0.mk hv
        refine bodyPost_ret (v := .tuple #[.int .i32 0, .bool false, .string ⟨#[]⟩, .iface t v]) (by simp [results, Tryz.results26, go_sem]) rfl ⟨by rw [← HP2.out]; simp [HV.out, uqVal], rfl⟩
      · have hv2 : x ≤ 255 := by omega
        clear hv
        go_wp2
        have HV := Aside0.mk hv2
        refine bodyPost_ret (v := .tuple #[.int .i32 x, .bool false, .string (S.extract 2 S.size), .nilIface]) (by simp [results, Tryz.results26, go_sem]) rfl ⟨by rw [← HP2.out]; simp only [Option.bind_some]; rw [if_neg (by have := HV.out; omega)]; rfl, rfl⟩

set_option maxRecDepth 100000 in
set_option maxHeartbeats 2000000 in
theorem uq_o53_short (s : ByteArray) (q : Int) (t : TypeId) (v : Value) (w : World) (hE : ErrAt w t v) (S : ByteArray) (hS : s.extract 2 s.size = S) (hn : S.size < 2) (h1 : 1 < s.size) (hs : s.size ≤ 4096) (hq : (92 == q) = false) (hb : bt s 0 = 92) (hc : bt s 1 = 53) :
    Calls Tryz.prog 26 #[.string s, .int .u8 q] w fun e w' => e = .returned (uqVal t v none) ∧ w' = w := by
  unfold ErrAt at hE
  have h0 : 0 < s.size := by omega
  have hx : ∀ h : 0 < s.size, ((s[0]'h).toNat : Int) = bt s 0 := bt_at s 0
  have q0 := eq_true (show 0 < s.size by omega)
  have hx1 : ∀ h : 1 < s.size, ((s[1]'h).toNat : Int) = bt s 1 := bt_at s 1
  have q1 := eq_true (show 1 < s.size by omega)
  have h2 : ((s.size : Int) == 0) = false := by rw [beq_eq_false_iff_ne]; omega
  rw [hb] at hx
  rw [hc] at hx1
  clear hb hc
  go_enter Tryz.func26, Tryz.ntmps26
  go_wp2
  refine bodyPost_ret (v := .tuple #[.int .i32 0, .bool false, .string ⟨#[]⟩, .iface t v]) (by simp [results, Tryz.results26, go_sem]) rfl ⟨rfl, rfl⟩

set_option maxRecDepth 100000 in
set_option maxHeartbeats 2000000 in
theorem uq_o53 (s : ByteArray) (q : Int) (t : TypeId) (v : Value) (w : World) (hE : ErrAt w t v) (S : ByteArray) (hS : s.extract 2 s.size = S) (hn : 2 ≤ S.size) (h1 : 1 < s.size) (hs : s.size ≤ 4096) (hq : (92 == q) = false) (hb : bt s 0 = 92) (hc : bt s 1 = 53) :
    Calls Tryz.prog 26 #[.string s, .int .u8 q] w fun e w' => e = .returned (uqVal t v ((octGo 5 ((bytesOf S).take 2)).bind fun v => if 255 < v then none else some (v, false, S.extract 2 S.size))) ∧ w' = w := by
  unfold ErrAt at hE
  have h0 : 0 < s.size := by omega
  have hx : ∀ h : 0 < s.size, ((s[0]'h).toNat : Int) = bt s 0 := bt_at s 0
  have q0 := eq_true (show 0 < s.size by omega)
  have hx1 : ∀ h : 1 < s.size, ((s[1]'h).toNat : Int) = bt s 1 := bt_at s 1
  have q1 := eq_true (show 1 < s.size by omega)
  have h2 : ((s.size : Int) == 0) = false := by rw [beq_eq_false_iff_ne]; omega
  rw [hb] at hx
  rw [hc] at hx1
  clear hb hc
  obtain ⟨R, hR⟩ : ∃ R, octGo 5 ((bytesOf S).take 2) = R := ⟨_, rfl⟩
  rw [hR]
  have HR := Aside0.mk hR
  clear hR
  go_enter Tryz.func26, Tryz.ntmps26
  go_wp2
  clear hx q0 hx1 q1 hS hq h2
  go_loop [7, 17, 18] (fun er u i => ∃ (k : Nat) (x : Int), k ≤ 2 ∧ er = .nilIface ∧ u = .int .i32 x ∧ i = .int .i64 k ∧ Aside0 (octGo x (((bytesOf S).take 2).drop k) = R)) (fun _ _ i => 2 - (intOf i).toNat)
  case atStart => exact ⟨0, 5, by omega, rfl, rfl, rfl, HR⟩
  case round =>
    obtain ⟨k, x, hk, rfl, rfl, rfl, HP⟩ := hrel
    by_cases hlt : k < 2
    · have hP := HP.out
      rw [take_bytes S 2 k hlt hn, octGo_cons] at hP
      have hb := bt_range S k
      have hxk : ∀ h : k < S.size, ((S[k]'h).toNat : Int) = bt S k := bt_at S k
      have qk := eq_true (show k < S.size by omega)
      clear HP
      obtain ⟨c, hc⟩ : ∃ c, bt S k = c := ⟨_, rfl⟩
      rw [hc] at hxk hP hb
      clear hc
      by_cases hu : c < 48 ∨ 55 < c
      · rw [if_pos hu] at hP
        have HP := Aside0.mk hP
        clear hP
        have hw : wrap32 (wrap32 c - 48) = c - 48 := by unfold wrap32; omega
        have hw2 : wrap32 (c - 48) = c - 48 := by unfold wrap32; omega
        rcases hu with hu | hu
        · have hu2 : c - 48 < 0 := by omega
          go_wp2
          refine bodyPost_ret (v := .tuple #[.int .i32 0, .bool false, .string ⟨#[]⟩, .iface t v]) (by simp [results, Tryz.results26, go_sem]) rfl ⟨by rw [← HP.out]; rfl, rfl⟩
        · have hu2 : 7 < c - 48 := by omega
          have hu3 : ¬ (c - 48 < 0) := by omega
          go_wp2
          refine bodyPost_ret (v := .tuple #[.int .i32 0, .bool false, .string ⟨#[]⟩, .iface t v]) (by simp [results, Tryz.results26, go_sem]) rfl ⟨by rw [← HP.out]; rfl, rfl⟩
      · rw [if_neg hu] at hP
        have HP := Aside0.mk hP
        clear hP
        have hw : wrap32 (wrap32 c - 48) = c - 48 := by unfold wrap32; omega
        have hw2 : wrap32 (c - 48) = c - 48 := by unfold wrap32; omega
        have hu2 : c - 48 ≤ 7 := by omega
        have hu3 : 0 ≤ c - 48 := by omega
        clear hu
        go_wp2
        go_round
        case rel => exact ⟨k + 1, octStep x (c - 48), by omega, rfl, by unfold octStep; rfl, by go_num, HP⟩
        case measure => simp [intOf]; omega
    · have hk3 : k = 2 := by omega
      subst hk3
      have hP := HP.out
      rw [take_bytes_end S 2] at hP
      have hP2 : some x = R := hP
      have HP2 := Aside0.mk hP2
      clear hP hP2 HP
      by_cases hv : 255 < x
      · go_wp2
        have HV := Aside0.mk hv
        refine bodyPost_ret (v := .tuple #[.int .i32 0, .bool false, .string ⟨#[]⟩, .iface t v]) (by simp [results, Tryz.results26, go_sem]) rfl ⟨by rw [← HP2.out]; simp [HV.out, uqVal], rfl⟩
      · have hv2 : x ≤ 255 := by omega
        clear hv
        go_wp2
        have HV := Aside0.mk hv2
        refine bodyPost_ret (v := .tuple #[.int .i32 x, .bool false, .string (S.extract 2 S.size), .nilIface]) (by simp [results, Tryz.results26, go_sem]) rfl ⟨by rw [← HP2.out]; simp only [Option.bind_some]; rw [if_neg (by have := HV.out; omega)]; rfl, rfl⟩

set_option maxRecDepth 100000 in
set_option maxHeartbeats 2000000 in
theorem uq_o54_short (s : ByteArray) (q : Int) (t : TypeId) (v : Value) (w : World) (hE : ErrAt w t v) (S : ByteArray) (hS : s.extract 2 s.size = S) (hn : S.size < 2) (h1 : 1 < s.size) (hs : s.size ≤ 4096) (hq : (92 == q) = false) (hb : bt s 0 = 92) (hc : bt s 1 = 54) :
    Calls Tryz.prog 26 #[.string s, .int .u8 q] w fun e w' => e = .returned (uqVal t v none) ∧ w' = w := by
  unfold ErrAt at hE
  have h0 : 0 < s.size := by omega
  have hx : ∀ h : 0 < s.size, ((s[0]'h).toNat : Int) = bt s 0 := bt_at s 0
  have q0 := eq_true (show 0 < s.size by omega)
  have hx1 : ∀ h : 1 < s.size, ((s[1]'h).toNat : Int) = bt s 1 := bt_at s 1
  have q1 := eq_true (show 1 < s.size by omega)
  have h2 : ((s.size : Int) == 0) = false := by rw [beq_eq_false_iff_ne]; omega
  rw [hb] at hx
  rw [hc] at hx1
  clear hb hc
  go_enter Tryz.func26, Tryz.ntmps26
  go_wp2
  refine bodyPost_ret (v := .tuple #[.int .i32 0, .bool false, .string ⟨#[]⟩, .iface t v]) (by simp [results, Tryz.results26, go_sem]) rfl ⟨rfl, rfl⟩

set_option maxRecDepth 100000 in
set_option maxHeartbeats 2000000 in
theorem uq_o54 (s : ByteArray) (q : Int) (t : TypeId) (v : Value) (w : World) (hE : ErrAt w t v) (S : ByteArray) (hS : s.extract 2 s.size = S) (hn : 2 ≤ S.size) (h1 : 1 < s.size) (hs : s.size ≤ 4096) (hq : (92 == q) = false) (hb : bt s 0 = 92) (hc : bt s 1 = 54) :
    Calls Tryz.prog 26 #[.string s, .int .u8 q] w fun e w' => e = .returned (uqVal t v ((octGo 6 ((bytesOf S).take 2)).bind fun v => if 255 < v then none else some (v, false, S.extract 2 S.size))) ∧ w' = w := by
  unfold ErrAt at hE
  have h0 : 0 < s.size := by omega
  have hx : ∀ h : 0 < s.size, ((s[0]'h).toNat : Int) = bt s 0 := bt_at s 0
  have q0 := eq_true (show 0 < s.size by omega)
  have hx1 : ∀ h : 1 < s.size, ((s[1]'h).toNat : Int) = bt s 1 := bt_at s 1
  have q1 := eq_true (show 1 < s.size by omega)
  have h2 : ((s.size : Int) == 0) = false := by rw [beq_eq_false_iff_ne]; omega
  rw [hb] at hx
  rw [hc] at hx1
  clear hb hc
  obtain ⟨R, hR⟩ : ∃ R, octGo 6 ((bytesOf S).take 2) = R := ⟨_, rfl⟩
  rw [hR]
  have HR := Aside0.mk hR
  clear hR
  go_enter Tryz.func26, Tryz.ntmps26
  go_wp2
  clear hx q0 hx1 q1 hS hq h2
  go_loop [7, 17, 18] (fun er u i => ∃ (k : Nat) (x : Int), k ≤ 2 ∧ er = .nilIface ∧ u = .int .i32 x ∧ i = .int .i64 k ∧ Aside0 (octGo x (((bytesOf S).take 2).drop k) = R)) (fun _ _ i => 2 - (intOf i).toNat)
  case atStart => exact ⟨0, 6, by omega, rfl, rfl, rfl, HR⟩
  case round =>
    obtain ⟨k, x, hk, rfl, rfl, rfl, HP⟩ := hrel
    by_cases hlt : k < 2
    · have hP := HP.out
      rw [take_bytes S 2 k hlt hn, octGo_cons] at hP
      have hb := bt_range S k
      have hxk : ∀ h : k < S.size, ((S[k]'h).toNat : Int) = bt S k := bt_at S k
      have qk := eq_true (show k < S.size by omega)
      clear HP
      obtain ⟨c, hc⟩ : ∃ c, bt S k = c := ⟨_, rfl⟩
      rw [hc] at hxk hP hb
      clear hc
      by_cases hu : c < 48 ∨ 55 < c
      · rw [if_pos hu] at hP
        have HP := Aside0.mk hP
        clear hP
        have hw : wrap32 (wrap32 c - 48) = c - 48 := by unfold wrap32; omega
        have hw2 : wrap32 (c - 48) = c - 48 := by unfold wrap32; omega
        rcases hu with hu | hu
        · have hu2 : c - 48 < 0 := by omega
          go_wp2
          refine bodyPost_ret (v := .tuple #[.int .i32 0, .bool false, .string ⟨#[]⟩, .iface t v]) (by simp [results, Tryz.results26, go_sem]) rfl ⟨by rw [← HP.out]; rfl, rfl⟩
        · have hu2 : 7 < c - 48 := by omega
          have hu3 : ¬ (c - 48 < 0) := by omega
          go_wp2
          refine bodyPost_ret (v := .tuple #[.int .i32 0, .bool false, .string ⟨#[]⟩, .iface t v]) (by simp [results, Tryz.results26, go_sem]) rfl ⟨by rw [← HP.out]; rfl, rfl⟩
      · rw [if_neg hu] at hP
        have HP := Aside0.mk hP
        clear hP
        have hw : wrap32 (wrap32 c - 48) = c - 48 := by unfold wrap32; omega
        have hw2 : wrap32 (c - 48) = c - 48 := by unfold wrap32; omega
        have hu2 : c - 48 ≤ 7 := by omega
        have hu3 : 0 ≤ c - 48 := by omega
        clear hu
        go_wp2
        go_round
        case rel => exact ⟨k + 1, octStep x (c - 48), by omega, rfl, by unfold octStep; rfl, by go_num, HP⟩
        case measure => simp [intOf]; omega
    · have hk3 : k = 2 := by omega
      subst hk3
      have hP := HP.out
      rw [take_bytes_end S 2] at hP
      have hP2 : some x = R := hP
      have HP2 := Aside0.mk hP2
      clear hP hP2 HP
      by_cases hv : 255 < x
      · go_wp2
        have HV := Aside0.mk hv
        refine bodyPost_ret (v := .tuple #[.int .i32 0, .bool false, .string ⟨#[]⟩, .iface t v]) (by simp [results, Tryz.results26, go_sem]) rfl ⟨by rw [← HP2.out]; simp [HV.out, uqVal], rfl⟩
      · have hv2 : x ≤ 255 := by omega
        clear hv
        go_wp2
        have HV := Aside0.mk hv2
        refine bodyPost_ret (v := .tuple #[.int .i32 x, .bool false, .string (S.extract 2 S.size), .nilIface]) (by simp [results, Tryz.results26, go_sem]) rfl ⟨by rw [← HP2.out]; simp only [Option.bind_some]; rw [if_neg (by have := HV.out; omega)]; rfl, rfl⟩

set_option maxRecDepth 100000 in
set_option maxHeartbeats 2000000 in
theorem uq_o55_short (s : ByteArray) (q : Int) (t : TypeId) (v : Value) (w : World) (hE : ErrAt w t v) (S : ByteArray) (hS : s.extract 2 s.size = S) (hn : S.size < 2) (h1 : 1 < s.size) (hs : s.size ≤ 4096) (hq : (92 == q) = false) (hb : bt s 0 = 92) (hc : bt s 1 = 55) :
    Calls Tryz.prog 26 #[.string s, .int .u8 q] w fun e w' => e = .returned (uqVal t v none) ∧ w' = w := by
  unfold ErrAt at hE
  have h0 : 0 < s.size := by omega
  have hx : ∀ h : 0 < s.size, ((s[0]'h).toNat : Int) = bt s 0 := bt_at s 0
  have q0 := eq_true (show 0 < s.size by omega)
  have hx1 : ∀ h : 1 < s.size, ((s[1]'h).toNat : Int) = bt s 1 := bt_at s 1
  have q1 := eq_true (show 1 < s.size by omega)
  have h2 : ((s.size : Int) == 0) = false := by rw [beq_eq_false_iff_ne]; omega
  rw [hb] at hx
  rw [hc] at hx1
  clear hb hc
  go_enter Tryz.func26, Tryz.ntmps26
  go_wp2
  refine bodyPost_ret (v := .tuple #[.int .i32 0, .bool false, .string ⟨#[]⟩, .iface t v]) (by simp [results, Tryz.results26, go_sem]) rfl ⟨rfl, rfl⟩

set_option maxRecDepth 100000 in
set_option maxHeartbeats 2000000 in
theorem uq_o55 (s : ByteArray) (q : Int) (t : TypeId) (v : Value) (w : World) (hE : ErrAt w t v) (S : ByteArray) (hS : s.extract 2 s.size = S) (hn : 2 ≤ S.size) (h1 : 1 < s.size) (hs : s.size ≤ 4096) (hq : (92 == q) = false) (hb : bt s 0 = 92) (hc : bt s 1 = 55) :
    Calls Tryz.prog 26 #[.string s, .int .u8 q] w fun e w' => e = .returned (uqVal t v ((octGo 7 ((bytesOf S).take 2)).bind fun v => if 255 < v then none else some (v, false, S.extract 2 S.size))) ∧ w' = w := by
  unfold ErrAt at hE
  have h0 : 0 < s.size := by omega
  have hx : ∀ h : 0 < s.size, ((s[0]'h).toNat : Int) = bt s 0 := bt_at s 0
  have q0 := eq_true (show 0 < s.size by omega)
  have hx1 : ∀ h : 1 < s.size, ((s[1]'h).toNat : Int) = bt s 1 := bt_at s 1
  have q1 := eq_true (show 1 < s.size by omega)
  have h2 : ((s.size : Int) == 0) = false := by rw [beq_eq_false_iff_ne]; omega
  rw [hb] at hx
  rw [hc] at hx1
  clear hb hc
  obtain ⟨R, hR⟩ : ∃ R, octGo 7 ((bytesOf S).take 2) = R := ⟨_, rfl⟩
  rw [hR]
  have HR := Aside0.mk hR
  clear hR
  go_enter Tryz.func26, Tryz.ntmps26
  go_wp2
  clear hx q0 hx1 q1 hS hq h2
  go_loop [7, 17, 18] (fun er u i => ∃ (k : Nat) (x : Int), k ≤ 2 ∧ er = .nilIface ∧ u = .int .i32 x ∧ i = .int .i64 k ∧ Aside0 (octGo x (((bytesOf S).take 2).drop k) = R)) (fun _ _ i => 2 - (intOf i).toNat)
  case atStart => exact ⟨0, 7, by omega, rfl, rfl, rfl, HR⟩
  case round =>
    obtain ⟨k, x, hk, rfl, rfl, rfl, HP⟩ := hrel
    by_cases hlt : k < 2
    · have hP := HP.out
      rw [take_bytes S 2 k hlt hn, octGo_cons] at hP
      have hb := bt_range S k
      have hxk : ∀ h : k < S.size, ((S[k]'h).toNat : Int) = bt S k := bt_at S k
      have qk := eq_true (show k < S.size by omega)
      clear HP
      obtain ⟨c, hc⟩ : ∃ c, bt S k = c := ⟨_, rfl⟩
      rw [hc] at hxk hP hb
      clear hc
      by_cases hu : c < 48 ∨ 55 < c
      · rw [if_pos hu] at hP
        have HP := Aside0.mk hP
        clear hP
        have hw : wrap32 (wrap32 c - 48) = c - 48 := by unfold wrap32; omega
        have hw2 : wrap32 (c - 48) = c - 48 := by unfold wrap32; omega
        rcases hu with hu | hu
        · have hu2 : c - 48 < 0 := by omega
          go_wp2
          refine bodyPost_ret (v := .tuple #[.int .i32 0, .bool false, .string ⟨#[]⟩, .iface t v]) (by simp [results, Tryz.results26, go_sem]) rfl ⟨by rw [← HP.out]; rfl, rfl⟩
        · have hu2 : 7 < c - 48 := by omega
          have hu3 : ¬ (c - 48 < 0) := by omega
          go_wp2
          refine bodyPost_ret (v := .tuple #[.int .i32 0, .bool false, .string ⟨#[]⟩, .iface t v]) (by simp [results, Tryz.results26, go_sem]) rfl ⟨by rw [← HP.out]; rfl, rfl⟩
      · rw [if_neg hu] at hP
        have HP := Aside0.mk hP
        clear hP
        have hw : wrap32 (wrap32 c - 48) = c - 48 := by unfold wrap32; omega
        have hw2 : wrap32 (c - 48) = c - 48 := by unfold wrap32; omega
        have hu2 : c - 48 ≤ 7 := by omega
        have hu3 : 0 ≤ c - 48 := by omega
        clear hu
        go_wp2
        go_round
        case rel => exact ⟨k + 1, octStep x (c - 48), by omega, rfl, by unfold octStep; rfl, by go_num, HP⟩
        case measure => simp [intOf]; omega
    · have hk3 : k = 2 := by omega
      subst hk3
      have hP := HP.out
      rw [take_bytes_end S 2] at hP
      have hP2 : some x = R := hP
      have HP2 := Aside0.mk hP2
      clear hP hP2 HP
      by_cases hv : 255 < x
      · go_wp2
        have HV := Aside0.mk hv
        refine bodyPost_ret (v := .tuple #[.int .i32 0, .bool false, .string ⟨#[]⟩, .iface t v]) (by simp [results, Tryz.results26, go_sem]) rfl ⟨by rw [← HP2.out]; simp [HV.out, uqVal], rfl⟩
      · have hv2 : x ≤ 255 := by omega
        clear hv
        go_wp2
        have HV := Aside0.mk hv2
        refine bodyPost_ret (v := .tuple #[.int .i32 x, .bool false, .string (S.extract 2 S.size), .nilIface]) (by simp [results, Tryz.results26, go_sem]) rfl ⟨by rw [← HP2.out]; simp only [Option.bind_some]; rw [if_neg (by have := HV.out; omega)]; rfl, rfl⟩

set_option maxRecDepth 100000 in
set_option maxHeartbeats 2000000 in
theorem uq_q39_no (s : ByteArray) (q : Int) (t : TypeId) (v : Value) (w : World) (hE : ErrAt w t v) (h1 : 1 < s.size) (hs : s.size ≤ 4096) (hq : (92 == q) = false) (hb : bt s 0 = 92) (hc : bt s 1 = 39) (hcq : (39 != q) = true) :
    Calls Tryz.prog 26 #[.string s, .int .u8 q] w fun e w' => e = .returned (uqVal t v none) ∧ w' = w := by
  unfold ErrAt at hE
  have h0 : 0 < s.size := by omega
  have hx : ∀ h : 0 < s.size, ((s[0]'h).toNat : Int) = bt s 0 := bt_at s 0
  have q0 := eq_true (show 0 < s.size by omega)
  have hx1 : ∀ h : 1 < s.size, ((s[1]'h).toNat : Int) = bt s 1 := bt_at s 1
  have q1 := eq_true (show 1 < s.size by omega)
  have h2 : ((s.size : Int) == 0) = false := by rw [beq_eq_false_iff_ne]; omega
  rw [hb] at hx
  rw [hc] at hx1
  clear hb hc
  go_enter Tryz.func26, Tryz.ntmps26
  go_wp2
  refine bodyPost_ret (v := .tuple #[.int .i32 0, .bool false, .string ⟨#[]⟩, .iface t v]) (by simp [results, Tryz.results26, go_sem]) rfl ⟨rfl, rfl⟩

set_option maxRecDepth 100000 in
set_option maxHeartbeats 2000000 in
theorem uq_q39 (s : ByteArray) (q : Int) (t : TypeId) (v : Value) (w : World) (hE : ErrAt w t v) (h1 : 1 < s.size) (hs : s.size ≤ 4096) (hq : (92 == q) = false) (hb : bt s 0 = 92) (hc : bt s 1 = 39) (hcq : (39 != q) = false) :
    Calls Tryz.prog 26 #[.string s, .int .u8 q] w fun e w' => e = .returned (uqVal t v (some (39, false, s.extract 2 s.size))) ∧ w' = w := by
  unfold ErrAt at hE
  have h0 : 0 < s.size := by omega
  have hx : ∀ h : 0 < s.size, ((s[0]'h).toNat : Int) = bt s 0 := bt_at s 0
  have q0 := eq_true (show 0 < s.size by omega)
  have hx1 : ∀ h : 1 < s.size, ((s[1]'h).toNat : Int) = bt s 1 := bt_at s 1
  have q1 := eq_true (show 1 < s.size by omega)
  have h2 : ((s.size : Int) == 0) = false := by rw [beq_eq_false_iff_ne]; omega
  rw [hb] at hx
  rw [hc] at hx1
  clear hb hc
  go_enter Tryz.func26, Tryz.ntmps26
  go_wp2
  refine bodyPost_ret (v := .tuple #[.int .i32 39, .bool false, .string (s.extract 2 s.size), .nilIface]) (by simp [results, Tryz.results26, go_sem]) rfl ⟨rfl, rfl⟩

set_option maxRecDepth 100000 in
set_option maxHeartbeats 2000000 in
theorem uq_q34_no (s : ByteArray) (q : Int) (t : TypeId) (v : Value) (w : World) (hE : ErrAt w t v) (h1 : 1 < s.size) (hs : s.size ≤ 4096) (hq : (92 == q) = false) (hb : bt s 0 = 92) (hc : bt s 1 = 34) (hcq : (34 != q) = true) :
    Calls Tryz.prog 26 #[.string s, .int .u8 q] w fun e w' => e = .returned (uqVal t v none) ∧ w' = w := by
  unfold ErrAt at hE
  have h0 : 0 < s.size := by omega
  have hx : ∀ h : 0 < s.size, ((s[0]'h).toNat : Int) = bt s 0 := bt_at s 0
  have q0 := eq_true (show 0 < s.size by omega)
  have hx1 : ∀ h : 1 < s.size, ((s[1]'h).toNat : Int) = bt s 1 := bt_at s 1
  have q1 := eq_true (show 1 < s.size by omega)
  have h2 : ((s.size : Int) == 0) = false := by rw [beq_eq_false_iff_ne]; omega
  rw [hb] at hx
  rw [hc] at hx1
  clear hb hc
  go_enter Tryz.func26, Tryz.ntmps26
  go_wp2
  refine bodyPost_ret (v := .tuple #[.int .i32 0, .bool false, .string ⟨#[]⟩, .iface t v]) (by simp [results, Tryz.results26, go_sem]) rfl ⟨rfl, rfl⟩

set_option maxRecDepth 100000 in
set_option maxHeartbeats 2000000 in
theorem uq_q34 (s : ByteArray) (q : Int) (t : TypeId) (v : Value) (w : World) (hE : ErrAt w t v) (h1 : 1 < s.size) (hs : s.size ≤ 4096) (hq : (92 == q) = false) (hb : bt s 0 = 92) (hc : bt s 1 = 34) (hcq : (34 != q) = false) :
    Calls Tryz.prog 26 #[.string s, .int .u8 q] w fun e w' => e = .returned (uqVal t v (some (34, false, s.extract 2 s.size))) ∧ w' = w := by
  unfold ErrAt at hE
  have h0 : 0 < s.size := by omega
  have hx : ∀ h : 0 < s.size, ((s[0]'h).toNat : Int) = bt s 0 := bt_at s 0
  have q0 := eq_true (show 0 < s.size by omega)
  have hx1 : ∀ h : 1 < s.size, ((s[1]'h).toNat : Int) = bt s 1 := bt_at s 1
  have q1 := eq_true (show 1 < s.size by omega)
  have h2 : ((s.size : Int) == 0) = false := by rw [beq_eq_false_iff_ne]; omega
  rw [hb] at hx
  rw [hc] at hx1
  clear hb hc
  go_enter Tryz.func26, Tryz.ntmps26
  go_wp2
  refine bodyPost_ret (v := .tuple #[.int .i32 34, .bool false, .string (s.extract 2 s.size), .nilIface]) (by simp [results, Tryz.results26, go_sem]) rfl ⟨rfl, rfl⟩

set_option maxRecDepth 100000 in
set_option maxHeartbeats 2000000 in
theorem uq_other (s : ByteArray) (q : Int) (t : TypeId) (v : Value) (w : World) (hE : ErrAt w t v) (h1 : 1 < s.size) (hs : s.size ≤ 4096) (hq : (92 == q) = false) (hb : bt s 0 = 92) (n97 : (bt s 1 == 97) = false) (n98 : (bt s 1 == 98) = false) (n102 : (bt s 1 == 102) = false) (n110 : (bt s 1 == 110) = false) (n114 : (bt s 1 == 114) = false) (n116 : (bt s 1 == 116) = false) (n118 : (bt s 1 == 118) = false) (n120 : (bt s 1 == 120) = false) (n117 : (bt s 1 == 117) = false) (n85 : (bt s 1 == 85) = false) (n48 : (bt s 1 == 48) = false) (n49 : (bt s 1 == 49) = false) (n50 : (bt s 1 == 50) = false) (n51 : (bt s 1 == 51) = false) (n52 : (bt s 1 == 52) = false) (n53 : (bt s 1 == 53) = false) (n54 : (bt s 1 == 54) = false) (n55 : (bt s 1 == 55) = false) (n92 : (bt s 1 == 92) = false) (n39 : (bt s 1 == 39) = false) (n34 : (bt s 1 == 34) = false) :
    Calls Tryz.prog 26 #[.string s, .int .u8 q] w fun e w' => e = .returned (uqVal t v none) ∧ w' = w := by
  unfold ErrAt at hE
  have h0 : 0 < s.size := by omega
  have hx : ∀ h : 0 < s.size, ((s[0]'h).toNat : Int) = bt s 0 := bt_at s 0
  have q0 := eq_true (show 0 < s.size by omega)
  have hx1 : ∀ h : 1 < s.size, ((s[1]'h).toNat : Int) = bt s 1 := bt_at s 1
  have q1 := eq_true (show 1 < s.size by omega)
  have h2 : ((s.size : Int) == 0) = false := by rw [beq_eq_false_iff_ne]; omega
  rw [hb] at hx
  clear hb
  go_enter Tryz.func26, Tryz.ntmps26
  go_wp2
  refine bodyPost_ret (v := .tuple #[.int .i32 0, .bool false, .string ⟨#[]⟩, .iface t v]) (by simp [results, Tryz.results26, go_sem]) rfl ⟨rfl, rfl⟩

end Go.Proofs.YtlfmgidpdmmpkaaGreatDoor
