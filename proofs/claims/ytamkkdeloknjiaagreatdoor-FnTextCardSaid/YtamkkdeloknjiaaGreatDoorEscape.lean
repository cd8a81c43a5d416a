/- spec.escape: what the reference reads behind a backslash, each way by its own walk, then joined. -/
import Derived.Test.YtamkkdeloknjiaaGreatDoorB
import Derived.Test.YtamkkdeloknjiaaGreatDoorEsc
import Derived.Laws.RangeAny
namespace Go.Proofs.YtamkkdeloknjiaaGreatDoor
open Go Go.RowKit Go.Proofs.YtamkkdeloknjiaaGreatDoorW.PrintWords
set_option linter.unusedVariables false
set_option linter.unusedSimpArgs false

theorem digit_any (c : Int) (h0 : 0 ≤ c) (h1 : c ≤ 255) (w : World) : Calls Tryz.prog 15 #[.int .u8 c] w fun e w' => e = .returned (.int .i64 (dgt c)) ∧ w' = w := by
  obtain ⟨R, hR⟩ : ∃ R, dgt c = R := ⟨_, rfl⟩
  rw [hR]
  have hm : IntKind.wrap .u8 (c - 48) = c - 48 ∨ c < 48 := by by_cases c < 48; right; assumption; left; rw [IntKind.wrap_u8]; omega
  unfold dgt at hR
  by_cases a : 48 ≤ c ∧ c ≤ 57
  · rw [if_pos a] at hR
    obtain ⟨a1, a2⟩ := a
    clear hm
    subst hR
    go_enter Tryz.func15, Tryz.ntmps15
    go_wp2
    go_ret
    exact ⟨by simp, rfl⟩
  · rw [if_neg a] at hR
    have a' : c < 48 ∨ 57 < c := by omega
    clear a hm
    by_cases b : 97 ≤ c ∧ c ≤ 122
    · rw [if_pos b] at hR
      obtain ⟨b1, b2⟩ := b
      subst hR
      have a2 : 57 < c := by omega
      clear a'
      go_enter Tryz.func15, Tryz.ntmps15
      go_wp2
      go_ret
      exact ⟨by simp, rfl⟩
    · rw [if_neg b] at hR
      have b' : c < 97 ∨ 122 < c := by omega
      clear b
      by_cases d : 65 ≤ c ∧ c ≤ 90
      · rw [if_pos d] at hR
        obtain ⟨d1, d2⟩ := d
        subst hR
        have a2 : 57 < c := by omega
        have b2 : c < 97 := by omega
        clear a' b'
        go_enter Tryz.func15, Tryz.ntmps15
        go_wp2
        go_ret
        exact ⟨by simp, rfl⟩
      · rw [if_neg d] at hR
        have d' : c < 65 ∨ 90 < c := by omega
        clear d
        subst hR
        rcases a' with a' | a' <;> rcases b' with b' | b' <;> rcases d' with d' | d'
        all_goals first
          | omega
          | (go_enter Tryz.func15, Tryz.ntmps15
             go_wp2
             go_ret
             exact ⟨by simp, rfl⟩)

def escVal : Option (Int × Bool × Int) → Value
  | none => .tuple #[.int .i64 0, .bool false, .int .i64 0]
  | some (v, m, n) => .tuple #[.int .i64 v, .bool m, .int .i64 n]
def lettersOf : ByteArray := { data := #[97, 98, 102, 110, 114, 116, 118, 92] }
theorem below_iter (w : World) (s : ByteArray) (p : Nat) : Below w.heap.size w (w.iter s p) := below_alloc (Below.refl _ _) _

set_option maxRecDepth 100000 in
set_option maxHeartbeats 2000000 in
theorem esc_empty (s : ByteArray) (q : Int) (w : World) (h0 : s.size = 0) :
    Calls Tryz.prog 9 #[.string s, .int .u8 q] w fun e w' => e = .returned (escVal none) ∧ Below w.heap.size w w' := by
  have h2 : ((s.size : Int) == 0) = true := by rw [h0]; rfl
  clear h0
  go_enter Tryz.func9, Tryz.ntmps9
  go_wp2
  refine bodyPost_ret (v := escVal none) (by simp [escVal, results, Tryz.results9, go_sem]) rfl ⟨rfl, Below.refl _ _⟩

set_option maxRecDepth 100000 in
set_option maxHeartbeats 16000000 in
theorem esc_quote (s : ByteArray) (q : Int) (w : World) (hs : s.size ≤ 4096) (h0 : 0 < s.size) (hq : (bt s 0 == q) = true) (hl : letter (bt s 0) = none) (hq0 : 0 ≤ q) (hq1 : q ≤ 255) :
    Calls Tryz.prog 9 #[.string s, .int .u8 q] w fun e w' => e = .returned (escVal (some (q, false, 1))) ∧ Below w.heap.size w w' := by
  have hx : ∀ h : 0 < s.size, ((s[0]'h).toNat : Int) = bt s 0 := bt_at s 0
  have q0 := eq_true (show 0 < s.size by omega)
  have h2 : ((s.size : Int) == 0) = false := by rw [beq_eq_false_iff_ne]; omega
  obtain ⟨b0, b1⟩ := bt_range s 0
  have n97 : (bt s 0 == 97) = false := by rw [beq_eq_false_iff_ne]; intro k; rw [k] at hl; exact absurd hl (by decide)
  have n98 : (bt s 0 == 98) = false := by rw [beq_eq_false_iff_ne]; intro k; rw [k] at hl; exact absurd hl (by decide)
  have n102 : (bt s 0 == 102) = false := by rw [beq_eq_false_iff_ne]; intro k; rw [k] at hl; exact absurd hl (by decide)
  have n110 : (bt s 0 == 110) = false := by rw [beq_eq_false_iff_ne]; intro k; rw [k] at hl; exact absurd hl (by decide)
  have n114 : (bt s 0 == 114) = false := by rw [beq_eq_false_iff_ne]; intro k; rw [k] at hl; exact absurd hl (by decide)
  have n116 : (bt s 0 == 116) = false := by rw [beq_eq_false_iff_ne]; intro k; rw [k] at hl; exact absurd hl (by decide)
  have n118 : (bt s 0 == 118) = false := by rw [beq_eq_false_iff_ne]; intro k; rw [k] at hl; exact absurd hl (by decide)
  have n92 : (bt s 0 == 92) = false := by rw [beq_eq_false_iff_ne]; intro k; rw [k] at hl; exact absurd hl (by decide)
  clear hl
  go_enter Tryz.func9, Tryz.ntmps9
  go_wp2
  go_loopw [7, 8] (fun i c w' => ∃ pos : Nat, pos ≤ 8 ∧ w' = w.iter lettersOf pos) (fun _ _ w' => 8 - w'.iterPos w.heap.size)
  case atStart => exact ⟨0, by omega, rfl⟩
  case round =>
    obtain ⟨pos, hpos, rfl⟩ := hrel
    have hk : pos = 0 ∨ pos = 1 ∨ pos = 2 ∨ pos = 3 ∨ pos = 4 ∨ pos = 5 ∨ pos = 6 ∨ pos = 7 ∨ pos = 8 := by omega
    clear hpos
    rcases hk with rfl | rfl | rfl | rfl | rfl | rfl | rfl | rfl | rfl
    · have hnx : ∀ ty, (Instr.next (.pointer (some ⟨w.heap.size, 0, none⟩)) true ty).run Tryz.prog (w.iter lettersOf 0) = .ok (.tuple #[.bool true, .int .i64 0, .int .i32 97]) (w.iter lettersOf 1) := fun ty => run_next_any w lettersOf 0 ty (by decide)
      go_wp2
      go_roundw
      case rel => exact ⟨1, by omega, rfl⟩
      case measure => simp
    · have hnx : ∀ ty, (Instr.next (.pointer (some ⟨w.heap.size, 0, none⟩)) true ty).run Tryz.prog (w.iter lettersOf 1) = .ok (.tuple #[.bool true, .int .i64 1, .int .i32 98]) (w.iter lettersOf 2) := fun ty => run_next_any w lettersOf 1 ty (by decide)
      go_wp2
      go_roundw
      case rel => exact ⟨2, by omega, rfl⟩
      case measure => simp
    · have hnx : ∀ ty, (Instr.next (.pointer (some ⟨w.heap.size, 0, none⟩)) true ty).run Tryz.prog (w.iter lettersOf 2) = .ok (.tuple #[.bool true, .int .i64 2, .int .i32 102]) (w.iter lettersOf 3) := fun ty => run_next_any w lettersOf 2 ty (by decide)
      go_wp2
      go_roundw
      case rel => exact ⟨3, by omega, rfl⟩
      case measure => simp
    · have hnx : ∀ ty, (Instr.next (.pointer (some ⟨w.heap.size, 0, none⟩)) true ty).run Tryz.prog (w.iter lettersOf 3) = .ok (.tuple #[.bool true, .int .i64 3, .int .i32 110]) (w.iter lettersOf 4) := fun ty => run_next_any w lettersOf 3 ty (by decide)
      go_wp2
      go_roundw
      case rel => exact ⟨4, by omega, rfl⟩
      case measure => simp
    · have hnx : ∀ ty, (Instr.next (.pointer (some ⟨w.heap.size, 0, none⟩)) true ty).run Tryz.prog (w.iter lettersOf 4) = .ok (.tuple #[.bool true, .int .i64 4, .int .i32 114]) (w.iter lettersOf 5) := fun ty => run_next_any w lettersOf 4 ty (by decide)
      go_wp2
      go_roundw
      case rel => exact ⟨5, by omega, rfl⟩
      case measure => simp
    · have hnx : ∀ ty, (Instr.next (.pointer (some ⟨w.heap.size, 0, none⟩)) true ty).run Tryz.prog (w.iter lettersOf 5) = .ok (.tuple #[.bool true, .int .i64 5, .int .i32 116]) (w.iter lettersOf 6) := fun ty => run_next_any w lettersOf 5 ty (by decide)
      go_wp2
      go_roundw
      case rel => exact ⟨6, by omega, rfl⟩
      case measure => simp
    · have hnx : ∀ ty, (Instr.next (.pointer (some ⟨w.heap.size, 0, none⟩)) true ty).run Tryz.prog (w.iter lettersOf 6) = .ok (.tuple #[.bool true, .int .i64 6, .int .i32 118]) (w.iter lettersOf 7) := fun ty => run_next_any w lettersOf 6 ty (by decide)
      go_wp2
      go_roundw
      case rel => exact ⟨7, by omega, rfl⟩
      case measure => simp
    · have hnx : ∀ ty, (Instr.next (.pointer (some ⟨w.heap.size, 0, none⟩)) true ty).run Tryz.prog (w.iter lettersOf 7) = .ok (.tuple #[.bool true, .int .i64 7, .int .i32 92]) (w.iter lettersOf 8) := fun ty => run_next_any w lettersOf 7 ty (by decide)
      go_wp2
      go_roundw
      case rel => exact ⟨8, by omega, rfl⟩
      case measure => simp
    · have hnx : ∀ ty, (Instr.next (.pointer (some ⟨w.heap.size, 0, none⟩)) true ty).run Tryz.prog (w.iter lettersOf 8) = .ok (.tuple #[.bool false]) (w.iter lettersOf 8) := fun ty => run_next_end w lettersOf 8 ty (by decide)
      go_wp2
      refine bodyPost_ret (v := escVal (some (q, false, 1))) (by simp [escVal, results, Tryz.results9, go_sem]) rfl ⟨rfl, below_iter w _ _⟩

theorem mid_bytes (S : ByteArray) (a n k : Nat) (h : k < n) (hn : a + n ≤ S.size) : (((bytesOf S).drop a).take n).drop k = bt S (a + k : Nat) :: (((bytesOf S).drop a).take n).drop (k + 1) := by
  have hd := drop_bytes S (a + k) (by omega)
  rw [List.drop_take, List.drop_drop, hd, List.drop_take, List.drop_drop, show n - k = (n - (k + 1)) + 1 by omega, List.take_succ_cons, show a + k + 1 = a + (k + 1) by omega]
theorem mid_end (S : ByteArray) (a n : Nat) : (((bytesOf S).drop a).take n).drop n = [] := List.drop_eq_nil_of_le (by simp; omega)
theorem pow_step (b x d p : Int) (hb : 0 < b) (h : 0 ≤ x ∧ x < p) (hd : 0 ≤ d ∧ d < b) : 0 ≤ x * b + d ∧ x * b + d < p * b := by
  have h1 := Int.mul_nonneg h.1 (Int.le_of_lt hb)
  have h2 : (x + 1) * b ≤ p * b := Int.mul_le_mul_of_nonneg_right (by omega) (Int.le_of_lt hb)
  rw [Int.add_mul] at h2
  omega

def lettersL : List Int := [97, 98, 102, 110, 114, 116, 118, 92]
set_option maxRecDepth 100000 in
set_option maxHeartbeats 16000000 in
theorem esc_letter (s : ByteArray) (q : Int) (w : World) (hs : s.size ≤ 4096) (h0 : 0 < s.size) (v : Int) (hl : letter (bt s 0) = some v) :
    Calls Tryz.prog 9 #[.string s, .int .u8 q] w fun e w' => e = .returned (escVal (some (v, false, 1))) ∧ Below w.heap.size w w' := by
  have hx : ∀ h : 0 < s.size, ((s[0]'h).toNat : Int) = bt s 0 := bt_at s 0
  have q0 := eq_true (show 0 < s.size by omega)
  have h2 : ((s.size : Int) == 0) = false := by rw [beq_eq_false_iff_ne]; omega
  obtain ⟨b0, b1⟩ := bt_range s 0
  have HL := Aside0.mk hl
  clear hl
  go_enter Tryz.func9, Tryz.ntmps9
  go_wp2
  clear hs
  go_loopw [7, 8] (fun i c w' => ∃ pos : Nat, pos ≤ 8 ∧ w' = w.iter lettersOf pos ∧ Aside0 (∀ k, k < pos → bt s 0 ≠ lettersL.getD k 0)) (fun _ _ w' => 8 - w'.iterPos w.heap.size)
  case atStart => exact ⟨0, by omega, rfl, Aside0.mk (fun k h => by omega)⟩
  case round =>
    obtain ⟨pos, hpos, rfl, HN⟩ := hrel


    have hk : pos = 0 ∨ pos = 1 ∨ pos = 2 ∨ pos = 3 ∨ pos = 4 ∨ pos = 5 ∨ pos = 6 ∨ pos = 7 ∨ pos = 8 := by omega
    clear hpos
    rcases hk with rfl | rfl | rfl | rfl | rfl | rfl | rfl | rfl | rfl
    · have hnx : ∀ ty, (Instr.next (.pointer (some ⟨w.heap.size, 0, none⟩)) true ty).run Tryz.prog (w.iter lettersOf 0) = .ok (.tuple #[.bool true, .int .i64 0, .int .i32 97]) (w.iter lettersOf 1) := fun ty => run_next_any w lettersOf 0 ty (by decide)
      cases ht : (bt s 0 == 97) with
      | true =>
        have hv : v = 7 := by
          have h1 : bt s 0 = 97 := by simpa using ht
          have h3 := HL.out
          rw [h1] at h3
          exact (Option.some.inj h3).symm
        subst hv
        go_wp2
        refine bodyPost_ret (v := escVal (some (7, false, 1))) (by simp [escVal, results, Tryz.results9, go_sem]) rfl ⟨rfl, below_alloc (below_iter w _ _) _⟩
      | false =>
        have HN2 := Aside0.mk (show ∀ k, k < 1 → bt s 0 ≠ lettersL.getD k 0 from fun j hj => by
          by_cases hjk : j < 0
          · exact HN.out j hjk
          · obtain rfl : j = 0 := by omega
            intro hh
            rw [hh] at ht
            exact absurd ht (by decide))
        clear HN
        go_wp2
        go_roundw
        case rel => exact ⟨1, by omega, rfl, HN2⟩
        case measure => simp
    · have hnx : ∀ ty, (Instr.next (.pointer (some ⟨w.heap.size, 0, none⟩)) true ty).run Tryz.prog (w.iter lettersOf 1) = .ok (.tuple #[.bool true, .int .i64 1, .int .i32 98]) (w.iter lettersOf 2) := fun ty => run_next_any w lettersOf 1 ty (by decide)
      cases ht : (bt s 0 == 98) with
      | true =>
        have hv : v = 8 := by
          have h1 : bt s 0 = 98 := by simpa using ht
          have h3 := HL.out
          rw [h1] at h3
          exact (Option.some.inj h3).symm
        subst hv
        go_wp2
        refine bodyPost_ret (v := escVal (some (8, false, 1))) (by simp [escVal, results, Tryz.results9, go_sem]) rfl ⟨rfl, below_alloc (below_iter w _ _) _⟩
      | false =>
        have HN2 := Aside0.mk (show ∀ k, k < 2 → bt s 0 ≠ lettersL.getD k 0 from fun j hj => by
          by_cases hjk : j < 1
          · exact HN.out j hjk
          · obtain rfl : j = 1 := by omega
            intro hh
            rw [hh] at ht
            exact absurd ht (by decide))
        clear HN
        go_wp2
        go_roundw
        case rel => exact ⟨2, by omega, rfl, HN2⟩
        case measure => simp
    · have hnx : ∀ ty, (Instr.next (.pointer (some ⟨w.heap.size, 0, none⟩)) true ty).run Tryz.prog (w.iter lettersOf 2) = .ok (.tuple #[.bool true, .int .i64 2, .int .i32 102]) (w.iter lettersOf 3) := fun ty => run_next_any w lettersOf 2 ty (by decide)
      cases ht : (bt s 0 == 102) with
      | true =>
        have hv : v = 12 := by
          have h1 : bt s 0 = 102 := by simpa using ht
          have h3 := HL.out
          rw [h1] at h3
          exact (Option.some.inj h3).symm
        subst hv
        go_wp2
        refine bodyPost_ret (v := escVal (some (12, false, 1))) (by simp [escVal, results, Tryz.results9, go_sem]) rfl ⟨rfl, below_alloc (below_iter w _ _) _⟩
      | false =>
        have HN2 := Aside0.mk (show ∀ k, k < 3 → bt s 0 ≠ lettersL.getD k 0 from fun j hj => by
          by_cases hjk : j < 2
          · exact HN.out j hjk
          · obtain rfl : j = 2 := by omega
            intro hh
            rw [hh] at ht
            exact absurd ht (by decide))
        clear HN
        go_wp2
        go_roundw
        case rel => exact ⟨3, by omega, rfl, HN2⟩
        case measure => simp
    · have hnx : ∀ ty, (Instr.next (.pointer (some ⟨w.heap.size, 0, none⟩)) true ty).run Tryz.prog (w.iter lettersOf 3) = .ok (.tuple #[.bool true, .int .i64 3, .int .i32 110]) (w.iter lettersOf 4) := fun ty => run_next_any w lettersOf 3 ty (by decide)
      cases ht : (bt s 0 == 110) with
      | true =>
        have hv : v = 10 := by
          have h1 : bt s 0 = 110 := by simpa using ht
          have h3 := HL.out
          rw [h1] at h3
          exact (Option.some.inj h3).symm
        subst hv
        go_wp2
        refine bodyPost_ret (v := escVal (some (10, false, 1))) (by simp [escVal, results, Tryz.results9, go_sem]) rfl ⟨rfl, below_alloc (below_iter w _ _) _⟩
      | false =>
        have HN2 := Aside0.mk (show ∀ k, k < 4 → bt s 0 ≠ lettersL.getD k 0 from fun j hj => by
          by_cases hjk : j < 3
          · exact HN.out j hjk
          · obtain rfl : j = 3 := by omega
            intro hh
            rw [hh] at ht
            exact absurd ht (by decide))
        clear HN
        go_wp2
        go_roundw
        case rel => exact ⟨4, by omega, rfl, HN2⟩
        case measure => simp
    · have hnx : ∀ ty, (Instr.next (.pointer (some ⟨w.heap.size, 0, none⟩)) true ty).run Tryz.prog (w.iter lettersOf 4) = .ok (.tuple #[.bool true, .int .i64 4, .int .i32 114]) (w.iter lettersOf 5) := fun ty => run_next_any w lettersOf 4 ty (by decide)
      cases ht : (bt s 0 == 114) with
      | true =>
        have hv : v = 13 := by
          have h1 : bt s 0 = 114 := by simpa using ht
          have h3 := HL.out
          rw [h1] at h3
          exact (Option.some.inj h3).symm
        subst hv
        go_wp2
        refine bodyPost_ret (v := escVal (some (13, false, 1))) (by simp [escVal, results, Tryz.results9, go_sem]) rfl ⟨rfl, below_alloc (below_iter w _ _) _⟩
      | false =>
        have HN2 := Aside0.mk (show ∀ k, k < 5 → bt s 0 ≠ lettersL.getD k 0 from fun j hj => by
          by_cases hjk : j < 4
          · exact HN.out j hjk
          · obtain rfl : j = 4 := by omega
            intro hh
            rw [hh] at ht
            exact absurd ht (by decide))
        clear HN
        go_wp2
        go_roundw
        case rel => exact ⟨5, by omega, rfl, HN2⟩
        case measure => simp
    · have hnx : ∀ ty, (Instr.next (.pointer (some ⟨w.heap.size, 0, none⟩)) true ty).run Tryz.prog (w.iter lettersOf 5) = .ok (.tuple #[.bool true, .int .i64 5, .int .i32 116]) (w.iter lettersOf 6) := fun ty => run_next_any w lettersOf 5 ty (by decide)
      cases ht : (bt s 0 == 116) with
      | true =>
        have hv : v = 9 := by
          have h1 : bt s 0 = 116 := by simpa using ht
          have h3 := HL.out
          rw [h1] at h3
          exact (Option.some.inj h3).symm
        subst hv
        go_wp2
        refine bodyPost_ret (v := escVal (some (9, false, 1))) (by simp [escVal, results, Tryz.results9, go_sem]) rfl ⟨rfl, below_alloc (below_iter w _ _) _⟩
      | false =>
        have HN2 := Aside0.mk (show ∀ k, k < 6 → bt s 0 ≠ lettersL.getD k 0 from fun j hj => by
          by_cases hjk : j < 5
          · exact HN.out j hjk
          · obtain rfl : j = 5 := by omega
            intro hh
            rw [hh] at ht
            exact absurd ht (by decide))
        clear HN
        go_wp2
        go_roundw
        case rel => exact ⟨6, by omega, rfl, HN2⟩
        case measure => simp
    · have hnx : ∀ ty, (Instr.next (.pointer (some ⟨w.heap.size, 0, none⟩)) true ty).run Tryz.prog (w.iter lettersOf 6) = .ok (.tuple #[.bool true, .int .i64 6, .int .i32 118]) (w.iter lettersOf 7) := fun ty => run_next_any w lettersOf 6 ty (by decide)
      cases ht : (bt s 0 == 118) with
      | true =>
        have hv : v = 11 := by
          have h1 : bt s 0 = 118 := by simpa using ht
          have h3 := HL.out
          rw [h1] at h3
          exact (Option.some.inj h3).symm
        subst hv
        go_wp2
        refine bodyPost_ret (v := escVal (some (11, false, 1))) (by simp [escVal, results, Tryz.results9, go_sem]) rfl ⟨rfl, below_alloc (below_iter w _ _) _⟩
      | false =>
        have HN2 := Aside0.mk (show ∀ k, k < 7 → bt s 0 ≠ lettersL.getD k 0 from fun j hj => by
          by_cases hjk : j < 6
          · exact HN.out j hjk
          · obtain rfl : j = 6 := by omega
            intro hh
            rw [hh] at ht
            exact absurd ht (by decide))
        clear HN
        go_wp2
        go_roundw
        case rel => exact ⟨7, by omega, rfl, HN2⟩
        case measure => simp
    · have hnx : ∀ ty, (Instr.next (.pointer (some ⟨w.heap.size, 0, none⟩)) true ty).run Tryz.prog (w.iter lettersOf 7) = .ok (.tuple #[.bool true, .int .i64 7, .int .i32 92]) (w.iter lettersOf 8) := fun ty => run_next_any w lettersOf 7 ty (by decide)
      cases ht : (bt s 0 == 92) with
      | true =>
        have hv : v = 92 := by
          have h1 : bt s 0 = 92 := by simpa using ht
          have h3 := HL.out
          rw [h1] at h3
          exact (Option.some.inj h3).symm
        subst hv
        go_wp2
        refine bodyPost_ret (v := escVal (some (92, false, 1))) (by simp [escVal, results, Tryz.results9, go_sem]) rfl ⟨rfl, below_alloc (below_iter w _ _) _⟩
      | false =>
        have HN2 := Aside0.mk (show ∀ k, k < 8 → bt s 0 ≠ lettersL.getD k 0 from fun j hj => by
          by_cases hjk : j < 7
          · exact HN.out j hjk
          · obtain rfl : j = 7 := by omega
            intro hh
            rw [hh] at ht
            exact absurd ht (by decide))
        clear HN
        go_wp2
        go_roundw
        case rel => exact ⟨8, by omega, rfl, HN2⟩
        case measure => simp
    · exfalso
      have h3 := HL.out
      have hn := HN.out
      have e : letter (bt s 0) = none := by
        unfold letter
        rw [if_neg (show ¬ bt s 0 = 97 from hn 0 (by omega)), if_neg (show ¬ bt s 0 = 98 from hn 1 (by omega)), if_neg (show ¬ bt s 0 = 102 from hn 2 (by omega)), if_neg (show ¬ bt s 0 = 110 from hn 3 (by omega)), if_neg (show ¬ bt s 0 = 114 from hn 4 (by omega)), if_neg (show ¬ bt s 0 = 116 from hn 5 (by omega)), if_neg (show ¬ bt s 0 = 118 from hn 6 (by omega)), if_neg (show ¬ bt s 0 = 92 from hn 7 (by omega))]
      rw [e] at h3
      exact absurd h3 (by simp)


set_option maxRecDepth 100000 in
set_option maxHeartbeats 16000000 in
theorem esc_x_short (s : ByteArray) (q : Int) (w : World) (hs : s.size ≤ 4096) (h0 : 0 < s.size) (hq : (bt s 0 == q) = false) (hl : letter (bt s 0) = none) (hc : bt s 0 = 120) (hn : s.size < 3) :
    Calls Tryz.prog 9 #[.string s, .int .u8 q] w fun e w' => e = .returned (escVal none) ∧ Below w.heap.size w w' := by
  have hx : ∀ h : 0 < s.size, ((s[0]'h).toNat : Int) = bt s 0 := bt_at s 0
  have q0 := eq_true (show 0 < s.size by omega)
  have h2 : ((s.size : Int) == 0) = false := by rw [beq_eq_false_iff_ne]; omega
  obtain ⟨b0, b1⟩ := bt_range s 0
  rw [hc] at hx hq b0 b1
  have hn3 : (s.size : Int) < 3 := by omega
  clear hn
  clear hl
  clear hc
  go_enter Tryz.func9, Tryz.ntmps9
  go_wp2
  go_loopw [7, 8] (fun i c w' => ∃ pos : Nat, pos ≤ 8 ∧ w' = w.iter lettersOf pos) (fun _ _ w' => 8 - w'.iterPos w.heap.size)
  case atStart => exact ⟨0, by omega, rfl⟩
  case round =>
    obtain ⟨pos, hpos, rfl⟩ := hrel
    have hk : pos = 0 ∨ pos = 1 ∨ pos = 2 ∨ pos = 3 ∨ pos = 4 ∨ pos = 5 ∨ pos = 6 ∨ pos = 7 ∨ pos = 8 := by omega
    clear hpos
    rcases hk with rfl | rfl | rfl | rfl | rfl | rfl | rfl | rfl | rfl
    · have hnx : ∀ ty, (Instr.next (.pointer (some ⟨w.heap.size, 0, none⟩)) true ty).run Tryz.prog (w.iter lettersOf 0) = .ok (.tuple #[.bool true, .int .i64 0, .int .i32 97]) (w.iter lettersOf 1) := fun ty => run_next_any w lettersOf 0 ty (by decide)
      go_wp2
      go_roundw
      case rel => exact ⟨1, by omega, rfl⟩
      case measure => simp
    · have hnx : ∀ ty, (Instr.next (.pointer (some ⟨w.heap.size, 0, none⟩)) true ty).run Tryz.prog (w.iter lettersOf 1) = .ok (.tuple #[.bool true, .int .i64 1, .int .i32 98]) (w.iter lettersOf 2) := fun ty => run_next_any w lettersOf 1 ty (by decide)
      go_wp2
      go_roundw
      case rel => exact ⟨2, by omega, rfl⟩
      case measure => simp
    · have hnx : ∀ ty, (Instr.next (.pointer (some ⟨w.heap.size, 0, none⟩)) true ty).run Tryz.prog (w.iter lettersOf 2) = .ok (.tuple #[.bool true, .int .i64 2, .int .i32 102]) (w.iter lettersOf 3) := fun ty => run_next_any w lettersOf 2 ty (by decide)
      go_wp2
      go_roundw
      case rel => exact ⟨3, by omega, rfl⟩
      case measure => simp
    · have hnx : ∀ ty, (Instr.next (.pointer (some ⟨w.heap.size, 0, none⟩)) true ty).run Tryz.prog (w.iter lettersOf 3) = .ok (.tuple #[.bool true, .int .i64 3, .int .i32 110]) (w.iter lettersOf 4) := fun ty => run_next_any w lettersOf 3 ty (by decide)
      go_wp2
      go_roundw
      case rel => exact ⟨4, by omega, rfl⟩
      case measure => simp
    · have hnx : ∀ ty, (Instr.next (.pointer (some ⟨w.heap.size, 0, none⟩)) true ty).run Tryz.prog (w.iter lettersOf 4) = .ok (.tuple #[.bool true, .int .i64 4, .int .i32 114]) (w.iter lettersOf 5) := fun ty => run_next_any w lettersOf 4 ty (by decide)
      go_wp2
      go_roundw
      case rel => exact ⟨5, by omega, rfl⟩
      case measure => simp
    · have hnx : ∀ ty, (Instr.next (.pointer (some ⟨w.heap.size, 0, none⟩)) true ty).run Tryz.prog (w.iter lettersOf 5) = .ok (.tuple #[.bool true, .int .i64 5, .int .i32 116]) (w.iter lettersOf 6) := fun ty => run_next_any w lettersOf 5 ty (by decide)
      go_wp2
      go_roundw
      case rel => exact ⟨6, by omega, rfl⟩
      case measure => simp
    · have hnx : ∀ ty, (Instr.next (.pointer (some ⟨w.heap.size, 0, none⟩)) true ty).run Tryz.prog (w.iter lettersOf 6) = .ok (.tuple #[.bool true, .int .i64 6, .int .i32 118]) (w.iter lettersOf 7) := fun ty => run_next_any w lettersOf 6 ty (by decide)
      go_wp2
      go_roundw
      case rel => exact ⟨7, by omega, rfl⟩
      case measure => simp
    · have hnx : ∀ ty, (Instr.next (.pointer (some ⟨w.heap.size, 0, none⟩)) true ty).run Tryz.prog (w.iter lettersOf 7) = .ok (.tuple #[.bool true, .int .i64 7, .int .i32 92]) (w.iter lettersOf 8) := fun ty => run_next_any w lettersOf 7 ty (by decide)
      go_wp2
      go_roundw
      case rel => exact ⟨8, by omega, rfl⟩
      case measure => simp
    · have hnx : ∀ ty, (Instr.next (.pointer (some ⟨w.heap.size, 0, none⟩)) true ty).run Tryz.prog (w.iter lettersOf 8) = .ok (.tuple #[.bool false]) (w.iter lettersOf 8) := fun ty => run_next_end w lettersOf 8 ty (by decide)
      go_wp2
      refine bodyPost_ret (v := escVal none) (by simp [escVal, results, Tryz.results9, go_sem]) rfl ⟨rfl, below_iter w _ _⟩

set_option maxRecDepth 100000 in
set_option maxHeartbeats 16000000 in
theorem esc_x (s : ByteArray) (q : Int) (w : World) (hs : s.size ≤ 4096) (h0 : 0 < s.size) (hq : (bt s 0 == q) = false) (hl : letter (bt s 0) = none) (hc : bt s 0 = 120) (hn : 3 ≤ s.size) :
    Calls Tryz.prog 9 #[.string s, .int .u8 q] w fun e w' => e = .returned (escVal ((escGo 16 0 (((bytesOf s).drop 1).take 2)).bind fun v => some (v, true, 3))) ∧ Below w.heap.size w w' := by
  have hx : ∀ h : 0 < s.size, ((s[0]'h).toNat : Int) = bt s 0 := bt_at s 0
  have q0 := eq_true (show 0 < s.size by omega)
  have h2 : ((s.size : Int) == 0) = false := by rw [beq_eq_false_iff_ne]; omega
  obtain ⟨b0, b1⟩ := bt_range s 0
  rw [hc] at hx hq b0 b1
  have hn3 : 3 ≤ (s.size : Int) := by omega
  obtain ⟨R, hR⟩ : ∃ R, escGo 16 0 (((bytesOf s).drop 1).take 2) = R := ⟨_, rfl⟩
  rw [hR]
  have HR := Aside0.mk hR
  clear hR
  clear hl
  clear hc
  go_enter Tryz.func9, Tryz.ntmps9
  go_wp2
  go_loopw [7, 8] (fun i c w' => ∃ pos : Nat, pos ≤ 8 ∧ w' = w.iter lettersOf pos) (fun _ _ w' => 8 - w'.iterPos w.heap.size)
  case atStart => exact ⟨0, by omega, rfl⟩
  case round =>
    obtain ⟨pos, hpos, rfl⟩ := hrel
    have hk : pos = 0 ∨ pos = 1 ∨ pos = 2 ∨ pos = 3 ∨ pos = 4 ∨ pos = 5 ∨ pos = 6 ∨ pos = 7 ∨ pos = 8 := by omega
    clear hpos
    rcases hk with rfl | rfl | rfl | rfl | rfl | rfl | rfl | rfl | rfl
    · have hnx : ∀ ty, (Instr.next (.pointer (some ⟨w.heap.size, 0, none⟩)) true ty).run Tryz.prog (w.iter lettersOf 0) = .ok (.tuple #[.bool true, .int .i64 0, .int .i32 97]) (w.iter lettersOf 1) := fun ty => run_next_any w lettersOf 0 ty (by decide)
      go_wp2
      go_roundw
      case rel => exact ⟨1, by omega, rfl⟩
      case measure => simp
    · have hnx : ∀ ty, (Instr.next (.pointer (some ⟨w.heap.size, 0, none⟩)) true ty).run Tryz.prog (w.iter lettersOf 1) = .ok (.tuple #[.bool true, .int .i64 1, .int .i32 98]) (w.iter lettersOf 2) := fun ty => run_next_any w lettersOf 1 ty (by decide)
      go_wp2
      go_roundw
      case rel => exact ⟨2, by omega, rfl⟩
      case measure => simp
    · have hnx : ∀ ty, (Instr.next (.pointer (some ⟨w.heap.size, 0, none⟩)) true ty).run Tryz.prog (w.iter lettersOf 2) = .ok (.tuple #[.bool true, .int .i64 2, .int .i32 102]) (w.iter lettersOf 3) := fun ty => run_next_any w lettersOf 2 ty (by decide)
      go_wp2
      go_roundw
      case rel => exact ⟨3, by omega, rfl⟩
      case measure => simp
    · have hnx : ∀ ty, (Instr.next (.pointer (some ⟨w.heap.size, 0, none⟩)) true ty).run Tryz.prog (w.iter lettersOf 3) = .ok (.tuple #[.bool true, .int .i64 3, .int .i32 110]) (w.iter lettersOf 4) := fun ty => run_next_any w lettersOf 3 ty (by decide)
      go_wp2
      go_roundw
      case rel => exact ⟨4, by omega, rfl⟩
      case measure => simp
    · have hnx : ∀ ty, (Instr.next (.pointer (some ⟨w.heap.size, 0, none⟩)) true ty).run Tryz.prog (w.iter lettersOf 4) = .ok (.tuple #[.bool true, .int .i64 4, .int .i32 114]) (w.iter lettersOf 5) := fun ty => run_next_any w lettersOf 4 ty (by decide)
      go_wp2
      go_roundw
      case rel => exact ⟨5, by omega, rfl⟩
      case measure => simp
    · have hnx : ∀ ty, (Instr.next (.pointer (some ⟨w.heap.size, 0, none⟩)) true ty).run Tryz.prog (w.iter lettersOf 5) = .ok (.tuple #[.bool true, .int .i64 5, .int .i32 116]) (w.iter lettersOf 6) := fun ty => run_next_any w lettersOf 5 ty (by decide)
      go_wp2
      go_roundw
      case rel => exact ⟨6, by omega, rfl⟩
      case measure => simp
    · have hnx : ∀ ty, (Instr.next (.pointer (some ⟨w.heap.size, 0, none⟩)) true ty).run Tryz.prog (w.iter lettersOf 6) = .ok (.tuple #[.bool true, .int .i64 6, .int .i32 118]) (w.iter lettersOf 7) := fun ty => run_next_any w lettersOf 6 ty (by decide)
      go_wp2
      go_roundw
      case rel => exact ⟨7, by omega, rfl⟩
      case measure => simp
    · have hnx : ∀ ty, (Instr.next (.pointer (some ⟨w.heap.size, 0, none⟩)) true ty).run Tryz.prog (w.iter lettersOf 7) = .ok (.tuple #[.bool true, .int .i64 7, .int .i32 92]) (w.iter lettersOf 8) := fun ty => run_next_any w lettersOf 7 ty (by decide)
      go_wp2
      go_roundw
      case rel => exact ⟨8, by omega, rfl⟩
      case measure => simp
    · have hnx : ∀ ty, (Instr.next (.pointer (some ⟨w.heap.size, 0, none⟩)) true ty).run Tryz.prog (w.iter lettersOf 8) = .ok (.tuple #[.bool false]) (w.iter lettersOf 8) := fun ty => run_next_end w lettersOf 8 ty (by decide)
      go_wp2
      go_loopw [12, 54] (fun v i w' => ∃ (k : Nat) (x : Int), k ≤ 2 ∧ w' = w.iter lettersOf 8 ∧ v = .int .i64 x ∧ i = .int .i64 k ∧ Aside0 (0 ≤ x ∧ x < 16 ^ k) ∧ Aside0 (escGo 16 x ((((bytesOf s).drop 1).take 2).drop k) = R)) (fun _ i _ => 2 - (intOf i).toNat)
      case atStart => exact ⟨0, 0, by omega, rfl, rfl, rfl, Aside0.mk (by decide), HR⟩
      case round =>
        obtain ⟨k, x, hk, rfl, rfl, rfl, HX, HP⟩ := hrel
        by_cases hlt : k < 2
        · have hP := HP.out
          rw [mid_bytes s 1 2 k hlt (by omega), escGo_cons] at hP
          have hp7 : (16 : Int) ^ k ≤ 16 := by
            have : (16 : Nat) ^ k ≤ 16 ^ 1 := Nat.pow_le_pow_right (by decide) (by omega)
            have h3 : ((16 ^ k : Nat) : Int) ≤ ((16 ^ 1 : Nat) : Int) := by exact_mod_cast this
            simpa using h3
          have hx0 : 0 ≤ x := HX.out.1
          have hx1 : x ≤ 15 := by have := HX.out.2; omega
          have hb := bt_range s (1 + k : Nat)
          have hxk : ∀ h : 1 + k < s.size, ((s[1 + k]'h).toNat : Int) = bt s (1 + k : Nat) := fun h => bt_at s (1 + k : Nat) h
          have qk := eq_true (show 1 + k < s.size by omega)
          have hi1 : ((1 : Int) + (k : Int)).toNat = 1 + k := by omega
          have hi2 : (0 : Int) ≤ (1 : Int) + (k : Int) := by omega
          have hi3 : (1 : Int) + (k : Int) < (s.size : Int) := by omega
          clear HP hp7
          obtain ⟨c, hc⟩ : ∃ c, bt s (1 + k : Nat) = c := ⟨_, rfl⟩
          rw [hc] at hxk hP hb
          clear hc
          have hun := digit_any c hb.1 hb.2 (w.iter lettersOf 8)
          have hdr := dgt_range c
          obtain ⟨d, hd⟩ : ∃ d, dgt c = d := ⟨_, rfl⟩
          rw [hd] at hP hun hdr
          have hd0 := hdr.1
          have hd1 := hdr.2
          have HUN := Aside0.mk hun
          clear hun hd hdr
          by_cases hbad : 16 ≤ d
          · rw [if_pos hbad] at hP
            have HP := Aside0.mk hP
            clear hP
            go_wp2_with (go_at_call 15; (with_reducible refine HUN.out.mono ?_); rintro e w' ⟨rfl, rfl⟩)
            refine bodyPost_ret (v := escVal none) (by simp [escVal, results, Tryz.results9, go_sem]) rfl ⟨by rw [← HP.out]; rfl, below_iter w _ _⟩
          · rw [if_neg hbad] at hP
            have hbad2 : d < 16 := by omega
            have HX2 := Aside0.mk (pow_step 16 x d (16 ^ k) (by omega) HX.out ⟨hd0, hbad2⟩)
            have hs0 : 0 ≤ x * 16 := by omega
            have hs1 : x * 16 ≤ 4294967296 := by omega
            have HP := Aside0.mk hP
            clear hP hbad HX
            go_wp2_with (go_at_call 15; (with_reducible refine HUN.out.mono ?_); rintro e w' ⟨rfl, rfl⟩)
            go_roundw
            case rel => exact ⟨k + 1, x * 16 + d, by omega, trivial, rfl, by go_num, Aside0.mk (by rw [Int.pow_succ]; exact HX2.out), HP⟩
            case measure => simp [intOf]; omega
        · have hk3 : k = 2 := by omega
          subst hk3
          have hP := HP.out
          rw [mid_end s 1 2] at hP
          have hP2 : some x = R := hP
          have HP2 := Aside0.mk hP2
          have hx0 : 0 ≤ x := HX.out.1
          have hx1 : x < 256 := by have := HX.out.2; simpa using this
          clear hP hP2 HP HX hlt hk
          have hv : ¬ 255 < x := by omega
          go_wp2
          refine bodyPost_ret (v := escVal (some (x, true, 3))) (by simp [escVal, results, Tryz.results9, go_sem]) rfl ⟨by rw [← HP2.out]; rfl, below_iter w _ _⟩

set_option maxRecDepth 100000 in
set_option maxHeartbeats 16000000 in
theorem esc_u_short (s : ByteArray) (q : Int) (w : World) (hs : s.size ≤ 4096) (h0 : 0 < s.size) (hq : (bt s 0 == q) = false) (hl : letter (bt s 0) = none) (hc : bt s 0 = 117) (hn : s.size < 5) :
    Calls Tryz.prog 9 #[.string s, .int .u8 q] w fun e w' => e = .returned (escVal none) ∧ Below w.heap.size w w' := by
  have hx : ∀ h : 0 < s.size, ((s[0]'h).toNat : Int) = bt s 0 := bt_at s 0
  have q0 := eq_true (show 0 < s.size by omega)
  have h2 : ((s.size : Int) == 0) = false := by rw [beq_eq_false_iff_ne]; omega
  obtain ⟨b0, b1⟩ := bt_range s 0
  rw [hc] at hx hq b0 b1
  have hn3 : (s.size : Int) < 5 := by omega
  clear hn
  clear hl
  clear hc
  go_enter Tryz.func9, Tryz.ntmps9
  go_wp2
  go_loopw [7, 8] (fun i c w' => ∃ pos : Nat, pos ≤ 8 ∧ w' = w.iter lettersOf pos) (fun _ _ w' => 8 - w'.iterPos w.heap.size)
  case atStart => exact ⟨0, by omega, rfl⟩
  case round =>
    obtain ⟨pos, hpos, rfl⟩ := hrel
    have hk : pos = 0 ∨ pos = 1 ∨ pos = 2 ∨ pos = 3 ∨ pos = 4 ∨ pos = 5 ∨ pos = 6 ∨ pos = 7 ∨ pos = 8 := by omega
    clear hpos
    rcases hk with rfl | rfl | rfl | rfl | rfl | rfl | rfl | rfl | rfl
    · have hnx : ∀ ty, (Instr.next (.pointer (some ⟨w.heap.size, 0, none⟩)) true ty).run Tryz.prog (w.iter lettersOf 0) = .ok (.tuple #[.bool true, .int .i64 0, .int .i32 97]) (w.iter lettersOf 1) := fun ty => run_next_any w lettersOf 0 ty (by decide)
      go_wp2
      go_roundw
      case rel => exact ⟨1, by omega, rfl⟩
      case measure => simp
    · have hnx : ∀ ty, (Instr.next (.pointer (some ⟨w.heap.size, 0, none⟩)) true ty).run Tryz.prog (w.iter lettersOf 1) = .ok (.tuple #[.bool true, .int .i64 1, .int .i32 98]) (w.iter lettersOf 2) := fun ty => run_next_any w lettersOf 1 ty (by decide)
      go_wp2
      go_roundw
      case rel => exact ⟨2, by omega, rfl⟩
      case measure => simp
    · have hnx : ∀ ty, (Instr.next (.pointer (some ⟨w.heap.size, 0, none⟩)) true ty).run Tryz.prog (w.iter lettersOf 2) = .ok (.tuple #[.bool true, .int .i64 2, .int .i32 102]) (w.iter lettersOf 3) := fun ty => run_next_any w lettersOf 2 ty (by decide)
      go_wp2
      go_roundw
      case rel => exact ⟨3, by omega, rfl⟩
      case measure => simp
    · have hnx : ∀ ty, (Instr.next (.pointer (some ⟨w.heap.size, 0, none⟩)) true ty).run Tryz.prog (w.iter lettersOf 3) = .ok (.tuple #[.bool true, .int .i64 3, .int .i32 110]) (w.iter lettersOf 4) := fun ty => run_next_any w lettersOf 3 ty (by decide)
      go_wp2
      go_roundw
      case rel => exact ⟨4, by omega, rfl⟩
      case measure => simp
    · have hnx : ∀ ty, (Instr.next (.pointer (some ⟨w.heap.size, 0, none⟩)) true ty).run Tryz.prog (w.iter lettersOf 4) = .ok (.tuple #[.bool true, .int .i64 4, .int .i32 114]) (w.iter lettersOf 5) := fun ty => run_next_any w lettersOf 4 ty (by decide)
      go_wp2
      go_roundw
      case rel => exact ⟨5, by omega, rfl⟩
      case measure => simp
    · have hnx : ∀ ty, (Instr.next (.pointer (some ⟨w.heap.size, 0, none⟩)) true ty).run Tryz.prog (w.iter lettersOf 5) = .ok (.tuple #[.bool true, .int .i64 5, .int .i32 116]) (w.iter lettersOf 6) := fun ty => run_next_any w lettersOf 5 ty (by decide)
      go_wp2
      go_roundw
      case rel => exact ⟨6, by omega, rfl⟩
      case measure => simp
    · have hnx : ∀ ty, (Instr.next (.pointer (some ⟨w.heap.size, 0, none⟩)) true ty).run Tryz.prog (w.iter lettersOf 6) = .ok (.tuple #[.bool true, .int .i64 6, .int .i32 118]) (w.iter lettersOf 7) := fun ty => run_next_any w lettersOf 6 ty (by decide)
      go_wp2
      go_roundw
      case rel => exact ⟨7, by omega, rfl⟩
      case measure => simp
    · have hnx : ∀ ty, (Instr.next (.pointer (some ⟨w.heap.size, 0, none⟩)) true ty).run Tryz.prog (w.iter lettersOf 7) = .ok (.tuple #[.bool true, .int .i64 7, .int .i32 92]) (w.iter lettersOf 8) := fun ty => run_next_any w lettersOf 7 ty (by decide)
      go_wp2
      go_roundw
      case rel => exact ⟨8, by omega, rfl⟩
      case measure => simp
    · have hnx : ∀ ty, (Instr.next (.pointer (some ⟨w.heap.size, 0, none⟩)) true ty).run Tryz.prog (w.iter lettersOf 8) = .ok (.tuple #[.bool false]) (w.iter lettersOf 8) := fun ty => run_next_end w lettersOf 8 ty (by decide)
      go_wp2
      refine bodyPost_ret (v := escVal none) (by simp [escVal, results, Tryz.results9, go_sem]) rfl ⟨rfl, below_iter w _ _⟩

set_option maxRecDepth 100000 in
set_option maxHeartbeats 16000000 in
theorem esc_u (s : ByteArray) (q : Int) (w : World) (hs : s.size ≤ 4096) (h0 : 0 < s.size) (hq : (bt s 0 == q) = false) (hl : letter (bt s 0) = none) (hc : bt s 0 = 117) (hn : 5 ≤ s.size) :
    Calls Tryz.prog 9 #[.string s, .int .u8 q] w fun e w' => e = .returned (escVal ((escGo 16 0 (((bytesOf s).drop 1).take 4)).bind fun v => if badR v then none else some (v, false, 5))) ∧ Below w.heap.size w w' := by
  have hx : ∀ h : 0 < s.size, ((s[0]'h).toNat : Int) = bt s 0 := bt_at s 0
  have q0 := eq_true (show 0 < s.size by omega)
  have h2 : ((s.size : Int) == 0) = false := by rw [beq_eq_false_iff_ne]; omega
  obtain ⟨b0, b1⟩ := bt_range s 0
  rw [hc] at hx hq b0 b1
  have hn3 : 5 ≤ (s.size : Int) := by omega
  obtain ⟨R, hR⟩ : ∃ R, escGo 16 0 (((bytesOf s).drop 1).take 4) = R := ⟨_, rfl⟩
  rw [hR]
  have HR := Aside0.mk hR
  clear hR
  clear hl
  clear hc
  go_enter Tryz.func9, Tryz.ntmps9
  go_wp2
  go_loopw [7, 8] (fun i c w' => ∃ pos : Nat, pos ≤ 8 ∧ w' = w.iter lettersOf pos) (fun _ _ w' => 8 - w'.iterPos w.heap.size)
  case atStart => exact ⟨0, by omega, rfl⟩
  case round =>
    obtain ⟨pos, hpos, rfl⟩ := hrel
    have hk : pos = 0 ∨ pos = 1 ∨ pos = 2 ∨ pos = 3 ∨ pos = 4 ∨ pos = 5 ∨ pos = 6 ∨ pos = 7 ∨ pos = 8 := by omega
    clear hpos
    rcases hk with rfl | rfl | rfl | rfl | rfl | rfl | rfl | rfl | rfl
    · have hnx : ∀ ty, (Instr.next (.pointer (some ⟨w.heap.size, 0, none⟩)) true ty).run Tryz.prog (w.iter lettersOf 0) = .ok (.tuple #[.bool true, .int .i64 0, .int .i32 97]) (w.iter lettersOf 1) := fun ty => run_next_any w lettersOf 0 ty (by decide)
      go_wp2
      go_roundw
      case rel => exact ⟨1, by omega, rfl⟩
      case measure => simp
    · have hnx : ∀ ty, (Instr.next (.pointer (some ⟨w.heap.size, 0, none⟩)) true ty).run Tryz.prog (w.iter lettersOf 1) = .ok (.tuple #[.bool true, .int .i64 1, .int .i32 98]) (w.iter lettersOf 2) := fun ty => run_next_any w lettersOf 1 ty (by decide)
      go_wp2
      go_roundw
      case rel => exact ⟨2, by omega, rfl⟩
      case measure => simp
    · have hnx : ∀ ty, (Instr.next (.pointer (some ⟨w.heap.size, 0, none⟩)) true ty).run Tryz.prog (w.iter lettersOf 2) = .ok (.tuple #[.bool true, .int .i64 2, .int .i32 102]) (w.iter lettersOf 3) := fun ty => run_next_any w lettersOf 2 ty (by decide)
      go_wp2
      go_roundw
      case rel => exact ⟨3, by omega, rfl⟩
      case measure => simp
    · have hnx : ∀ ty, (Instr.next (.pointer (some ⟨w.heap.size, 0, none⟩)) true ty).run Tryz.prog (w.iter lettersOf 3) = .ok (.tuple #[.bool true, .int .i64 3, .int .i32 110]) (w.iter lettersOf 4) := fun ty => run_next_any w lettersOf 3 ty (by decide)
      go_wp2
      go_roundw
      case rel => exact ⟨4, by omega, rfl⟩
      case measure => simp
    · have hnx : ∀ ty, (Instr.next (.pointer (some ⟨w.heap.size, 0, none⟩)) true ty).run Tryz.prog (w.iter lettersOf 4) = .ok (.tuple #[.bool true, .int .i64 4, .int .i32 114]) (w.iter lettersOf 5) := fun ty => run_next_any w lettersOf 4 ty (by decide)
      go_wp2
      go_roundw
      case rel => exact ⟨5, by omega, rfl⟩
      case measure => simp
    · have hnx : ∀ ty, (Instr.next (.pointer (some ⟨w.heap.size, 0, none⟩)) true ty).run Tryz.prog (w.iter lettersOf 5) = .ok (.tuple #[.bool true, .int .i64 5, .int .i32 116]) (w.iter lettersOf 6) := fun ty => run_next_any w lettersOf 5 ty (by decide)
      go_wp2
      go_roundw
      case rel => exact ⟨6, by omega, rfl⟩
      case measure => simp
    · have hnx : ∀ ty, (Instr.next (.pointer (some ⟨w.heap.size, 0, none⟩)) true ty).run Tryz.prog (w.iter lettersOf 6) = .ok (.tuple #[.bool true, .int .i64 6, .int .i32 118]) (w.iter lettersOf 7) := fun ty => run_next_any w lettersOf 6 ty (by decide)
      go_wp2
      go_roundw
      case rel => exact ⟨7, by omega, rfl⟩
      case measure => simp
    · have hnx : ∀ ty, (Instr.next (.pointer (some ⟨w.heap.size, 0, none⟩)) true ty).run Tryz.prog (w.iter lettersOf 7) = .ok (.tuple #[.bool true, .int .i64 7, .int .i32 92]) (w.iter lettersOf 8) := fun ty => run_next_any w lettersOf 7 ty (by decide)
      go_wp2
      go_roundw
      case rel => exact ⟨8, by omega, rfl⟩
      case measure => simp
    · have hnx : ∀ ty, (Instr.next (.pointer (some ⟨w.heap.size, 0, none⟩)) true ty).run Tryz.prog (w.iter lettersOf 8) = .ok (.tuple #[.bool false]) (w.iter lettersOf 8) := fun ty => run_next_end w lettersOf 8 ty (by decide)
      go_wp2
      go_loopw [12, 54] (fun v i w' => ∃ (k : Nat) (x : Int), k ≤ 4 ∧ w' = w.iter lettersOf 8 ∧ v = .int .i64 x ∧ i = .int .i64 k ∧ Aside0 (0 ≤ x ∧ x < 16 ^ k) ∧ Aside0 (escGo 16 x ((((bytesOf s).drop 1).take 4).drop k) = R)) (fun _ i _ => 4 - (intOf i).toNat)
      case atStart => exact ⟨0, 0, by omega, rfl, rfl, rfl, Aside0.mk (by decide), HR⟩
      case round =>
        obtain ⟨k, x, hk, rfl, rfl, rfl, HX, HP⟩ := hrel
        by_cases hlt : k < 4
        · have hP := HP.out
          rw [mid_bytes s 1 4 k hlt (by omega), escGo_cons] at hP
          have hp7 : (16 : Int) ^ k ≤ 4096 := by
            have : (16 : Nat) ^ k ≤ 16 ^ 3 := Nat.pow_le_pow_right (by decide) (by omega)
            have h3 : ((16 ^ k : Nat) : Int) ≤ ((16 ^ 3 : Nat) : Int) := by exact_mod_cast this
            simpa using h3
          have hx0 : 0 ≤ x := HX.out.1
          have hx1 : x ≤ 4095 := by have := HX.out.2; omega
          have hb := bt_range s (1 + k : Nat)
          have hxk : ∀ h : 1 + k < s.size, ((s[1 + k]'h).toNat : Int) = bt s (1 + k : Nat) := fun h => bt_at s (1 + k : Nat) h
          have qk := eq_true (show 1 + k < s.size by omega)
          have hi1 : ((1 : Int) + (k : Int)).toNat = 1 + k := by omega
          have hi2 : (0 : Int) ≤ (1 : Int) + (k : Int) := by omega
          have hi3 : (1 : Int) + (k : Int) < (s.size : Int) := by omega
          clear HP hp7
          obtain ⟨c, hc⟩ : ∃ c, bt s (1 + k : Nat) = c := ⟨_, rfl⟩
          rw [hc] at hxk hP hb
          clear hc
          have hun := digit_any c hb.1 hb.2 (w.iter lettersOf 8)
          have hdr := dgt_range c
          obtain ⟨d, hd⟩ : ∃ d, dgt c = d := ⟨_, rfl⟩
          rw [hd] at hP hun hdr
          have hd0 := hdr.1
          have hd1 := hdr.2
          have HUN := Aside0.mk hun
          clear hun hd hdr
          by_cases hbad : 16 ≤ d
          · rw [if_pos hbad] at hP
            have HP := Aside0.mk hP
            clear hP
            go_wp2_with (go_at_call 15; (with_reducible refine HUN.out.mono ?_); rintro e w' ⟨rfl, rfl⟩)
            refine bodyPost_ret (v := escVal none) (by simp [escVal, results, Tryz.results9, go_sem]) rfl ⟨by rw [← HP.out]; rfl, below_iter w _ _⟩
          · rw [if_neg hbad] at hP
            have hbad2 : d < 16 := by omega
            have HX2 := Aside0.mk (pow_step 16 x d (16 ^ k) (by omega) HX.out ⟨hd0, hbad2⟩)
            have hs0 : 0 ≤ x * 16 := by omega
            have hs1 : x * 16 ≤ 4294967296 := by omega
            have HP := Aside0.mk hP
            clear hP hbad HX
            go_wp2_with (go_at_call 15; (with_reducible refine HUN.out.mono ?_); rintro e w' ⟨rfl, rfl⟩)
            go_roundw
            case rel => exact ⟨k + 1, x * 16 + d, by omega, trivial, rfl, by go_num, Aside0.mk (by rw [Int.pow_succ]; exact HX2.out), HP⟩
            case measure => simp [intOf]; omega
        · have hk3 : k = 4 := by omega
          subst hk3
          have hP := HP.out
          rw [mid_end s 1 4] at hP
          have hP2 : some x = R := hP
          have HP2 := Aside0.mk hP2
          have hx0 : 0 ≤ x := HX.out.1
          have hx1 : x < 65536 := by have := HX.out.2; simpa using this
          clear hP hP2 HP HX hlt hk
          have hc4 : 1114111 < x ∨ (x ≤ 1114111 ∧ x < 55296) ∨ (55296 ≤ x ∧ x < 57344) ∨ (57344 ≤ x ∧ x ≤ 1114111) := by omega
          rcases hc4 with v1 | ⟨v1, v2⟩ | ⟨v1, v2⟩ | ⟨v1, v2⟩
          · have hbad : badR x := by unfold badR; omega
            have HB := Aside0.mk hbad
            clear hbad
            go_wp2
            refine bodyPost_ret (v := escVal none) (by simp [escVal, results, Tryz.results9, go_sem]) rfl ⟨by rw [← HP2.out]; exact congrArg (fun o => Ending.returned (escVal o)) (if_pos HB.out).symm, below_iter w _ _⟩
          · have hbad : ¬ badR x := by unfold badR; omega
            have HB := Aside0.mk hbad
            clear hbad
            go_wp2
            refine bodyPost_ret (v := escVal (some (x, false, 5))) (by simp [escVal, results, Tryz.results9, go_sem]) rfl ⟨by rw [← HP2.out]; exact congrArg (fun o => Ending.returned (escVal o)) (if_neg HB.out).symm, below_iter w _ _⟩
          · have hbad : badR x := by unfold badR; omega
            have HB := Aside0.mk hbad
            have v3 : x ≤ 1114111 := by omega
            clear hbad
            go_wp2
            refine bodyPost_ret (v := escVal none) (by simp [escVal, results, Tryz.results9, go_sem]) rfl ⟨by rw [← HP2.out]; exact congrArg (fun o => Ending.returned (escVal o)) (if_pos HB.out).symm, below_iter w _ _⟩
          · have hbad : ¬ badR x := by unfold badR; omega
            have HB := Aside0.mk hbad
            have v3 : 55296 ≤ x := by omega
            clear hbad
            go_wp2
            refine bodyPost_ret (v := escVal (some (x, false, 5))) (by simp [escVal, results, Tryz.results9, go_sem]) rfl ⟨by rw [← HP2.out]; exact congrArg (fun o => Ending.returned (escVal o)) (if_neg HB.out).symm, below_iter w _ _⟩

set_option maxRecDepth 100000 in
set_option maxHeartbeats 16000000 in
theorem esc_U_short (s : ByteArray) (q : Int) (w : World) (hs : s.size ≤ 4096) (h0 : 0 < s.size) (hq : (bt s 0 == q) = false) (hl : letter (bt s 0) = none) (hc : bt s 0 = 85) (hn : s.size < 9) :
    Calls Tryz.prog 9 #[.string s, .int .u8 q] w fun e w' => e = .returned (escVal none) ∧ Below w.heap.size w w' := by
  have hx : ∀ h : 0 < s.size, ((s[0]'h).toNat : Int) = bt s 0 := bt_at s 0
  have q0 := eq_true (show 0 < s.size by omega)
  have h2 : ((s.size : Int) == 0) = false := by rw [beq_eq_false_iff_ne]; omega
  obtain ⟨b0, b1⟩ := bt_range s 0
  rw [hc] at hx hq b0 b1
  have hn3 : (s.size : Int) < 9 := by omega
  clear hn
  clear hl
  clear hc
  go_enter Tryz.func9, Tryz.ntmps9
  go_wp2
  go_loopw [7, 8] (fun i c w' => ∃ pos : Nat, pos ≤ 8 ∧ w' = w.iter lettersOf pos) (fun _ _ w' => 8 - w'.iterPos w.heap.size)
  case atStart => exact ⟨0, by omega, rfl⟩
  case round =>
    obtain ⟨pos, hpos, rfl⟩ := hrel
    have hk : pos = 0 ∨ pos = 1 ∨ pos = 2 ∨ pos = 3 ∨ pos = 4 ∨ pos = 5 ∨ pos = 6 ∨ pos = 7 ∨ pos = 8 := by omega
    clear hpos
    rcases hk with rfl | rfl | rfl | rfl | rfl | rfl | rfl | rfl | rfl
    · have hnx : ∀ ty, (Instr.next (.pointer (some ⟨w.heap.size, 0, none⟩)) true ty).run Tryz.prog (w.iter lettersOf 0) = .ok (.tuple #[.bool true, .int .i64 0, .int .i32 97]) (w.iter lettersOf 1) := fun ty => run_next_any w lettersOf 0 ty (by decide)
      go_wp2
      go_roundw
      case rel => exact ⟨1, by omega, rfl⟩
      case measure => simp
    · have hnx : ∀ ty, (Instr.next (.pointer (some ⟨w.heap.size, 0, none⟩)) true ty).run Tryz.prog (w.iter lettersOf 1) = .ok (.tuple #[.bool true, .int .i64 1, .int .i32 98]) (w.iter lettersOf 2) := fun ty => run_next_any w lettersOf 1 ty (by decide)
      go_wp2
      go_roundw
      case rel => exact ⟨2, by omega, rfl⟩
      case measure => simp
    · have hnx : ∀ ty, (Instr.next (.pointer (some ⟨w.heap.size, 0, none⟩)) true ty).run Tryz.prog (w.iter lettersOf 2) = .ok (.tuple #[.bool true, .int .i64 2, .int .i32 102]) (w.iter lettersOf 3) := fun ty => run_next_any w lettersOf 2 ty (by decide)
      go_wp2
      go_roundw
      case rel => exact ⟨3, by omega, rfl⟩
      case measure => simp
    · have hnx : ∀ ty, (Instr.next (.pointer (some ⟨w.heap.size, 0, none⟩)) true ty).run Tryz.prog (w.iter lettersOf 3) = .ok (.tuple #[.bool true, .int .i64 3, .int .i32 110]) (w.iter lettersOf 4) := fun ty => run_next_any w lettersOf 3 ty (by decide)
      go_wp2
      go_roundw
      case rel => exact ⟨4, by omega, rfl⟩
      case measure => simp
    · have hnx : ∀ ty, (Instr.next (.pointer (some ⟨w.heap.size, 0, none⟩)) true ty).run Tryz.prog (w.iter lettersOf 4) = .ok (.tuple #[.bool true, .int .i64 4, .int .i32 114]) (w.iter lettersOf 5) := fun ty => run_next_any w lettersOf 4 ty (by decide)
      go_wp2
      go_roundw
      case rel => exact ⟨5, by omega, rfl⟩
      case measure => simp
    · have hnx : ∀ ty, (Instr.next (.pointer (some ⟨w.heap.size, 0, none⟩)) true ty).run Tryz.prog (w.iter lettersOf 5) = .ok (.tuple #[.bool true, .int .i64 5, .int .i32 116]) (w.iter lettersOf 6) := fun ty => run_next_any w lettersOf 5 ty (by decide)
      go_wp2
      go_roundw
      case rel => exact ⟨6, by omega, rfl⟩
      case measure => simp
    · have hnx : ∀ ty, (Instr.next (.pointer (some ⟨w.heap.size, 0, none⟩)) true ty).run Tryz.prog (w.iter lettersOf 6) = .ok (.tuple #[.bool true, .int .i64 6, .int .i32 118]) (w.iter lettersOf 7) := fun ty => run_next_any w lettersOf 6 ty (by decide)
      go_wp2
      go_roundw
      case rel => exact ⟨7, by omega, rfl⟩
      case measure => simp
    · have hnx : ∀ ty, (Instr.next (.pointer (some ⟨w.heap.size, 0, none⟩)) true ty).run Tryz.prog (w.iter lettersOf 7) = .ok (.tuple #[.bool true, .int .i64 7, .int .i32 92]) (w.iter lettersOf 8) := fun ty => run_next_any w lettersOf 7 ty (by decide)
      go_wp2
      go_roundw
      case rel => exact ⟨8, by omega, rfl⟩
      case measure => simp
    · have hnx : ∀ ty, (Instr.next (.pointer (some ⟨w.heap.size, 0, none⟩)) true ty).run Tryz.prog (w.iter lettersOf 8) = .ok (.tuple #[.bool false]) (w.iter lettersOf 8) := fun ty => run_next_end w lettersOf 8 ty (by decide)
      go_wp2
      refine bodyPost_ret (v := escVal none) (by simp [escVal, results, Tryz.results9, go_sem]) rfl ⟨rfl, below_iter w _ _⟩

set_option maxRecDepth 100000 in
set_option maxHeartbeats 16000000 in
theorem esc_U (s : ByteArray) (q : Int) (w : World) (hs : s.size ≤ 4096) (h0 : 0 < s.size) (hq : (bt s 0 == q) = false) (hl : letter (bt s 0) = none) (hc : bt s 0 = 85) (hn : 9 ≤ s.size) :
    Calls Tryz.prog 9 #[.string s, .int .u8 q] w fun e w' => e = .returned (escVal ((escGo 16 0 (((bytesOf s).drop 1).take 8)).bind fun v => if badR v then none else some (v, false, 9))) ∧ Below w.heap.size w w' := by
  have hx : ∀ h : 0 < s.size, ((s[0]'h).toNat : Int) = bt s 0 := bt_at s 0
  have q0 := eq_true (show 0 < s.size by omega)
  have h2 : ((s.size : Int) == 0) = false := by rw [beq_eq_false_iff_ne]; omega
  obtain ⟨b0, b1⟩ := bt_range s 0
  rw [hc] at hx hq b0 b1
  have hn3 : 9 ≤ (s.size : Int) := by omega
  obtain ⟨R, hR⟩ : ∃ R, escGo 16 0 (((bytesOf s).drop 1).take 8) = R := ⟨_, rfl⟩
  rw [hR]
  have HR := Aside0.mk hR
  clear hR
  clear hl
  clear hc
  go_enter Tryz.func9, Tryz.ntmps9
  go_wp2
  go_loopw [7, 8] (fun i c w' => ∃ pos : Nat, pos ≤ 8 ∧ w' = w.iter lettersOf pos) (fun _ _ w' => 8 - w'.iterPos w.heap.size)
  case atStart => exact ⟨0, by omega, rfl⟩
  case round =>
    obtain ⟨pos, hpos, rfl⟩ := hrel
    have hk : pos = 0 ∨ pos = 1 ∨ pos = 2 ∨ pos = 3 ∨ pos = 4 ∨ pos = 5 ∨ pos = 6 ∨ pos = 7 ∨ pos = 8 := by omega
    clear hpos
    rcases hk with rfl | rfl | rfl | rfl | rfl | rfl | rfl | rfl | rfl
    · have hnx : ∀ ty, (Instr.next (.pointer (some ⟨w.heap.size, 0, none⟩)) true ty).run Tryz.prog (w.iter lettersOf 0) = .ok (.tuple #[.bool true, .int .i64 0, .int .i32 97]) (w.iter lettersOf 1) := fun ty => run_next_any w lettersOf 0 ty (by decide)
      go_wp2
      go_roundw
      case rel => exact ⟨1, by omega, rfl⟩
      case measure => simp
    · have hnx : ∀ ty, (Instr.next (.pointer (some ⟨w.heap.size, 0, none⟩)) true ty).run Tryz.prog (w.iter lettersOf 1) = .ok (.tuple #[.bool true, .int .i64 1, .int .i32 98]) (w.iter lettersOf 2) := fun ty => run_next_any w lettersOf 1 ty (by decide)
      go_wp2
      go_roundw
      case rel => exact ⟨2, by omega, rfl⟩
      case measure => simp
    · have hnx : ∀ ty, (Instr.next (.pointer (some ⟨w.heap.size, 0, none⟩)) true ty).run Tryz.prog (w.iter lettersOf 2) = .ok (.tuple #[.bool true, .int .i64 2, .int .i32 102]) (w.iter lettersOf 3) := fun ty => run_next_any w lettersOf 2 ty (by decide)
      go_wp2
      go_roundw
      case rel => exact ⟨3, by omega, rfl⟩
      case measure => simp
    · have hnx : ∀ ty, (Instr.next (.pointer (some ⟨w.heap.size, 0, none⟩)) true ty).run Tryz.prog (w.iter lettersOf 3) = .ok (.tuple #[.bool true, .int .i64 3, .int .i32 110]) (w.iter lettersOf 4) := fun ty => run_next_any w lettersOf 3 ty (by decide)
      go_wp2
      go_roundw
      case rel => exact ⟨4, by omega, rfl⟩
      case measure => simp
    · have hnx : ∀ ty, (Instr.next (.pointer (some ⟨w.heap.size, 0, none⟩)) true ty).run Tryz.prog (w.iter lettersOf 4) = .ok (.tuple #[.bool true, .int .i64 4, .int .i32 114]) (w.iter lettersOf 5) := fun ty => run_next_any w lettersOf 4 ty (by decide)
      go_wp2
      go_roundw
      case rel => exact ⟨5, by omega, rfl⟩
      case measure => simp
    · have hnx : ∀ ty, (Instr.next (.pointer (some ⟨w.heap.size, 0, none⟩)) true ty).run Tryz.prog (w.iter lettersOf 5) = .ok (.tuple #[.bool true, .int .i64 5, .int .i32 116]) (w.iter lettersOf 6) := fun ty => run_next_any w lettersOf 5 ty (by decide)
      go_wp2
      go_roundw
      case rel => exact ⟨6, by omega, rfl⟩
      case measure => simp
    · have hnx : ∀ ty, (Instr.next (.pointer (some ⟨w.heap.size, 0, none⟩)) true ty).run Tryz.prog (w.iter lettersOf 6) = .ok (.tuple #[.bool true, .int .i64 6, .int .i32 118]) (w.iter lettersOf 7) := fun ty => run_next_any w lettersOf 6 ty (by decide)
      go_wp2
      go_roundw
      case rel => exact ⟨7, by omega, rfl⟩
      case measure => simp
    · have hnx : ∀ ty, (Instr.next (.pointer (some ⟨w.heap.size, 0, none⟩)) true ty).run Tryz.prog (w.iter lettersOf 7) = .ok (.tuple #[.bool true, .int .i64 7, .int .i32 92]) (w.iter lettersOf 8) := fun ty => run_next_any w lettersOf 7 ty (by decide)
      go_wp2
      go_roundw
      case rel => exact ⟨8, by omega, rfl⟩
      case measure => simp
    · have hnx : ∀ ty, (Instr.next (.pointer (some ⟨w.heap.size, 0, none⟩)) true ty).run Tryz.prog (w.iter lettersOf 8) = .ok (.tuple #[.bool false]) (w.iter lettersOf 8) := fun ty => run_next_end w lettersOf 8 ty (by decide)
      go_wp2
      go_loopw [12, 54] (fun v i w' => ∃ (k : Nat) (x : Int), k ≤ 8 ∧ w' = w.iter lettersOf 8 ∧ v = .int .i64 x ∧ i = .int .i64 k ∧ Aside0 (0 ≤ x ∧ x < 16 ^ k) ∧ Aside0 (escGo 16 x ((((bytesOf s).drop 1).take 8).drop k) = R)) (fun _ i _ => 8 - (intOf i).toNat)
      case atStart => exact ⟨0, 0, by omega, rfl, rfl, rfl, Aside0.mk (by decide), HR⟩
      case round =>
        obtain ⟨k, x, hk, rfl, rfl, rfl, HX, HP⟩ := hrel
        by_cases hlt : k < 8
        · have hP := HP.out
          rw [mid_bytes s 1 8 k hlt (by omega), escGo_cons] at hP
          have hp7 : (16 : Int) ^ k ≤ 268435456 := by
            have : (16 : Nat) ^ k ≤ 16 ^ 7 := Nat.pow_le_pow_right (by decide) (by omega)
            have h3 : ((16 ^ k : Nat) : Int) ≤ ((16 ^ 7 : Nat) : Int) := by exact_mod_cast this
            simpa using h3
          have hx0 : 0 ≤ x := HX.out.1
          have hx1 : x ≤ 268435455 := by have := HX.out.2; omega
          have hb := bt_range s (1 + k : Nat)
          have hxk : ∀ h : 1 + k < s.size, ((s[1 + k]'h).toNat : Int) = bt s (1 + k : Nat) := fun h => bt_at s (1 + k : Nat) h
          have qk := eq_true (show 1 + k < s.size by omega)
          have hi1 : ((1 : Int) + (k : Int)).toNat = 1 + k := by omega
          have hi2 : (0 : Int) ≤ (1 : Int) + (k : Int) := by omega
          have hi3 : (1 : Int) + (k : Int) < (s.size : Int) := by omega
          clear HP hp7
          obtain ⟨c, hc⟩ : ∃ c, bt s (1 + k : Nat) = c := ⟨_, rfl⟩
          rw [hc] at hxk hP hb
          clear hc
          have hun := digit_any c hb.1 hb.2 (w.iter lettersOf 8)
          have hdr := dgt_range c
          obtain ⟨d, hd⟩ : ∃ d, dgt c = d := ⟨_, rfl⟩
          rw [hd] at hP hun hdr
          have hd0 := hdr.1
          have hd1 := hdr.2
          have HUN := Aside0.mk hun
          clear hun hd hdr
          by_cases hbad : 16 ≤ d
          · rw [if_pos hbad] at hP
            have HP := Aside0.mk hP
            clear hP
            go_wp2_with (go_at_call 15; (with_reducible refine HUN.out.mono ?_); rintro e w' ⟨rfl, rfl⟩)
            refine bodyPost_ret (v := escVal none) (by simp [escVal, results, Tryz.results9, go_sem]) rfl ⟨by rw [← HP.out]; rfl, below_iter w _ _⟩
          · rw [if_neg hbad] at hP
            have hbad2 : d < 16 := by omega
            have HX2 := Aside0.mk (pow_step 16 x d (16 ^ k) (by omega) HX.out ⟨hd0, hbad2⟩)
            have hs0 : 0 ≤ x * 16 := by omega
            have hs1 : x * 16 ≤ 4294967296 := by omega
            have HP := Aside0.mk hP
            clear hP hbad HX
            go_wp2_with (go_at_call 15; (with_reducible refine HUN.out.mono ?_); rintro e w' ⟨rfl, rfl⟩)
            go_roundw
            case rel => exact ⟨k + 1, x * 16 + d, by omega, trivial, rfl, by go_num, Aside0.mk (by rw [Int.pow_succ]; exact HX2.out), HP⟩
            case measure => simp [intOf]; omega
        · have hk3 : k = 8 := by omega
          subst hk3
          have hP := HP.out
          rw [mid_end s 1 8] at hP
          have hP2 : some x = R := hP
          have HP2 := Aside0.mk hP2
          have hx0 : 0 ≤ x := HX.out.1
          have hx1 : x < 4294967296 := by have := HX.out.2; simpa using this
          clear hP hP2 HP HX hlt hk
          have hc4 : 1114111 < x ∨ (x ≤ 1114111 ∧ x < 55296) ∨ (55296 ≤ x ∧ x < 57344) ∨ (57344 ≤ x ∧ x ≤ 1114111) := by omega
          rcases hc4 with v1 | ⟨v1, v2⟩ | ⟨v1, v2⟩ | ⟨v1, v2⟩
          · have hbad : badR x := by unfold badR; omega
            have HB := Aside0.mk hbad
            clear hbad
            go_wp2
            refine bodyPost_ret (v := escVal none) (by simp [escVal, results, Tryz.results9, go_sem]) rfl ⟨by rw [← HP2.out]; exact congrArg (fun o => Ending.returned (escVal o)) (if_pos HB.out).symm, below_iter w _ _⟩
          · have hbad : ¬ badR x := by unfold badR; omega
            have HB := Aside0.mk hbad
            clear hbad
            go_wp2
            refine bodyPost_ret (v := escVal (some (x, false, 9))) (by simp [escVal, results, Tryz.results9, go_sem]) rfl ⟨by rw [← HP2.out]; exact congrArg (fun o => Ending.returned (escVal o)) (if_neg HB.out).symm, below_iter w _ _⟩
          · have hbad : badR x := by unfold badR; omega
            have HB := Aside0.mk hbad
            have v3 : x ≤ 1114111 := by omega
            clear hbad
            go_wp2
            refine bodyPost_ret (v := escVal none) (by simp [escVal, results, Tryz.results9, go_sem]) rfl ⟨by rw [← HP2.out]; exact congrArg (fun o => Ending.returned (escVal o)) (if_pos HB.out).symm, below_iter w _ _⟩
          · have hbad : ¬ badR x := by unfold badR; omega
            have HB := Aside0.mk hbad
            have v3 : 55296 ≤ x := by omega
            clear hbad
            go_wp2
            refine bodyPost_ret (v := escVal (some (x, false, 9))) (by simp [escVal, results, Tryz.results9, go_sem]) rfl ⟨by rw [← HP2.out]; exact congrArg (fun o => Ending.returned (escVal o)) (if_neg HB.out).symm, below_iter w _ _⟩

set_option maxRecDepth 100000 in
set_option maxHeartbeats 16000000 in
theorem esc_o_short (s : ByteArray) (q : Int) (w : World) (hs : s.size ≤ 4096) (h0 : 0 < s.size) (hq : (bt s 0 == q) = false) (hl : letter (bt s 0) = none) (n120 : (bt s 0 == 120) = false) (n117 : (bt s 0 == 117) = false) (n85 : (bt s 0 == 85) = false) (hn : s.size < 3) :
    Calls Tryz.prog 9 #[.string s, .int .u8 q] w fun e w' => e = .returned (escVal none) ∧ Below w.heap.size w w' := by
  have hx : ∀ h : 0 < s.size, ((s[0]'h).toNat : Int) = bt s 0 := bt_at s 0
  have q0 := eq_true (show 0 < s.size by omega)
  have h2 : ((s.size : Int) == 0) = false := by rw [beq_eq_false_iff_ne]; omega
  obtain ⟨b0, b1⟩ := bt_range s 0
  have n97 : (bt s 0 == 97) = false := by rw [beq_eq_false_iff_ne]; intro k; rw [k] at hl; exact absurd hl (by decide)
  have n98 : (bt s 0 == 98) = false := by rw [beq_eq_false_iff_ne]; intro k; rw [k] at hl; exact absurd hl (by decide)
  have n102 : (bt s 0 == 102) = false := by rw [beq_eq_false_iff_ne]; intro k; rw [k] at hl; exact absurd hl (by decide)
  have n110 : (bt s 0 == 110) = false := by rw [beq_eq_false_iff_ne]; intro k; rw [k] at hl; exact absurd hl (by decide)
  have n114 : (bt s 0 == 114) = false := by rw [beq_eq_false_iff_ne]; intro k; rw [k] at hl; exact absurd hl (by decide)
  have n116 : (bt s 0 == 116) = false := by rw [beq_eq_false_iff_ne]; intro k; rw [k] at hl; exact absurd hl (by decide)
  have n118 : (bt s 0 == 118) = false := by rw [beq_eq_false_iff_ne]; intro k; rw [k] at hl; exact absurd hl (by decide)
  have n92 : (bt s 0 == 92) = false := by rw [beq_eq_false_iff_ne]; intro k; rw [k] at hl; exact absurd hl (by decide)
  have hn3 : (s.size : Int) < 3 := by omega
  clear hn
  clear hl
  go_enter Tryz.func9, Tryz.ntmps9
  go_wp2
  go_loopw [7, 8] (fun i c w' => ∃ pos : Nat, pos ≤ 8 ∧ w' = w.iter lettersOf pos) (fun _ _ w' => 8 - w'.iterPos w.heap.size)
  case atStart => exact ⟨0, by omega, rfl⟩
  case round =>
    obtain ⟨pos, hpos, rfl⟩ := hrel
    have hk : pos = 0 ∨ pos = 1 ∨ pos = 2 ∨ pos = 3 ∨ pos = 4 ∨ pos = 5 ∨ pos = 6 ∨ pos = 7 ∨ pos = 8 := by omega
    clear hpos
    rcases hk with rfl | rfl | rfl | rfl | rfl | rfl | rfl | rfl | rfl
    · have hnx : ∀ ty, (Instr.next (.pointer (some ⟨w.heap.size, 0, none⟩)) true ty).run Tryz.prog (w.iter lettersOf 0) = .ok (.tuple #[.bool true, .int .i64 0, .int .i32 97]) (w.iter lettersOf 1) := fun ty => run_next_any w lettersOf 0 ty (by decide)
      go_wp2
      go_roundw
      case rel => exact ⟨1, by omega, rfl⟩
      case measure => simp
    · have hnx : ∀ ty, (Instr.next (.pointer (some ⟨w.heap.size, 0, none⟩)) true ty).run Tryz.prog (w.iter lettersOf 1) = .ok (.tuple #[.bool true, .int .i64 1, .int .i32 98]) (w.iter lettersOf 2) := fun ty => run_next_any w lettersOf 1 ty (by decide)
      go_wp2
      go_roundw
      case rel => exact ⟨2, by omega, rfl⟩
      case measure => simp
    · have hnx : ∀ ty, (Instr.next (.pointer (some ⟨w.heap.size, 0, none⟩)) true ty).run Tryz.prog (w.iter lettersOf 2) = .ok (.tuple #[.bool true, .int .i64 2, .int .i32 102]) (w.iter lettersOf 3) := fun ty => run_next_any w lettersOf 2 ty (by decide)
      go_wp2
      go_roundw
      case rel => exact ⟨3, by omega, rfl⟩
      case measure => simp
    · have hnx : ∀ ty, (Instr.next (.pointer (some ⟨w.heap.size, 0, none⟩)) true ty).run Tryz.prog (w.iter lettersOf 3) = .ok (.tuple #[.bool true, .int .i64 3, .int .i32 110]) (w.iter lettersOf 4) := fun ty => run_next_any w lettersOf 3 ty (by decide)
      go_wp2
      go_roundw
      case rel => exact ⟨4, by omega, rfl⟩
      case measure => simp
    · have hnx : ∀ ty, (Instr.next (.pointer (some ⟨w.heap.size, 0, none⟩)) true ty).run Tryz.prog (w.iter lettersOf 4) = .ok (.tuple #[.bool true, .int .i64 4, .int .i32 114]) (w.iter lettersOf 5) := fun ty => run_next_any w lettersOf 4 ty (by decide)
      go_wp2
      go_roundw
      case rel => exact ⟨5, by omega, rfl⟩
      case measure => simp
    · have hnx : ∀ ty, (Instr.next (.pointer (some ⟨w.heap.size, 0, none⟩)) true ty).run Tryz.prog (w.iter lettersOf 5) = .ok (.tuple #[.bool true, .int .i64 5, .int .i32 116]) (w.iter lettersOf 6) := fun ty => run_next_any w lettersOf 5 ty (by decide)
      go_wp2
      go_roundw
      case rel => exact ⟨6, by omega, rfl⟩
      case measure => simp
    · have hnx : ∀ ty, (Instr.next (.pointer (some ⟨w.heap.size, 0, none⟩)) true ty).run Tryz.prog (w.iter lettersOf 6) = .ok (.tuple #[.bool true, .int .i64 6, .int .i32 118]) (w.iter lettersOf 7) := fun ty => run_next_any w lettersOf 6 ty (by decide)
      go_wp2
      go_roundw
      case rel => exact ⟨7, by omega, rfl⟩
      case measure => simp
    · have hnx : ∀ ty, (Instr.next (.pointer (some ⟨w.heap.size, 0, none⟩)) true ty).run Tryz.prog (w.iter lettersOf 7) = .ok (.tuple #[.bool true, .int .i64 7, .int .i32 92]) (w.iter lettersOf 8) := fun ty => run_next_any w lettersOf 7 ty (by decide)
      go_wp2
      go_roundw
      case rel => exact ⟨8, by omega, rfl⟩
      case measure => simp
    · have hnx : ∀ ty, (Instr.next (.pointer (some ⟨w.heap.size, 0, none⟩)) true ty).run Tryz.prog (w.iter lettersOf 8) = .ok (.tuple #[.bool false]) (w.iter lettersOf 8) := fun ty => run_next_end w lettersOf 8 ty (by decide)
      go_wp2
      refine bodyPost_ret (v := escVal none) (by simp [escVal, results, Tryz.results9, go_sem]) rfl ⟨rfl, below_iter w _ _⟩

set_option maxRecDepth 100000 in
set_option maxHeartbeats 16000000 in
theorem esc_o (s : ByteArray) (q : Int) (w : World) (hs : s.size ≤ 4096) (h0 : 0 < s.size) (hq : (bt s 0 == q) = false) (hl : letter (bt s 0) = none) (n120 : (bt s 0 == 120) = false) (n117 : (bt s 0 == 117) = false) (n85 : (bt s 0 == 85) = false) (hn : 3 ≤ s.size) :
    Calls Tryz.prog 9 #[.string s, .int .u8 q] w fun e w' => e = .returned (escVal ((escGo 8 0 (((bytesOf s).drop 0).take 3)).bind fun v => if 255 < v then none else some (v, true, 3))) ∧ Below w.heap.size w w' := by
  have hx : ∀ h : 0 < s.size, ((s[0]'h).toNat : Int) = bt s 0 := bt_at s 0
  have q0 := eq_true (show 0 < s.size by omega)
  have h2 : ((s.size : Int) == 0) = false := by rw [beq_eq_false_iff_ne]; omega
  obtain ⟨b0, b1⟩ := bt_range s 0
  have n97 : (bt s 0 == 97) = false := by rw [beq_eq_false_iff_ne]; intro k; rw [k] at hl; exact absurd hl (by decide)
  have n98 : (bt s 0 == 98) = false := by rw [beq_eq_false_iff_ne]; intro k; rw [k] at hl; exact absurd hl (by decide)
  have n102 : (bt s 0 == 102) = false := by rw [beq_eq_false_iff_ne]; intro k; rw [k] at hl; exact absurd hl (by decide)
  have n110 : (bt s 0 == 110) = false := by rw [beq_eq_false_iff_ne]; intro k; rw [k] at hl; exact absurd hl (by decide)
  have n114 : (bt s 0 == 114) = false := by rw [beq_eq_false_iff_ne]; intro k; rw [k] at hl; exact absurd hl (by decide)
  have n116 : (bt s 0 == 116) = false := by rw [beq_eq_false_iff_ne]; intro k; rw [k] at hl; exact absurd hl (by decide)
  have n118 : (bt s 0 == 118) = false := by rw [beq_eq_false_iff_ne]; intro k; rw [k] at hl; exact absurd hl (by decide)
  have n92 : (bt s 0 == 92) = false := by rw [beq_eq_false_iff_ne]; intro k; rw [k] at hl; exact absurd hl (by decide)
  have hn3 : 3 ≤ (s.size : Int) := by omega
  obtain ⟨R, hR⟩ : ∃ R, escGo 8 0 (((bytesOf s).drop 0).take 3) = R := ⟨_, rfl⟩
  rw [hR]
  have HR := Aside0.mk hR
  clear hR
  clear hl
  go_enter Tryz.func9, Tryz.ntmps9
  go_wp2
  go_loopw [7, 8] (fun i c w' => ∃ pos : Nat, pos ≤ 8 ∧ w' = w.iter lettersOf pos) (fun _ _ w' => 8 - w'.iterPos w.heap.size)
  case atStart => exact ⟨0, by omega, rfl⟩
  case round =>
    obtain ⟨pos, hpos, rfl⟩ := hrel
    have hk : pos = 0 ∨ pos = 1 ∨ pos = 2 ∨ pos = 3 ∨ pos = 4 ∨ pos = 5 ∨ pos = 6 ∨ pos = 7 ∨ pos = 8 := by omega
    clear hpos
    rcases hk with rfl | rfl | rfl | rfl | rfl | rfl | rfl | rfl | rfl
    · have hnx : ∀ ty, (Instr.next (.pointer (some ⟨w.heap.size, 0, none⟩)) true ty).run Tryz.prog (w.iter lettersOf 0) = .ok (.tuple #[.bool true, .int .i64 0, .int .i32 97]) (w.iter lettersOf 1) := fun ty => run_next_any w lettersOf 0 ty (by decide)
      go_wp2
      go_roundw
      case rel => exact ⟨1, by omega, rfl⟩
      case measure => simp
    · have hnx : ∀ ty, (Instr.next (.pointer (some ⟨w.heap.size, 0, none⟩)) true ty).run Tryz.prog (w.iter lettersOf 1) = .ok (.tuple #[.bool true, .int .i64 1, .int .i32 98]) (w.iter lettersOf 2) := fun ty => run_next_any w lettersOf 1 ty (by decide)
      go_wp2
      go_roundw
      case rel => exact ⟨2, by omega, rfl⟩
      case measure => simp
    · have hnx : ∀ ty, (Instr.next (.pointer (some ⟨w.heap.size, 0, none⟩)) true ty).run Tryz.prog (w.iter lettersOf 2) = .ok (.tuple #[.bool true, .int .i64 2, .int .i32 102]) (w.iter lettersOf 3) := fun ty => run_next_any w lettersOf 2 ty (by decide)
      go_wp2
      go_roundw
      case rel => exact ⟨3, by omega, rfl⟩
      case measure => simp
    · have hnx : ∀ ty, (Instr.next (.pointer (some ⟨w.heap.size, 0, none⟩)) true ty).run Tryz.prog (w.iter lettersOf 3) = .ok (.tuple #[.bool true, .int .i64 3, .int .i32 110]) (w.iter lettersOf 4) := fun ty => run_next_any w lettersOf 3 ty (by decide)
      go_wp2
      go_roundw
      case rel => exact ⟨4, by omega, rfl⟩
      case measure => simp
    · have hnx : ∀ ty, (Instr.next (.pointer (some ⟨w.heap.size, 0, none⟩)) true ty).run Tryz.prog (w.iter lettersOf 4) = .ok (.tuple #[.bool true, .int .i64 4, .int .i32 114]) (w.iter lettersOf 5) := fun ty => run_next_any w lettersOf 4 ty (by decide)
      go_wp2
      go_roundw
      case rel => exact ⟨5, by omega, rfl⟩
      case measure => simp
    · have hnx : ∀ ty, (Instr.next (.pointer (some ⟨w.heap.size, 0, none⟩)) true ty).run Tryz.prog (w.iter lettersOf 5) = .ok (.tuple #[.bool true, .int .i64 5, .int .i32 116]) (w.iter lettersOf 6) := fun ty => run_next_any w lettersOf 5 ty (by decide)
      go_wp2
      go_roundw
      case rel => exact ⟨6, by omega, rfl⟩
      case measure => simp
    · have hnx : ∀ ty, (Instr.next (.pointer (some ⟨w.heap.size, 0, none⟩)) true ty).run Tryz.prog (w.iter lettersOf 6) = .ok (.tuple #[.bool true, .int .i64 6, .int .i32 118]) (w.iter lettersOf 7) := fun ty => run_next_any w lettersOf 6 ty (by decide)
      go_wp2
      go_roundw
      case rel => exact ⟨7, by omega, rfl⟩
      case measure => simp
    · have hnx : ∀ ty, (Instr.next (.pointer (some ⟨w.heap.size, 0, none⟩)) true ty).run Tryz.prog (w.iter lettersOf 7) = .ok (.tuple #[.bool true, .int .i64 7, .int .i32 92]) (w.iter lettersOf 8) := fun ty => run_next_any w lettersOf 7 ty (by decide)
      go_wp2
      go_roundw
      case rel => exact ⟨8, by omega, rfl⟩
      case measure => simp
    · have hnx : ∀ ty, (Instr.next (.pointer (some ⟨w.heap.size, 0, none⟩)) true ty).run Tryz.prog (w.iter lettersOf 8) = .ok (.tuple #[.bool false]) (w.iter lettersOf 8) := fun ty => run_next_end w lettersOf 8 ty (by decide)
      go_wp2
      go_loopw [12, 54] (fun v i w' => ∃ (k : Nat) (x : Int), k ≤ 3 ∧ w' = w.iter lettersOf 8 ∧ v = .int .i64 x ∧ i = .int .i64 k ∧ Aside0 (0 ≤ x ∧ x < 8 ^ k) ∧ Aside0 (escGo 8 x ((((bytesOf s).drop 0).take 3).drop k) = R)) (fun _ i _ => 3 - (intOf i).toNat)
      case atStart => exact ⟨0, 0, by omega, rfl, rfl, rfl, Aside0.mk (by decide), HR⟩
      case round =>
        obtain ⟨k, x, hk, rfl, rfl, rfl, HX, HP⟩ := hrel
        by_cases hlt : k < 3
        · have hP := HP.out
          rw [mid_bytes s 0 3 k hlt (by omega), Nat.zero_add, escGo_cons] at hP
          have hp7 : (8 : Int) ^ k ≤ 64 := by
            have : (8 : Nat) ^ k ≤ 8 ^ 2 := Nat.pow_le_pow_right (by decide) (by omega)
            have h3 : ((8 ^ k : Nat) : Int) ≤ ((8 ^ 2 : Nat) : Int) := by exact_mod_cast this
            simpa using h3
          have hx0 : 0 ≤ x := HX.out.1
          have hx1 : x ≤ 63 := by have := HX.out.2; omega
          have hb := bt_range s k
          have hxk : ∀ h : k < s.size, ((s[k]'h).toNat : Int) = bt s k := fun h => bt_at s k h
          have qk := eq_true (show k < s.size by omega)
          clear HP hp7
          obtain ⟨c, hc⟩ : ∃ c, bt s k = c := ⟨_, rfl⟩
          rw [hc] at hxk hP hb
          clear hc
          have hun := digit_any c hb.1 hb.2 (w.iter lettersOf 8)
          have hdr := dgt_range c
          obtain ⟨d, hd⟩ : ∃ d, dgt c = d := ⟨_, rfl⟩
          rw [hd] at hP hun hdr
          have hd0 := hdr.1
          have hd1 := hdr.2
          have HUN := Aside0.mk hun
          clear hun hd hdr
          by_cases hbad : 8 ≤ d
          · rw [if_pos hbad] at hP
            have HP := Aside0.mk hP
            clear hP
            go_wp2_with (go_at_call 15; (with_reducible refine HUN.out.mono ?_); rintro e w' ⟨rfl, rfl⟩)
            refine bodyPost_ret (v := escVal none) (by simp [escVal, results, Tryz.results9, go_sem]) rfl ⟨by rw [← HP.out]; rfl, below_iter w _ _⟩
          · rw [if_neg hbad] at hP
            have hbad2 : d < 8 := by omega
            have HX2 := Aside0.mk (pow_step 8 x d (8 ^ k) (by omega) HX.out ⟨hd0, hbad2⟩)
            have hs0 : 0 ≤ x * 8 := by omega
            have hs1 : x * 8 ≤ 4294967296 := by omega
            have HP := Aside0.mk hP
            clear hP hbad HX
            go_wp2_with (go_at_call 15; (with_reducible refine HUN.out.mono ?_); rintro e w' ⟨rfl, rfl⟩)
            go_roundw
            case rel => exact ⟨k + 1, x * 8 + d, by omega, trivial, rfl, by go_num, Aside0.mk (by rw [Int.pow_succ]; exact HX2.out), HP⟩
            case measure => simp [intOf]; omega
        · have hk3 : k = 3 := by omega
          subst hk3
          have hP := HP.out
          rw [mid_end s 0 3] at hP
          have hP2 : some x = R := hP
          have HP2 := Aside0.mk hP2
          have hx0 : 0 ≤ x := HX.out.1
          have hx1 : x < 512 := by have := HX.out.2; simpa using this
          clear hP hP2 HP HX hlt hk
          by_cases hv : 255 < x
          · go_wp2
            refine bodyPost_ret (v := escVal none) (by simp [escVal, results, Tryz.results9, go_sem]) rfl ⟨by rw [← HP2.out]; exact congrArg (fun o => Ending.returned (escVal o)) (if_pos hv).symm, below_iter w _ _⟩
          · have hv2 : x ≤ 255 := by omega
            go_wp2
            refine bodyPost_ret (v := escVal (some (x, true, 3))) (by simp [escVal, results, Tryz.results9, go_sem]) rfl ⟨by rw [← HP2.out]; exact congrArg (fun o => Ending.returned (escVal o)) (if_neg (Int.not_lt.2 hv2)).symm, below_iter w _ _⟩

/-- spec.escape at every text. -/
theorem esc_any (s : ByteArray) (q : Int) (hq : q = 39 ∨ q = 34) (hs : s.size ≤ 4096) (w : World) :
    Calls Tryz.prog 9 #[.string s, .int .u8 q] w fun e w' => e = .returned (escVal (escF q (bytesOf s))) ∧ Below w.heap.size w w' := by
  by_cases h0 : 0 < s.size
  · have hd : (bytesOf s).drop 0 = bt s 0 :: (bytesOf s).drop (0 + 1) := drop_bytes s 0 h0
    rw [List.drop_zero, Nat.zero_add] at hd
    have hl1 : ((bytesOf s).drop 1).length = s.size - 1 := by rw [List.length_drop, bytesOf_length]
    rw [hd]
    cases hl : letter (bt s 0) with
    | some v => rw [escF_some hl]; exact esc_letter s q w hs h0 v hl
    | none =>
      rw [escF_none hl]
      unfold escRest
      by_cases e : bt s 0 = q
      · rw [if_pos e]
        exact esc_quote s q w hs h0 (by rw [e]; exact beq_self_eq_true q) hl (by omega) (by omega)
      rw [if_neg e]
      have hqf : (bt s 0 == q) = false := by rw [beq_eq_false_iff_ne]; exact e
      by_cases c1 : bt s 0 = 120
      · rw [if_pos c1]
        by_cases hn : s.size < 3
        · rw [if_pos (by omega)]
          exact esc_x_short s q w hs h0 hqf hl c1 hn
        · rw [if_neg (by omega)]
          exact esc_x s q w hs h0 hqf hl c1 (by omega)
      rw [if_neg c1]
      by_cases c2 : bt s 0 = 117
      · rw [if_pos c2]
        by_cases hn : s.size < 5
        · rw [if_pos (by omega)]
          exact esc_u_short s q w hs h0 hqf hl c2 hn
        · rw [if_neg (by omega)]
          exact esc_u s q w hs h0 hqf hl c2 (by omega)
      rw [if_neg c2]
      by_cases c3 : bt s 0 = 85
      · rw [if_pos c3]
        by_cases hn : s.size < 9
        · rw [if_pos (by omega)]
          exact esc_U_short s q w hs h0 hqf hl c3 hn
        · rw [if_neg (by omega)]
          exact esc_U s q w hs h0 hqf hl c3 (by omega)
      rw [if_neg c3]
      have nb : ∀ k : Int, bt s 0 ≠ k → (bt s 0 == k) = false := fun k h => by rw [beq_eq_false_iff_ne]; exact h
      by_cases hn : s.size < 3
      · rw [if_pos (by omega)]
        exact esc_o_short s q w hs h0 hqf hl (nb _ c1) (nb _ c2) (nb _ c3) hn
      · rw [if_neg (by omega)]
        have hh := esc_o s q w hs h0 hqf hl (nb _ c1) (nb _ c2) (nb _ c3) (by omega)
        rw [List.drop_zero, hd, List.take_succ_cons] at hh
        exact hh
  · have hb : bytesOf s = [] := by
      have := bytesOf_length s
      exact List.eq_nil_of_length_eq_zero (by omega)
    rw [hb]
    exact esc_empty s q w (by omega)

end Go.Proofs.YtamkkdeloknjiaaGreatDoor
