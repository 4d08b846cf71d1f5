/-
  Contracts of the two guards 'zzBytes_..': whatever they answer, they return, and the world stands.
-/
import Derived.Test.Qxb6629100aBase
namespace Go.Proofs.Qxb6629100a
open Go.ChangeShapes Go.WideShapes Go.ChangeAt Go.RowKit

set_option maxRecDepth 100000 in
set_option maxHeartbeats 2000000 in
theorem bytes16_any (a0 a1 a2 a3 a4 : Option Addr) (n0 n1 n2 n3 n4 c0 c1 c2 c3 c4 : Nat) (f0 f1 f2 f3 : Nat → ByteArray) (A : Nat → Option Addr) (L C : Nat → Nat) (F : Nat → Nat → ByteArray) (k : ByteArray) (v : ByteArray) (w : World)
    (h0 : SV w a0 n0 f0) (h1 : SV w a1 n1 f1) (h2 : SV w a2 n2 f2) (h3 : SV w a3 n3 f3) (h4 : SSV w a4 n4 A L C F) (hk : k.size ≤ maxLen) (hv : v.size ≤ maxLen)
    (Q : Ending → World → Prop) (hQ : Hid (∀ b : Bool, Q (.returned (.bool b)) w)) :
    Calls Try.prog 16 #[.slice a0 n0 c0, .slice a1 n1 c1, .slice a2 n2 c2, .slice a3 n3 c3, .slice a4 n4 c4, .string k, .string v] w Q := by
  have H0 : Hid (SV w a0 n0 f0) := h0
  have H1 : Hid (SV w a1 n1 f1) := h1
  have H2 : Hid (SV w a2 n2 f2) := h2
  have H3 : Hid (SV w a3 n3 f3) := h3
  have H4 : Hid (SSV w a4 n4 A L C F) := h4
  have g0 := h0.2.2.2
  have g1 := h1.2.2.2
  have g2 := h2.2.2.2
  have g3 := h3.2.2.2
  have g4 := h4.2.2.2
  clear h0 h1 h2 h3 h4
  unfold maxLen at g0 g1 g2 g3 g4 hk hv
  go_enter Try.func16, Try.ntmps16
  by_cases b0 : n0 ≤ 1048576
  rotate_left
  · go_wp2_with fail; exact hQ.out _
  go_wp2_with fail
  go_loop [15, 16] (fun t i => ∃ (j : Nat) (m : Int), j ≤ n0 ∧ i = .int .i64 j ∧ t = .int .i64 m ∧ 0 ≤ m ∧ m ≤ 1048576) (fun _ i => n0 - (intOf i).toNat)
  case atStart => exact ⟨0, _, Nat.zero_le _, rfl, rfl, by omega, by omega⟩
  case round =>
    obtain ⟨j0, m0, hj0, rfl, rfl, hm0, hM0⟩ := hrel
    by_cases hlt : j0 < n0
    · have hi := idx22 c0 H0.out.1 w j0 hlt
      have hck := H0.out.2.1 j0 hlt
      have hfk := H0.out.2.2.1 j0 hlt
      unfold maxLen at hfk
      by_cases hl1 : (f0 j0).size ≤ 1048576
      · by_cases hl2 : m0 + ((f0 j0).size : Int) ≤ 1048576
        · go_wp2_with fail
          go_round
          case rel => exact ⟨j0 + 1, _, by omega, by go_num, rfl, by omega, by omega⟩
          case measure => simp [intOf]; omega
        · go_wp2_with fail; exact hQ.out _
      · go_wp2_with fail; exact hQ.out _
    by_cases b1 : n1 ≤ 1048576
    rotate_left
    · go_wp2_with fail; exact hQ.out _
    by_cases d1 : (m0 : Int) + (n1 : Int) ≤ 1048576
    rotate_left
    · go_wp2_with fail; exact hQ.out _
    go_wp2_with fail
    go_loop [15, 17] (fun t i => ∃ (j : Nat) (m : Int), j ≤ n1 ∧ i = .int .i64 j ∧ t = .int .i64 m ∧ 0 ≤ m ∧ m ≤ 1048576) (fun _ i => n1 - (intOf i).toNat)
    case atStart => exact ⟨0, _, Nat.zero_le _, rfl, rfl, by omega, by omega⟩
    case round =>
      obtain ⟨j1, m1, hj1, rfl, rfl, hm1, hM1⟩ := hrel
      by_cases hlt : j1 < n1
      · have hi := idx22 c1 H1.out.1 w j1 hlt
        have hck := H1.out.2.1 j1 hlt
        have hfk := H1.out.2.2.1 j1 hlt
        unfold maxLen at hfk
        by_cases hl1 : (f1 j1).size ≤ 1048576
        · by_cases hl2 : m1 + ((f1 j1).size : Int) ≤ 1048576
          · go_wp2_with fail
            go_round
            case rel => exact ⟨j1 + 1, _, by omega, by go_num, rfl, by omega, by omega⟩
            case measure => simp [intOf]; omega
          · go_wp2_with fail; exact hQ.out _
        · go_wp2_with fail; exact hQ.out _
      by_cases b2 : n2 ≤ 1048576
      rotate_left
      · go_wp2_with fail; exact hQ.out _
      by_cases d2 : (m1 : Int) + (n2 : Int) ≤ 1048576
      rotate_left
      · go_wp2_with fail; exact hQ.out _
      go_wp2_with fail
      go_loop [15, 18] (fun t i => ∃ (j : Nat) (m : Int), j ≤ n2 ∧ i = .int .i64 j ∧ t = .int .i64 m ∧ 0 ≤ m ∧ m ≤ 1048576) (fun _ i => n2 - (intOf i).toNat)
      case atStart => exact ⟨0, _, Nat.zero_le _, rfl, rfl, by omega, by omega⟩
      case round =>
        obtain ⟨j2, m2, hj2, rfl, rfl, hm2, hM2⟩ := hrel
        by_cases hlt : j2 < n2
        · have hi := idx22 c2 H2.out.1 w j2 hlt
          have hck := H2.out.2.1 j2 hlt
          have hfk := H2.out.2.2.1 j2 hlt
          unfold maxLen at hfk
          by_cases hl1 : (f2 j2).size ≤ 1048576
          · by_cases hl2 : m2 + ((f2 j2).size : Int) ≤ 1048576
            · go_wp2_with fail
              go_round
              case rel => exact ⟨j2 + 1, _, by omega, by go_num, rfl, by omega, by omega⟩
              case measure => simp [intOf]; omega
            · go_wp2_with fail; exact hQ.out _
          · go_wp2_with fail; exact hQ.out _
        by_cases b3 : n3 ≤ 1048576
        rotate_left
        · go_wp2_with fail; exact hQ.out _
        by_cases d3 : (m2 : Int) + (n3 : Int) ≤ 1048576
        rotate_left
        · go_wp2_with fail; exact hQ.out _
        go_wp2_with fail
        go_loop [15, 19] (fun t i => ∃ (j : Nat) (m : Int), j ≤ n3 ∧ i = .int .i64 j ∧ t = .int .i64 m ∧ 0 ≤ m ∧ m ≤ 1048576) (fun _ i => n3 - (intOf i).toNat)
        case atStart => exact ⟨0, _, Nat.zero_le _, rfl, rfl, by omega, by omega⟩
        case round =>
          obtain ⟨j3, m3, hj3, rfl, rfl, hm3, hM3⟩ := hrel
          by_cases hlt : j3 < n3
          · have hi := idx22 c3 H3.out.1 w j3 hlt
            have hck := H3.out.2.1 j3 hlt
            have hfk := H3.out.2.2.1 j3 hlt
            unfold maxLen at hfk
            by_cases hl1 : (f3 j3).size ≤ 1048576
            · by_cases hl2 : m3 + ((f3 j3).size : Int) ≤ 1048576
              · go_wp2_with fail
                go_round
                case rel => exact ⟨j3 + 1, _, by omega, by go_num, rfl, by omega, by omega⟩
                case measure => simp [intOf]; omega
              · go_wp2_with fail; exact hQ.out _
            · go_wp2_with fail; exact hQ.out _
          by_cases b4 : n4 ≤ 1048576
          rotate_left
          · go_wp2_with fail; exact hQ.out _
          by_cases d4 : (m3 : Int) + (n4 : Int) ≤ 1048576
          rotate_left
          · go_wp2_with fail; exact hQ.out _
          go_wp2_with fail
          go_loop [15, 20] (fun t i => ∃ (j : Nat) (m : Int), j ≤ n4 ∧ i = .int .i64 j ∧ t = .int .i64 m ∧ 0 ≤ m ∧ m ≤ 1048576) (fun _ i => n4 - (intOf i).toNat)
          case atStart => exact ⟨0, _, Nat.zero_le _, rfl, rfl, by omega, by omega⟩
          case round =>
            obtain ⟨j4, m4, hj4, rfl, rfl, hm4, hM4⟩ := hrel
            by_cases hlt : j4 < n4
            · have hi := idx23 c4 H4.out.1 w j4 hlt
              have hck := H4.out.2.1 j4 hlt
              have HR : Hid (SV w (A j4) (L j4) (F j4)) := H4.out.2.2.1 j4 hlt
              have gr := HR.out.2.2.2
              unfold maxLen at gr
              by_cases e1 : L j4 ≤ 1048576
              rotate_left
              · go_wp2_with fail; exact hQ.out _
              by_cases e2 : m4 + (L j4 : Int) ≤ 1048576
              rotate_left
              · go_wp2_with fail; exact hQ.out _
              go_wp2_with fail
              go_loop [15, 21] (fun t i => ∃ (j : Nat) (m : Int), j ≤ L j4 ∧ i = .int .i64 j ∧ t = .int .i64 m ∧ 0 ≤ m ∧ m ≤ 1048576) (fun _ i => L j4 - (intOf i).toNat)
              case atStart => exact ⟨0, _, Nat.zero_le _, rfl, rfl, by omega, by omega⟩
              case round =>
                obtain ⟨j5, m5, hj5, rfl, rfl, hm5, hM5⟩ := hrel
                by_cases hlt5 : j5 < L j4
                · have hi5 := idx22 (C j4) HR.out.1 w j5 hlt5
                  have hck5 := HR.out.2.1 j5 hlt5
                  have hfk5 := HR.out.2.2.1 j5 hlt5
                  unfold maxLen at hfk5
                  by_cases hl1 : (F j4 j5).size ≤ 1048576
                  · by_cases hl2 : m5 + ((F j4 j5).size : Int) ≤ 1048576
                    · go_wp2_with fail
                      go_round
                      case rel => exact ⟨j5 + 1, _, by omega, by go_num, rfl, by omega, by omega⟩
                      case measure => simp [intOf]; omega
                    · go_wp2_with fail; exact hQ.out _
                  · go_wp2_with fail; exact hQ.out _
                · go_wp2_with fail
                  go_round
                  case rel => exact ⟨j4 + 1, _, by omega, by go_num, rfl, by omega, by omega⟩
                  case measure => simp [intOf]; omega
            by_cases bk : k.size ≤ 1048576
            rotate_left
            · go_wp2_with fail; exact hQ.out _
            by_cases dk : m4 + (k.size : Int) ≤ 1048576
            rotate_left
            · go_wp2_with fail; exact hQ.out _
            by_cases bv : v.size ≤ 1048576
            rotate_left
            · go_wp2_with fail; exact hQ.out _
            by_cases dv : (m4 + (k.size : Int)) + (v.size : Int) ≤ 1048576
            rotate_left
            · go_wp2_with fail; exact hQ.out _
            go_wp2_with fail; exact hQ.out _

end Go.Proofs.Qxb6629100a
