/-
  THE WALK OF THE OTHER TEST ON TOTAL LENGTH (with a held transaction): some answer; where it is yes, no list is longer than 2^20; nothing in memory turns.
-/
import Derived.Test.Qxb6602815aBytes
namespace Go.Proofs.Qxb6602815a
open Go.RowKit

set_option maxHeartbeats 2000000 in
set_option maxRecDepth 100000 in
theorem bytes3_nil (id post void : ByteArray) {ca ua : Option Addr} {cl cb co ul ub uo : Nat} (cc uc : Nat) {cs us : List Pr} (dl hl : Option Addr) (w : World) (pc : Prs w ca cl cb co cs) (pu : Prs w ua ul ub uo us) :
    Calls Try.prog 6 #[.string id, .slice ca cl cc, .slice ua ul uc, .pointer dl, .pointer hl, .string post, .string void, .pointer none] w (YesMeans (cl ≤ 1048576 ∧ ul ≤ 1048576) w) := by
  have ixc := pc.ix22 cc
  have ixu := pu.ix23 uc
  go_enter Try.func6, Try.ntmps6
  go_wp2
  all_goals first
    | (go_ret; exact YesMeans.no)
    | skip
  go_loop [17, 18] (fun n i => ∃ (k : Nat) (t : Int), k ≤ cl ∧ i = .int .i64 k ∧ n = .int .i64 t ∧ 0 ≤ t ∧ t ≤ 1048576) (fun _ i => cl - (intOf i).toNat)
  case atStart => exact ⟨0, _, Nat.zero_le _, rfl, rfl, by omega, by omega⟩
  case round =>
    obtain ⟨k, t, hk, rfl, rfl, ht0, ht1⟩ := hrel
    by_cases hlt : k < cl
    · have hc := pc.name k (by rw [pc.size]; exact hlt)
      go_wp2
      · go_ret
        exact YesMeans.no
      · go_ret
        exact YesMeans.no
      · go_round
        case rel => exact ⟨k + 1, _, by omega, by go_num, rfl, by omega, by omega⟩
        case measure => simp [intOf]; omega
    · go_wp2
      all_goals first
        | (go_ret; exact YesMeans.no)
        | skip
      go_loop [17, 19] (fun n i => ∃ (k : Nat) (t : Int), k ≤ ul ∧ i = .int .i64 k ∧ n = .int .i64 t ∧ 0 ≤ t ∧ t ≤ 1048576) (fun _ i => ul - (intOf i).toNat)
      case atStart => exact ⟨0, _, Nat.zero_le _, rfl, rfl, by omega, by omega⟩
      case round =>
        obtain ⟨k, t, hk, rfl, rfl, ht0, ht1⟩ := hrel
        by_cases hlt : k < ul
        · have hc := pu.name k (by rw [pu.size]; exact hlt)
          go_wp2
          · go_ret
            exact YesMeans.no
          · go_ret
            exact YesMeans.no
          · go_round
            case rel => exact ⟨k + 1, _, by omega, by go_num, rfl, by omega, by omega⟩
            case measure => simp [intOf]; omega
        · go_wp2
          all_goals first
            | (go_ret; exact YesMeans.no)
            | (go_ret; exact YesMeans.yes ⟨by omega, by omega⟩)

set_option maxHeartbeats 4000000 in
set_option maxRecDepth 100000 in
theorem bytes3_held (id post void : ByteArray) {ca ua : Option Addr} {cl cb co ul ub uo hb ho : Nat} (cc uc : Nat) {cs us : List Pr} (dl hl : Option Addr) {H : HV} (w : World) (pc : Prs w ca cl cb co cs) (pu : Prs w ua ul ub uo us) (ph : HeldAt w hb ho H) :
    Calls Try.prog 6 #[.string id, .slice ca cl cc, .slice ua ul uc, .pointer dl, .pointer hl, .string post, .string void, .pointer (some ⟨hb, ho, none⟩)] w (YesMeans (cl ≤ 1048576 ∧ ul ≤ 1048576 ∧ H.cl ≤ 1048576 ∧ H.ul ≤ 1048576) w) := by
  have ixc := pc.ix22 cc
  have ixu := pu.ix23 uc
  obtain ⟨c0, c1, c2, _, _, c5, c6, qc, qu, _, _⟩ := ph
  have iyc := qc.ix22 H.cc
  have iyu := qu.ix23 H.uc
  go_enter Try.func6, Try.ntmps6
  go_wp2
  all_goals first
    | (go_ret; exact YesMeans.no)
    | skip
  go_loop [17, 18] (fun n i => ∃ (k : Nat) (t : Int), k ≤ cl ∧ i = .int .i64 k ∧ n = .int .i64 t ∧ 0 ≤ t ∧ t ≤ 1048576) (fun _ i => cl - (intOf i).toNat)
  case atStart => exact ⟨0, _, Nat.zero_le _, rfl, rfl, by omega, by omega⟩
  case round =>
    obtain ⟨k, t, hk, rfl, rfl, ht0, ht1⟩ := hrel
    by_cases hlt : k < cl
    · have hc := pc.name k (by rw [pc.size]; exact hlt)
      go_wp2
      · go_ret
        exact YesMeans.no
      · go_ret
        exact YesMeans.no
      · go_round
        case rel => exact ⟨k + 1, _, by omega, by go_num, rfl, by omega, by omega⟩
        case measure => simp [intOf]; omega
    · go_wp2
      all_goals first
        | (go_ret; exact YesMeans.no)
        | skip
      go_loop [17, 19] (fun n i => ∃ (k : Nat) (t : Int), k ≤ ul ∧ i = .int .i64 k ∧ n = .int .i64 t ∧ 0 ≤ t ∧ t ≤ 1048576) (fun _ i => ul - (intOf i).toNat)
      case atStart => exact ⟨0, _, Nat.zero_le _, rfl, rfl, by omega, by omega⟩
      case round =>
        obtain ⟨k, t, hk, rfl, rfl, ht0, ht1⟩ := hrel
        by_cases hlt : k < ul
        · have hc := pu.name k (by rw [pu.size]; exact hlt)
          go_wp2
          · go_ret
            exact YesMeans.no
          · go_ret
            exact YesMeans.no
          · go_round
            case rel => exact ⟨k + 1, _, by omega, by go_num, rfl, by omega, by omega⟩
            case measure => simp [intOf]; omega
        · go_wp2
          all_goals first
            | (go_ret; exact YesMeans.no)
            | skip
          go_loop [17, 20] (fun n i => ∃ (k : Nat) (t : Int), k ≤ H.cl ∧ i = .int .i64 k ∧ n = .int .i64 t ∧ 0 ≤ t ∧ t ≤ 1048576) (fun _ i => H.cl - (intOf i).toNat)
          case atStart => exact ⟨0, _, Nat.zero_le _, rfl, rfl, by omega, by omega⟩
          case round =>
            obtain ⟨k, t, hk, rfl, rfl, ht0, ht1⟩ := hrel
            by_cases hlt : k < H.cl
            · have hc := qc.name k (by rw [qc.size]; exact hlt)
              go_wp2
              · go_ret
                exact YesMeans.no
              · go_ret
                exact YesMeans.no
              · go_round
                case rel => exact ⟨k + 1, _, by omega, by go_num, rfl, by omega, by omega⟩
                case measure => simp [intOf]; omega
            · go_wp2
              all_goals first
                | (go_ret; exact YesMeans.no)
                | skip
              go_loop [17, 21] (fun n i => ∃ (k : Nat) (t : Int), k ≤ H.ul ∧ i = .int .i64 k ∧ n = .int .i64 t ∧ 0 ≤ t ∧ t ≤ 1048576) (fun _ i => H.ul - (intOf i).toNat)
              case atStart => exact ⟨0, _, Nat.zero_le _, rfl, rfl, by omega, by omega⟩
              case round =>
                obtain ⟨k, t, hk, rfl, rfl, ht0, ht1⟩ := hrel
                by_cases hlt : k < H.ul
                · have hc := qu.name k (by rw [qu.size]; exact hlt)
                  go_wp2
                  · go_ret
                    exact YesMeans.no
                  · go_ret
                    exact YesMeans.no
                  · go_round
                    case rel => exact ⟨k + 1, _, by omega, by go_num, rfl, by omega, by omega⟩
                    case measure => simp [intOf]; omega
                · go_wp2
                  all_goals first
                    | (go_ret; exact YesMeans.no)
                    | (go_ret; exact YesMeans.yes ⟨by omega, by omega, by omega, by omega⟩)

end Go.Proofs.Qxb6602815a
