/-
  THE WALK OF A TEST ON TOTAL LENGTH: some answer; where it is yes, no list is longer than 2^20; nothing in memory turns.
-/
import Derived.Test.Qxb6602815aFacts
namespace Go.Proofs.Qxb6602815a
open Go.RowKit

/-- some answer; yes means p; nothing has turned. -/
def YesMeans (p : Prop) (w : World) (e : Ending) (w' : World) : Prop := ∃ r : Bool, e = .returned (.bool r) ∧ (r = true → p) ∧ w' = w
theorem YesMeans.no {p : Prop} {w : World} : YesMeans p w (.returned (.bool false)) w := ⟨false, rfl, by simp, rfl⟩
theorem YesMeans.yes {p : Prop} {w : World} (h : p) : YesMeans p w (.returned (.bool true)) w := ⟨true, rfl, fun _ => h, rfl⟩

set_option maxHeartbeats 1000000 in
theorem bytes5_any (id : ByteArray) {ca ua ma : Option Addr} {cl cb co ul ub uo ml mb mo : Nat} (cc uc mc : Nat) {cs us ms : List Pr} (dl hl : Option Addr) (w : World) (pc : Prs w ca cl cb co cs) (pu : Prs w ua ul ub uo us) (pm : Prs w ma ml mb mo ms) :
    Calls Try.prog 20 #[.string id, .slice ca cl cc, .slice ua ul uc, .slice ma ml mc, .pointer dl, .pointer hl] w (YesMeans (cl ≤ 1048576 ∧ ul ≤ 1048576 ∧ ml ≤ 1048576) w) := by
  have ixc := pc.ix22 cc
  have ixu := pu.ix23 uc
  have ixm := pm.ix23 mc
  go_enter Try.func20, Try.ntmps20
  go_wp2
  all_goals first
    | (go_ret; exact YesMeans.no)
    | skip
  go_loop [13, 14] (fun n i => ∃ (k : Nat) (t : Int), k ≤ cl ∧ i = .int .i64 k ∧ n = .int .i64 t ∧ 0 ≤ t ∧ t ≤ 1048576) (fun _ i => cl - (intOf i).toNat)
  case atStart => exact ⟨0, _, Nat.zero_le _, rfl, rfl, by omega, by omega⟩
  case round =>
    obtain ⟨k, t, hk, rfl, rfl, ht0, ht1⟩ := hrel
    by_cases hlt : k < cl
    · have hc := pc.name k (by rw [pc.size]; exact hlt)
      go_wp2
      · go_ret
        exact YesMeans.no
      · go_ret
        exact YesMeans.no
      · go_round
        case rel => exact ⟨k + 1, _, by omega, by go_num, rfl, by omega, by omega⟩
        case measure => simp [intOf]; omega
    · go_wp2
      all_goals first
        | (go_ret; exact YesMeans.no)
        | skip
      go_loop [13, 15] (fun n i => ∃ (k : Nat) (t : Int), k ≤ ul ∧ i = .int .i64 k ∧ n = .int .i64 t ∧ 0 ≤ t ∧ t ≤ 1048576) (fun _ i => ul - (intOf i).toNat)
      case atStart => exact ⟨0, _, Nat.zero_le _, rfl, rfl, by omega, by omega⟩
      case round =>
        obtain ⟨k, t, hk, rfl, rfl, ht0, ht1⟩ := hrel
        by_cases hlt : k < ul
        · have hc := pu.name k (by rw [pu.size]; exact hlt)
          go_wp2
          · go_ret
            exact YesMeans.no
          · go_ret
            exact YesMeans.no
          · go_round
            case rel => exact ⟨k + 1, _, by omega, by go_num, rfl, by omega, by omega⟩
            case measure => simp [intOf]; omega
        · go_wp2
          all_goals first
            | (go_ret; exact YesMeans.no)
            | skip
          go_loop [13, 16] (fun n i => ∃ (k : Nat) (t : Int), k ≤ ml ∧ i = .int .i64 k ∧ n = .int .i64 t ∧ 0 ≤ t ∧ t ≤ 1048576) (fun _ i => ml - (intOf i).toNat)
          case atStart => exact ⟨0, _, Nat.zero_le _, rfl, rfl, by omega, by omega⟩
          case round =>
            obtain ⟨k, t, hk, rfl, rfl, ht0, ht1⟩ := hrel
            by_cases hlt : k < ml
            · have hc := pm.name k (by rw [pm.size]; exact hlt)
              go_wp2
              · go_ret
                exact YesMeans.no
              · go_ret
                exact YesMeans.no
              · go_round
                case rel => exact ⟨k + 1, _, by omega, by go_num, rfl, by omega, by omega⟩
                case measure => simp [intOf]; omega
            · go_wp2
              go_ret
              exact YesMeans.yes ⟨by omega, by omega, by omega⟩

end Go.Proofs.Qxb6602815a
