/-
  THE WALKS OF THE FUNCTIONS THAT RECKON SIZES: each gives some number between 0 and twice the cap; nothing in memory turns.
-/
import Derived.Test.Qxb6602815aFacts
namespace Go.Proofs.Qxb6602815a
open Go.RowKit

set_option maxHeartbeats 400000 in
theorem add_any (t n : Int) (w : World) (h0 : 0 ≤ t) (h1 : t ≤ 2097152) (h2 : 0 ≤ n) :
    Calls Try.prog 30 #[.int .i64 t, .int .i64 n] w fun e w' => ∃ r : Int, e = .returned (.int .i64 r) ∧ 0 ≤ r ∧ r ≤ 2097152 ∧ w' = w := by
  by_cases c1 : 1048576 < t
  · go_enter Try.func30, Try.ntmps30
    go_wp2
    go_ret
    exact ⟨_, rfl, by omega, by omega, rfl⟩
  · by_cases c2 : 1048576 < n
    · go_enter Try.func30, Try.ntmps30
      go_wp2
      go_ret
      exact ⟨_, rfl, by omega, by omega, rfl⟩
    · go_enter Try.func30, Try.ntmps30
      go_wp2
      go_ret
      exact ⟨_, rfl, by omega, by omega, rfl⟩

set_option maxHeartbeats 400000 in
theorem updatesBytes_any {ao : Option Addr} {len b off : Nat} (cap : Nat) {ps : List Pr} (t : Int) (w : World) (h : Prs w ao len b off ps) (h0 : 0 ≤ t) (h1 : t ≤ 2097152) :
    Calls Try.prog 21 #[.int .i64 t, .slice ao len cap] w fun e w' => ∃ r : Int, e = .returned (.int .i64 r) ∧ 0 ≤ r ∧ r ≤ 2097152 ∧ w' = w := by
  have hix := h.ix23 cap
  by_cases hbig : 4096 < len
  · go_enter Try.func21, Try.ntmps21
    go_wp2
    go_ret
    exact ⟨_, rfl, by omega, by omega, rfl⟩
  · go_enter Try.func21, Try.ntmps21
    go_wp2
    go_loop [0, 5] (fun t i => ∃ (k : Nat) (n : Int), k ≤ len ∧ i = .int .i64 k ∧ t = .int .i64 n ∧ 0 ≤ n ∧ n ≤ 2097152) (fun _ i => len - (intOf i).toNat)
    case atStart => exact ⟨0, t, Nat.zero_le _, rfl, rfl, h0, h1⟩
    case round =>
      obtain ⟨k, n, hk, rfl, rfl, hn0, hn1⟩ := hrel
      by_cases hlt : k < len
      · have hc := h.name k (by rw [h.size]; exact hlt)
        go_wp2_with (go_at_call 30; refine (add_any _ _ _ (by omega) (by omega) (by omega)).mono ?_; rintro e w' ⟨r, rfl, hr0, hr1, rfl⟩)
        go_round
        case rel => exact ⟨k + 1, _, by omega, by go_num, rfl, by assumption, by assumption⟩
        case measure => simp [intOf]; omega
      · go_wp2
        go_ret
        exact ⟨_, rfl, hn0, hn1, rfl⟩

set_option maxHeartbeats 400000 in
theorem checksBytes_any {ao : Option Addr} {len b off : Nat} (cap : Nat) {ps : List Pr} (t : Int) (w : World) (h : Prs w ao len b off ps) (h0 : 0 ≤ t) (h1 : t ≤ 2097152) :
    Calls Try.prog 31 #[.int .i64 t, .slice ao len cap] w fun e w' => ∃ r : Int, e = .returned (.int .i64 r) ∧ 0 ≤ r ∧ r ≤ 2097152 ∧ w' = w := by
  have hix := h.ix22 cap
  by_cases hbig : 4096 < len
  · go_enter Try.func31, Try.ntmps31
    go_wp2
    go_ret
    exact ⟨_, rfl, by omega, by omega, rfl⟩
  · go_enter Try.func31, Try.ntmps31
    go_wp2
    go_loop [0, 5] (fun t i => ∃ (k : Nat) (n : Int), k ≤ len ∧ i = .int .i64 k ∧ t = .int .i64 n ∧ 0 ≤ n ∧ n ≤ 2097152) (fun _ i => len - (intOf i).toNat)
    case atStart => exact ⟨0, t, Nat.zero_le _, rfl, rfl, h0, h1⟩
    case round =>
      obtain ⟨k, n, hk, rfl, rfl, hn0, hn1⟩ := hrel
      by_cases hlt : k < len
      · have hc := h.name k (by rw [h.size]; exact hlt)
        go_wp2_with (go_at_call 30; refine (add_any _ _ _ (by omega) (by omega) (by omega)).mono ?_; rintro e w' ⟨r, rfl, hr0, hr1, rfl⟩)
        go_round
        case rel => exact ⟨k + 1, _, by omega, by go_num, rfl, by assumption, by assumption⟩
        case measure => simp [intOf]; omega
      · go_wp2
        go_ret
        exact ⟨_, rfl, hn0, hn1, rfl⟩

set_option maxHeartbeats 800000 in
theorem heldBytes_any {po : Option Addr} {H : HV} (t : Int) (w : World) (h : HeldP w po H) (h0 : 0 ≤ t) (h1 : t ≤ 2097152) :
    Calls Try.prog 32 #[.int .i64 t, .pointer po] w fun e w' => ∃ r : Int, e = .returned (.int .i64 r) ∧ 0 ≤ r ∧ r ≤ 2097152 ∧ w' = w := by
  rcases h with rfl | ⟨b, o, rfl, ⟨c0, c1, c2, _, _, c5, c6, pc, pu, _, _⟩⟩
  · go_enter Try.func32, Try.ntmps32
    go_wp2
    go_ret
    exact ⟨_, rfl, h0, h1, rfl⟩
  · go_enter Try.func32, Try.ntmps32
    go_wp2_with (first
      | (go_at_call 30; refine (add_any _ _ _ (by omega) (by omega) (by omega)).mono ?_; rintro e w' ⟨r, rfl, hr0, hr1, rfl⟩)
      | (go_at_call 31; refine (checksBytes_any _ _ _ pc (by omega) (by omega)).mono ?_; rintro e w' ⟨r, rfl, hr0, hr1, rfl⟩)
      | (go_at_call 21; refine (updatesBytes_any _ _ _ pu (by omega) (by omega)).mono ?_; rintro e w' ⟨r, rfl, hr0, hr1, rfl⟩))
    go_ret
    exact ⟨_, rfl, by assumption, by assumption, rfl⟩

set_option maxHeartbeats 800000 in
theorem size_any (id post void : ByteArray) {ca ua po : Option Addr} {cl cb co ul ub uo : Nat} (cc uc : Nat) {cs us : List Pr} {H : HV} (w : World) (pc : Prs w ca cl cb co cs) (pu : Prs w ua ul ub uo us) (ph : HeldP w po H) :
    Calls Try.prog 22 #[.string id, .slice ca cl cc, .slice ua ul uc, .string post, .string void, .pointer po] w fun e w' => ∃ r : Int, e = .returned (.int .i64 r) ∧ 0 ≤ r ∧ r ≤ 2097152 ∧ w' = w := by
  go_enter Try.func22, Try.ntmps22
  go_wp2_with (first
    | (go_at_call 30; refine (add_any _ _ _ (by omega) (by omega) (by omega)).mono ?_; rintro e w' ⟨r, rfl, hr0, hr1, rfl⟩)
    | (go_at_call 31; refine (checksBytes_any _ _ _ pc (by omega) (by omega)).mono ?_; rintro e w' ⟨r, rfl, hr0, hr1, rfl⟩)
    | (go_at_call 21; refine (updatesBytes_any _ _ _ pu (by omega) (by omega)).mono ?_; rintro e w' ⟨r, rfl, hr0, hr1, rfl⟩)
    | (go_at_call 32; refine (heldBytes_any _ _ ph (by omega) (by omega)).mono ?_; rintro e w' ⟨r, rfl, hr0, hr1, rfl⟩))
  go_ret
  exact ⟨_, rfl, by assumption, by assumption, rfl⟩

set_option maxHeartbeats 400000 in
theorem tooBig_any (id post void : ByteArray) {ca ua po : Option Addr} {cl cb co ul ub uo : Nat} (cc uc : Nat) {cs us : List Pr} {H : HV} (w : World) (pc : Prs w ca cl cb co cs) (pu : Prs w ua ul ub uo us) (ph : HeldP w po H) :
    Calls Try.prog 7 #[.string id, .slice ca cl cc, .slice ua ul uc, .string post, .string void, .pointer po] w fun e w' => ∃ r : Bool, e = .returned (.bool r) ∧ w' = w := by
  go_enter Try.func7, Try.ntmps7
  go_wp2_with (go_at_call 22; refine (size_any id post void cc uc _ pc pu ph).mono ?_; rintro e w' ⟨r, rfl, hr0, hr1, rfl⟩)
  go_ret
  exact ⟨_, rfl, rfl⟩

/-- where nothing is held, any fields will do. -/
def HV.empty : HV := ⟨⟨#[]⟩, none, 0, 0, 0, 0, [], none, 0, 0, 0, 0, [], none, none, ⟨#[]⟩, ⟨#[]⟩⟩

end Go.Proofs.Qxb6602815a
