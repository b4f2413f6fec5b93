/-
  THE WALKS OF THE FUNCTIONS THAT ONLY READ: is a name among names; is a name among the updates' names.
-/
import Derived.Test.Qxb6602815aFacts
namespace Go.Proofs.Qxb6602815a
open Go.RowKit

set_option maxHeartbeats 400000 in
theorem contains_any {ao : Option Addr} {len b off : Nat} (cap : Nat) {ss : List ByteArray} (s : ByteArray) (w : World) (h : Strs w ao len b off ss) (hl : len ≤ 4194304) :
    Calls Try.prog 24 #[.slice ao len cap, .string s] w fun e w' => e = .returned (.bool (Plain.isIn ss s)) ∧ w' = w := by
  have hix := h.ix cap
  go_enter Try.func24, Try.ntmps24
  go_wp2
  go_loop [5] (fun i => ∃ k : Nat, k ≤ len ∧ i = .int .i64 k ∧ Plain.isIn (ss.take k) s = false) (fun i => len - (intOf i).toNat)
  case atStart => exact ⟨0, Nat.zero_le _, rfl, rfl⟩
  case round =>
    obtain ⟨k, hk, rfl, hno⟩ := hrel
    have H : Hid (Plain.isIn (ss.take k) s = false) := hno
    clear hno
    by_cases hlt : k < len
    · have hlt' : k < ss.length := by rw [h.size]; exact hlt
      have hc := h.cell k hlt'
      go_wp2
      · have he : (ss[k].toList == s.toList) = true := by assumption
        go_ret
        exact ⟨ret_bool (in_take_yes ss s k hlt' he).symm, rfl⟩
      · have he : (ss[k].toList == s.toList) = false := by assumption
        go_round
        case rel => exact ⟨k + 1, by omega, by go_num, in_take_no ss s k hlt' H.out he⟩
        case measure => simp [intOf]; omega
    · go_wp2
      go_ret
      exact ⟨ret_bool (in_take_all ss s k (by rw [h.size]; omega) H.out).symm, rfl⟩

set_option maxHeartbeats 400000 in
theorem named_any {ao : Option Addr} {len b off : Nat} (cap : Nat) {ps : List Pr} (s : ByteArray) (w : World) (h : Prs w ao len b off ps) (hl : len ≤ 4194304) :
    Calls Try.prog 25 #[.slice ao len cap, .string s] w fun e w' => e = .returned (.bool (Plain.isIn (ps.map (·.1)) s)) ∧ w' = w := by
  have hix := h.ix23 cap
  generalize hss : ps.map (·.1) = ss
  have hsz : ss.length = len := by rw [← hss, List.length_map, h.size]
  have hcell : ∀ k (hk : k < ss.length), w.cell? ⟨b, off + k * 2, none⟩ = some (.string ss[k]) := fun k hk => by
    subst hss
    simpa using h.name k (by simpa using hk)
  clear hss
  go_enter Try.func25, Try.ntmps25
  go_wp2
  go_loop [5] (fun i => ∃ k : Nat, k ≤ len ∧ i = .int .i64 k ∧ Plain.isIn (ss.take k) s = false) (fun i => len - (intOf i).toNat)
  case atStart => exact ⟨0, Nat.zero_le _, rfl, rfl⟩
  case round =>
    obtain ⟨k, hk, rfl, hno⟩ := hrel
    have H : Hid (Plain.isIn (ss.take k) s = false) := hno
    have S : Hid (ss.length = len) := hsz
    clear hno
    by_cases hlt : k < len
    · have hlt' : k < ss.length := by rw [S.out]; exact hlt
      have hc := hcell k hlt'
      clear hsz
      go_wp2
      · have he : (ss[k].toList == s.toList) = true := by assumption
        go_ret
        exact ⟨ret_bool (in_take_yes ss s k hlt' he).symm, rfl⟩
      · have he : (ss[k].toList == s.toList) = false := by assumption
        go_round
        case rel => exact ⟨k + 1, by omega, by go_num, in_take_no ss s k hlt' H.out he⟩
        case measure => simp [intOf]; omega
    · clear hsz
      go_wp2
      go_ret
      exact ⟨ret_bool (in_take_all ss s k (by rw [S.out]; omega) H.out).symm, rfl⟩

theorem contains_no {ao : Option Addr} {len b off : Nat} (cap : Nat) {ss : List ByteArray} (s : ByteArray) (w : World) (h : Strs w ao len b off ss) (hl : len ≤ 4194304) (hs : s ∉ ss) :
    Calls Try.prog 24 #[.slice ao len cap, .string s] w fun e w' => e = .returned (.bool false) ∧ w = w' :=
  (contains_any cap s w h hl).mono fun e w' ⟨he, hw⟩ => ⟨by
    rw [he]
    rcases hb : Plain.isIn ss s with _ | _
    · rfl
    · exact absurd ((Plain.isIn_iff ss s).1 hb) hs, hw.symm⟩
theorem contains_yes {ao : Option Addr} {len b off : Nat} (cap : Nat) {ss : List ByteArray} (s : ByteArray) (w : World) (h : Strs w ao len b off ss) (hl : len ≤ 4194304) (hs : s ∈ ss) :
    Calls Try.prog 24 #[.slice ao len cap, .string s] w fun e w' => e = .returned (.bool true) ∧ w = w' :=
  (contains_any cap s w h hl).mono fun e w' ⟨he, hw⟩ => ⟨by rw [he, (Plain.isIn_iff ss s).2 hs], hw.symm⟩
theorem named_yes {ao : Option Addr} {len b off : Nat} (cap : Nat) {ps : List Pr} (s : ByteArray) (w : World) (h : Prs w ao len b off ps) (hl : len ≤ 4194304) (hs : s ∈ ps.map (·.1)) :
    Calls Try.prog 25 #[.slice ao len cap, .string s] w fun e w' => e = .returned (.bool true) ∧ w = w' :=
  (named_any cap s w h hl).mono fun e w' ⟨he, hw⟩ => ⟨by rw [he, (Plain.isIn_iff _ s).2 hs], hw.symm⟩

end Go.Proofs.Qxb6602815a
