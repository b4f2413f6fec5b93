/-
  zzTransaction, WALKED: a transaction in new memory whose checks and updates read as those that were handed in.
-/
import Derived.Test.Qxb6602815aAccounts
import Derived.Test.Qxb6602815aClones
namespace Go.Proofs.Qxb6602815a
open Go.RowKit

/-- a transaction that was just laid. -/
theorem tx_made (w : World) (H : HV) (pc : Prs w H.ca H.cl H.cb H.co H.cs) (pu : Prs w H.ua H.ul H.ub H.uo H.us) (dv hv : Value) (held : Option Addr) :
    TxAt (w.alloc (.cells #[.string H.id, .slice H.ca H.cl H.cc, .slice H.ua H.ul H.uc, dv, hv, .string H.post, .string H.void, .pointer held] 46)) w.heap.size H held := by
  have hb : Below w.heap.size w (w.alloc (.cells #[.string H.id, .slice H.ca H.cl H.cc, .slice H.ua H.ul H.uc, dv, hv, .string H.post, .string H.void, .pointer held] 46)) := (Below.refl _ _).alloc (Nat.le_refl _) _
  exact ⟨by simp, by simp, by simp, by simp, by simp, pc.kept hb, pu.kept hb⟩

set_option maxRecDepth 100000 in
set_option maxHeartbeats 800000 in
theorem tx_nil (id post void : ByteArray) {ca ua : Option Addr} {cl cb co ul ub uo : Nat} (cc uc : Nat) {cs us : List Pr} (dl hl : Option Addr) (w : World) (pc : Prs w ca cl cb co cs) (pu : Prs w ua ul ub uo us) (hcl : cl ≤ 4194304) (hul : ul ≤ 4194304) :
    Calls Try.prog 14 #[.string id, .slice ca cl cc, .slice ua ul uc, .pointer dl, .pointer hl, .string post, .string void, .pointer none] w fun e w' =>
      ∃ b H, e = .returned (.pointer (some ⟨b, 0, none⟩)) ∧ TxAt w' b H none ∧ (H.cs = cs ∧ H.us = us ∧ H.cl = cl ∧ H.ul = ul ∧ H.post = post ∧ H.void = void) ∧ Below w.heap.size w w' := by
  go_enter Try.func14, Try.ntmps14
  go_wp2_with (first
    | (go_at_call 26; refine (ledgerChecks_any cc _ pc (by omega)).mono ?_; rintro e w1 ⟨ca', cc', cb', co', rfl, pc', hb1⟩; have pu1 := pu.kept hb1)
    | (go_at_call 27; refine (ledgerUpdates_any uc _ pu1 (by omega)).mono ?_; rintro e w2 ⟨ua', uc', ub', uo', rfl, pu', hb2⟩; have pc2 := pc'.kept hb2; have hb12 := below_keep hb1 hb2; clear hb1 hb2))
  go_ret
  exact ⟨w2.heap.size, ⟨id, ca', cl, cc', cb', co', cs, ua', ul, uc', ub', uo', us, dl, hl, post, void⟩, rfl, tx_made w2 ⟨id, ca', cl, cc', cb', co', cs, ua', ul, uc', ub', uo', us, dl, hl, post, void⟩ pc2 pu' _ _ _, ⟨rfl, rfl, rfl, rfl, rfl, rfl⟩, hb12.alloc hb12.size _⟩

end Go.Proofs.Qxb6602815a
