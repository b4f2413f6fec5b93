/-
  zzTransaction WITH A HELD ONE, WALKED: one statement leaves its order open: its loads are taken first, whatever the order.
-/
import Derived.Test.Qxb6602815aHeld
namespace Go.Proofs.Qxb6602815a
open Go.RowKit

/-- a cell that holds no pointer is none that a pointer is stored into. -/
theorem cell_set {w : World} {a c : Addr} {v u : Value} {p : Option Addr} (h : w.cell? a = some v) (hc : w.cell? c = some (.pointer p)) (hv : ∀ q, v ≠ .pointer q) : (w.setCell c u).cell? a = some v := by
  have hne : c ≠ a := fun e => by
    subst e
    rw [h] at hc
    exact hv p (Option.some.inj hc)
  rw [World.cell?_setCell_other _ _ _ _ hne]
  exact h

theorem Prs.set {w : World} {ao : Option Addr} {len b off : Nat} {ps : List Pr} (h : Prs w ao len b off ps) {c : Addr} {p : Option Addr} (hc : w.cell? c = some (.pointer p)) (u : Value) : Prs (w.setCell c u) ao len b off ps :=
  ⟨h.size, h.addr, fun k hk => cell_set (h.name k hk) hc (fun q => by simp), fun k hk => cell_set (h.num k hk) hc (fun q => by simp)⟩

/-- the one that is held, behind the store into the holder's field. -/
theorem TxAt.set {w : World} {b b1 : Nat} {H : HV} {held : Option Addr} (h : TxAt w b H held) {p : Option Addr} (hc : w.cell? ⟨b1, 7, none⟩ = some (.pointer p)) (hne : b ≠ b1) (u : Value) : TxAt (w.setCell ⟨b1, 7, none⟩ u) b H held :=
  ⟨cell_set h.c1 hc (fun q => by simp), cell_set h.c2 hc (fun q => by simp), cell_set h.c5 hc (fun q => by simp), cell_set h.c6 hc (fun q => by simp),
    by rw [World.cell?_setCell_other _ _ _ _ (fun e => hne (congrArg Addr.block e).symm)]; exact h.c7, h.pc.set hc u, h.pu.set hc u⟩

/-- the holder itself. -/
theorem TxAt.hold {w : World} {b : Nat} {H : HV} {held : Option Addr} (h : TxAt w b H held) (p : Option Addr) : TxAt (w.setCell ⟨b, 7, none⟩ (.pointer p)) b H p :=
  ⟨cell_set h.c1 h.c7 (fun q => by simp), cell_set h.c2 h.c7 (fun q => by simp), cell_set h.c5 h.c7 (fun q => by simp), cell_set h.c6 h.c7 (fun q => by simp),
    World.cell?_setCell_same _ _ _ h.c7, h.pc.set h.c7 _, h.pu.set h.c7 _⟩

set_option maxRecDepth 100000 in
set_option maxHeartbeats 2000000 in
theorem tx_held (id post void : ByteArray) {ca ua : Option Addr} {cl cb co ul ub uo hb ho : Nat} (cc uc : Nat) {cs us : List Pr} (dl hl : Option Addr) (G : HV) (w : World) (pc : Prs w ca cl cb co cs) (pu : Prs w ua ul ub uo us) (ph : HeldAt w hb ho G)
    (hcl : cl ≤ 4194304) (hul : ul ≤ 4194304) (hgc : G.cl ≤ 4194304) (hgu : G.ul ≤ 4194304) :
    Calls Try.prog 14 #[.string id, .slice ca cl cc, .slice ua ul uc, .pointer dl, .pointer hl, .string post, .string void, .pointer (some ⟨hb, ho, none⟩)] w fun e w' =>
      ∃ b H b2 H2, e = .returned (.pointer (some ⟨b, 0, none⟩)) ∧ TxAt w' b H (some ⟨b2, 0, none⟩) ∧ TxAt w' b2 H2 none ∧ (H.cs = cs ∧ H.us = us ∧ H.cl = cl ∧ H.ul = ul ∧ H.post = post ∧ H.void = void) ∧ H2.like G ∧ Below w.heap.size w w' := by
  go_enter Try.func14, Try.ntmps14
  go_wp2_with (first
    | (go_at_call 26; refine (ledgerChecks_any cc _ pc (by omega)).mono ?_; rintro e w1 ⟨ca', cc', cb', co', rfl, pc', hb1⟩; have pu1 := pu.kept hb1; have ph1 := ph.kept hb1; clear pc)
    | (go_at_call 27; refine (ledgerUpdates_any uc _ pu1 (by omega)).mono ?_; rintro e w2 ⟨ua', uc', ub', uo', rfl, pu', hb2⟩; have pc2 := pc'.kept hb2; have hb12 := below_keep hb1 hb2; have ph2 := ph1.kept hb2; clear hb1 hb2 pc' ph1 pu1))
  obtain ⟨H1, hH1, htx⟩ : ∃ H1 : HV, (H1.cs = cs ∧ H1.us = us ∧ H1.cl = cl ∧ H1.ul = ul ∧ H1.post = post ∧ H1.void = void) ∧ TxAt (w2.alloc (.cells #[.string id, .slice ca' cl cc', .slice ua' ul uc', .pointer dl, .pointer hl, .string post, .string void, .pointer none] 46)) w2.heap.size H1 none :=
    ⟨⟨id, ca', cl, cc', cb', co', cs, ua', ul, uc', ub', uo', us, dl, hl, post, void⟩, ⟨rfl, rfl, rfl, rfl, rfl, rfl⟩, tx_made w2 ⟨id, ca', cl, cc', cb', co', cs, ua', ul, uc', ub', uo', us, dl, hl, post, void⟩ pc2 pu' _ _ _⟩
  have E1 : Hid (H1.cs = cs ∧ H1.us = us ∧ H1.cl = cl ∧ H1.ul = ul ∧ H1.post = post ∧ H1.void = void) := hH1
  clear hH1 pc2 pu'
  have fr : (w2.alloc (.cells #[.string id, .slice ca' cl cc', .slice ua' ul uc', .pointer dl, .pointer hl, .string post, .string void, .pointer none] 46)).frozen? ⟨w2.heap.size, 7, none⟩ = false := by simp
  have hB : Below w2.heap.size w2 (w2.alloc (.cells #[.string id, .slice ca' cl cc', .slice ua' ul uc', .pointer dl, .pointer hl, .string post, .string void, .pointer none] 46)) := (Below.refl _ _).alloc (Nat.le_refl _) _
  generalize w2.alloc (.cells #[.string id, .slice ca' cl cc', .slice ua' ul uc', .pointer dl, .pointer hl, .string post, .string void, .pointer none] 46) = wt at htx fr hB ⊢
  have hB0 : Below w2.heap.size w2 wt.drew := hB.drew
  have h0 := ph2.kept hB0
  have htx0 := htx.kept (Below.refl _ _).drew
  go_region_held3 (fun w' => w'.cell? ⟨hb, ho, none⟩ = some (.string G.id) ∧ w'.cell? ⟨hb, ho + 1, none⟩ = some (.slice G.ca G.cl G.cc) ∧ w'.cell? ⟨hb, ho + 2, none⟩ = some (.slice G.ua G.ul G.uc) ∧ w'.cell? ⟨hb, ho + 3, none⟩ = some (.pointer G.dl) ∧ w'.cell? ⟨hb, ho + 4, none⟩ = some (.pointer G.hl) ∧ w'.cell? ⟨hb, ho + 5, none⟩ = some (.string G.post) ∧ w'.cell? ⟨hb, ho + 6, none⟩ = some (.string G.void))
    (first | exact heldS (ph2.kept ((hB4.alloc hB4.size _).setCell (Nat.le_refl _) _)) | exact heldS (ph2.kept (hB4.alloc hB4.size _)) | exact heldS h4 | exact heldS h3 | exact heldS h0 | exact heldS (ph2.kept hB))
    (first
      | (go_at_call 26; refine (ledgerChecks_any G.cc _ h0.pc hgc).mono ?_; rintro e w3 ⟨ca3, cc3, cb3, co3, rfl, pc3, hb3⟩; have h3 := h0.kept hb3; have htx3 := htx0.kept hb3; have hB3 := below_keep hB0 hb3; have fr3 := (hb3.frozen (World.block_lt_of_cell? _ _ htx0.c7)).trans fr)
      | (go_at_call 27; refine (ledgerUpdates_any G.uc _ h3.pu hgu).mono ?_; rintro e w4 ⟨ua4, uc4, ub4, uo4, rfl, pu4, hb4⟩; have h4 := h3.kept hb4; have pc4 := pc3.kept hb4; have htx4 := htx3.kept hb4; have hB4 := below_keep hB3 hb4; have fr4 := (hb4.frozen (World.block_lt_of_cell? _ _ htx3.c7)).trans fr3; have c7a := fun o => cell_kept ((Below.refl w4.heap.size w4).alloc (Nat.le_refl _) o) htx4.c7; have f7a := fun o => (((Below.refl w4.heap.size w4).alloc (Nat.le_refl _) o).frozen (World.block_lt_of_cell? _ _ htx4.c7)).trans fr4))
  have hne : w4.heap.size ≠ w2.heap.size := fun e => by
    have hq : w2.heap.size < w4.heap.size := World.block_lt_of_cell? _ _ htx4.c7
    omega
  clear h0 h3 h4 htx htx0 htx3 hB hB0 hB3 fr fr3 fr4 f7a ph2 ph pu
  go_wp2
  go_ret
  exact ⟨w2.heap.size, H1, w4.heap.size, ⟨G.id, ca3, G.cl, cc3, cb3, co3, G.cs, ua4, G.ul, uc4, ub4, uo4, G.us, G.dl, G.hl, G.post, G.void⟩, rfl, (htx4.kept ((Below.refl _ _).alloc (Nat.le_refl _) _)).hold _,
    (tx_made w4 ⟨G.id, ca3, G.cl, cc3, cb3, co3, G.cs, ua4, G.ul, uc4, ub4, uo4, G.us, G.dl, G.hl, G.post, G.void⟩ pc4 pu4 _ _ none).set (c7a _) hne _, E1.out, ⟨rfl, rfl, rfl, rfl, rfl, rfl⟩, below_keep hb12 ((hB4.alloc hB4.size _).setCell (Nat.le_refl _) _)⟩

end Go.Proofs.Qxb6602815a
