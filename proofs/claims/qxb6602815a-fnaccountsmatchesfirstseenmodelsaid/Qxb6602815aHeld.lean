/-
  zzCloneHeld, WALKED: its one statement leaves its order open: the loads are taken first, whatever the order.
-/
import Derived.Test.Qxb6602815aTx
import Derived.Deep.RegionHeld3
namespace Go.Proofs.Qxb6602815a
open Go.RowKit

/-- what two held transactions have alike. -/
def HV.like (H G : HV) : Prop := H.cs = G.cs ∧ H.us = G.us ∧ H.cl = G.cl ∧ H.ul = G.ul ∧ H.post = G.post ∧ H.void = G.void

theorem HeldAt.drew {w : World} {b o : Nat} {H : HV} (h : HeldAt w b o H) : HeldAt w.drew b o H := h.kept (Below.refl _ _).drew

theorem heldS {w : World} {b o : Nat} {H : HV} (h : HeldAt w b o H) : w.cell? ⟨b, o, none⟩ = some (.string H.id) ∧ w.cell? ⟨b, o + 1, none⟩ = some (.slice H.ca H.cl H.cc) ∧ w.cell? ⟨b, o + 2, none⟩ = some (.slice H.ua H.ul H.uc) ∧
    w.cell? ⟨b, o + 3, none⟩ = some (.pointer H.dl) ∧ w.cell? ⟨b, o + 4, none⟩ = some (.pointer H.hl) ∧ w.cell? ⟨b, o + 5, none⟩ = some (.string H.post) ∧ w.cell? ⟨b, o + 6, none⟩ = some (.string H.void) := ⟨h.c0, h.c1, h.c2, h.c3, h.c4, h.c5, h.c6⟩

theorem held_made (w : World) (H : HV) (pc : Prs w H.ca H.cl H.cb H.co H.cs) (pu : Prs w H.ua H.ul H.ub H.uo H.us) (pd : PtrAt w H.dl) (ph : PtrAt w H.hl) :
    HeldAt (w.alloc (.cells #[.string H.id, .slice H.ca H.cl H.cc, .slice H.ua H.ul H.uc, .pointer H.dl, .pointer H.hl, .string H.post, .string H.void] 34)) w.heap.size 0 H := by
  have hb : Below w.heap.size w (w.alloc (.cells #[.string H.id, .slice H.ca H.cl H.cc, .slice H.ua H.ul H.uc, .pointer H.dl, .pointer H.hl, .string H.post, .string H.void] 34)) := (Below.refl _ _).alloc (Nat.le_refl _) _
  exact ⟨by simp, by simp, by simp, by simp, by simp, by simp, by simp, pc.kept hb, pu.kept hb, pd.kept hb, ph.kept hb⟩

set_option maxRecDepth 100000 in
set_option maxHeartbeats 2000000 in
theorem cloneHeld_some (b o : Nat) (H : HV) (w : World) (h : HeldAt w b o H) (hcl : H.cl ≤ 4194304) (hul : H.ul ≤ 4194304) :
    Calls Try.prog 11 #[.pointer (some ⟨b, o, none⟩)] w fun e w' => ∃ B G, e = .returned (.pointer (some ⟨B, 0, none⟩)) ∧ HeldAt w' B 0 G ∧ G.like H ∧ Below w.heap.size w w' := by
  have h0 := h.drew
  have hb0 : Below w.heap.size w w.drew := (Below.refl _ _).drew
  go_enter Try.func11, Try.ntmps11
  go_wp2
  go_region_held3 (fun w' => w'.cell? ⟨b, o, none⟩ = some (.string H.id) ∧ w'.cell? ⟨b, o + 1, none⟩ = some (.slice H.ca H.cl H.cc) ∧ w'.cell? ⟨b, o + 2, none⟩ = some (.slice H.ua H.ul H.uc) ∧ w'.cell? ⟨b, o + 3, none⟩ = some (.pointer H.dl) ∧ w'.cell? ⟨b, o + 4, none⟩ = some (.pointer H.hl) ∧ w'.cell? ⟨b, o + 5, none⟩ = some (.string H.post) ∧ w'.cell? ⟨b, o + 6, none⟩ = some (.string H.void))
    (first | exact heldS h4 | exact heldS (h4.kept ((Below.refl _ _).alloc (Nat.le_refl _) _)) | exact heldS h3 | exact heldS h2 | exact heldS h1 | exact heldS h0 | exact heldS h)
    (first
      | (go_at_call 8; refine (cloneChecks_any H.cc _ h0.pc hcl).mono ?_; rintro e w1 ⟨ca1, cc1, cb1, co1, rfl, pc1, hb1⟩; have h1 := h0.kept hb1; have hbb1 := below_keep hb0 hb1)
      | (go_at_call 9; refine (cloneUpdates_any H.uc _ h1.pu hul).mono ?_; rintro e w2 ⟨ua2, uc2, ub2, uo2, rfl, pu2, hb2⟩; have h2 := h1.kept hb2; have pc2 := pc1.kept hb2; have hbb2 := below_keep hbb1 hb2)
      | (go_at_call_of 10 (Value.pointer H.dl); refine (clonePtr_any _ h2.pd).mono ?_; rintro e w3 ⟨dl3, rfl, pd3, hb3⟩; have h3 := h2.kept hb3; have pc3 := pc2.kept hb3; have pu3 := pu2.kept hb3; have hbb3 := below_keep hbb2 hb3)
      | (go_at_call_of 10 (Value.pointer H.hl); refine (clonePtr_any _ h3.ph).mono ?_; rintro e w4 ⟨hl4, rfl, ph4, hb4⟩; have h4 := h3.kept hb4; have pc4 := pc3.kept hb4; have pu4 := pu3.kept hb4; have pd4 := pd3.kept hb4; have hbb4 := below_keep hbb3 hb4))
  go_wp2
  go_ret
  exact ⟨w4.heap.size, ⟨H.id, ca1, H.cl, cc1, cb1, co1, H.cs, ua2, H.ul, uc2, ub2, uo2, H.us, dl3, hl4, H.post, H.void⟩, rfl, held_made w4 ⟨H.id, ca1, H.cl, cc1, cb1, co1, H.cs, ua2, H.ul, uc2, ub2, uo2, H.us, dl3, hl4, H.post, H.void⟩ pc4 pu4 pd4 ph4, ⟨rfl, rfl, rfl, rfl, rfl, rfl⟩, hbb4.alloc hbb4.size _⟩

end Go.Proofs.Qxb6602815a
