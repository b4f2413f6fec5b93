/-
  THE LAW FnAccountsMatchesFirstSeenModel WITH A HELD TRANSACTION, WALKED.
-/
import Derived.Test.Qxb6602815aLaw3
namespace Go.Proofs.Qxb6602815a
open Go.RowKit

set_option maxRecDepth 100000 in
set_option maxHeartbeats 4000000 in
theorem walk3_held_plain (id post void : ByteArray) {ca ua : Option Addr} {cl cb co ul ub uo hb ho : Nat} (cc uc : Nat) {cs us : List Pr} {dl hl : Option Addr} {G : HV} (w : World) (pc : Prs w ca cl cb co cs) (pu : Prs w ua ul ub uo us) (pd : PtrAt w dl) (ph : PtrAt w hl) (hh : HeldAt w hb ho G) (hsc : ∀ p ∈ cs, p.1.size ≤ maxLen) (hsu : ∀ p ∈ us, p.1.size ≤ maxLen) (hp : post.toList.isEmpty = true) (hv : void.toList.isEmpty = true) :
    Calls Try.prog 3 #[.string id, .slice ca cl cc, .slice ua ul uc, .pointer dl, .pointer hl, .string post, .string void, .pointer (some ⟨hb, ho, none⟩)] w fun e w' => e = .returned (.bool true) ∧ Below w.heap.size w w' := by
  have q32 : ∀ (w : World) (a : Option Addr) (n c n' c' : Nat), (binOp .eql 32 (.slice a n c) (.slice none n' c')).run Try.prog w = .ok (.bool a.isNone) w := fun w a n c n' c' => Lib.run_eql_slice_nil w _ _ a n c n' c' Try.underlying32
  go_enter Try.func3, Try.ntmps3
  go_wp2_with fail
  refine (bytes3_held id post void cc uc dl hl _ pc pu hh).mono ?_
  rintro e w' ⟨r, rfl, hr, hw⟩
  have hw2 := hw.symm
  clear hw
  subst hw2
  rcases r with _ | _
  · clear hr
    go_wp2
    go_ret
    exact ⟨rfl, Below.refl _ _⟩
  obtain ⟨hcl, hul, hgc, hgu⟩ := hr rfl
  clear hr
  go_wp2_with fail
  refine (tooBig_any id post void cc uc _ pc pu (Or.inr ⟨hb, ho, rfl, hh⟩)).mono ?_
  rintro e w' ⟨r, rfl, hw⟩
  have hw2 := hw.symm
  clear hw
  subst hw2
  rcases r with _ | _
  rotate_left
  · go_wp2
    go_ret
    exact ⟨rfl, Below.refl _ _⟩
  go_wp2_with fail
  refine (cloneChecks_any cc _ pc (by omega)).mono ?_
  rintro e w1 ⟨ca1, cc1, cb1, co1, rfl, pc1, hb1⟩
  have pu1 := pu.kept hb1
  have pd1 := pd.kept hb1
  have ph1 := ph.kept hb1
  have hh1 := hh.kept hb1
  have hbb1 := hb1
  clear pu pd ph hh pc hb1
  go_wp2_with fail
  refine (cloneUpdates_any uc _ pu1 (by omega)).mono ?_
  rintro e w2 ⟨ua2, uc2, ub2, uo2, rfl, pu2, hb2⟩
  have pc2 := pc1.kept hb2
  have pd2 := pd1.kept hb2
  have ph2 := ph1.kept hb2
  have hh2 := hh1.kept hb2
  have hbb2 := below_keep hbb1 hb2
  clear pc1 pd1 ph1 hh1 pu1 hbb1 hb2
  go_wp2_with fail
  refine (clonePtr_any _ pd2).mono ?_
  rintro e w3 ⟨dl3, rfl, pd3, hb3⟩
  have pc3 := pc2.kept hb3
  have pu3 := pu2.kept hb3
  have ph3 := ph2.kept hb3
  have hh3 := hh2.kept hb3
  have hbb3 := below_keep hbb2 hb3
  clear pc2 pu2 ph2 hh2 pd2 hbb2 hb3
  go_wp2_with fail
  refine (clonePtr_any _ ph3).mono ?_
  rintro e w4 ⟨hl4, rfl, ph4, hb4⟩
  have pc4 := pc3.kept hb4
  have pu4 := pu3.kept hb4
  have pd4 := pd3.kept hb4
  have hh4 := hh3.kept hb4
  have hbb4 := below_keep hbb3 hb4
  clear pc3 pu3 pd3 hh3 ph3 hbb3 hb4
  go_wp2_with fail
  refine (cloneHeld_some hb ho G _ hh4 (by omega) (by omega)).mono ?_
  rintro e w5 ⟨B, K, rfl, hk5, hlike, hb5⟩
  have HK : Hid (K.like G) := hlike
  have pc5 := pc4.kept hb5
  have pu5 := pu4.kept hb5
  have hbb5 := below_keep hbb4 hb5
  clear pc4 pu4 pd4 ph4 hh4 hbb4 hb5 hlike
  go_wp2_with fail
  refine (names_any cc1 uc2 _ pc5 pu5 (by omega) (by omega)).mono ?_
  rintro e w6 ⟨na, nc, nb, no, rfl, sn6, hb6⟩
  have pc6 := pc5.kept hb6
  have pu6 := pu5.kept hb6
  have hk6 := hk5.kept hb6
  have hbb6 := below_keep hbb5 hb6
  clear pc5 pu5 hbb5 hb6 hk5
  obtain ⟨L, HL⟩ : ∃ L, Hid (L = Plain.dd (cs.map (·.1) ++ us.map (·.1))) := ⟨_, rfl⟩
  go_wp2_with fail
  refine (firstSeen_gives nc L HL _ sn6 (by omega)).mono ?_
  rintro e w7 ⟨wa, wc, wb, wo, rfl, sw7, hwn, hb7⟩
  have pc7 := pc6.kept hb7
  have pu7 := pu6.kept hb7
  have hk7 := hk6.kept hb7
  have hbb7 := below_keep hbb6 hb7
  clear pc6 pu6 sn6 hbb6 hb7 hwn hk6
  go_wp2_with fail
  refine (tx_held id post void cc1 uc2 dl3 hl4 K _ pc7 pu7 hk7 (by omega) (by omega) (by rw [HK.out.2.2.1]; omega) (by rw [HK.out.2.2.2.1]; omega)).mono ?_
  rintro e w8 ⟨b8, H8, b2, H2, rfl, htx8, htx2, e8, hl2, hb8⟩
  clear htx2 hl2
  have E8 : Hid (H8.cs = cs ∧ H8.us = us ∧ H8.cl = cl ∧ H8.ul = ul ∧ H8.post = post ∧ H8.void = void) := e8
  have HL8 : Hid (L = Plain.dd H8.names) := by unfold Hid HV.names; rw [E8.out.1, E8.out.2.1]; exact HL.out
  have SZ : Hid (cs.length = cl ∧ us.length = ul) := ⟨pc7.size, pu7.size⟩
  have sw8 := sw7.kept hb8
  have hbb8 := below_keep hbb7 hb8
  clear e8 pc7 pu7 sw7 hbb7 hb8 hk7
  go_wp2_with fail
  refine (accounts_gives b8 H8 _ L HL8 _ htx8 (by rw [E8.out.2.2.2.2.1]; exact hp) (by rw [E8.out.2.2.2.2.2]; exact hv) (by rw [E8.out.2.2.1]; omega) (by rw [E8.out.2.2.2.1]; omega) (names_short hsc hsu E8.out.1 E8.out.2.1)).mono ?_
  rintro e w9 ⟨ga, gc, gb, gf, rfl, sg9, hgn, hb9⟩
  have sw9 := sw8.kept hb9
  have hbb9 := below_keep hbb8 hb9
  clear sw8 hbb8 hb9 htx8
  have hlen := len_L HL SZ.out.1 SZ.out.2
  rcases hLe : L.isEmpty with _ | _
  · rw [hLe] at hgn
    have hl0 : ((L.length : Int) == 0) = false := by cases L with | nil => simp at hLe | cons a r => simp; omega
    clear hLe
    go_wp2_with fail
    refine (same_yes gc wc _ sg9 sw9 (by omega)).mono ?_
    rintro e w10 ⟨rfl, hb10⟩
    have hend := below_keep hbb9 hb10
    go_wp2
    go_ret
    exact ⟨rfl, hend⟩
  · rw [hLe] at hgn
    have hl0 : ((L.length : Int) == 0) = true := by cases L with | nil => rfl | cons a r => simp at hLe
    clear hLe
    go_wp2_with fail
    refine (same_yes gc wc _ sg9 sw9 (by omega)).mono ?_
    rintro e w10 ⟨rfl, hb10⟩
    have hend := below_keep hbb9 hb10
    go_wp2
    go_ret
    exact ⟨rfl, hend⟩

set_option maxRecDepth 100000 in
set_option maxHeartbeats 4000000 in
theorem walk3_held_settles (id post void : ByteArray) {ca ua : Option Addr} {cl cb co ul ub uo hb ho : Nat} (cc uc : Nat) {cs us : List Pr} {dl hl : Option Addr} {G : HV} (w : World) (pc : Prs w ca cl cb co cs) (pu : Prs w ua ul ub uo us) (pd : PtrAt w dl) (ph : PtrAt w hl) (hh : HeldAt w hb ho G) (hsgc : ∀ p ∈ G.cs, p.1.size ≤ maxLen) (hsgu : ∀ p ∈ G.us, p.1.size ≤ maxLen) (hcase : post.toList.isEmpty = false ∨ (post.toList.isEmpty = true ∧ void.toList.isEmpty = false)) (gp : G.post.toList.isEmpty = true) (gv : G.void.toList.isEmpty = true) :
    Calls Try.prog 3 #[.string id, .slice ca cl cc, .slice ua ul uc, .pointer dl, .pointer hl, .string post, .string void, .pointer (some ⟨hb, ho, none⟩)] w fun e w' => e = .returned (.bool true) ∧ Below w.heap.size w w' := by
  have HS : Hid ((post.toList.isEmpty && void.toList.isEmpty) = false) := by unfold Hid; rcases hcase with h | ⟨h1, h2⟩ <;> simp [*]
  have HC : Hid (post.toList.isEmpty = false ∨ (post.toList.isEmpty = true ∧ void.toList.isEmpty = false)) := hcase
  clear hcase
  have q32 : ∀ (w : World) (a : Option Addr) (n c n' c' : Nat), (binOp .eql 32 (.slice a n c) (.slice none n' c')).run Try.prog w = .ok (.bool a.isNone) w := fun w a n c n' c' => Lib.run_eql_slice_nil w _ _ a n c n' c' Try.underlying32
  go_enter Try.func3, Try.ntmps3
  go_wp2_with fail
  refine (bytes3_held id post void cc uc dl hl _ pc pu hh).mono ?_
  rintro e w' ⟨r, rfl, hr, hw⟩
  have hw2 := hw.symm
  clear hw
  subst hw2
  rcases r with _ | _
  · clear hr
    go_wp2
    go_ret
    exact ⟨rfl, Below.refl _ _⟩
  obtain ⟨hcl, hul, hgc, hgu⟩ := hr rfl
  clear hr
  go_wp2_with fail
  refine (tooBig_any id post void cc uc _ pc pu (Or.inr ⟨hb, ho, rfl, hh⟩)).mono ?_
  rintro e w' ⟨r, rfl, hw⟩
  have hw2 := hw.symm
  clear hw
  subst hw2
  rcases r with _ | _
  rotate_left
  · go_wp2
    go_ret
    exact ⟨rfl, Below.refl _ _⟩
  go_wp2_with fail
  refine (cloneChecks_any cc _ pc (by omega)).mono ?_
  rintro e w1 ⟨ca1, cc1, cb1, co1, rfl, pc1, hb1⟩
  have pu1 := pu.kept hb1
  have pd1 := pd.kept hb1
  have ph1 := ph.kept hb1
  have hh1 := hh.kept hb1
  have hbb1 := hb1
  clear pu pd ph hh pc hb1
  go_wp2_with fail
  refine (cloneUpdates_any uc _ pu1 (by omega)).mono ?_
  rintro e w2 ⟨ua2, uc2, ub2, uo2, rfl, pu2, hb2⟩
  have pc2 := pc1.kept hb2
  have pd2 := pd1.kept hb2
  have ph2 := ph1.kept hb2
  have hh2 := hh1.kept hb2
  have hbb2 := below_keep hbb1 hb2
  clear pc1 pd1 ph1 hh1 pu1 hbb1 hb2
  go_wp2_with fail
  refine (clonePtr_any _ pd2).mono ?_
  rintro e w3 ⟨dl3, rfl, pd3, hb3⟩
  have pc3 := pc2.kept hb3
  have pu3 := pu2.kept hb3
  have ph3 := ph2.kept hb3
  have hh3 := hh2.kept hb3
  have hbb3 := below_keep hbb2 hb3
  clear pc2 pu2 ph2 hh2 pd2 hbb2 hb3
  go_wp2_with fail
  refine (clonePtr_any _ ph3).mono ?_
  rintro e w4 ⟨hl4, rfl, ph4, hb4⟩
  have pc4 := pc3.kept hb4
  have pu4 := pu3.kept hb4
  have pd4 := pd3.kept hb4
  have hh4 := hh3.kept hb4
  have hbb4 := below_keep hbb3 hb4
  clear pc3 pu3 pd3 hh3 ph3 hbb3 hb4
  go_wp2_with fail
  refine (cloneHeld_some hb ho G _ hh4 (by omega) (by omega)).mono ?_
  rintro e w5 ⟨B, K, rfl, hk5, hlike, hb5⟩
  have HK : Hid (K.like G) := hlike
  have pc5 := pc4.kept hb5
  have pu5 := pu4.kept hb5
  have hbb5 := below_keep hbb4 hb5
  clear pc4 pu4 pd4 ph4 hh4 hbb4 hb5 hlike
  have k1 : w5.cell? ⟨B, 1, none⟩ = some (.slice K.ca K.cl K.cc) := by simpa using hk5.c1
  have k2 : w5.cell? ⟨B, 2, none⟩ = some (.slice K.ua K.ul K.uc) := by simpa using hk5.c2
  have k5 : w5.cell? ⟨B, 5, none⟩ = some (.string K.post) := by simpa using hk5.c5
  have k6 : w5.cell? ⟨B, 6, none⟩ = some (.string K.void) := by simpa using hk5.c6
  have kp : K.post.toList.isEmpty = true := by rw [HK.out.2.2.2.2.1]; exact gp
  have kv : K.void.toList.isEmpty = true := by rw [HK.out.2.2.2.2.2]; exact gv
  have kcl : K.cl ≤ 1048576 := by rw [HK.out.2.2.1]; exact hgc
  have kul : K.ul ≤ 1048576 := by rw [HK.out.2.2.2.1]; exact hgu
  obtain ⟨L, HL⟩ : ∃ L, Hid (L = Plain.dd (K.cs.map (·.1) ++ K.us.map (·.1))) := ⟨_, rfl⟩
  have h50 := hk5.drew
  have hb50 : Below w5.heap.size w5 w5.drew := (Below.refl _ _).drew
  rcases HC.out with hp | ⟨hp, hv⟩
  all_goals
    go_wp2_with fail
    go_region_held3 (fun w' => w'.cell? ⟨B, 1, none⟩ = some (.slice K.ca K.cl K.cc) ∧ w'.cell? ⟨B, 2, none⟩ = some (.slice K.ua K.ul K.uc))
      (first | exact ⟨cell_kept hB7 k1, cell_kept hB7 k2⟩ | exact ⟨cell_kept hB6 k1, cell_kept hB6 k2⟩ | exact ⟨cell_kept hb50 k1, cell_kept hb50 k2⟩ | exact ⟨k1, k2⟩)
      (first
        | (go_at_call 13; refine (names_any K.cc K.uc _ h50.pc h50.pu (by omega) (by omega)).mono ?_; rintro e w6 ⟨na, nc, nb, no, rfl, sn6, hb6⟩; have hB6 := below_keep hb50 hb6)
        | (go_at_call 12; refine (firstSeen_gives nc L HL _ sn6 (by omega)).mono ?_; rintro e w7 ⟨wa, wc, wb, wo, rfl, sw7, hwn, hb7⟩; have hB7 := below_keep hB6 hb7))
    have pc7 := pc5.kept hB7
    have pu7 := pu5.kept hB7
    have hk7 := hk5.kept hB7
    have hbb7 := below_keep hbb5 hB7
    clear pc5 pu5 hk5 hbb5 h50 hb50 hB6 hb6 hb7 hB7 sn6 hwn k1 k2 k5 k6
    go_wp2_with fail
    refine (tx_held id post void cc1 uc2 dl3 hl4 K _ pc7 pu7 hk7 (by omega) (by omega) (by omega) (by omega)).mono ?_
    rintro e w8 ⟨b8, H8, b2, H2, rfl, htx8, htx2, e8, hl2, hb8⟩
    have E8 : Hid (H8.cs = cs ∧ H8.us = us ∧ H8.cl = cl ∧ H8.ul = ul ∧ H8.post = post ∧ H8.void = void) := e8
    have E2 : Hid (H2.like K) := hl2
    have HS9 : Hid ((H8.post.toList.isEmpty && H8.void.toList.isEmpty) = false) := by unfold Hid; rw [E8.out.2.2.2.2.1, E8.out.2.2.2.2.2]; exact HS.out
    have HL2 : Hid (L = Plain.dd H2.names) := by unfold Hid HV.names; rw [E2.out.1, E2.out.2.1]; exact HL.out
    have SZ : Hid (K.cs.length = K.cl ∧ K.us.length = K.ul) := ⟨hk7.pc.size, hk7.pu.size⟩
    have sw8 := sw7.kept hb8
    have hbb8 := below_keep hbb7 hb8
    clear e8 hl2 pc7 pu7 hk7 sw7 hbb7 hb8
    go_wp2_with fail
    refine (accounts_held b8 b2 H8 _ htx8 HS9.out (Q := Gives L w8) ((accounts_gives b2 H2 _ L HL2 _ htx2 (by rw [E2.out.2.2.2.2.1]; exact kp) (by rw [E2.out.2.2.2.2.2]; exact kv) (by rw [E2.out.2.2.1]; omega) (by rw [E2.out.2.2.2.1]; omega) (names_short hsgc hsgu (E2.out.1.trans HK.out.1) (E2.out.2.1.trans HK.out.2.1))).mono fun e w' h => (let ⟨ao, cap, _, _, he, _⟩ := h; ⟨ao, _, cap, he, h⟩))).mono ?_
    rintro e w9 ⟨ga, gc, gb, gf, rfl, sg9, hgn, hb9⟩
    have sw9 := sw8.kept hb9
    have hbb9 := below_keep hbb8 hb9
    clear sw8 hbb8 hb9 htx8 htx2
    have hlen := len_L HL SZ.out.1 SZ.out.2
    rcases hLe : L.isEmpty with _ | _
    · rw [hLe] at hgn
      have hl0 : ((L.length : Int) == 0) = false := by cases L with | nil => simp at hLe | cons a r => simp; omega
      clear hLe
      go_wp2_with fail
      refine (same_yes gc wc _ sg9 sw9 (by omega)).mono ?_
      rintro e w10 ⟨rfl, hb10⟩
      have hend := below_keep hbb9 hb10
      go_wp2
      go_ret
      exact ⟨rfl, hend⟩
    · rw [hLe] at hgn
      have hl0 : ((L.length : Int) == 0) = true := by cases L with | nil => rfl | cons a r => simp at hLe
      clear hLe
      go_wp2_with fail
      refine (same_yes gc wc _ sg9 sw9 (by omega)).mono ?_
      rintro e w10 ⟨rfl, hb10⟩
      have hend := below_keep hbb9 hb10
      go_wp2
      go_ret
      exact ⟨rfl, hend⟩

set_option maxRecDepth 100000 in
set_option maxHeartbeats 4000000 in
theorem walk3_held_none (id post void : ByteArray) {ca ua : Option Addr} {cl cb co ul ub uo hb ho : Nat} (cc uc : Nat) {cs us : List Pr} {dl hl : Option Addr} {G : HV} (w : World) (pc : Prs w ca cl cb co cs) (pu : Prs w ua ul ub uo us) (pd : PtrAt w dl) (ph : PtrAt w hl) (hh : HeldAt w hb ho G) (hcase : post.toList.isEmpty = false ∨ (post.toList.isEmpty = true ∧ void.toList.isEmpty = false)) (gcase : G.post.toList.isEmpty = false ∨ (G.post.toList.isEmpty = true ∧ G.void.toList.isEmpty = false)) :
    Calls Try.prog 3 #[.string id, .slice ca cl cc, .slice ua ul uc, .pointer dl, .pointer hl, .string post, .string void, .pointer (some ⟨hb, ho, none⟩)] w fun e w' => e = .returned (.bool true) ∧ Below w.heap.size w w' := by
  have HS : Hid ((post.toList.isEmpty && void.toList.isEmpty) = false) := by unfold Hid; rcases hcase with h | ⟨h1, h2⟩ <;> simp [*]
  have HC : Hid (post.toList.isEmpty = false ∨ (post.toList.isEmpty = true ∧ void.toList.isEmpty = false)) := hcase
  clear hcase
  have GC : Hid (G.post.toList.isEmpty = false ∨ (G.post.toList.isEmpty = true ∧ G.void.toList.isEmpty = false)) := gcase
  clear gcase
  have q32 : ∀ (w : World) (a : Option Addr) (n c n' c' : Nat), (binOp .eql 32 (.slice a n c) (.slice none n' c')).run Try.prog w = .ok (.bool a.isNone) w := fun w a n c n' c' => Lib.run_eql_slice_nil w _ _ a n c n' c' Try.underlying32
  go_enter Try.func3, Try.ntmps3
  go_wp2_with fail
  refine (bytes3_held id post void cc uc dl hl _ pc pu hh).mono ?_
  rintro e w' ⟨r, rfl, hr, hw⟩
  have hw2 := hw.symm
  clear hw
  subst hw2
  rcases r with _ | _
  · clear hr
    go_wp2
    go_ret
    exact ⟨rfl, Below.refl _ _⟩
  obtain ⟨hcl, hul, hgc, hgu⟩ := hr rfl
  clear hr
  go_wp2_with fail
  refine (tooBig_any id post void cc uc _ pc pu (Or.inr ⟨hb, ho, rfl, hh⟩)).mono ?_
  rintro e w' ⟨r, rfl, hw⟩
  have hw2 := hw.symm
  clear hw
  subst hw2
  rcases r with _ | _
  rotate_left
  · go_wp2
    go_ret
    exact ⟨rfl, Below.refl _ _⟩
  go_wp2_with fail
  refine (cloneChecks_any cc _ pc (by omega)).mono ?_
  rintro e w1 ⟨ca1, cc1, cb1, co1, rfl, pc1, hb1⟩
  have pu1 := pu.kept hb1
  have pd1 := pd.kept hb1
  have ph1 := ph.kept hb1
  have hh1 := hh.kept hb1
  have hbb1 := hb1
  clear pu pd ph hh pc hb1
  go_wp2_with fail
  refine (cloneUpdates_any uc _ pu1 (by omega)).mono ?_
  rintro e w2 ⟨ua2, uc2, ub2, uo2, rfl, pu2, hb2⟩
  have pc2 := pc1.kept hb2
  have pd2 := pd1.kept hb2
  have ph2 := ph1.kept hb2
  have hh2 := hh1.kept hb2
  have hbb2 := below_keep hbb1 hb2
  clear pc1 pd1 ph1 hh1 pu1 hbb1 hb2
  go_wp2_with fail
  refine (clonePtr_any _ pd2).mono ?_
  rintro e w3 ⟨dl3, rfl, pd3, hb3⟩
  have pc3 := pc2.kept hb3
  have pu3 := pu2.kept hb3
  have ph3 := ph2.kept hb3
  have hh3 := hh2.kept hb3
  have hbb3 := below_keep hbb2 hb3
  clear pc2 pu2 ph2 hh2 pd2 hbb2 hb3
  go_wp2_with fail
  refine (clonePtr_any _ ph3).mono ?_
  rintro e w4 ⟨hl4, rfl, ph4, hb4⟩
  have pc4 := pc3.kept hb4
  have pu4 := pu3.kept hb4
  have pd4 := pd3.kept hb4
  have hh4 := hh3.kept hb4
  have hbb4 := below_keep hbb3 hb4
  clear pc3 pu3 pd3 hh3 ph3 hbb3 hb4
  go_wp2_with fail
  refine (cloneHeld_some hb ho G _ hh4 (by omega) (by omega)).mono ?_
  rintro e w5 ⟨B, K, rfl, hk5, hlike, hb5⟩
  have HK : Hid (K.like G) := hlike
  have pc5 := pc4.kept hb5
  have pu5 := pu4.kept hb5
  have hbb5 := below_keep hbb4 hb5
  clear pc4 pu4 pd4 ph4 hh4 hbb4 hb5 hlike
  have k5 : w5.cell? ⟨B, 5, none⟩ = some (.string K.post) := by simpa using hk5.c5
  have k6 : w5.cell? ⟨B, 6, none⟩ = some (.string K.void) := by simpa using hk5.c6
  have kcl : K.cl ≤ 1048576 := by rw [HK.out.2.2.1]; exact hgc
  have kul : K.ul ≤ 1048576 := by rw [HK.out.2.2.2.1]; exact hgu
  have KC : Hid (K.post.toList.isEmpty = false ∨ (K.post.toList.isEmpty = true ∧ K.void.toList.isEmpty = false)) := by unfold Hid; rw [HK.out.2.2.2.2.1, HK.out.2.2.2.2.2]; exact GC.out
  have KS : Hid ((K.post.toList.isEmpty && K.void.toList.isEmpty) = false) := by unfold Hid; rcases KC.out with h | ⟨h1, h2⟩ <;> simp [*]
  rcases HC.out with hp | ⟨hp, hv⟩ <;> rcases KC.out with kp | ⟨kp, kv⟩
  all_goals
    go_wp2_with fail
    refine (tx_held id post void cc1 uc2 dl3 hl4 K _ pc5 pu5 hk5 (by omega) (by omega) (by omega) (by omega)).mono ?_
    rintro e w8 ⟨b8, H8, b2, H2, rfl, htx8, htx2, e8, hl2, hb8⟩
    have E8 : Hid (H8.cs = cs ∧ H8.us = us ∧ H8.cl = cl ∧ H8.ul = ul ∧ H8.post = post ∧ H8.void = void) := e8
    have E2 : Hid (H2.like K) := hl2
    have HS9 : Hid ((H8.post.toList.isEmpty && H8.void.toList.isEmpty) = false) := by unfold Hid; rw [E8.out.2.2.2.2.1, E8.out.2.2.2.2.2]; exact HS.out
    have KS9 : Hid ((H2.post.toList.isEmpty && H2.void.toList.isEmpty) = false) := by unfold Hid; rw [E2.out.2.2.2.2.1, E2.out.2.2.2.2.2]; exact KS.out
    have hbb8 := below_keep hbb5 hb8
    clear e8 hl2 pc5 pu5 hk5 hbb5 hb8 k5 k6 kp
    go_wp2_with fail
    refine (accounts_held b8 b2 H8 _ htx8 HS9.out (Q := fun e w' => e = .returned (.slice none 0 0) ∧ w8 = w') ((accounts_none b2 H2 _ htx2 KS9.out).mono fun e w' h => ⟨none, 0, 0, h.1, h⟩)).mono ?_
    rintro e w9 ⟨rfl, hw⟩
    subst hw
    go_wp2_with fail
    refine (same_yes 0 0 _ (strs_nil _) (strs_nil _) (by omega)).mono ?_
    rintro e w9 ⟨rfl, hb9⟩
    have hend := below_keep hbb8 hb9
    go_wp2
    go_ret
    exact ⟨rfl, hend⟩

end Go.Proofs.Qxb6602815a
