/-
  THE STATEMENT Rows.FnAccountsMatchesFirstSeenModelSaid, out of the walks (Qxb6602815aLaw3, Qxb6602815aLaw3Held): the guide's frame (howto/template, howto/shells) at this function's number and types.
-/
import Derived.Test.Qxb6602815aLaw3Held
import Derived.Test.Qxb6602815aOpenHeld
import Derived.ShutString
import Derived.OpenShut
import Derived.ChangeOld
namespace Go.Proofs.Qxb6602815a.MatchesModel
open Go.ChangeShapes Go.WideShapes Go.ChangeAt Go.RowKit Go.Proofs.Qxb6602815a
open Go.ChangeMaps (open_string shut_string)

theorem own : ownKnob Try.prog.godebug = none := by kernel_rfl
theorem laidOut : laidOutB Try.prog = true := by kernel_rfl

/-- the five ways are one. -/
theorem settles_or (a b : ByteArray) : (a.toList.isEmpty = true ∧ b.toList.isEmpty = true) ∨ (a.toList.isEmpty = false ∨ (a.toList.isEmpty = true ∧ b.toList.isEmpty = false)) := by
  rcases a.toList.isEmpty with _ | _ <;> rcases b.toList.isEmpty with _ | _ <;> simp

theorem walk3 (id post void : ByteArray) {ca ua po : Option Addr} {cl cb co ul ub uo : Nat} (cc uc : Nat) {cs us : List Pr} {dl hl : Option Addr} (w : World) (pc : Prs w ca cl cb co cs) (pu : Prs w ua ul ub uo us) (pd : PtrAt w dl) (ph : PtrAt w hl)
    (hsc : ∀ p ∈ cs, p.1.size ≤ maxLen) (hsu : ∀ p ∈ us, p.1.size ≤ maxLen) (hh : po = none ∨ ∃ b o G, po = some ⟨b, o, none⟩ ∧ HeldAt w b o G ∧ (∀ p ∈ G.cs, p.1.size ≤ maxLen) ∧ ∀ p ∈ G.us, p.1.size ≤ maxLen) :
    Calls Try.prog 3 #[.string id, .slice ca cl cc, .slice ua ul uc, .pointer dl, .pointer hl, .string post, .string void, .pointer po] w fun e w' => e = .returned (.bool true) ∧ Below w.heap.size w w' := by
  rcases hh with rfl | ⟨b, o, G, rfl, hG, hsgc, hsgu⟩
  · rcases settles_or post void with ⟨hp, hv⟩ | hs
    · exact walk3_nil_plain id post void cc uc w pc pu pd ph hsc hsu hp hv
    · exact walk3_nil_settles id post void cc uc w pc pu pd ph hs
  · rcases settles_or post void with ⟨hp, hv⟩ | hs
    · exact walk3_held_plain id post void cc uc w pc pu pd ph hG hsc hsu hp hv
    · rcases settles_or G.post G.void with ⟨gp, gv⟩ | gs
      · exact walk3_held_settles id post void cc uc w pc pu pd ph hG hsgc hsgu hs gp gv
      · exact walk3_held_none id post void cc uc w pc pu pd ph hG hs gs

set_option maxRecDepth 100000 in
theorem lifted (os : Os) (started : os.Started) (H : Type) (enc : TypeId × Value → H) :
    ReturnsInHanded {} Try.checked os 3 .any (Rows.fnAccountsMatchesFirstSeenModelSpec.pre6 enc Try.prog Try.f3 Rows.fnAccountsMatchesFirstSeenModelRow.domain false) (Rows.fnAccountsMatchesFirstSeenModelSpec.post enc Try.prog Try.f3 false true false false) := by
  refine returnsInHanded_of_change (C := Try.checked) own started (by kernel_rfl) Try.func3
    (ChangeSpec.witness6 (enc := enc) (C := Try.checked) false ⟨#[], #[.string ⟨#[]⟩, .slice none 0 0, .slice none 0 0, .pointer none, .pointer none, .string ⟨#[]⟩, .string ⟨#[]⟩, .pointer none], []⟩ 8 (by kernel_rfl) (by kernel_rfl) (by kernel_rfl) (by kernel_rfl)) ?_
  intro W base args ds gs before hval0 hW hcnd _
  have hval : ∀ (j : Nat) t v, Try.f3.params[j]? = some t → args[j]? = some v → Value.okWide Try.prog W .any base t v := hval0
  have hW' := hW
  obtain ⟨p, q, hA0, hV, rfl, hfz, hnd⟩ := hW
  have hA : DataW.TrodAll enc Try.prog W 0 (fun _ => true) true Try.f3.params.toList args.toList ds p := hA0
  rw [Try.params3] at hA hval
  obtain ⟨v0, vs0, d0, ds0, p0, q0, hargs, rfl, rfl, h0, r0⟩ := trodAll_cons hA
  obtain ⟨v1, vs1, d1, ds1, p1, q1, rfl, rfl, rfl, h1, r1⟩ := trodAll_cons r0
  obtain ⟨v2, vs2, d2, ds2, p2, q2, rfl, rfl, rfl, h2, r2⟩ := trodAll_cons r1
  obtain ⟨v3, vs3, d3, ds3, p3, q3, rfl, rfl, rfl, h3, r3⟩ := trodAll_cons r2
  obtain ⟨v4, vs4, d4, ds4, p4, q4, rfl, rfl, rfl, h4, r4⟩ := trodAll_cons r3
  obtain ⟨v5, vs5, d5, ds5, p5, q5, rfl, rfl, rfl, h5, r5⟩ := trodAll_cons r4
  obtain ⟨v6, vs6, d6, ds6, p6, q6, rfl, rfl, rfl, h6, r6⟩ := trodAll_cons r5
  obtain ⟨v7, vs7, d7, ds7, p7, q7, rfl, rfl, rfl, h7, r7⟩ := trodAll_cons r6
  obtain ⟨rfl, rfl, rfl⟩ := trodAll_nil r7
  obtain rfl : args = #[v0, v1, v2, v3, v4, v5, v6, v7] := by cases args; simp_all
  obtain ⟨rfl, rfl⟩ := trodVars_none hV
  have k1 := h1
  have k2 := h2
  have k3 := h3
  have k4 := h4
  have k7 := h7
  have lt1 : ∀ x ∈ p1, x.block < W.heap.size := by obtain ⟨m, hm⟩ := k1; exact DataW.trod_lt m _ _ _ hm
  have lt2 : ∀ x ∈ p2, x.block < W.heap.size := by obtain ⟨m, hm⟩ := k2; exact DataW.trod_lt m _ _ _ hm
  have lt3 : ∀ x ∈ p3, x.block < W.heap.size := by obtain ⟨m, hm⟩ := k3; exact DataW.trod_lt m _ _ _ hm
  have lt4 : ∀ x ∈ p4, x.block < W.heap.size := by obtain ⟨m, hm⟩ := k4; exact DataW.trod_lt m _ _ _ hm
  have lt7 : ∀ x ∈ p7, x.block < W.heap.size := by obtain ⟨m, hm⟩ := k7; exact DataW.trod_lt m _ _ _ hm
  obtain ⟨id, rfl, rfl, rfl, hid⟩ := open_string Try.underlying9 (hval 0 9 v0 rfl rfl) h0
  obtain ⟨post, rfl, rfl, rfl, hpost⟩ := open_string Try.underlying9 (hval 5 9 v5 rfl rfl) h5
  obtain ⟨void, rfl, rfl, rfl, hvoid⟩ := open_string Try.underlying9 (hval 6 9 v6 rfl rfl) h6
  obtain ⟨ca, cl, cc, rfl⟩ := okWide_slice Try.underlying22 (hval 1 22 v1 rfl rfl)
  obtain ⟨ua, ul, uc, rfl⟩ := okWide_slice Try.underlying23 (hval 2 23 v2 rfl rfl)
  obtain ⟨po, rfl⟩ := okWide_pointer Try.underlying25 (hval 7 25 v7 rfl rfl)
  obtain ⟨cb, co, cs, pc, hsc⟩ := (let ⟨_, hf⟩ := h1; open_checks hf)
  obtain ⟨ub, uo, us, pu, hsu⟩ := (let ⟨_, hf⟩ := h2; open_updates hf)
  have hheld := (let ⟨_, hf⟩ := h7; open_held hf)
  obtain ⟨dl, hdl, pd⟩ : ∃ po, v3 = .pointer po ∧ PtrAt W po := by
    rcases open_ptr_int Try.underlying24 Try.underlying2 cells2 (hval 3 24 v3 rfl rfl) h3 with ⟨hv, _, _⟩ | ⟨b, off, n, hv, _, _, hc, _⟩
    · exact ⟨none, hv, Or.inl rfl⟩
    · exact ⟨_, hv, Or.inr ⟨b, off, n, rfl, hc⟩⟩
  obtain ⟨hl, hhl, ph⟩ : ∃ po, v4 = .pointer po ∧ PtrAt W po := by
    rcases open_ptr_int Try.underlying24 Try.underlying2 cells2 (hval 4 24 v4 rfl rfl) h4 with ⟨hv, _, _⟩ | ⟨b, off, n, hv, _, _, hc, _⟩
    · exact ⟨none, hv, Or.inl rfl⟩
    · exact ⟨_, hv, Or.inr ⟨b, off, n, rfl, hc⟩⟩
  subst hdl
  subst hhl
  clear hA0 hval0
  refine (walk3 id post void cc uc W pc pu pd ph hsc hsu hheld).mono fun e W' ⟨he, bel⟩ => ?_
  subst he
  exact ⟨_, rfl, _, _, _, [], _, [], hW', trodAll_mk1 (shut_bool Try.underlying4 _), (trodAll_cons_mk (shut_string Try.underlying9 hid) (trodAll_cons_mk (Below.trod laidOut (by kernel_rfl) (of_decide_eq_true (by kernel_rfl)) k1 bel lt1) (trodAll_cons_mk (Below.trod laidOut (by kernel_rfl) (of_decide_eq_true (by kernel_rfl)) k2 bel lt2) (trodAll_cons_mk (Below.trod laidOut (by kernel_rfl) (of_decide_eq_true (by kernel_rfl)) k3 bel lt3) (trodAll_cons_mk (Below.trod laidOut (by kernel_rfl) (of_decide_eq_true (by kernel_rfl)) k4 bel lt4) (trodAll_cons_mk (shut_string Try.underlying9 hpost) (trodAll_cons_mk (shut_string Try.underlying9 hvoid) (trodAll_cons_mk (Below.trod laidOut (by kernel_rfl) (of_decide_eq_true (by kernel_rfl)) k7 bel lt7) trodAll_mk0)))))))), rfl, bel.frame _, fun h => by cases h⟩

theorem over : Rows.fnAccountsMatchesFirstSeenModelRow.holds Try.pinned (OpenSpec.ofChange Rows.fnAccountsMatchesFirstSeenModelSpec) :=
  OpenClaim.holds_of_wide 3 Try.f3 rfl rfl rfl rfl rfl rfl rfl ⟨rfl, rfl, rfl, rfl, rfl⟩ rfl rfl rfl rfl rfl (by kernel_rfl) Try.func3 (by kernel_rfl)
    (of_decide_eq_true (by kernel_rfl)) (by unfold Func.isWrapper; first | (rw [if_pos (by decide +kernel)]; kernel_rfl) | (rw [if_neg (by decide +kernel)]; exact ⟨rfl, rfl⟩))
    (fun os started H enc _ => lifted os started H enc)

end Go.Proofs.Qxb6602815a.MatchesModel

namespace Go.Proofs.Qxb6602815a
/-- THE STATEMENT. -/
theorem matchesModel_holds : Rows.FnAccountsMatchesFirstSeenModelSaid := MatchesModel.over
end Go.Proofs.Qxb6602815a
