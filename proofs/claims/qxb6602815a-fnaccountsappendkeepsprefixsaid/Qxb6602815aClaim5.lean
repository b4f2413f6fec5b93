/-
  THE STATEMENT Rows.FnAccountsAppendKeepsPrefixSaid, out of the walk (Qxb6602815aLaw5): the guide's frame (howto/template, howto/shells) at this function's number and types.
-/
import Derived.Test.Qxb6602815aLaw5
import Derived.Test.Qxb6602815aOpen
import Derived.ShutString
import Derived.OpenShut
import Derived.ChangeOld
namespace Go.Proofs.Qxb6602815a.AppendKeepsPrefix
open Go.ChangeShapes Go.WideShapes Go.ChangeAt Go.RowKit Go.Proofs.Qxb6602815a
open Go.ChangeMaps (open_string shut_string)

theorem own : ownKnob Try.prog.godebug = none := by kernel_rfl
theorem laidOut : laidOutB Try.prog = true := by kernel_rfl

set_option maxRecDepth 100000 in
theorem lifted (os : Os) (started : os.Started) (H : Type) (enc : TypeId × Value → H) :
    ReturnsInHanded {} Try.checked os 5 .any (Rows.fnAccountsAppendKeepsPrefixSpec.pre6 enc Try.prog Try.f5 Rows.fnAccountsAppendKeepsPrefixRow.domain false) (Rows.fnAccountsAppendKeepsPrefixSpec.post enc Try.prog Try.f5 false true false false) := by
  refine returnsInHanded_of_change (C := Try.checked) own started (by kernel_rfl) Try.func5
    (ChangeSpec.witness6 (enc := enc) (C := Try.checked) false ⟨#[], #[.string ⟨#[]⟩, .slice none 0 0, .slice none 0 0, .slice none 0 0, .pointer none, .pointer none], []⟩ 8 (by kernel_rfl) (by kernel_rfl) (by kernel_rfl) (by kernel_rfl)) ?_
  intro W base args ds gs before hval0 hW hcnd _
  have hval : ∀ (j : Nat) t v, Try.f5.params[j]? = some t → args[j]? = some v → Value.okWide Try.prog W .any base t v := hval0
  have hW' := hW
  obtain ⟨p, q, hA0, hV, rfl, hfz, hnd⟩ := hW
  have hA : DataW.TrodAll enc Try.prog W 0 (fun _ => true) true Try.f5.params.toList args.toList ds p := hA0
  rw [Try.params5] at hA hval
  obtain ⟨v0, vs0, d0, ds0, p0, q0, hargs, rfl, rfl, h0, r0⟩ := trodAll_cons hA
  obtain ⟨v1, vs1, d1, ds1, p1, q1, rfl, rfl, rfl, h1, r1⟩ := trodAll_cons r0
  obtain ⟨v2, vs2, d2, ds2, p2, q2, rfl, rfl, rfl, h2, r2⟩ := trodAll_cons r1
  obtain ⟨v3, vs3, d3, ds3, p3, q3, rfl, rfl, rfl, h3, r3⟩ := trodAll_cons r2
  obtain ⟨v4, vs4, d4, ds4, p4, q4, rfl, rfl, rfl, h4, r4⟩ := trodAll_cons r3
  obtain ⟨v5, vs5, d5, ds5, p5, q5, rfl, rfl, rfl, h5, r5⟩ := trodAll_cons r4
  obtain ⟨rfl, rfl, rfl⟩ := trodAll_nil r5
  obtain rfl : args = #[v0, v1, v2, v3, v4, v5] := by cases args; simp_all
  obtain ⟨rfl, rfl⟩ := trodVars_none hV
  have k1 := h1
  have k2 := h2
  have k3 := h3
  have k4 := h4
  have k5 := h5
  have lt1 : ∀ x ∈ p1, x.block < W.heap.size := by obtain ⟨m, hm⟩ := k1; exact DataW.trod_lt m _ _ _ hm
  have lt2 : ∀ x ∈ p2, x.block < W.heap.size := by obtain ⟨m, hm⟩ := k2; exact DataW.trod_lt m _ _ _ hm
  have lt3 : ∀ x ∈ p3, x.block < W.heap.size := by obtain ⟨m, hm⟩ := k3; exact DataW.trod_lt m _ _ _ hm
  have lt4 : ∀ x ∈ p4, x.block < W.heap.size := by obtain ⟨m, hm⟩ := k4; exact DataW.trod_lt m _ _ _ hm
  have lt5 : ∀ x ∈ p5, x.block < W.heap.size := by obtain ⟨m, hm⟩ := k5; exact DataW.trod_lt m _ _ _ hm
  obtain ⟨id, rfl, rfl, rfl, hid⟩ := open_string Try.underlying9 (hval 0 9 v0 rfl rfl) h0
  obtain ⟨ca, cl, cc, rfl⟩ := okWide_slice Try.underlying22 (hval 1 22 v1 rfl rfl)
  obtain ⟨ua, ul, uc, rfl⟩ := okWide_slice Try.underlying23 (hval 2 23 v2 rfl rfl)
  obtain ⟨ma, ml, mc, rfl⟩ := okWide_slice Try.underlying23 (hval 3 23 v3 rfl rfl)
  obtain ⟨cb, co, cs, pc, hsc⟩ := (let ⟨_, hf⟩ := h1; open_checks hf)
  obtain ⟨ub, uo, us, pu, hsu⟩ := (let ⟨_, hf⟩ := h2; open_updates hf)
  obtain ⟨mb, mo, ms, pm, hsm⟩ := (let ⟨_, hf⟩ := h3; open_updates hf)
  obtain ⟨dl, hdl, pd⟩ : ∃ po, v4 = .pointer po ∧ PtrAt W po := by
    rcases open_ptr_int Try.underlying24 Try.underlying2 cells2 (hval 4 24 v4 rfl rfl) h4 with ⟨hv, _, _⟩ | ⟨b, off, n, hv, _, _, hc, _⟩
    · exact ⟨none, hv, Or.inl rfl⟩
    · exact ⟨_, hv, Or.inr ⟨b, off, n, rfl, hc⟩⟩
  obtain ⟨hl, hhl, ph⟩ : ∃ po, v5 = .pointer po ∧ PtrAt W po := by
    rcases open_ptr_int Try.underlying24 Try.underlying2 cells2 (hval 5 24 v5 rfl rfl) h5 with ⟨hv, _, _⟩ | ⟨b, off, n, hv, _, _, hc, _⟩
    · exact ⟨none, hv, Or.inl rfl⟩
    · exact ⟨_, hv, Or.inr ⟨b, off, n, rfl, hc⟩⟩
  subst hdl
  subst hhl
  clear hA0 hval0
  refine (walk5 id cc uc mc W pc pu pm pd ph hsc hsu hsm).mono fun e W' ⟨he, bel⟩ => ?_
  subst he
  exact ⟨_, rfl, _, _, _, [], _, [], hW', trodAll_mk1 (shut_bool Try.underlying4 _), (trodAll_cons_mk (shut_string Try.underlying9 hid) (trodAll_cons_mk (Below.trod laidOut (by kernel_rfl) (of_decide_eq_true (by kernel_rfl)) k1 bel lt1) (trodAll_cons_mk (Below.trod laidOut (by kernel_rfl) (of_decide_eq_true (by kernel_rfl)) k2 bel lt2)
    (trodAll_cons_mk (Below.trod laidOut (by kernel_rfl) (of_decide_eq_true (by kernel_rfl)) k3 bel lt3) (trodAll_cons_mk (Below.trod laidOut (by kernel_rfl) (of_decide_eq_true (by kernel_rfl)) k4 bel lt4) (trodAll_cons_mk (Below.trod laidOut (by kernel_rfl) (of_decide_eq_true (by kernel_rfl)) k5 bel lt5) trodAll_mk0)))))), rfl, bel.frame _, fun h => by cases h⟩

theorem over : Rows.fnAccountsAppendKeepsPrefixRow.holds Try.pinned (OpenSpec.ofChange Rows.fnAccountsAppendKeepsPrefixSpec) :=
  OpenClaim.holds_of_wide 5 Try.f5 rfl rfl rfl rfl rfl rfl rfl ⟨rfl, rfl, rfl, rfl, rfl⟩ rfl rfl rfl rfl rfl (by kernel_rfl) Try.func5 (by kernel_rfl)
    (of_decide_eq_true (by kernel_rfl)) (by unfold Func.isWrapper; first | (rw [if_pos (by decide +kernel)]; kernel_rfl) | (rw [if_neg (by decide +kernel)]; exact ⟨rfl, rfl⟩))
    (fun os started H enc _ => lifted os started H enc)

end Go.Proofs.Qxb6602815a.AppendKeepsPrefix

namespace Go.Proofs.Qxb6602815a
/-- THE STATEMENT. -/
theorem appendKeepsPrefix_holds : Rows.FnAccountsAppendKeepsPrefixSaid := AppendKeepsPrefix.over
end Go.Proofs.Qxb6602815a
