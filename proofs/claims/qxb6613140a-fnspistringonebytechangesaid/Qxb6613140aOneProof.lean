import Derived.Test.Qxb6613140aOpen
import Derived.Test.Qxb6613140aOne
import Derived.WalkKit
import Derived.ProofKit
import Derived.OpenShut
import Derived.ShutString
import Derived.ChangeOld
import Derived.Below
namespace Go.Proofs.Qxb6613140a.Spi
open Go.ChangeShapes Go.WideShapes Go.ChangeAt Go.RowKit

theorem walkOne (x0 x1 x2 x3 x4 x5 x6 x7 i v : Int) (w : World) (h0 : isB x0) (h1 : isB x1) (h2 : isB x2) (h3 : isB x3) (h4 : isB x4) (h5 : isB x5) (h6 : isB x6) (h7 : isB x7) (hv : isB v) :
    Calls Try.prog 8 #[.agg #[.int .u8 x0, .int .u8 x1, .int .u8 x2, .int .u8 x3, .int .u8 x4, .int .u8 x5, .int .u8 x6, .int .u8 x7], .int .i64 i, .int .u8 v] w fun e w' => e = .returned (.bool true) ∧ Below w.heap.size w w' := by
  by_cases hi : i < 0 ∨ 7 < i
  · exact one_out x0 x1 x2 x3 x4 x5 x6 x7 i v w hi
  · have hi' : i = 0 ∨ i = 1 ∨ i = 2 ∨ i = 3 ∨ i = 4 ∨ i = 5 ∨ i = 6 ∨ i = 7 := by omega
    rcases hi' with rfl | rfl | rfl | rfl | rfl | rfl | rfl | rfl
    · exact one_0 x0 x1 x2 x3 x4 x5 x6 x7 v w h0 h1 h2 h3 h4 h5 h6 h7 hv
    · exact one_1 x0 x1 x2 x3 x4 x5 x6 x7 v w h0 h1 h2 h3 h4 h5 h6 h7 hv
    · exact one_2 x0 x1 x2 x3 x4 x5 x6 x7 v w h0 h1 h2 h3 h4 h5 h6 h7 hv
    · exact one_3 x0 x1 x2 x3 x4 x5 x6 x7 v w h0 h1 h2 h3 h4 h5 h6 h7 hv
    · exact one_4 x0 x1 x2 x3 x4 x5 x6 x7 v w h0 h1 h2 h3 h4 h5 h6 h7 hv
    · exact one_5 x0 x1 x2 x3 x4 x5 x6 x7 v w h0 h1 h2 h3 h4 h5 h6 h7 hv
    · exact one_6 x0 x1 x2 x3 x4 x5 x6 x7 v w h0 h1 h2 h3 h4 h5 h6 h7 hv
    · exact one_7 x0 x1 x2 x3 x4 x5 x6 x7 v w h0 h1 h2 h3 h4 h5 h6 h7 hv

set_option maxRecDepth 100000 in
theorem liftedOne (os : Os) (started : os.Started) (H : Type) (enc : TypeId × Value → H) :
    ReturnsInHanded {} Try.checked os 8 .any (Rows.fnSPIStringOneByteChangeSpec.pre6 enc Try.prog Try.f8 Rows.fnSPIStringOneByteChangeRow.domain false) (Rows.fnSPIStringOneByteChangeSpec.post enc Try.prog Try.f8 false true false false) := by
  refine returnsInHanded_of_change (C := Try.checked) own started (by kernel_rfl) Try.func8
    (ChangeSpec.witness6 (enc := enc) (C := Try.checked) false ⟨#[], #[.agg #[.int .u8 0, .int .u8 0, .int .u8 0, .int .u8 0, .int .u8 0, .int .u8 0, .int .u8 0, .int .u8 0], .int .i64 0, .int .u8 0], []⟩ 8 (by kernel_rfl) (by kernel_rfl) (by kernel_rfl) (by kernel_rfl)) ?_
  intro W base args ds gs before hval0 hW hcnd _
  have hval : ∀ (j : Nat) t v, Try.f8.params[j]? = some t → args[j]? = some v → Value.okWide Try.prog W .any base t v := hval0
  have hW' := hW
  obtain ⟨p, q, hA0, hV, rfl, hfz, hnd⟩ := hW
  have hA : DataW.TrodAll enc Try.prog W 0 (fun _ => true) true Try.f8.params.toList args.toList ds p := hA0
  rw [Try.params8] at hA hval
  obtain ⟨v0, vs0, d0, ds0, p0, q0, hargs, rfl, rfl, h0, r0⟩ := trodAll_cons hA
  obtain ⟨v1, vs1, d1, ds1, p1, q1, rfl, rfl, rfl, h1, r1⟩ := trodAll_cons r0
  obtain ⟨v2, vs2, d2, ds2, p2, q2, rfl, rfl, rfl, h2, r2⟩ := trodAll_cons r1
  obtain ⟨rfl, rfl, rfl⟩ := trodAll_nil r2
  obtain rfl : args = #[v0, v1, v2] := by cases args; simp_all
  obtain ⟨rfl, rfl⟩ := trodVars_none hV
  have k0 := h0
  have lt0 : ∀ x ∈ p0, x.block < W.heap.size := by obtain ⟨m, hm⟩ := k0; exact DataW.trod_lt m _ _ _ hm
  obtain ⟨x0, x1, x2, x3, x4, x5, x6, x7, rfl, b0, b1, b2, b3, b4, b5, b6, b7⟩ := open8 (hval 0 35 v0 rfl rfl) h0
  obtain ⟨a1, rfl, rfl, rfl, w1⟩ := open_int Try.underlying3 (hval 1 3 v1 rfl rfl) h1
  obtain ⟨a2, rfl, rfl, rfl, w2⟩ := open_int Try.underlying5 (hval 2 5 v2 rfl rfl) h2
  have bv : isB a2 := by
    have := bounds_u8 w2
    exact ⟨by omega, by omega⟩
  clear hA0 hval0
  refine (walkOne x0 x1 x2 x3 x4 x5 x6 x7 a1 a2 W b0 b1 b2 b3 b4 b5 b6 b7 bv).mono fun e W' ⟨he, bel⟩ => ?_
  subst he
  exact ⟨_, rfl, _, _, _, [], _, [], hW', trodAll_mk1 (shut_bool Try.underlying4 _), (trodAll_cons_mk (Below.trod laidOut (by kernel_rfl) (of_decide_eq_true (by kernel_rfl)) k0 bel lt0) (trodAll_cons_mk (shut_int Try.underlying3 w1) (trodAll_cons_mk (shut_int Try.underlying5 w2) trodAll_mk0))), rfl, bel.frame _, fun h => by cases h⟩

theorem overOne : Rows.fnSPIStringOneByteChangeRow.holds Try.pinned (OpenSpec.ofChange Rows.fnSPIStringOneByteChangeSpec) :=
  OpenClaim.holds_of_wide 8 Try.f8 rfl rfl rfl rfl rfl rfl rfl ⟨rfl, rfl, rfl, rfl, rfl⟩ rfl rfl rfl rfl rfl (by kernel_rfl) Try.func8 (by kernel_rfl)
    (of_decide_eq_true (by kernel_rfl)) (by unfold Func.isWrapper; first | (rw [if_pos (by decide +kernel)]; kernel_rfl) | (rw [if_neg (by decide +kernel)]; exact ⟨rfl, rfl⟩))
    (fun os started H enc _ => liftedOne os started H enc)

/-- THE STATEMENT. -/
theorem provedOne : Rows.FnSPIStringOneByteChangeSaid := overOne
#print axioms provedOne
end Go.Proofs.Qxb6613140a.Spi
