import Derived.Test.Qxb6600523aMp
namespace Go.Proofs.Qxb6600523a.Jp
open Go.ChangeShapes Go.WideShapes Go.RowKit
open Go.Maps (Keyed int_keyed keyOf_int_mk)
set_option linter.unusedVariables false

set_option maxRecDepth 100000 in
set_option maxHeartbeats 8000000 in
theorem find_idx_x (B J D : Nat) (A : Nat → List (Nat × Nat)) (w : World) (O : Nat) (slot : Nat → Value) (ix : Value) (τ : Nat → Role) (h : Jn B J D A w O slot ix τ) (x y : Nat) (hD : D ≤ 65536) (hx : x < D) (hy : y < D) (hB : B ≤ w.heap.size)
    (hlx : (A x).length ≤ 65536) (hly : (A y).length ≤ 65536) (hsw : (A x).length < (A y).length) (h64 : 64 < (A x).length) (h64' : 64 < (A y).length) (V : Option Nat) (hV : look (A x) y = V) (hdist : Dist (A x)) (hbd : ∀ k, ((A x).getD k (0, 0)).1 ≤ 65536 ∧ ((A x).getD k (0, 0)).2 ≤ 65536) :
    Calls Try.prog 20 #[.pointer (some ⟨J, 0, none⟩), .int .i64 x, .int .i64 y] w fun e w' => FindPost B J D A V w e w' := by
  obtain ⟨ax, cx, nx, hsx, hnx, kx, gx⟩ := h.slot_form hx
  have hrx := h.rows x hx
  obtain ⟨ay, cy, ny, _, hny, ky, gy⟩ := h.slot_form hy
  have c0 := h.c0
  have c1 := h.c1
  have f1 := h.f1
  have c2 := h.c2
  have hJ := h.J_lt
  have hO := h.rO.lt
  have e1 : ((-1 : Int) == (y : Int)) = false := beq_eq_false_iff_ne.2 (by omega)
  have e2 : ((-1 : Int) == (x : Int)) = false := beq_eq_false_iff_ne.2 (by omega)
  have hcmp : nx < ny := by omega
  have hn64 : 64 < nx := by omega
  have hn64' : 64 < ny := by omega
  have hnx' : nx ≤ 65536 := by omega
  have hny' : ny ≤ 65536 := by omega
  have HH : Hid (Jn B J D A w O slot ix τ) := h
  have HV : Hid (look (A x) y = V) := hV
  have HN : Hid (nx = (A x).length) := hnx
  have HDI : Hid (Dist (A x)) := hdist
  have HBD : Hid (∀ k, ((A x).getD k (0, 0)).1 ≤ 65536 ∧ ((A x).getD k (0, 0)).2 ≤ 65536) := hbd
  have hxc : ∃ gb, ax = some ⟨gb, 0, none⟩ ∧ nx ≤ cx := by
    rcases hrx.2 with ⟨e, e2⟩ | ⟨gb, cap, cur, e, hb, hgh, hc, _⟩
    · omega
    · rw [hsx] at e; cases e
      exact ⟨gb, rfl, by omega⟩
  obtain ⟨gb, rfl, hxc⟩ := hxc
  have HSX : Hid (slot x = .slice (some ⟨gb, 0, none⟩) nx cx) := hsx
  obtain ⟨ia, ni, ic, hie, hni, hio⟩ : ∃ ia ni ic, ix = .slice ia ni ic ∧ ni ≤ 65536 ∧ ((ia = none ∧ ni = 0 ∧ ic = 0) ∨ (ni = D ∧ ∃ X, ia = some ⟨X, 0, none⟩)) := by
    rcases h.idx with e | ⟨X0, cap0, mp0, e, _⟩
    · exact ⟨none, 0, 0, e, by omega, Or.inl ⟨rfl, rfl, rfl⟩⟩
    · exact ⟨_, D, cap0, e, hD, Or.inr ⟨rfl, X0, rfl⟩⟩
  subst hie
  have HIO : Hid ((ia = none ∧ ni = 0 ∧ ic = 0) ∨ (ni = D ∧ ∃ X, ia = some ⟨X, 0, none⟩)) := hio
  clear h hV gx gy hnx hny hlx hly hsw h64 h64' hdist hio hrx hsx hbd
  go_enter Try.func20, Try.ntmps20
  go_wp2_with fail
  go_quiet (fail)
  go_wp2_with fail
  go_quiet (fail)
  go_upto_if 140 with fail
  go_cut [] from 17 to 213 (fun wx => Hid (Indexed B J D A O slot w wx))
  case first =>
    rcases HIO.out with ⟨rfl, rfl, rfl⟩ | ⟨rfl, X0, rfl⟩
    · have hlt : (0 : Int) < (D : Int) := by omega
      have hwrap : IntKind.i64.wrap (D : Int) = D := IntWalk.i64_in _ (by omega)
      clear HIO
      go_wp2_with fail
      go_region_law (refine step_index rfl (.tmp 145) (.tmp 156) rfl D rfl (by first | rfl | simp [Act.eval, Act.put, hwrap]) (by omega) hD ?_
                     intro cap w2 hcap hrow hgr
                     have HI := indexed HH.out hB hcap hrow ⟨hgr.os, hgr.tape, hgr.output, hgr.size, hgr.block⟩
                     have hc0 := (World.cell?_of_block (w := w) (a := ⟨J, 0, none⟩) (hgr.block J hJ (by simp))).trans c0
                     have hc1 := (World.cell?_of_block (w := w) (a := ⟨J, 1, none⟩) (hgr.block J hJ (by simp))).trans c1
                     have hf1 := (World.frozen?_of_block (w := w) (a := ⟨J, 1, none⟩) (hgr.block J hJ (by simp))).trans f1
                     have HI' : Hid _ := HI
                     clear hrow hgr HI)
      all_goals (go_wp2_with fail; go_meet; case rel => exact HI')
    · go_wp2_with fail
      go_meet
      case rel => exact ⟨jx_of (HH.out.below ⟨rfl, rfl, rfl, Nat.le_refl _, fun _ _ => rfl⟩), ⟨rfl, rfl, rfl, Nat.le_refl _, fun _ _ => rfl⟩⟩
  case rest =>
    rename World => w2
    obtain ⟨⟨X, cap, mp, τ2, HX⟩, hb2⟩ := hcut.out
    have HX2 : Hid (Jx B J D A w2 O slot X cap mp τ2) := HX
    have HB2 : Hid (Below B w w2) := hb2
    have c0' := HX.jn.c0
    have c1' := HX.jn.c1
    have kx' : w2.cell? ⟨O, x, none⟩ = some (.slice (some ⟨gb, 0, none⟩) nx cx) := (HX.jn.rO.cell hx).trans (congrArg some HSX.out)
    have hJ2 := HX.jn.J_lt
    have hO2 := HX.jn.rO.lt
    have hX2 := HX.hr.lt
    have hDc := HX.hDc
    have fX : w2.frozen? ⟨X, x, none⟩ = false := HX.hr.frozen x
    obtain ⟨mo, hmo, hmo2⟩ : ∃ mo : Option Nat, mp x = .map mo ∧ (mo = none ∨ ∃ b m, mo = some b ∧ Jm B J D A w2 O slot x b m) := by
      rcases HX.hmp x hx with e | ⟨b, m, e, h1, h2, h3, h4⟩
      · exact ⟨none, e, Or.inl rfl⟩
      · exact ⟨some b, e, Or.inr ⟨b, m, rfl, X, cap, mp, τ2, HX, e, h1, h2, h3, h4⟩⟩
    have kX : w2.cell? ⟨X, x, none⟩ = some (.map mo) := (HX.hr.cell (by omega)).trans (congrArg some hmo)
    have HMO : Hid (mo = none ∨ ∃ b m, mo = some b ∧ Jm B J D A w2 O slot x b m) := hmo2
    have hB2 : B ≤ w2.heap.size := Nat.le_trans hB hb2.size
    have heq := fun wx : World => run_eql_map_nil (P := Try.prog) wx 55 3 3 mo Try.underlying55
    have hmk := run_makeMap_hint (nx : Int)
    have hmade : Jm B J D A ((w2.setCell ⟨X, x, none⟩ (.map (some w2.heap.size))).alloc (.map #[] 0)) O slot x w2.heap.size 0 := by
      rw [← World.setCell_alloc_past _ _ _ _ hX2]; exact HX.made hx hB2
    have HMADE : Hid (Jm B J D A ((w2.setCell ⟨X, x, none⟩ (.map (some w2.heap.size))).alloc (.map #[] 0)) O slot x w2.heap.size 0) := hmade
    have HMB : Hid (Below B w ((w2.setCell ⟨X, x, none⟩ (.map (some w2.heap.size))).alloc (.map #[] 0))) := (hb2.setCell (p := ⟨X, x, none⟩) HX.hBX _).alloc (by simpa [World.setCell] using hB2) _
    clear hmade
    clear HX hb2 hcut hmo hmo2 c0 c1 f1 c2 kx ky HIO HH hJ hO
    go_upto_if 168 with fail
    go_cut [12] from 17 to 213 (fun v wx => ∃ b m, v = .map (some b) ∧ Hid (Jm B J D A wx O slot x b m) ∧ Hid (Below B w wx))
    case first =>
      rcases HMO.out with rfl | ⟨b, m, rfl, HJM⟩
      · go_wp2_with fail
        go_meet
        case rel => exact ⟨_, _, rfl, HMADE, HMB⟩
      · go_wp2_with fail
        go_meet
        case rel => exact ⟨_, _, rfl, HJM, HB2.out⟩
    case rest =>
      rename World => w3
      obtain ⟨b, m, rfl, HM, HB3⟩ := hcut
      clear c0' c1' kx' hJ2 hO2 hX2 fX kX HMO HX2 HB2 hB2 heq hmk HMADE HMB
      obtain ⟨ix3, τ3, HN3⟩ := HM.out.jn
      have hlen := HM.out.len HDI.out
      have hle := HM.out.le
      rw [← HN.out] at hle
      have c0'' := HN3.c0
      have kx'' : w3.cell? ⟨O, x, none⟩ = some (.slice (some ⟨gb, 0, none⟩) nx cx) := (HN3.rO.cell hx).trans (congrArg some HSX.out)
      obtain ⟨a', c', n', hn', ha', hsl⟩ := slice_run gb nx cx m hle hxc
      have HA : Hid (m < nx → a' = some ⟨gb, m * 2, none⟩) := ha'
      clear HN3 ha'
      go_wp2_with fail
      go_quiet (refine ⟨.int .i64 m, fun n => by rw [hlen]; exact And.intro rfl rfl, ?_⟩)
      go_wp2_with fail
      go_loopw [196] (fun i wr => ∃ k : Nat, k ≤ n' ∧ i = .int .i64 k ∧ Hid (Jm B J D A wr O slot x b (m + k)) ∧ Hid (Below B w wr)) (fun i _ => n' - (RowKit.intOf i).toNat)
      case atStart => exact ⟨0, by omega, rfl, HM.out.below ⟨rfl, rfl, rfl, Nat.le_refl _, fun _ _ => rfl⟩, ⟨HB3.out.os, HB3.out.tape, HB3.out.output, HB3.out.size, HB3.out.block⟩⟩
      case round =>
        obtain ⟨k, hk, rfl, HMk, HBk⟩ := hrel
        have hown := HMk.out.owns
        by_cases hlt : k < n'
        · obtain ⟨ix4, τ4, HN4⟩ := HMk.out.jn
          obtain ⟨ao, co, no, hso, hno, _, g4⟩ := HN4.slot_form hx
          obtain rfl := HA.out (by omega)
          have hkl : m + k < (A x).length := by rw [← HN.out]; omega
          obtain ⟨g, hg1, hg2, d0, d1⟩ := g4 (m + k) (by omega)
          rw [HSX.out] at hso
          cases hso
          cases hg1
          have hbk := HBD.out (m + k)
          have hput := @Jm.put B J D A
          generalize hpr : (A x).getD (m + k) (0, 0) = pr at d0 d1 hbk
          obtain ⟨dv, cb⟩ := pr
          rw [Nat.add_mul] at d0 d1
          have hkey : Go.keyOf Try.prog 3 (.int .i64 dv) = some (.int .i64 dv) := keyOf_int_mk Try.underlying3 (wf_i64 hbk.1)
          have hval : plainElem (H := Unit) Try.prog 3 (.int .i64 cb) = some (.lit (.int .i64 cb), []) := plainElem_int Try.underlying3 (wf_i64 hbk.2)
          have hwr : B ≤ wr.heap.size := Nat.le_trans hB HBk.out.size
          have HPR : Hid ((A x).getD (m + k) (0, 0) = (dv, cb)) := hpr
          have hml : m + k < maxLen := Nat.lt_of_le_of_lt (show m + k ≤ 65536 by omega) (by decide)
          have HKL : Hid (m + k < (A x).length) := hkl
          clear HN4 g4 hpr hkl hno hput
          go_wp2_with (first | (at_mapUpdate; refine wpList_mapUpdate_own _ rfl _ _ _ 55 rfl 3 3 law3 Try.underlying55 _ b (m + k) (putAll ((A x).take (m + k))) rfl (hown.alloc _) hml _ _ (.int .i64 dv) rfl rfl hkey (.lit (.int .i64 cb)) [] hval ?_
                                intro w1 hown1 hgrow1
                                have HJ1 : Hid (Jm B J D A w1 O slot x b (m + k + 1)) := (HMk.out.below ((Below.refl _ _).alloc (Nat.le_refl _) _)).put hx HKL.out hgrow1 (by rw [HPR.out]; exact hown1)
                                have HB1 : Hid (Below B w w1) := (HBk.out.alloc hwr _).grown hgrow1 (by show B ≤ (wr.heap.push _).size; rw [Array.size_push]; omega) (fun k e => by cases e; exact HMk.out.ge)
                                clear hown1 hgrow1) | fail)
          exact ⟨⟨k + 1, by omega, by go_num, HJ1, HB1⟩, by simp [RowKit.intOf]; omega⟩
        · have hkeyy : Go.keyOf Try.prog 3 (.int .i64 y) = some (.int .i64 y) := keyOf_int_mk Try.underlying3 (wf_i64 (by omega))
          obtain ⟨ix4, τ4, HN4⟩ := HMk.out.jn
          have HN5 : Hid (Jn B J D A wr O slot ix4 τ4) := HN4
          have hall : m + k = (A x).length := by rw [← HN.out]; omega
          have hF := (putAll_facts (A x) HDI.out (m + k) HMk.out.le).2.2 y
          have HF : Hid (Maps.has (putAll ((A x).take (m + k))) (.int .i64 y) = V.isSome ∧ (putAll ((A x).take (m + k))).atKey (.int .i64 y) (.lit (.int .i64 0)) = .lit (.int .i64 ((V.getD 0 : Nat) : Int))) := by
            rw [← HV.out]
            have e : look ((A x).take (m + k)) y = look (A x) y := by rw [hall, List.take_length]
            rw [e] at hF
            exact hF
          clear hF hall HN4
          go_wp2_with (first | (at_lookup; refine wpList_lookup_own_ok_int _ rfl _ _ 55 rfl 3 3 .i64 law3 Try.underlying55 Try.underlying3 (zero3 _) b (m + k) (putAll ((A x).take (m + k))) rfl hown _ (.int .i64 y) rfl hkeyy ?_
                                intro c hat hwc
                                have HAT : Hid _ := hat
                                clear hat) | fail)
          go_ret2
          have e0 := HAT.out.symm.trans HF.out.2
          injection e0 with e0
          injection e0 with _ e0
          exact ⟨ret2 e0 HF.out.1, ⟨O, slot, ix4, τ4, HN5.out⟩, HBk.out⟩
end Go.Proofs.Qxb6600523a.Jp
