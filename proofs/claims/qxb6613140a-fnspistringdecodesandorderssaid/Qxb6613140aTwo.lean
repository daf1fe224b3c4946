import Derived.Test.Qxb6613140aDec
import Derived.Test.Qxb6613140aLess
import Derived.Test.Qxb6613140aEq
namespace Go.Proofs.Qxb6613140a.Spi
open Go.ChangeShapes Go.WideShapes Go.RowKit Go.Lib

/-- Eight bytes lie at block b. -/
structure At8 (W : World) (b : Nat) (x0 x1 x2 x3 x4 x5 x6 x7 : Int) : Prop where
  c0 : W.cell? ⟨b, 0, none⟩ = some (.int .u8 x0)
  c1 : W.cell? ⟨b, 1, none⟩ = some (.int .u8 x1)
  c2 : W.cell? ⟨b, 2, none⟩ = some (.int .u8 x2)
  c3 : W.cell? ⟨b, 3, none⟩ = some (.int .u8 x3)
  c4 : W.cell? ⟨b, 4, none⟩ = some (.int .u8 x4)
  c5 : W.cell? ⟨b, 5, none⟩ = some (.int .u8 x5)
  c6 : W.cell? ⟨b, 6, none⟩ = some (.int .u8 x6)
  c7 : W.cell? ⟨b, 7, none⟩ = some (.int .u8 x7)

theorem At8.below {W w' : World} {B b : Nat} {x0 x1 x2 x3 x4 x5 x6 x7 : Int} (h : At8 W b x0 x1 x2 x3 x4 x5 x6 x7) (hb : Below B W w') (hB : b < B) : At8 w' b x0 x1 x2 x3 x4 x5 x6 x7 :=
  ⟨(hb.cell (p := ⟨b, 0, none⟩) hB).trans h.c0, (hb.cell (p := ⟨b, 1, none⟩) hB).trans h.c1, (hb.cell (p := ⟨b, 2, none⟩) hB).trans h.c2, (hb.cell (p := ⟨b, 3, none⟩) hB).trans h.c3, (hb.cell (p := ⟨b, 4, none⟩) hB).trans h.c4, (hb.cell (p := ⟨b, 5, none⟩) hB).trans h.c5, (hb.cell (p := ⟨b, 6, none⟩) hB).trans h.c6, (hb.cell (p := ⟨b, 7, none⟩) hB).trans h.c7⟩
theorem At8.alloc {W : World} {b : Nat} {x0 x1 x2 x3 x4 x5 x6 x7 : Int} (h : At8 W b x0 x1 x2 x3 x4 x5 x6 x7) (hB : b < W.heap.size) (o : Obj) : At8 (W.alloc o) b x0 x1 x2 x3 x4 x5 x6 x7 :=
  h.below ((Below.refl W.heap.size W).alloc (Nat.le_refl _) o) hB
theorem At8.new (W : World) (x0 x1 x2 x3 x4 x5 x6 x7 : Int) : At8 (W.alloc (.cells #[.int .u8 x0, .int .u8 x1, .int .u8 x2, .int .u8 x3, .int .u8 x4, .int .u8 x5, .int .u8 x6, .int .u8 x7] 35)) W.heap.size x0 x1 x2 x3 x4 x5 x6 x7 :=
  ⟨by simp, by simp, by simp, by simp, by simp, by simp, by simp, by simp⟩

set_option maxHeartbeats 1000000 in
theorem two_calls (x0 x1 x2 x3 x4 x5 x6 x7 y0 y1 y2 y3 y4 y5 y6 y7 : Int) (w : World) (h0 : isB x0) (h1 : isB x1) (h2 : isB x2) (h3 : isB x3) (h4 : isB x4) (h5 : isB x5) (h6 : isB x6) (h7 : isB x7)
    (g0 : isB y0) (g1 : isB y1) (g2 : isB y2) (g3 : isB y3) (g4 : isB y4) (g5 : isB y5) (g6 : isB y6) (g7 : isB y7) (SX : Spells (hex x0 x1 x2 x3 x4 x5 x6 x7) x0 x1 x2 x3 x4 x5 x6 x7) (SY : Spells (hex y0 y1 y2 y3 y4 y5 y6 y7) y0 y1 y2 y3 y4 y5 y6 y7)
    (hL : (Op.bytesLess (hex x0 x1 x2 x3 x4 x5 x6 x7).toList (hex y0 y1 y2 y3 y4 y5 y6 y7).toList == lex [x0, x1, x2, x3, x4, x5, x6, x7] [y0, y1, y2, y3, y4, y5, y6, y7]) = true) (hE : (((hex x0 x1 x2 x3 x4 x5 x6 x7).toList == (hex y0 y1 y2 y3 y4 y5 y6 y7).toList) == eq8 x0 x1 x2 x3 x4 x5 x6 x7 y0 y1 y2 y3 y4 y5 y6 y7) = true) :
    Calls Try.prog 7 #[.agg #[.int .u8 x0, .int .u8 x1, .int .u8 x2, .int .u8 x3, .int .u8 x4, .int .u8 x5, .int .u8 x6, .int .u8 x7], .agg #[.int .u8 y0, .int .u8 y1, .int .u8 y2, .int .u8 y3, .int .u8 y4, .int .u8 y5, .int .u8 y6, .int .u8 y7]] w fun e w' => e = .returned (.bool true) ∧ Below w.heap.size w w' := by
  have HL : Hid ((Op.bytesLess (hex x0 x1 x2 x3 x4 x5 x6 x7).toList (hex y0 y1 y2 y3 y4 y5 y6 y7).toList == lex [x0, x1, x2, x3, x4, x5, x6, x7] [y0, y1, y2, y3, y4, y5, y6, y7]) = true) := hL
  have HE : Hid ((((hex x0 x1 x2 x3 x4 x5 x6 x7).toList == (hex y0 y1 y2 y3 y4 y5 y6 y7).toList) == eq8 x0 x1 x2 x3 x4 x5 x6 x7 y0 y1 y2 y3 y4 y5 y6 y7) = true) := hE
  clear hL hE
  have ax0 := (At8.new w x0 x1 x2 x3 x4 x5 x6 x7).alloc (by simp) (.cells #[.int .u8 y0, .int .u8 y1, .int .u8 y2, .int .u8 y3, .int .u8 y4, .int .u8 y5, .int .u8 y6, .int .u8 y7] 35)
  have ay0 := At8.new (w.alloc (.cells #[.int .u8 x0, .int .u8 x1, .int .u8 x2, .int .u8 x3, .int .u8 x4, .int .u8 x5, .int .u8 x6, .int .u8 x7] 35)) y0 y1 y2 y3 y4 y5 y6 y7
  have Bl0 : Hid (Below w.heap.size w ((w.alloc (.cells #[.int .u8 x0, .int .u8 x1, .int .u8 x2, .int .u8 x3, .int .u8 x4, .int .u8 x5, .int .u8 x6, .int .u8 x7] 35)).alloc (.cells #[.int .u8 y0, .int .u8 y1, .int .u8 y2, .int .u8 y3, .int .u8 y4, .int .u8 y5, .int .u8 y6, .int .u8 y7] 35))) := ((Below.refl _ _).alloc (Nat.le_refl _) _).alloc (by simp) _
  have hs0 : ((w.alloc (.cells #[.int .u8 x0, .int .u8 x1, .int .u8 x2, .int .u8 x3, .int .u8 x4, .int .u8 x5, .int .u8 x6, .int .u8 x7] 35)).alloc (.cells #[.int .u8 y0, .int .u8 y1, .int .u8 y2, .int .u8 y3, .int .u8 y4, .int .u8 y5, .int .u8 y6, .int .u8 y7] 35)).heap.size = w.heap.size + 2 := by simp
  have HS0 : Hid (((w.alloc (.cells #[.int .u8 x0, .int .u8 x1, .int .u8 x2, .int .u8 x3, .int .u8 x4, .int .u8 x5, .int .u8 x6, .int .u8 x7] 35)).alloc (.cells #[.int .u8 y0, .int .u8 y1, .int .u8 y2, .int .u8 y3, .int .u8 y4, .int .u8 y5, .int .u8 y6, .int .u8 y7] 35)).heap.size = w.heap.size + 2) := hs0
  clear hs0
  rw [World.size_alloc] at ay0
  go_enter Try.func7, Try.ntmps7
  go_wp2_with fail
  refine (str_calls _ _ _ _ _ _ _ _ _ h0 h1 h2 h3 h4 h5 h6 h7).mono ?_
  rintro e w1 ⟨rfl, hb1⟩
  have ax1 := ax0.below hb1 (by rw [HS0.out]; omega)
  have ay1 := ay0.below hb1 (by rw [HS0.out]; omega)
  have hz1 : w.heap.size + 1 < w1.heap.size := by have := hb1.size; rw [HS0.out] at this; omega
  have Bl1 : Hid (Below w.heap.size w w1) := Bl0.out.trans (hb1.mono (by rw [HS0.out]; omega))
  clear ax0 ay0 HS0 Bl0 hb1
  generalize hex x0 x1 x2 x3 x4 x5 x6 x7 = A at SX HL HE ⊢
  obtain ⟨cx0, cx1, cx2, cx3, cx4, cx5, cx6, cx7⟩ := ax1
  obtain ⟨cy0, cy1, cy2, cy3, cy4, cy5, cy6, cy7⟩ := ay1
  go_wp2_with fail
  refine (str_calls _ _ _ _ _ _ _ _ _ g0 g1 g2 g3 g4 g5 g6 g7).mono ?_
  rintro e w2 ⟨rfl, hb2⟩
  have ax2 : At8 w2 w.heap.size x0 x1 x2 x3 x4 x5 x6 x7 := (At8.mk cx0 cx1 cx2 cx3 cx4 cx5 cx6 cx7).below hb2 (by omega)
  have ay2 : At8 w2 (w.heap.size + 1) y0 y1 y2 y3 y4 y5 y6 y7 := (At8.mk cy0 cy1 cy2 cy3 cy4 cy5 cy6 cy7).below hb2 (by omega)
  have hz2 : w.heap.size + 1 < w2.heap.size := by have := hb2.size; omega
  have Bl2 : Hid (Below w.heap.size w w2) := Bl1.out.trans (hb2.mono (by omega))
  clear hb2 Bl1 cx0 cx1 cx2 cx3 cx4 cx5 cx6 cx7 cy0 cy1 cy2 cy3 cy4 cy5 cy6 cy7
  generalize hex y0 y1 y2 y3 y4 y5 y6 y7 = C at SY HL HE ⊢
  go_wp2_with fail
  refine (dec_calls _ _ _ _ _ _ _ _ _ _ SX).mono ?_
  rintro e w3 ⟨rfl, hb3⟩
  have ax3 := (ax2.below hb3 (by omega)).alloc (by have := hb3.size; omega) (.cells #[.int .u8 x0, .int .u8 x1, .int .u8 x2, .int .u8 x3, .int .u8 x4, .int .u8 x5, .int .u8 x6, .int .u8 x7] 35)
  have ay3 := (ay2.below hb3 (by omega)).alloc (by have := hb3.size; omega) (.cells #[.int .u8 x0, .int .u8 x1, .int .u8 x2, .int .u8 x3, .int .u8 x4, .int .u8 x5, .int .u8 x6, .int .u8 x7] 35)
  have az3 := At8.new w3 x0 x1 x2 x3 x4 x5 x6 x7
  have hz3 : w.heap.size + 1 < w3.heap.size := by have := hb3.size; omega
  have Bl3 : Hid (Below w.heap.size w (w3.alloc (.cells #[.int .u8 x0, .int .u8 x1, .int .u8 x2, .int .u8 x3, .int .u8 x4, .int .u8 x5, .int .u8 x6, .int .u8 x7] 35))) := (Bl2.out.trans (hb3.mono (by omega))).alloc (by omega) _
  clear hb3 Bl2 ax2 ay2
  go_wp2_with fail
  refine (dec_calls _ _ _ _ _ _ _ _ _ _ SY).mono ?_
  rintro e w4 ⟨rfl, hb4⟩
  have ax4 := (ax3.below hb4 (by simp; omega)).alloc (by have := hb4.size; simp at this; omega) (.cells #[.int .u8 y0, .int .u8 y1, .int .u8 y2, .int .u8 y3, .int .u8 y4, .int .u8 y5, .int .u8 y6, .int .u8 y7] 35)
  have ay4 := (ay3.below hb4 (by simp; omega)).alloc (by have := hb4.size; simp at this; omega) (.cells #[.int .u8 y0, .int .u8 y1, .int .u8 y2, .int .u8 y3, .int .u8 y4, .int .u8 y5, .int .u8 y6, .int .u8 y7] 35)
  have az4 := (az3.below hb4 (by simp)).alloc (by have := hb4.size; simp at this; omega) (.cells #[.int .u8 y0, .int .u8 y1, .int .u8 y2, .int .u8 y3, .int .u8 y4, .int .u8 y5, .int .u8 y6, .int .u8 y7] 35)
  have aw4 := At8.new w4 y0 y1 y2 y3 y4 y5 y6 y7
  have hz4 : w3.heap.size < w4.heap.size := by have := hb4.size; simp at this; omega
  have Bl4 : Hid (Below w.heap.size w (w4.alloc (.cells #[.int .u8 y0, .int .u8 y1, .int .u8 y2, .int .u8 y3, .int .u8 y4, .int .u8 y5, .int .u8 y6, .int .u8 y7] 35))) := (Bl3.out.trans (hb4.mono (by simp; omega))).alloc (by omega) _
  clear hb4 Bl3 ax3 ay3 az3
  obtain ⟨cx0, cx1, cx2, cx3, cx4, cx5, cx6, cx7⟩ := ax4
  obtain ⟨cy0, cy1, cy2, cy3, cy4, cy5, cy6, cy7⟩ := ay4
  obtain ⟨cz0, cz1, cz2, cz3, cz4, cz5, cz6, cz7⟩ := az4
  have q1 := fun W => run_eq8 9998 x0 x1 x2 x3 x4 x5 x6 x7 x0 x1 x2 x3 x4 x5 x6 x7 W
  have q2 := fun W => run_eq8 9998 y0 y1 y2 y3 y4 y5 y6 y7 y0 y1 y2 y3 y4 y5 y6 y7 W
  have q3 := fun W => run_eq8 9998 x0 x1 x2 x3 x4 x5 x6 x7 y0 y1 y2 y3 y4 y5 y6 y7 W
  have r1 : eq8 x0 x1 x2 x3 x4 x5 x6 x7 x0 x1 x2 x3 x4 x5 x6 x7 = true := by simp [eq8]
  have r2 : eq8 y0 y1 y2 y3 y4 y5 y6 y7 y0 y1 y2 y3 y4 y5 y6 y7 = true := by simp [eq8]
  rw [r1] at q1
  rw [r2] at q2
  clear r1 r2
  have hL := HL.out
  have hE := HE.out
  go_wp2_with fail
  refine (less_calls x0 x1 x2 x3 x4 x5 x6 x7 y0 y1 y2 y3 y4 y5 y6 y7 _).mono ?_
  rintro e w5 ⟨rfl, hb5⟩
  have hz5 : (w4.alloc (.cells #[.int .u8 y0, .int .u8 y1, .int .u8 y2, .int .u8 y3, .int .u8 y4, .int .u8 y5, .int .u8 y6, .int .u8 y7] 35)).heap.size = w4.heap.size + 1 := by simp
  have ax5 : At8 w5 w.heap.size x0 x1 x2 x3 x4 x5 x6 x7 := (At8.mk cx0 cx1 cx2 cx3 cx4 cx5 cx6 cx7).below hb5 (by rw [hz5]; omega)
  have ay5 : At8 w5 (w.heap.size + 1) y0 y1 y2 y3 y4 y5 y6 y7 := (At8.mk cy0 cy1 cy2 cy3 cy4 cy5 cy6 cy7).below hb5 (by rw [hz5]; omega)
  have Bl5 : Hid (Below w.heap.size w w5) := Bl4.out.trans (hb5.mono (by rw [hz5]; omega))
  clear hb5 hz5 Bl4 cx0 cx1 cx2 cx3 cx4 cx5 cx6 cx7 cy0 cy1 cy2 cy3 cy4 cy5 cy6 cy7 cz0 cz1 cz2 cz3 cz4 cz5 cz6 cz7 q1 q2
  obtain ⟨cx0, cx1, cx2, cx3, cx4, cx5, cx6, cx7⟩ := ax5
  obtain ⟨cy0, cy1, cy2, cy3, cy4, cy5, cy6, cy7⟩ := ay5
  go_wp2_with fail
  go_ret
  exact ⟨rfl, Bl5.out⟩
end Go.Proofs.Qxb6613140a.Spi
