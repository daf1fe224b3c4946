import Derived.Test.Qxb6613140aDec
import Derived.Test.Qxb6613140aLess
import Derived.Test.Qxb6613140aEq
namespace Go.Proofs.Qxb6613140a.Spi
open Go.ChangeShapes Go.WideShapes Go.RowKit Go.Lib

/-! The sixteen digits of eight bytes: no Go in sight. -/

def hexB (c : Nat) : Bool := (48 ≤ c && c ≤ 57) || (97 ≤ c && c ≤ 102)
theorem isHex_of (c : Nat) (h : hexB c = true) : isHex (c : Int) := by
  simp [hexB] at h
  unfold isHex
  omega
theorem digit_hex : ∀ d : Fin 16, hexB (Hx.digit d.val).toNat = true := by decide +kernel
theorem digit_isHex (d : Nat) (h : d < 16) : isHex ((Hx.digit d).toNat : Int) := isHex_of _ (digit_hex ⟨d, h⟩)

theorem join_all : ∀ n : Fin 256, bits .or .u8 (hv ((Hx.digit (n.val / 16)).toNat : Int) * 16 % 256) (hv ((Hx.digit (n.val % 16)).toNat : Int)) = (n.val : Int) := by decide +kernel
theorem byte_of (x : Int) (h : isB x) : (UInt8.ofNat x.toNat).toNat = x.toNat := Hx.byte_toNat x h.1 h.2
theorem join_byte (x : Int) (h : isB x) : bits .or .u8 (hv ((Hx.digit ((UInt8.ofNat x.toNat).toNat / 16)).toNat : Int) * 16 % 256) (hv ((Hx.digit ((UInt8.ofNat x.toNat).toNat % 16)).toNat : Int)) = x := by
  obtain ⟨h0, h1⟩ := h
  rw [byte_of x ⟨h0, h1⟩]
  have e := join_all ⟨x.toNat, by omega⟩
  rw [e]
  show ((x.toNat : Nat) : Int) = x
  omega

theorem lt16' {k : Nat} (h : k < 16) : k = 0 ∨ k = 1 ∨ k = 2 ∨ k = 3 ∨ k = 4 ∨ k = 5 ∨ k = 6 ∨ k = 7 ∨ k = 8 ∨ k = 9 ∨ k = 10 ∨ k = 11 ∨ k = 12 ∨ k = 13 ∨ k = 14 ∨ k = 15 := by omega
theorem hi_lt (x : Int) (h : isB x) : (UInt8.ofNat x.toNat).toNat / 16 < 16 := by rw [byte_of x h]; obtain ⟨h0, h1⟩ := h; omega
theorem lo_lt (x : Int) : (UInt8.ofNat x.toNat).toNat % 16 < 16 := by omega

theorem spells (x0 x1 x2 x3 x4 x5 x6 x7 : Int) (h0 : isB x0) (h1 : isB x1) (h2 : isB x2) (h3 : isB x3) (h4 : isB x4) (h5 : isB x5) (h6 : isB x6) (h7 : isB x7) : Spells (hex x0 x1 x2 x3 x4 x5 x6 x7) x0 x1 x2 x3 x4 x5 x6 x7 where
  size := rfl
  hex := by
    intro k h
    have hk : k < 16 := h
    rcases lt16' hk with rfl | rfl | rfl | rfl | rfl | rfl | rfl | rfl | rfl | rfl | rfl | rfl | rfl | rfl | rfl | rfl
    · exact digit_isHex _ (hi_lt x0 h0)
    · exact digit_isHex _ (lo_lt x0)
    · exact digit_isHex _ (hi_lt x1 h1)
    · exact digit_isHex _ (lo_lt x1)
    · exact digit_isHex _ (hi_lt x2 h2)
    · exact digit_isHex _ (lo_lt x2)
    · exact digit_isHex _ (hi_lt x3 h3)
    · exact digit_isHex _ (lo_lt x3)
    · exact digit_isHex _ (hi_lt x4 h4)
    · exact digit_isHex _ (lo_lt x4)
    · exact digit_isHex _ (hi_lt x5 h5)
    · exact digit_isHex _ (lo_lt x5)
    · exact digit_isHex _ (hi_lt x6 h6)
    · exact digit_isHex _ (lo_lt x6)
    · exact digit_isHex _ (hi_lt x7 h7)
    · exact digit_isHex _ (lo_lt x7)
  e0 := join_byte x0 h0
  e1 := join_byte x1 h1
  e2 := join_byte x2 h2
  e3 := join_byte x3 h3
  e4 := join_byte x4 h4
  e5 := join_byte x5 h5
  e6 := join_byte x6 h6
  e7 := join_byte x7 h7

/-! ### The order -/
theorem digit_lt : ∀ a b : Fin 16, decide (Hx.digit a.val < Hx.digit b.val) = decide (a.val < b.val) := by decide +kernel
theorem digit_eq : ∀ a b : Fin 16, (Hx.digit a.val == Hx.digit b.val) = decide (a.val = b.val) := by decide +kernel
theorem digit_lt' (a b : Nat) (ha : a < 16) (hb : b < 16) : decide (Hx.digit a < Hx.digit b) = decide (a < b) := digit_lt ⟨a, ha⟩ ⟨b, hb⟩
theorem digit_eq' (a b : Nat) (ha : a < 16) (hb : b < 16) : (Hx.digit a == Hx.digit b) = decide (a = b) := digit_eq ⟨a, ha⟩ ⟨b, hb⟩

theorem less_pair (x y : Int) (hx : isB x) (hy : isB y) (l m : List UInt8) :
    Op.bytesLess (Hx.digit ((UInt8.ofNat x.toNat).toNat / 16) :: Hx.digit ((UInt8.ofNat x.toNat).toNat % 16) :: l) (Hx.digit ((UInt8.ofNat y.toNat).toNat / 16) :: Hx.digit ((UInt8.ofNat y.toNat).toNat % 16) :: m) =
      if x = y then Op.bytesLess l m else decide (x < y) := by
  have a1 := digit_lt' _ _ (hi_lt x hx) (hi_lt y hy)
  have a2 := digit_eq' _ _ (hi_lt x hx) (hi_lt y hy)
  have a3 := digit_lt' _ _ (lo_lt x) (lo_lt y)
  have a4 := digit_eq' _ _ (lo_lt x) (lo_lt y)
  simp only [Op.bytesLess, a1, a2, a3, a4]
  rw [byte_of x hx, byte_of y hy]
  obtain ⟨h0, h1⟩ := hx
  obtain ⟨g0, g1⟩ := hy
  by_cases e : x = y
  · subst e
    simp
  · rw [if_neg e]
    rw [Bool.eq_iff_iff]
    simp only [Bool.or_eq_true, Bool.and_eq_true, decide_eq_true_eq]
    constructor
    · rintro (h | ⟨h, h' | ⟨h', _⟩⟩)
      · omega
      · omega
      · exfalso; omega
    · intro h
      by_cases q : x.toNat / 16 < y.toNat / 16
      · exact .inl q
      · refine .inr ⟨by omega, .inl (by omega)⟩

theorem eq_pair (x y : Int) (hx : isB x) (hy : isB y) (l m : List UInt8) :
    ((Hx.digit ((UInt8.ofNat x.toNat).toNat / 16) :: Hx.digit ((UInt8.ofNat x.toNat).toNat % 16) :: l) == (Hx.digit ((UInt8.ofNat y.toNat).toNat / 16) :: Hx.digit ((UInt8.ofNat y.toNat).toNat % 16) :: m)) = (x == y && l == m) := by
  have a2 := digit_eq' _ _ (hi_lt x hx) (hi_lt y hy)
  have a4 := digit_eq' _ _ (lo_lt x) (lo_lt y)
  rw [List.cons_beq_cons, List.cons_beq_cons]
  simp only [a2, a4]
  rw [byte_of x hx, byte_of y hy]
  obtain ⟨h0, h1⟩ := hx
  obtain ⟨g0, g1⟩ := hy
  rw [Bool.eq_iff_iff]
  simp only [Bool.and_eq_true, decide_eq_true_eq, beq_iff_eq]
  constructor
  · rintro ⟨h, h', h''⟩
    exact ⟨by omega, h''⟩
  · rintro ⟨rfl, h⟩
    exact ⟨rfl, rfl, h⟩

theorem hex_list (x0 x1 x2 x3 x4 x5 x6 x7 : Int) : (hex x0 x1 x2 x3 x4 x5 x6 x7).toList = Hx.encode (Lib.bytesOf [x0, x1, x2, x3, x4, x5, x6, x7]) := by
  rw [ByteArray.toList_eq]; rfl

theorem less_hex (x0 x1 x2 x3 x4 x5 x6 x7 y0 y1 y2 y3 y4 y5 y6 y7 : Int) (h0 : isB x0) (h1 : isB x1) (h2 : isB x2) (h3 : isB x3) (h4 : isB x4) (h5 : isB x5) (h6 : isB x6) (h7 : isB x7)
    (g0 : isB y0) (g1 : isB y1) (g2 : isB y2) (g3 : isB y3) (g4 : isB y4) (g5 : isB y5) (g6 : isB y6) (g7 : isB y7) :
    Op.bytesLess (hex x0 x1 x2 x3 x4 x5 x6 x7).toList (hex y0 y1 y2 y3 y4 y5 y6 y7).toList = lex [x0, x1, x2, x3, x4, x5, x6, x7] [y0, y1, y2, y3, y4, y5, y6, y7] := by
  rw [hex_list, hex_list]
  simp only [Lib.bytesOf, List.map_cons, List.map_nil, Hx.encode_cons]
  rw [less_pair x0 y0 h0 g0, less_pair x1 y1 h1 g1, less_pair x2 y2 h2 g2, less_pair x3 y3 h3 g3, less_pair x4 y4 h4 g4, less_pair x5 y5 h5 g5, less_pair x6 y6 h6 g6, less_pair x7 y7 h7 g7]
  simp only [lex]
  rfl

theorem eq_hex (x0 x1 x2 x3 x4 x5 x6 x7 y0 y1 y2 y3 y4 y5 y6 y7 : Int) (h0 : isB x0) (h1 : isB x1) (h2 : isB x2) (h3 : isB x3) (h4 : isB x4) (h5 : isB x5) (h6 : isB x6) (h7 : isB x7)
    (g0 : isB y0) (g1 : isB y1) (g2 : isB y2) (g3 : isB y3) (g4 : isB y4) (g5 : isB y5) (g6 : isB y6) (g7 : isB y7) :
    ((hex x0 x1 x2 x3 x4 x5 x6 x7).toList == (hex y0 y1 y2 y3 y4 y5 y6 y7).toList) = eq8 x0 x1 x2 x3 x4 x5 x6 x7 y0 y1 y2 y3 y4 y5 y6 y7 := by
  rw [hex_list, hex_list]
  simp only [Lib.bytesOf, List.map_cons, List.map_nil, Hx.encode_cons]
  rw [eq_pair x0 y0 h0 g0, eq_pair x1 y1 h1 g1, eq_pair x2 y2 h2 g2, eq_pair x3 y3 h3 g3, eq_pair x4 y4 h4 g4, eq_pair x5 y5 h5 g5, eq_pair x6 y6 h6 g6, eq_pair x7 y7 h7 g7]
  unfold eq8
  rw [show ((Hx.encode [] : List UInt8) == Hx.encode []) = true from rfl, Bool.and_true]
end Go.Proofs.Qxb6613140a.Spi
