import Derived.Test.Qxb6613140aStr
import Derived.BigQuiet
import Derived.Deep.QuietTactic
namespace Go.Proofs.Qxb6613140a.Spi
open Go.ChangeShapes Go.WideShapes Go.RowKit Go.Lib

def isHex (c : Int) : Prop := (48 ≤ c ∧ c ≤ 57) ∨ (97 ≤ c ∧ c ≤ 102)
def hv (c : Int) : Int := if c ≤ 57 then c - 48 else c - 87
theorem ret2 {k : IntKind} {a b : Int} (h : a = b) : Ending.returned (.tuple #[.int k a, .bool true]) = .returned (.tuple #[.int k b, .bool true]) := by rw [h]

set_option maxHeartbeats 400000 in
theorem hexVal_calls (c : Int) (w : World) (h : isHex c) :
    Calls Try.prog 24 #[.int .u8 c] w fun e w' => e = .returned (.tuple #[.int .u8 (hv c), .bool true]) ∧ w' = w := by
  rcases h with ⟨h1, h2⟩ | ⟨h1, h2⟩
  · go_enter Try.func24, Try.ntmps24
    go_wp2
    go_ret2
    exact ⟨ret2 (by unfold hv; rw [if_pos h2]), rfl⟩
  · have h3 : ¬ c ≤ 57 := by omega
    have h4 : 48 ≤ c := by omega
    go_enter Try.func24, Try.ntmps24
    go_wp2
    go_ret2
    exact ⟨ret2 (by unfold hv; rw [if_neg (by omega)]; omega), rfl⟩

def outs (x0 x1 x2 x3 x4 x5 x6 x7 : Int) : Nat → Obj
  | 0 => .cells #[.int .u8 0, .int .u8 0, .int .u8 0, .int .u8 0, .int .u8 0, .int .u8 0, .int .u8 0, .int .u8 0] 35
  | 1 => .cells #[.int .u8 x0, .int .u8 0, .int .u8 0, .int .u8 0, .int .u8 0, .int .u8 0, .int .u8 0, .int .u8 0] 35
  | 2 => .cells #[.int .u8 x0, .int .u8 x1, .int .u8 0, .int .u8 0, .int .u8 0, .int .u8 0, .int .u8 0, .int .u8 0] 35
  | 3 => .cells #[.int .u8 x0, .int .u8 x1, .int .u8 x2, .int .u8 0, .int .u8 0, .int .u8 0, .int .u8 0, .int .u8 0] 35
  | 4 => .cells #[.int .u8 x0, .int .u8 x1, .int .u8 x2, .int .u8 x3, .int .u8 0, .int .u8 0, .int .u8 0, .int .u8 0] 35
  | 5 => .cells #[.int .u8 x0, .int .u8 x1, .int .u8 x2, .int .u8 x3, .int .u8 x4, .int .u8 0, .int .u8 0, .int .u8 0] 35
  | 6 => .cells #[.int .u8 x0, .int .u8 x1, .int .u8 x2, .int .u8 x3, .int .u8 x4, .int .u8 x5, .int .u8 0, .int .u8 0] 35
  | 7 => .cells #[.int .u8 x0, .int .u8 x1, .int .u8 x2, .int .u8 x3, .int .u8 x4, .int .u8 x5, .int .u8 x6, .int .u8 0] 35
  | _ => .cells #[.int .u8 x0, .int .u8 x1, .int .u8 x2, .int .u8 x3, .int .u8 x4, .int .u8 x5, .int .u8 x6, .int .u8 x7] 35

def nul : Obj := .cells #[.int .u8 0, .int .u8 0, .int .u8 0, .int .u8 0, .int .u8 0, .int .u8 0, .int .u8 0, .int .u8 0] 35

/-- The string T spells the eight bytes. -/
structure Spells (T : ByteArray) (x0 x1 x2 x3 x4 x5 x6 x7 : Int) : Prop where
  size : T.size = 16
  hex : ∀ k : Nat, (h : k < T.size) → isHex (T[k].toNat : Int)
  e0 : bits .or .u8 (hv ((T[0]'(by omega)).toNat : Int) * 16 % 256) (hv ((T[1]'(by omega)).toNat : Int)) = x0
  e1 : bits .or .u8 (hv ((T[2]'(by omega)).toNat : Int) * 16 % 256) (hv ((T[3]'(by omega)).toNat : Int)) = x1
  e2 : bits .or .u8 (hv ((T[4]'(by omega)).toNat : Int) * 16 % 256) (hv ((T[5]'(by omega)).toNat : Int)) = x2
  e3 : bits .or .u8 (hv ((T[6]'(by omega)).toNat : Int) * 16 % 256) (hv ((T[7]'(by omega)).toNat : Int)) = x3
  e4 : bits .or .u8 (hv ((T[8]'(by omega)).toNat : Int) * 16 % 256) (hv ((T[9]'(by omega)).toNat : Int)) = x4
  e5 : bits .or .u8 (hv ((T[10]'(by omega)).toNat : Int) * 16 % 256) (hv ((T[11]'(by omega)).toNat : Int)) = x5
  e6 : bits .or .u8 (hv ((T[12]'(by omega)).toNat : Int) * 16 % 256) (hv ((T[13]'(by omega)).toNat : Int)) = x6
  e7 : bits .or .u8 (hv ((T[14]'(by omega)).toNat : Int) * 16 % 256) (hv ((T[15]'(by omega)).toNat : Int)) = x7

set_option maxHeartbeats 1000000 in
theorem dec_calls (x0 x1 x2 x3 x4 x5 x6 x7 : Int) (T : ByteArray) (w : World) (S : Spells T x0 x1 x2 x3 x4 x5 x6 x7) :
    Calls Try.prog 19 #[.string T] w fun e w' => e = .returned (.tuple #[.agg #[.int .u8 x0, .int .u8 x1, .int .u8 x2, .int .u8 x3, .int .u8 x4, .int .u8 x5, .int .u8 x6, .int .u8 x7], .bool true]) ∧ Below w.heap.size w w' := by
  have hT : T.size = 16 := S.size
  go_enter Try.func19, Try.ntmps19
  go_wp2_with fail
  go_loopw [5] (fun i wr => ∃ k : Nat, k ≤ 8 ∧ i = .int .i64 k ∧ wr = (w.alloc nul).alloc (outs x0 x1 x2 x3 x4 x5 x6 x7 k)) (fun i _ => 8 - (RowKit.intOf i).toNat)
  case atStart => exact ⟨0, by omega, rfl, rfl⟩
  case round =>
    obtain ⟨k, hk, rfl, rfl⟩ := hrel
    by_cases hlt : k < 8
    · rcases lt8 hlt with rfl | rfl | rfl | rfl | rfl | rfl | rfl | rfl
      · rw [show outs x0 x1 x2 x3 x4 x5 x6 x7 0 = .cells #[.int .u8 0, .int .u8 0, .int .u8 0, .int .u8 0, .int .u8 0, .int .u8 0, .int .u8 0, .int .u8 0] 35 from rfl]
        unfold nul
        go_wp2_with fail
        refine (hexVal_calls _ _ (S.hex 0 (by omega))).mono ?_
        rintro e w' ⟨rfl, rfl⟩
        go_wp2_with fail
        refine (hexVal_calls _ _ (S.hex 1 (by omega))).mono ?_
        rintro e w' ⟨rfl, rfl⟩
        go_wp2_with fail
        rw [S.e0]
        exact ⟨⟨1, by omega, rfl, rfl⟩, by simp [RowKit.intOf]⟩
      · rw [show outs x0 x1 x2 x3 x4 x5 x6 x7 1 = .cells #[.int .u8 x0, .int .u8 0, .int .u8 0, .int .u8 0, .int .u8 0, .int .u8 0, .int .u8 0, .int .u8 0] 35 from rfl]
        unfold nul
        go_wp2_with fail
        refine (hexVal_calls _ _ (S.hex 2 (by omega))).mono ?_
        rintro e w' ⟨rfl, rfl⟩
        go_wp2_with fail
        refine (hexVal_calls _ _ (S.hex 3 (by omega))).mono ?_
        rintro e w' ⟨rfl, rfl⟩
        go_wp2_with fail
        rw [S.e1]
        exact ⟨⟨2, by omega, rfl, rfl⟩, by simp [RowKit.intOf]⟩
      · rw [show outs x0 x1 x2 x3 x4 x5 x6 x7 2 = .cells #[.int .u8 x0, .int .u8 x1, .int .u8 0, .int .u8 0, .int .u8 0, .int .u8 0, .int .u8 0, .int .u8 0] 35 from rfl]
        unfold nul
        go_wp2_with fail
        refine (hexVal_calls _ _ (S.hex 4 (by omega))).mono ?_
        rintro e w' ⟨rfl, rfl⟩
        go_wp2_with fail
        refine (hexVal_calls _ _ (S.hex 5 (by omega))).mono ?_
        rintro e w' ⟨rfl, rfl⟩
        go_wp2_with fail
        rw [S.e2]
        exact ⟨⟨3, by omega, rfl, rfl⟩, by simp [RowKit.intOf]⟩
      · rw [show outs x0 x1 x2 x3 x4 x5 x6 x7 3 = .cells #[.int .u8 x0, .int .u8 x1, .int .u8 x2, .int .u8 0, .int .u8 0, .int .u8 0, .int .u8 0, .int .u8 0] 35 from rfl]
        unfold nul
        go_wp2_with fail
        refine (hexVal_calls _ _ (S.hex 6 (by omega))).mono ?_
        rintro e w' ⟨rfl, rfl⟩
        go_wp2_with fail
        refine (hexVal_calls _ _ (S.hex 7 (by omega))).mono ?_
        rintro e w' ⟨rfl, rfl⟩
        go_wp2_with fail
        rw [S.e3]
        exact ⟨⟨4, by omega, rfl, rfl⟩, by simp [RowKit.intOf]⟩
      · rw [show outs x0 x1 x2 x3 x4 x5 x6 x7 4 = .cells #[.int .u8 x0, .int .u8 x1, .int .u8 x2, .int .u8 x3, .int .u8 0, .int .u8 0, .int .u8 0, .int .u8 0] 35 from rfl]
        unfold nul
        go_wp2_with fail
        refine (hexVal_calls _ _ (S.hex 8 (by omega))).mono ?_
        rintro e w' ⟨rfl, rfl⟩
        go_wp2_with fail
        refine (hexVal_calls _ _ (S.hex 9 (by omega))).mono ?_
        rintro e w' ⟨rfl, rfl⟩
        go_wp2_with fail
        rw [S.e4]
        exact ⟨⟨5, by omega, rfl, rfl⟩, by simp [RowKit.intOf]⟩
      · rw [show outs x0 x1 x2 x3 x4 x5 x6 x7 5 = .cells #[.int .u8 x0, .int .u8 x1, .int .u8 x2, .int .u8 x3, .int .u8 x4, .int .u8 0, .int .u8 0, .int .u8 0] 35 from rfl]
        unfold nul
        go_wp2_with fail
        refine (hexVal_calls _ _ (S.hex 10 (by omega))).mono ?_
        rintro e w' ⟨rfl, rfl⟩
        go_wp2_with fail
        refine (hexVal_calls _ _ (S.hex 11 (by omega))).mono ?_
        rintro e w' ⟨rfl, rfl⟩
        go_wp2_with fail
        rw [S.e5]
        exact ⟨⟨6, by omega, rfl, rfl⟩, by simp [RowKit.intOf]⟩
      · rw [show outs x0 x1 x2 x3 x4 x5 x6 x7 6 = .cells #[.int .u8 x0, .int .u8 x1, .int .u8 x2, .int .u8 x3, .int .u8 x4, .int .u8 x5, .int .u8 0, .int .u8 0] 35 from rfl]
        unfold nul
        go_wp2_with fail
        refine (hexVal_calls _ _ (S.hex 12 (by omega))).mono ?_
        rintro e w' ⟨rfl, rfl⟩
        go_wp2_with fail
        refine (hexVal_calls _ _ (S.hex 13 (by omega))).mono ?_
        rintro e w' ⟨rfl, rfl⟩
        go_wp2_with fail
        rw [S.e6]
        exact ⟨⟨7, by omega, rfl, rfl⟩, by simp [RowKit.intOf]⟩
      · rw [show outs x0 x1 x2 x3 x4 x5 x6 x7 7 = .cells #[.int .u8 x0, .int .u8 x1, .int .u8 x2, .int .u8 x3, .int .u8 x4, .int .u8 x5, .int .u8 x6, .int .u8 0] 35 from rfl]
        unfold nul
        go_wp2_with fail
        refine (hexVal_calls _ _ (S.hex 14 (by omega))).mono ?_
        rintro e w' ⟨rfl, rfl⟩
        go_wp2_with fail
        refine (hexVal_calls _ _ (S.hex 15 (by omega))).mono ?_
        rintro e w' ⟨rfl, rfl⟩
        go_wp2_with fail
        rw [S.e7]
        exact ⟨⟨8, by omega, rfl, rfl⟩, by simp [RowKit.intOf]⟩
    · have h8 : k = 8 := by omega
      subst h8
      rw [show outs x0 x1 x2 x3 x4 x5 x6 x7 8 = .cells #[.int .u8 x0, .int .u8 x1, .int .u8 x2, .int .u8 x3, .int .u8 x4, .int .u8 x5, .int .u8 x6, .int .u8 x7] 35 from rfl]
      unfold nul
      go_wp2_with fail
      exact bodyPost_ret (v := .tuple #[.agg #[.int .u8 x0, .int .u8 x1, .int .u8 x2, .int .u8 x3, .int .u8 x4, .int .u8 x5, .int .u8 x6, .int .u8 x7], .bool true]) (by simp [results, Try.results19, go_sem]) rfl ⟨rfl, ((Below.refl _ _).alloc (Nat.le_refl _) _).alloc (by simp) _⟩
end Go.Proofs.Qxb6613140a.Spi
