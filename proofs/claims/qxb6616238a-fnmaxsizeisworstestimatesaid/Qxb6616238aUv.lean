import Derived.Test.Qxb6616238aRows
import Derived.WalkKit
import Derived.ProofKit
import Derived.OpenShut
import Derived.Shelf.Bin.AppendUvarint
import Derived.Shelf.Bin.LEAppendUint32
import Derived.Shelf.Lay
import Derived.Ground.MnProg
import Derived.Lib.AppendStr
import Derived.Deep.AppendSrc
namespace Go.Proofs
open Go.Shelf
shelf_lay LaysBin.n47 Mn 47 at Try as Qxb6616238a.lays47
shelf_lay LaysBin.n32 Mn 32 at Try as Qxb6616238a.lays32
end Go.Proofs
namespace Go.Proofs.Qxb6616238a.Enc
set_option linter.unusedVariables false
set_option linter.unusedSimpArgs false
open Go.RowKit
set_option maxRecDepth 100000

/-- How many bytes the varint of x takes. -/
def uvl (x : Nat) : Nat := (Lib.uvarint x).length
theorem uvl_small {x : Nat} (h : x < 128) : uvl x = 1 := by unfold uvl; rw [Lib.uvarint_small h]; rfl
theorem uvl_big {x : Nat} (h : 128 ≤ x) : uvl x = uvl (x / 128) + 1 := by unfold uvl; rw [Lib.uvarint_big h]; rfl
theorem uvl_pos (x : Nat) : 1 ≤ uvl x := Lib.uvarint_pos x
theorem uvl_ten {x : Nat} (h : x < 18446744073709551616) : uvl x ≤ 10 := Lib.uvarint_length64 h
theorem uvl_nine {x : Nat} (h : x ≤ 9223372036854775807) : uvl x ≤ 9 := Lib.uvarint_length 8 x (by omega)
theorem uvl_two {x : Nat} (h : x ≤ 1024) : uvl x ≤ 2 := Lib.uvarint_length 1 x (by omega)

/-- v is a slice of n bytes that lies from block B on, the call's own. -/
def Bs (B : Nat) (v : Value) (n : Nat) (w : World) : Prop := ∃ xs, w.ownsRow B 5 1 v n xs

theorem appendUvarint_any (B n x : Nat) (hx : x < 18446744073709551616) (sv : Value) (w : World) (h : Bs B sv n w) (hBw : B ≤ w.heap.size) (hlim : n + 10 ≤ 140737488355328) :
    Calls Try.prog 47 #[sv, .int .u64 x] w fun e w' => ∃ v', e = .returned v' ∧ Bs B v' (n + uvl x) w' ∧ Below B w w' := by
  obtain ⟨xs, ho⟩ := h
  refine (Any.binary_AppendUvarint lays47 B n x hx sv xs w ho hBw hlim).mono ?_
  rintro e w' ⟨v', he, h1, h2⟩
  exact ⟨v', he, ⟨_, h1⟩, h2⟩

theorem appendUint32_any (B n v : Nat) (hv : v < 4294967296) (sv : Value) (w : World) (h : Bs B sv n w) (hBw : B ≤ w.heap.size) (hlim : n + 4 ≤ 140737488355328) :
    Calls Try.prog 57 #[.agg #[], sv, .int .u32 v] w fun e w' => ∃ v', e = .returned v' ∧ Bs B v' (n + 4) w' ∧ Below B w w' := by
  obtain ⟨xs, ho⟩ := h
  refine (Any.binary_LE_AppendUint32 lays32 B n v hv sv xs w ho hBw hlim).mono ?_
  rintro e w' ⟨v', he, h1, h2⟩
  exact ⟨v', he, ⟨_, h1⟩, h2⟩

theorem digest_any (B n v : Nat) (hv : v < 4294967296) (sv : Value) (w : World) (h : Bs B sv n w) (hBw : B ≤ w.heap.size) (hlim : n + 4 ≤ 140737488355328) :
    Calls Try.prog 46 #[sv, .int .u32 v] w fun e w' => ∃ v', e = .returned v' ∧ Bs B v' (n + 4) w' ∧ Below B w w' := by
  go_enter Try.func46, Try.ntmps46
  go_wp2_with fail
  refine (appendUint32_any B n v hv sv w h hBw hlim).mono ?_
  rintro e w' ⟨v', rfl, h1, h2⟩
  go_wp2_with fail
  go_ret
  exact ⟨v', rfl, h1, h2⟩

theorem uvLen_any (x : Nat) (hx : x < 18446744073709551616) (w : World) :
    Calls Try.prog 29 #[.int .u64 x] w fun e w' => e = .returned (.int .i64 (uvl x)) ∧ w' = w := by
  have h10 := uvl_ten hx
  go_enter Try.func29, Try.ntmps29
  go_wp2
  go_loop [0, 3] (fun vx vn => ∃ y k : Nat, vx = .int .u64 y ∧ vn = .int .i64 k ∧ y ≤ x ∧ k + uvl y = uvl x + 1) (fun vx _ => (intOf vx).toNat)
  case atStart => exact ⟨x, 1, rfl, rfl, Nat.le_refl _, by omega⟩
  case round =>
    obtain ⟨y, k, rfl, rfl, hy, hk⟩ := hrel
    by_cases h128 : 128 ≤ y
    · have hb := uvl_big h128
      have hp := uvl_pos (y / 128)
      have h' : (128 : Int) ≤ y := by omega
      go_wp2
      go_round
      case rel => exact ⟨y / 128, k + 1, by go_num, by go_num, by omega, by omega⟩
      case measure => simp [intOf]; omega
    · have hb := uvl_small (show y < 128 by omega)
      have hk' : k = uvl x := by omega
      subst hk'
      go_wp2
      go_ret
      exact ⟨rfl, rfl⟩

theorem votersSize_any (n : Int) (h0 : 0 ≤ n) (h1 : n ≤ 1024) (w : World) : Calls Try.prog 30 #[.int .i64 n] w fun e w' => e = .returned (.int .i64 ((n + 7) / 8)) ∧ w' = w := by
  go_enter Try.func30, Try.ntmps30
  go_wp2
  go_ret
  exact ⟨by go_num, rfl⟩

theorem maxSize_any (n : Int) (h0 : 0 ≤ n) (h1 : n ≤ 1024) (w : World) : Calls Try.prog 9 #[.int .i64 n] w fun e w' => e = .returned (.int .i64 (1072 + (n + 7) / 8)) ∧ w' = w := by
  go_enter Try.func9, Try.ntmps9
  go_wp2_with fail
  refine (votersSize_any n h0 h1 w).mono ?_
  rintro e w' ⟨rfl, rfl⟩
  go_wp2_with fail
  go_ret
  exact ⟨by go_num, rfl⟩

def RetB (e : Ending) : Prop := ∃ b, e = .returned (.bool b)
theorem bytes27 (a0 a1 a2 a3 a4 a5 a6 : Int) (a : Option Addr) (n cap : Nat) (s : ByteArray) (a9 a10 : Int) (w : World) (hn : n ≤ 1048576) (hs : s.size ≤ 1048576) (hsn : (n : Int) + s.size ≤ 1048576) :
    Calls Try.prog 27 #[.int .i64 a0, .int .i64 a1, .int .i64 a2, .int .i64 a3, .int .i64 a4, .int .i64 a5, .int .i64 a6, .slice a n cap, .string s, .int .u8 a9, .int .u32 a10] w fun e w' => e = .returned (.bool true) ∧ w' = w := by
  have h1 : ¬ (1048576 < (n : Int)) := by omega
  have h2 : ¬ (1048576 < (s.size : Int)) := by omega
  have h3 : ¬ (1048576 < (n : Int) + s.size) := by omega
  go_enter Try.func27, Try.ntmps27
  go_wp2
  go_ret
  exact ⟨rfl, rfl⟩

theorem is48 (w : World) : Calls Try.prog 48 #[.int .u8 1] w fun e w' => e = .returned (.bool true) ∧ w' = w := by
  go_enter Try.func48, Try.ntmps48
  go_wp2
  go_ret
  exact ⟨rfl, rfl⟩
theorem is49 (w : World) : Calls Try.prog 49 #[.int .u8 1] w fun e w' => e = .returned (.bool false) ∧ w' = w := by
  go_enter Try.func49, Try.ntmps49
  go_wp2
  go_ret
  exact ⟨rfl, rfl⟩
theorem is50 (w : World) : Calls Try.prog 50 #[.int .u8 1] w fun e w' => e = .returned (.bool true) ∧ w' = w := by
  go_enter Try.func50, Try.ntmps50
  go_wp2
  go_ret
  exact ⟨rfl, rfl⟩
theorem is58 (w : World) : Calls Try.prog 58 #[.int .u8 1] w fun e w' => e = .returned (.bool true) ∧ w' = w := by
  go_enter Try.func58, Try.ntmps58
  go_wp2
  go_ret
  exact ⟨rfl, rfl⟩
theorem is51 (w : World) : Calls Try.prog 51 #[.int .u8 1] w fun e w' => e = .returned (.bool true) ∧ w' = w := by
  go_enter Try.func51, Try.ntmps51
  go_wp2_with fail
  refine (is58 w).mono ?_
  rintro e w' ⟨rfl, rfl⟩
  go_wp2_with fail
  go_ret
  exact ⟨rfl, rfl⟩
theorem is52 (w : World) : Calls Try.prog 52 #[.int .u8 1] w fun e w' => e = .returned (.bool true) ∧ w' = w := by
  go_enter Try.func52, Try.ntmps52
  go_wp2_with fail
  refine (is48 w).mono ?_
  rintro e w' ⟨rfl, rfl⟩
  go_wp2_with fail
  go_ret
  exact ⟨rfl, rfl⟩
theorem is54 (w : World) : Calls Try.prog 54 #[.int .u8 1] w fun e w' => e = .returned (.bool false) ∧ w' = w := by
  go_enter Try.func54, Try.ntmps54
  go_wp2
  go_ret
  exact ⟨rfl, rfl⟩
end Go.Proofs.Qxb6616238a.Enc
