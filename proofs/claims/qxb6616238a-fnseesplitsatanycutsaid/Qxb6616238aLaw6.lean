import Derived.Test.Qxb6616238aLaw5
import Derived.Test.Qxb6616238aCut
import Derived.Test.Qxb6616238aCat
namespace Go.Proofs.Qxb6616238a.Grow
set_option linter.unusedVariables false
set_option linter.unusedSimpArgs false
set_option maxRecDepth 100000
open Go.ChangeShapes Go.WideShapes Go.ChangeAt Go.RowKit Go.Lib

theorem mod_cat (m : Int) (es : List (Bool × Int)) (i : Nat) : (es.take i).map (modE m) ++ (es.drop i).map (modE m) = es.map (modE m) := by
  rw [← List.map_append, List.take_append_drop]
theorem left_cat (num r : Int) (ps : List Msg3) (j : Nat) : left3 num r (ps.take j) ++ left3 num r (ps.drop j) = left3 num r ps := by
  unfold left3
  rw [← List.filter_append, List.take_append_drop]

theorem sameP_n (a b : Option Addr) (ac bc : Nat) (ps : List Msg3) (n : Nat) (w : World) (hA : PRow w a ps) (hB : PRow w b ps) (hn : ps.length = n) (hps : n ≤ 65536) :
    Calls Try.prog 20 #[.slice a n ac, .slice b n bc] w fun e w' => e = .returned (.bool true) ∧ Ext w w' := by
  subst hn
  exact sameP_any a b ac bc ps w hA hB hps

/-- Build, see, at any cut. -/
theorem buildN (num seen lift : Int) (ea pa : Option Addr) (ec pc' : Nat) (es : List (Bool × Int)) (ps : List Msg3) (n m : Nat) (hn : es.length = n) (hm : ps.length = m) (w : World) (hT : TRow w ea es) (hP : PRow w pa ps) (hel : n ≤ 65536) (hpl : m ≤ 65536) :
    Calls Try.prog 14 #[.int .i64 num, .int .i64 seen, .int .i64 lift, .slice ea n ec, .slice pa m pc'] w fun e w' => ∃ ib, e = .returned (.pointer (some ⟨ib, 0, none⟩)) ∧ Inst w.heap.size ib num seen lift (es.map tv) ps w' ∧ Ext w w' := by
  subst hn; subst hm
  exact build_any num seen lift ea pa ec pc' es ps w hT hP hel hpl
/-- Read, its rows in the model's form. -/
theorem readN (B ib : Nat) (num seen lift m : Int) (es : List (Bool × Int)) (ps : List Msg3) (n : Nat) (hn : es.length = n) (w : World) (h : Inst B ib num seen lift ((es.map tv).map (keepO m)) ps w) (hel : n ≤ 65536) (hpl : ps.length ≤ 65536) :
    Calls Try.prog 16 #[.pointer (some ⟨ib, 0, none⟩)] w fun e w' => ∃ ga gp, e = .returned (.tuple #[.slice (some ⟨ga, 0, none⟩) n n, .slice (some ⟨gp, 0, none⟩) ps.length ps.length]) ∧ Ext w w' ∧ TRow w' (some ⟨ga, 0, none⟩) (es.map (modE m)) ∧ PRow w' (some ⟨gp, 0, none⟩) ps := by
  subst hn
  have := readI_any B ib num seen lift _ ps w h (by simpa using hel) hpl
  rw [mod_keep] at this
  simpa using this
theorem catTn (a b : Option Addr) (ac bc : Nat) (xs ys zs : List (Bool × Int)) (n m k : Nat) (w : World) (hA : TRow w a xs) (hB : TRow w b ys) (hn : xs.length = n) (hm : ys.length = m) (hz : xs ++ ys = zs) (hk : zs.length = k) (hx : n ≤ 65536) (hy : m ≤ 65536) :
    Calls Try.prog 22 #[.slice a n ac, .slice b m bc] w fun e w' => ∃ g c, e = .returned (.slice (some ⟨g, 0, none⟩) k c) ∧ Ext w w' ∧ TRow w' (some ⟨g, 0, none⟩) zs := by
  subst hn; subst hm; subst hz; subst hk
  exact catT_any a b ac bc xs ys w hA hB hx hy
theorem catPn (a b : Option Addr) (ac bc : Nat) (xs ys zs : List Msg3) (w : World) (hA : PRow w a xs) (hB : PRow w b ys) (hz : xs ++ ys = zs) (hx : xs.length ≤ 65536) (hy : ys.length ≤ 65536) :
    Calls Try.prog 23 #[.slice a xs.length ac, .slice b ys.length bc] w fun e w' => ∃ g c, e = .returned (.slice (some ⟨g, 0, none⟩) zs.length c) ∧ Ext w w' ∧ PRow w' (some ⟨g, 0, none⟩) zs := by
  subst hz
  exact catP_any a b ac bc xs ys w hA hB hx hy

set_option maxHeartbeats 1000000 in
theorem bytes21 (a0 a1 a2 a3 a6 a7 : Int) (a b : Option Addr) (n m c d : Nat) (w : World) (hn : n ≤ 9223372036854775807) (hm : m ≤ 9223372036854775807) :
    Calls Try.prog 21 #[.int .i64 a0, .int .i64 a1, .int .i64 a2, .int .i64 a3, .slice a n c, .slice b m d, .int .i64 a6, .int .i64 a7] w fun e w' => RetB5 e ∧ w' = w := by
  by_cases h1 : 1048576 < (n : Int)
  · go_enter Try.func21, Try.ntmps21
    go_wp2
    go_ret
    exact ⟨⟨_, rfl⟩, rfl⟩
  by_cases h2 : 1048576 < (m : Int)
  · go_enter Try.func21, Try.ntmps21
    go_wp2
    go_ret
    exact ⟨⟨_, rfl⟩, rfl⟩
  by_cases h3 : 1048576 < (n : Int) + m
  · go_enter Try.func21, Try.ntmps21
    go_wp2
    go_ret
    exact ⟨⟨_, rfl⟩, rfl⟩
  · go_enter Try.func21, Try.ntmps21
    go_wp2
    go_ret
    exact ⟨⟨_, rfl⟩, rfl⟩

def ds11 : List Nat := [94, 95, 96, 97, 98, 99, 100, 101, 102, 103]
def ds13 : List Nat := [107, 108, 109, 110, 111, 112, 113, 114, 115, 116]
def val11 (num seen lift : Int) (a b : Option Addr) (n m c d i j : Nat) (q : Nat) : Value :=
  match q with
  | 0 => .int .i64 num
  | 1 => .int .i64 seen
  | 2 => .int .i64 lift
  | 3 => .slice a n c
  | 4 => .int .i64 i
  | 5 => .slice (slA a 0 c 2) i c
  | 6 => .slice b m d
  | 7 => .int .i64 j
  | 8 => .slice (slA b 0 d 3) j d
  | _ => undef
def val13 (num seen lift : Int) (a b : Option Addr) (n m c d i j : Nat) (q : Nat) : Value :=
  match q with
  | 0 => .int .i64 num
  | 1 => .int .i64 seen
  | 2 => .int .i64 lift
  | 3 => .slice a n c
  | 4 => .int .i64 i
  | 5 => .slice (slA a i c 2) (n - i) (c - i)
  | 6 => .slice b m d
  | 7 => .int .i64 j
  | 8 => .slice (slA b j d 3) (m - j) (d - j)
  | _ => undef
end Go.Proofs.Qxb6616238a.Grow
