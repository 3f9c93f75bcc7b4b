import Derived.Test.Qxb6616238aDrop1
namespace Go.Proofs.Qxb6616238a.Grow
set_option linter.unusedVariables false
set_option linter.unusedSimpArgs false
set_option maxRecDepth 100000
open Go.ChangeShapes Go.WideShapes Go.ChangeAt Go.RowKit

/-- Where a cut slice begins. -/
def slA (a : Option Addr) (l c s : Nat) : Option Addr := if c = l then a else a.map (·.add (l * s))

theorem laid_self (d : Nat → Nat) (t : Array Value) : ∀ n, laid d (fun k => t.getD (d k) undef) t n = t
  | 0 => rfl
  | n + 1 => by
    show (laid d (fun k => t.getD (d k) undef) t n).setIfInBounds (d n) (t.getD (d n) undef) = t
    rw [laid_self d t n]
    apply Array.ext_getElem?
    intro i
    rw [Array.getElem?_setIfInBounds]
    split
    · rename_i h
      subst h
      split
      · rename_i h
        exact (Array.getElem?_eq_getElem h).symm
      · rename_i h
        rw [Array.getElem?_eq_none (by omega)]
    · rfl

/-- One assignment is left of a region. -/
theorem tail1 {P : Program} {ops : Array Oper} {Q : Exit → Act → World → Prop} {n : Nat} {a0 : Act} {w2 : World} (ds : List Nat) (hsz : ops.size = n + 2) (ok : okM ops (n + 1) (n + 1) ds [] a0.tmps.size = true) (o : Oper) (ho : ops[n + 1]? = some o) (x : Operand) (hop : o.op = .assign x) (d : Tmp) (hd : o.dst = some d)
    (done : Q .normal (a0.put (some d) (a0.eval x)) w2) : ∀ f, (left ops.size (upTo ops.size n)).length ≤ f → wpAny P .any ops Q f (upTo ops.size n) a0 w2 := by
  refine wpAny_on (p := n) (last := n + 1) (d := fun k => ds.getD k 0) (val := fun k => a0.tmps.getD (ds.getD k 0) undef) (skp := fun _ => false) (W := w2) ?_ o ho ?_
  · refine law5_of (ds := ds) (gs := []) ok (fun i _ => rfl) (fun i _ _ => .inl ⟨rfl, rfl⟩) rfl (fun i h1 h2 _ => by omega) ?_
    intro i o a h1 h2
    omega
  · refine mid_assign (by omega) x (.inr hop) ?_
    rw [hd, laid_self (fun k => ds.getD k 0) a0.tmps (n + 1)]
    exact done

theorem cf14 (v : Array Value) (w : World) : (callFunc 14 v).run Try.prog w = .ok (.enter 14 v) w := by kernel_rfl
theorem wp_call5 {o : Oper} {a : Act} {w : World} {K : Act → World → Prop} {Q : Exit → Act → World → Prop} (x0 x1 x2 x3 x4 : Operand) (v0 v1 v2 v3 v4 : Value) (ho : o.op = .call { callee := .value (.func 14), args := #[x0, x1, x2, x3, x4], argTypes := #[3, 3, 3, 29, 30] })
    (h0 : a.eval x0 = v0) (h1 : a.eval x1 = v1) (h2 : a.eval x2 = v2) (h3 : a.eval x3 = v3) (h4 : a.eval x4 = v4)
    (h : Calls Try.prog 14 #[v0, v1, v2, v3, v4] w fun
      | .returned v, w'' => K (a.put o.dst v) w''
      | .panicked chain, w'' => Q (.panic chain) a w''
      | .outgrown, _ => LetsOut Q) : o.wp Try.prog a w K Q := by
  unfold Oper.wp
  have : (execOp a.eval o).run Try.prog w = .ok (.enter 14 #[v0, v1, v2, v3, v4]) w := by
    have hf : a.eval (.func 14) = .func (.func 14) #[] #[] := rfl
    simp [execOp, ho, resolve, hf, h0, h1, h2, h3, h4, invoke, Deferred.ofValue, cf14]
  rw [this]
  exact h

theorem ex_sliceHi29 (ρ : Operand → Value) (o : Oper) (x y : Operand) (a : Option Addr) (n c i : Nat) (w : World) (h : o.op = .slice 29 x none (some y) none) (hx : ρ x = .slice a n c) (hy : ρ y = .int .i64 i) (hc : i ≤ c) : (execOp ρ o).run Try.prog w = .ok (.value (.slice (slA a 0 c 2) i c)) w := by
  have hc' : (i : Int) ≤ c := by omega
  simp [execOp, h, hx, hy, slA]
  go_simp
theorem ex_sliceHi30 (ρ : Operand → Value) (o : Oper) (x y : Operand) (a : Option Addr) (n c i : Nat) (w : World) (h : o.op = .slice 30 x none (some y) none) (hx : ρ x = .slice a n c) (hy : ρ y = .int .i64 i) (hc : i ≤ c) : (execOp ρ o).run Try.prog w = .ok (.value (.slice (slA a 0 c 3) i c)) w := by
  have hc' : (i : Int) ≤ c := by omega
  simp [execOp, h, hx, hy, slA]
  go_simp
theorem ex_sliceLo29 (ρ : Operand → Value) (o : Oper) (x y : Operand) (a : Option Addr) (n c i : Nat) (w : World) (h : o.op = .slice 29 x (some y) none none) (hx : ρ x = .slice a n c) (hy : ρ y = .int .i64 i) (hc : i ≤ n) : (execOp ρ o).run Try.prog w = .ok (.value (.slice (slA a i c 2) (n - i) (c - i))) w := by
  have hc' : (i : Int) ≤ n := by omega
  simp [execOp, h, hx, hy, slA]
  go_simp
theorem ex_sliceLo30 (ρ : Operand → Value) (o : Oper) (x y : Operand) (a : Option Addr) (n c i : Nat) (w : World) (h : o.op = .slice 30 x (some y) none none) (hx : ρ x = .slice a n c) (hy : ρ y = .int .i64 i) (hc : i ≤ n) : (execOp ρ o).run Try.prog w = .ok (.value (.slice (slA a i c 3) (n - i) (c - i))) w := by
  have hc' : (i : Int) ≤ n := by omega
  simp [execOp, h, hx, hy, slA]
  go_simp

theorem add_flat (g o k : Nat) : (⟨g, o, none⟩ : Addr).add k = ⟨g, o + k, none⟩ := Addr.add_mid g o k

theorem TRow.take {w : World} {a : Option Addr} {es : List (Bool × Int)} (h : TRow w a es) {c : Nat} (hc : es.length ≤ c) (i : Nat) (hi : i ≤ es.length) : TRow w (slA a 0 c 2) (es.take i) := by
  intro k hk
  have hk' : k < es.length := by rw [List.length_take] at hk; omega
  obtain ⟨g, o, rfl, h1, h2, hg⟩ := h k hk'
  refine ⟨g, o, ?_, ?_, ?_, hg⟩
  · unfold slA; rw [if_neg (by omega)]; simp [add_flat]
  · rw [List.getElem_take]; exact h1
  · rw [List.getElem_take]; exact h2
theorem TRow.drop {w : World} {a : Option Addr} {es : List (Bool × Int)} (h : TRow w a es) {c : Nat} (hc : es.length ≤ c) (i : Nat) (hi : i ≤ es.length) : TRow w (slA a i c 2) (es.drop i) := by
  intro k hk
  have hk' : i + k < es.length := by rw [List.length_drop] at hk; omega
  obtain ⟨g, o, rfl, h1, h2, hg⟩ := h (i + k) hk'
  refine ⟨g, o + i * 2, ?_, ?_, ?_, hg⟩
  · unfold slA; rw [if_neg (by omega)]; simp [add_flat]
  · rw [List.getElem_drop, show o + i * 2 + k * 2 = o + (i + k) * 2 by omega]; exact h1
  · rw [List.getElem_drop, show o + i * 2 + k * 2 + 1 = o + (i + k) * 2 + 1 by omega]; exact h2
theorem PRow.take {w : World} {a : Option Addr} {ps : List (Int × Int × Int)} (h : PRow w a ps) {c : Nat} (hc : ps.length ≤ c) (i : Nat) (hi : i ≤ ps.length) : PRow w (slA a 0 c 3) (ps.take i) := by
  intro k hk
  have hk' : k < ps.length := by rw [List.length_take] at hk; omega
  obtain ⟨g, o, rfl, h1, h2, h3, hg⟩ := h k hk'
  refine ⟨g, o, ?_, ?_, ?_, ?_, hg⟩
  · unfold slA; rw [if_neg (by omega)]; simp [add_flat]
  · rw [List.getElem_take]; exact h1
  · rw [List.getElem_take]; exact h2
  · rw [List.getElem_take]; exact h3
theorem PRow.drop {w : World} {a : Option Addr} {ps : List (Int × Int × Int)} (h : PRow w a ps) {c : Nat} (hc : ps.length ≤ c) (i : Nat) (hi : i ≤ ps.length) : PRow w (slA a i c 3) (ps.drop i) := by
  intro k hk
  have hk' : i + k < ps.length := by rw [List.length_drop] at hk; omega
  obtain ⟨g, o, rfl, h1, h2, h3, hg⟩ := h (i + k) hk'
  refine ⟨g, o + i * 3, ?_, ?_, ?_, ?_, hg⟩
  · unfold slA; rw [if_neg (by omega)]; simp [add_flat]
  · rw [List.getElem_drop, show o + i * 3 + k * 3 = o + (i + k) * 3 by omega]; exact h1
  · rw [List.getElem_drop, show o + i * 3 + k * 3 + 1 = o + (i + k) * 3 + 1 by omega]; exact h2
  · rw [List.getElem_drop, show o + i * 3 + k * 3 + 2 = o + (i + k) * 3 + 2 by omega]; exact h3
end Go.Proofs.Qxb6616238a.Grow
