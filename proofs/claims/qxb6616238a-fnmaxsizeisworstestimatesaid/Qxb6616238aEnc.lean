import Derived.Test.Qxb6616238aUv
import Derived.Deep.CutBlock
import Derived.RegionTactic
import Derived.Deep.AppendLies
set_option linter.unusedVariables false
set_option linter.unusedSimpArgs false
namespace Go.Proofs.Qxb6616238a.Enc
open Go.RowKit
set_option maxRecDepth 100000
theorem info5 : (Try.prog.info? 5).map (fun i => (i.zero, i.size, i.bytes)) = some (some (Value.int IntKind.u8 0), 1, 1) := by kernel_rfl

theorem append_91 (ty : TypeId) (b : Option Addr) (k d : Nat) (a : Option Addr) (n c : Nat) (w : World) : (Builtin.append_ #[45, 91] ty #[.slice b k d, .slice a n c]).run Try.prog w = (Builtin.append_ #[45, 45] ty #[.slice b k d, .slice a n c]).run Try.prog w := by
  obtain ⟨i0, hi, hz0, hz1, hz2⟩ := info_parts info5
  simp [Builtin.append_, run_underlying Try.underlying45, run_underlying Try.underlying91, sizeOf, typeInfo, hi]

theorem append_voters (B : Nat) (ty : TypeId) (sv : Value) (n : Nat) (w : World) (h : Bs B sv n w) (hBw : B ≤ w.heap.size) (a : Addr) (m c : Nat) (news : List Value) (hl : news.length = m) (hnews : ∀ j u, news[j]? = some u → w.cell? (a.add j) = some u) (h1 : ∀ u ∈ news, u.oneCell' = true) (hlim : n + m ≤ 140737488355328) :
    ∃ v' w', (Builtin.append_ #[45, 91] ty #[sv, .slice (some a) m c]).run Try.prog w = .ok v' w' ∧ Bs B v' (n + m) w' ∧ Below B w w' := by
  obtain ⟨i0, hi, hz0, hz1, hz2⟩ := info_parts info5
  obtain ⟨xs, ho⟩ := h
  obtain ⟨v', w', hr, ho', hg, _⟩ := run_append_own (P := Try.prog) w B 45 ty 5 i0 (.int .u8 0) 1 1 Try.underlying45 hi hz0 hz1 hz2 rfl (by decide) sv n xs ho a m c news (by omega) hnews h1 (by unfold maxLen; omega) (by omega) hBw
  have hsv : ∃ b k d, sv = .slice b k d := by
    rcases ho.2 with ⟨rfl, _⟩ | ⟨g, cap, cur, rfl, _⟩
    · exact ⟨_, _, _, rfl⟩
    · exact ⟨_, _, _, rfl⟩
  obtain ⟨b, k, d, rfl⟩ := hsv
  exact ⟨v', w', by rw [append_91]; exact hr, ⟨_, ho'⟩, (Below.refl B w).grown hg hBw (fun k hk => (ho.lt k hk).1)⟩

theorem append_value (B : Nat) (ty : TypeId) (sv : Value) (n : Nat) (w : World) (h : Bs B sv n w) (hBw : B ≤ w.heap.size) (s : ByteArray) (hlim : n + s.size ≤ 140737488355328) :
    ∃ v' w', (Builtin.append_ #[45, 9] ty #[sv, .string s]).run Try.prog w = .ok v' w' ∧ Bs B v' (n + s.size) w' ∧ Below B w w' := by
  obtain ⟨i0, hi, hz0, hz1, hz2⟩ := info_parts info5
  obtain ⟨xs, ho⟩ := h
  obtain ⟨v', w', hr, ho', hg, _⟩ := Lib.run_append_own_string (P := Try.prog) w B 45 9 ty 5 i0 Try.underlying45 Try.underlying9 hi hz0 hz1 hz2 sv n xs ho s (by unfold maxLen; omega) (by omega) hBw
  exact ⟨v', w', hr, ⟨_, ho'⟩, (Below.refl B w).grown hg hBw (fun k hk => (ho.lt k hk).1)⟩

theorem append_byte (B : Nat) (ty : TypeId) (sv : Value) (n : Nat) (w : World) (h : Bs B sv n w) (hBw : B ≤ w.heap.size) (x : Int) (hlim : n + 1 ≤ 140737488355328) :
    ∃ v' w', (Builtin.append_ #[45, 45] ty #[sv, .slice (some ⟨w.heap.size, 0, none⟩) 1 1]).run Try.prog (w.alloc (.cells #[.int .u8 x] 5)) = .ok v' w' ∧ Bs B v' (n + 1) w' ∧ Below B w w' := by
  obtain ⟨i0, hi, hz0, hz1, hz2⟩ := info_parts info5
  obtain ⟨xs, ho⟩ := h
  obtain ⟨v', w', hr, ho', hg, _⟩ := run_append_own (P := Try.prog) (w.alloc (.cells #[.int .u8 x] 5)) B 45 ty 5 i0 (.int .u8 0) 1 1 Try.underlying45 hi hz0 hz1 hz2 rfl (by decide) sv n xs (ho.alloc _) ⟨w.heap.size, 0, none⟩ 1 1 [.int .u8 x] rfl (World.news_of_block (heap_alloc_new _ _)) (by intro u hu; simp at hu; subst hu; rfl) (by unfold maxLen; omega) (by omega) (by simp; omega)
  exact ⟨v', w', hr, ⟨_, ho'⟩, ((Below.refl B w).alloc hBw _).grown hg (by simp; omega) (fun k hk => (ho.lt k hk).1)⟩

theorem Bs.alloc {B : Nat} {v : Value} {n : Nat} {w : World} (h : Bs B v n w) (o : Obj) : Bs B v n (w.alloc o) := by
  obtain ⟨xs, ho⟩ := h
  exact ⟨xs, ho.alloc _⟩
theorem Bs.sl {B : Nat} {v : Value} {n : Nat} {w : World} (h : Bs B v n w) : ∃ a c, v = .slice a n c := by
  obtain ⟨xs, ho⟩ := h
  rcases ho.2 with ⟨rfl, rfl⟩ | ⟨g, cap, cur, rfl, _⟩
  · exact ⟨_, _, rfl⟩
  · exact ⟨_, _, rfl⟩

/-- The message as it lies boxed at block g: what this road reads of it. -/
structure MsgAt (g fr too sq ins rd ad : Nat) (va : Option Addr) (vn vc : Nat) (val : ByteArray) (w : World) : Prop where
  lt : g < w.heap.size
  c0 : w.cell? ⟨g, 0, none⟩ = some (.int .u8 1)
  c1 : w.cell? ⟨g, 1, none⟩ = some (.int .i64 fr)
  c2 : w.cell? ⟨g, 2, none⟩ = some (.int .i64 too)
  c3 : w.cell? ⟨g, 3, none⟩ = some (.int .i64 sq)
  c4 : w.cell? ⟨g, 4, none⟩ = some (.int .i64 ins)
  c7 : w.cell? ⟨g, 7, none⟩ = some (.int .i64 rd)
  c8 : w.cell? ⟨g, 8, none⟩ = some (.int .i64 ad)
  c9 : w.cell? ⟨g, 9, none⟩ = some (.slice va vn vc)
  c10 : w.cell? ⟨g, 10, none⟩ = some (.string val)
  c13 : w.cell? ⟨g, 13, none⟩ = some (.string ByteArray.empty)

theorem MsgAt.kept {B g fr too sq ins rd ad : Nat} {va : Option Addr} {vn vc : Nat} {val : ByteArray} {w w' : World} (h : MsgAt g fr too sq ins rd ad va vn vc val w) (hb : Below B w w') (hg : g < B) : MsgAt g fr too sq ins rd ad va vn vc val w' := by
  have hc : ∀ j, w'.cell? ⟨g, j, none⟩ = w.cell? ⟨g, j, none⟩ := fun j => Below.cell hb (p := ⟨g, j, none⟩) hg
  exact ⟨Nat.lt_of_lt_of_le h.lt hb.size, by rw [hc]; exact h.c0, by rw [hc]; exact h.c1, by rw [hc]; exact h.c2, by rw [hc]; exact h.c3, by rw [hc]; exact h.c4, by rw [hc]; exact h.c7, by rw [hc]; exact h.c8, by rw [hc]; exact h.c9, by rw [hc]; exact h.c10, by rw [hc]; exact h.c13⟩

def S (f : Nat → Nat) : Nat → Nat
  | 0 => 0
  | k + 1 => S f k + uvl (f k)
theorem S_succ (f : Nat → Nat) (k : Nat) : S f (k + 1) = S f k + uvl (f k) := rfl

/-- The voters' cells are there. -/
def VRow (w : World) (a : Option Addr) (n : Nat) : Prop := ∃ x news, a = some x ∧ x.block < w.heap.size ∧ List.length news = n ∧ (∀ j u, news[j]? = some u → w.cell? (x.add j) = some u) ∧ ∀ u ∈ news, u.oneCell' = true

theorem below_cell_add {B : Nat} {w w' : World} (hb : Below B w w') {x : Addr} (hx : x.block < B) (j : Nat) : w'.cell? (x.add j) = w.cell? (x.add j) := by
  refine Below.cell hb ?_
  have : (x.add j).block = x.block := by unfold Addr.add; split <;> rfl
  omega

theorem VRow.kept {w w' : World} {a : Option Addr} {n : Nat} (h : VRow w a n) (hb : Below w.heap.size w w') : VRow w' a n := by
  obtain ⟨x, news, rfl, hx, hl, hc, h1⟩ := h
  exact ⟨x, news, rfl, Nat.lt_of_lt_of_le hx hb.size, hl, fun j u hj => by rw [below_cell_add hb hx]; exact hc j u hj, h1⟩

/-- Blocks that were there stand, but for block g. -/
def KeptBut (g : Nat) (w w' : World) : Prop := ∀ k, k < w.heap.size → k ≠ g → w'.heap[k]? = w.heap[k]?

theorem wpList_byte (w : World) {ops : Array Oper} {rest : List Oper} {o : Oper} {a : Act} {Q : Exit → Act → World → Prop} (hgd : o.guard = none) (sl x : Operand)
    (ho : o.op = .call { callee := .builtin .append, args := #[sl, x], argTypes := #[45, 45] }) (B g n c : Nat) (u : Int) (hs : a.eval sl = .slice (some ⟨g, 0, none⟩) n c) (hx : a.eval x = .slice (some ⟨w.heap.size, 0, none⟩) 1 1)
    (hb : Bs B (.slice (some ⟨g, 0, none⟩) n c) n w) (hBw : B ≤ w.heap.size) (hlim : n + 1 ≤ 140737488355328)
    (h : ∀ g' c' w', Bs B (.slice (some ⟨g', 0, none⟩) (n + 1) c') (n + 1) w' → Below B w w' → KeptBut g w w' → (g' = g ∨ w.heap.size ≤ g') → wpList Try.prog ops Q rest (a.put o.dst (.slice (some ⟨g', 0, none⟩) (n + 1) c')) w') : wpList Try.prog ops Q (o :: rest) a (w.alloc (.cells #[.int .u8 u] 5)) := by
  obtain ⟨i0, hi, hz0, hz1, hz2⟩ := info_parts info5
  obtain ⟨xs, ho'⟩ := hb
  refine wpList_append_lies _ hgd sl x 45 ho B 5 i0 (.int .u8 0) 1 1 Try.underlying45 hi hz0 hz1 hz2 rfl (by decide) _ _ _ hs (ho'.alloc _) ⟨w.heap.size, 0, none⟩ 1 1 [.int .u8 u] hx rfl (World.news_of_block (heap_alloc_new _ _)) (by intro v hv; simp at hv; subst hv; rfl) (by decide) (by unfold maxLen; omega) (by omega) (by simp; omega) (w.heap.size + 1) (by simp) ?_
  intro g' c' w' hown hgrow hat hlt
  refine h g' c' w' ⟨_, hown⟩ (((Below.refl B w).alloc hBw _).grown hgrow (by simp; omega) (fun k hk => (ho'.lt k hk).1)) ?_ ?_
  · intro k hk hne
    rw [hgrow.block k (by simp; omega) (by simp [Value.ownBlock]; omega)]
    exact heap_alloc_old w _ hk
  · rcases hat with hat | hat
    · left; simpa [Value.ownBlock] using hat.symm
    · right; omega

set_option maxHeartbeats 2000000 in
theorem uv_kept (B g n c x : Nat) (i : Int) (hi : i = x) (hx : x ≤ 9223372036854775807) (w : World) (h : Bs B (.slice (some ⟨g, 0, none⟩) n c) n w) (hBw : B ≤ w.heap.size) (hlim : n + 10 ≤ 140737488355328) :
    Calls Try.prog 47 #[.slice (some ⟨g, 0, none⟩) n c, .int .u64 i] w fun e w' => ∃ g' c', e = .returned (.slice (some ⟨g', 0, none⟩) (n + uvl x) c') ∧ Bs B (.slice (some ⟨g', 0, none⟩) (n + uvl x) c') (n + uvl x) w' ∧ Below B w w' ∧ KeptBut g w w' ∧ (g' = g ∨ w.heap.size ≤ g') := by
  subst hi
  have h10 := uvl_ten (show x < 18446744073709551616 by omega)
  go_enter Try.func47, Try.ntmps47
  go_wp2
  go_loopw [0, 1] (fun vb vx wr => ∃ y k g' c' : Nat, vx = .int .u64 y ∧ vb = .slice (some ⟨g', 0, none⟩) (n + k) c' ∧ y ≤ x ∧ k + uvl y = uvl x ∧ Hid (Bs B (.slice (some ⟨g', 0, none⟩) (n + k) c') (n + k) wr) ∧ Hid (Below B w wr) ∧ Hid (KeptBut g w wr) ∧ Hid (g' = g ∨ w.heap.size ≤ g'))
    (fun _ vx _ => (intOf vx).toNat)
  case atStart => exact ⟨x, 0, g, c, rfl, rfl, Nat.le_refl _, by omega, h, Below.refl _ _, fun _ _ _ => rfl, .inl rfl⟩
  case round =>
    obtain ⟨y, k, g1, c1, rfl, rfl, hy, hk, HO, HB, HK, HL⟩ := hrel
    have hp := uvl_pos y
    have hws := HB.out.size
    by_cases h128 : 128 ≤ y
    · have hb := uvl_big h128
      have h' : (128 : Int) ≤ y := by omega
      go_wp2_with (at_builtin; refine wpList_byte _ rfl (.tmp 7) (.tmp 11) rfl B _ _ _ _ rfl rfl HO.out (by omega) (by omega) ?_; intro g2 c2 w2 hb2 hx2 hk2 hl2)
      go_wp2
      go_roundw
      case rel =>
        refine ⟨y / 128, k + 1, g2, c2, by go_num, rfl, by omega, by omega, hb2, HB.out.trans hx2, ?_, ?_⟩
        · intro q hq hne
          have := HL.out
          rw [hk2 q (by omega) (by omega)]
          exact HK.out q hq hne
        · have := HL.out
          show _ ∨ _
          omega
      case measure => simp [intOf]; omega
    · have hb := uvl_small (show y < 128 by omega)
      go_wp2_with (at_builtin; refine wpList_byte _ rfl (.tmp 15) (.tmp 18) rfl B _ _ _ _ rfl rfl HO.out (by omega) (by omega) ?_; intro g2 c2 w2 hb2 hx2 hk2 hl2)
      go_wp2
      go_ret
      have he : n + k + 1 = n + uvl x := by omega
      rw [he] at hb2
      refine ⟨g2, c2, by rw [he]; rfl, hb2, HB.out.trans hx2, ?_, ?_⟩
      · intro q hq hne
        have := HL.out
        rw [hk2 q (by omega) (by omega)]
        exact HK.out q hq hne
      · have := HL.out
        omega

theorem Ext_alloc (w : World) (o : Obj) : Below w.heap.size w (w.alloc o) := (Below.refl _ w).alloc (Nat.le_refl _) o
theorem _root_.Go.RowKit.Below.trans' {B C : Nat} {a b c : World} (h : Below B a b) (k : Below C b c) (hBC : B ≤ C := by omega) : Below B a c := Below.trans h (Below.mono k hBC)

theorem wpList_append_run {P : Program} (w : World) {ops : Array Oper} {rest : List Oper} {o : Oper} {a : Act} {Q : Exit → Act → World → Prop} (hgd : o.guard = none) (sl x : Operand) (t u : TypeId)
    (ho : o.op = .call { callee := .builtin .append, args := #[sl, x], argTypes := #[t, u] }) (vs vx : Value) (hs : a.eval sl = vs) (hx : a.eval x = vx) (v' : Value) (w' : World)
    (hr : (Builtin.append_ #[t, u] o.type #[vs, vx]).run P w = .ok v' w') (h : wpList P ops Q rest (a.put o.dst v') w') : wpList P ops Q (o :: rest) a w := by
  refine wpList_plain hgd fun K hK => ?_
  unfold Oper.wp execOp
  simp only [ho, resolve, invoke, builtin, Sem.run_bind, Sem.run_pure, Result.andThen_ok, List.map_toArray, List.map_cons, List.map_nil, hs, hx, hr]
  exact hK _ _ h


structure St (W : World) (fr too sq ins rd ad : Nat) (va : Option Addr) (vn vc : Nat) (val : ByteArray) (v : Value) (n : Nat) (w : World) : Prop where
  bs : Bs (W.heap.size + 1) v n w
  below : Below W.heap.size W w
  msg : MsgAt W.heap.size fr too sq ins rd ad va vn vc val w
  size : W.heap.size + 1 ≤ w.heap.size

theorem St.form {W : World} {fr too sq ins rd ad : Nat} {va : Option Addr} {vn vc : Nat} {val : ByteArray} {v : Value} {n : Nat} {w : World} (h : St W fr too sq ins rd ad va vn vc val v n w) (hn : 0 < n) : ∃ g c, v = .slice (some ⟨g, 0, none⟩) n c ∧ g < w.heap.size := by
  obtain ⟨xs, ho⟩ := h.bs
  obtain ⟨g, c, rfl, _, hlt⟩ := ho.form hn
  exact ⟨g, c, rfl, hlt⟩

def four (fr too sq : Nat) : Nat → Nat
  | 0 => fr
  | 1 => too
  | 2 => sq
  | _ => 1
theorem S_four (fr too sq : Nat) : S (four fr too sq) 4 = uvl fr + uvl too + uvl sq + 1 := by
  have : uvl 1 = 1 := uvl_small (by decide)
  simp [S, four, this]
theorem S_le (f : Nat → Nat) (hf : ∀ k, f k ≤ 9223372036854775807) : ∀ k, S f k ≤ 9 * k
  | 0 => Nat.le_refl _
  | k + 1 => by have := S_le f hf k; have := uvl_nine (hf k); unfold S; omega
theorem VRow.news {w : World} {a : Option Addr} {n c : Nat} (h : VRow w a n) (B : Nat) (sv : Value) (k : Nat) (hb : Bs B sv k w) (hBw : B ≤ w.heap.size) (hlim : k + n ≤ 140737488355328) :
    ∃ v' w', (Builtin.append_ #[45, 91] 45 #[sv, .slice a n c]).run Try.prog w = .ok v' w' ∧ Bs B v' (k + n) w' ∧ Below B w w' := by
  obtain ⟨x, news, rfl, hx, hl, hc, h1⟩ := h
  exact append_voters B 45 sv k w hb hBw x n c news hl hc h1 hlim

theorem St.next {W : World} {fr too sq ins rd ad : Nat} {va : Option Addr} {vn vc : Nat} {val : ByteArray} {v v' : Value} {n n' : Nat} {w w' : World} (h : St W fr too sq ins rd ad va vn vc val v n w) (hb : Bs (W.heap.size + 1) v' n' w') (hx : Below (W.heap.size + 1) w w') : St W fr too sq ins rd ad va vn vc val v' n' w' :=
  ⟨hb, h.below.trans' hx, h.msg.kept hx (by omega), Nat.le_trans h.size hx.size⟩

set_option maxHeartbeats 4000000 in
theorem encode_any (fr too sq ins rd ad : Nat) (va : Option Addr) (vn vc : Nat) (val : ByteArray) (knd : Int) (dg : Nat) (w : World)
    (hfr : fr ≤ 9223372036854775807) (htoo : too ≤ 9223372036854775807) (hsq : sq ≤ 9223372036854775807) (hins : ins ≤ 9223372036854775807) (hrd : rd ≤ 9223372036854775807) (had : ad ≤ 9223372036854775807)
    (hvn : vn ≤ 1048576) (hval : val.size ≤ 1048576) (hdg : dg < 4294967296) (hv : VRow w va vn) :
    Calls Try.prog 41 #[.agg #[.int .u8 1, .int .i64 fr, .int .i64 too, .int .i64 sq, .int .i64 ins, .int .i64 0, .int .i64 0, .int .i64 rd, .int .i64 ad, .slice va vn vc, .string val, .int .i64 0, .int .i64 0, .string ByteArray.empty, .int .i64 0, .int .i64 0, .int .i64 0, .int .i64 0, .int .i64 0, .int .i64 0, .slice none 0 0], .int .u8 knd, .int .u32 dg] w fun e w' =>
      ∃ a c, e = .returned (.slice a (6 + uvl fr + uvl too + uvl sq + uvl ins + uvl rd + uvl ad + vn + uvl val.size + val.size) c) ∧ Below w.heap.size w w' := by
  obtain ⟨i0, hi, hz0, hz1, hz2⟩ := info_parts info5
  have HV : Hid (VRow w va vn) := hv
  clear hv
  go_enter Try.func41, Try.ntmps41
  go_upto_region 2 with (at_make; refine wpList_make_own _ rfl (.const (.int .i64 0)) (.tmp 26) 45 rfl (w.heap.size + 1) 5 i0 (.int .u8 0) 1 Try.underlying45 hi hz0 hz1 .i64 .i64 _ (48 + vn + val.size) rfl rfl (by simp) (by rw [hz2]; omega) (by unfold maxLen; omega) (by simp) ?_; intro w1 hown1 hgrow1)
  have HB1 : Hid (Below (w.heap.size + 1) (w.alloc (.cells #[.int .u8 1, .int .i64 fr, .int .i64 too, .int .i64 sq, .int .i64 ins, .int .i64 0, .int .i64 0, .int .i64 rd, .int .i64 ad, .slice va vn vc, .string val, .int .i64 0, .int .i64 0, .string ByteArray.empty, .int .i64 0, .int .i64 0, .int .i64 0, .int .i64 0, .int .i64 0, .int .i64 0, .slice none 0 0] 95)) w1) := (Below.refl _ _).grown hgrow1 (by simp) (fun k hk => by cases hk)
  have HM1 : Hid (MsgAt w.heap.size fr too sq ins rd ad va vn vc val w1) := by
    refine MsgAt.kept (w := w.alloc (.cells #[.int .u8 1, .int .i64 fr, .int .i64 too, .int .i64 sq, .int .i64 ins, .int .i64 0, .int .i64 0, .int .i64 rd, .int .i64 ad, .slice va vn vc, .string val, .int .i64 0, .int .i64 0, .string ByteArray.empty, .int .i64 0, .int .i64 0, .int .i64 0, .int .i64 0, .int .i64 0, .int .i64 0, .slice none 0 0] 95)) ?_ HB1.out (by omega)
    constructor <;> simp
  have HS1 : Hid (St w fr too sq ins rd ad va vn vc val (.slice (some ⟨w.heap.size + 1, 0, none⟩) 0 (48 + vn + val.size)) 0 w1) := ⟨⟨_, by simpa using hown1⟩, (Ext_alloc w _).trans' HB1.out, HM1.out, by have := HB1.out.size; simp at this; omega⟩
  clear hown1 hgrow1 hi hz0 hz1 hz2 HB1 HM1
  obtain ⟨v2, w2, hr2, hb2, hx2⟩ := append_byte (w.heap.size + 1) 45 _ 0 w1 HS1.out.bs HS1.out.size knd (by omega)
  have HS2 : Hid (St w fr too sq ins rd ad va vn vc val v2 1 w2) := HS1.out.next hb2 hx2
  clear hb2 hx2 HS1
  go_wp2_with (at_builtin; refine wpList_append_run _ rfl (.tmp 28) (.tmp 30) 45 45 rfl _ _ rfl rfl v2 w2 hr2 ?_)
  refine (digest_any (w.heap.size + 1) 1 dg hdg v2 w2 HS2.out.bs HS2.out.size (by omega)).mono ?_
  rintro e w3 ⟨v3, rfl, hb3, hx3⟩
  have HS3 : Hid (St w fr too sq ins rd ad va vn vc val v3 5 w3) := HS2.out.next hb3 hx3
  clear hb3 hx3 HS2 hr2
  obtain ⟨hlt, c0, c1, c2, c3, c4, c7, c8, c9, c10, c13⟩ := HS3.out.msg
  obtain ⟨g3, k3, rfl, hg3⟩ := HS3.out.form (by decide)
  go_wp2_with fail
  have HFl : Hid (∀ k, four fr too sq k ≤ 9223372036854775807) := by
    intro k
    match k with
    | 0 => exact hfr
    | 1 => exact htoo
    | 2 => exact hsq
    | k + 3 => simp [four]
  have HF : Hid (∀ k, k < 4 → (w3.alloc (.cells #[.int .i64 fr, .int .i64 too, .int .i64 sq, .int .i64 1] 3)).cell? ⟨w3.heap.size, k, none⟩ = some (.int .i64 (four fr too sq k))) := by
    intro k hk
    match k, hk with
    | 0, _ => simp [four]
    | 1, _ => simp [four]
    | 2, _ => simp [four]
    | 3, _ => simp [four]
  have HS4 : Hid (St w fr too sq ins rd ad va vn vc val (.slice (some ⟨g3, 0, none⟩) 5 k3) 5 (w3.alloc (.cells #[.int .i64 fr, .int .i64 too, .int .i64 sq, .int .i64 1] 3))) := HS3.out.next (HS3.out.bs.alloc _) ((Below.refl _ _).alloc HS3.out.size _)
  have hw3 : w3.heap.size < (w3.alloc (.cells #[.int .i64 fr, .int .i64 too, .int .i64 sq, .int .i64 1] 3)).heap.size := by simp
  generalize hq : w3.heap.size = q at *
  have hgq : g3 ≠ q := by omega
  clear c0 c1 c2 c3 c4 c7 c8 c9 c10 c13 hlt hq HS3
  go_loopw [7, 9, 46] (fun vb _ iv wr => ∃ k g c : Nat, k ≤ 4 ∧ iv = .int .i64 k ∧ vb = .slice (some ⟨g, 0, none⟩) (5 + S (four fr too sq) k) c ∧ g ≠ q ∧ q < wr.heap.size ∧ Hid (St w fr too sq ins rd ad va vn vc val (.slice (some ⟨g, 0, none⟩) (5 + S (four fr too sq) k) c) (5 + S (four fr too sq) k) wr) ∧ Hid (∀ j, j < 4 → wr.cell? ⟨q, j, none⟩ = some (.int .i64 (four fr too sq j)))) (fun _ _ iv _ => 4 - (intOf iv).toNat)
  case atStart => exact ⟨0, g3, k3, Nat.zero_le _, rfl, rfl, hgq, hw3, HS4.out, HF.out⟩
  case round =>
    obtain ⟨k, g, c, hk, rfl, rfl, hgq', hqw, HS, HFw⟩ := hrel
    have hSl := S_le (four fr too sq) HFl.out k
    by_cases hk4 : k < 4
    · have hk4' : (k : Int) < 4 := by omega
      have hcell := HFw.out k hk4
      have hfk := HFl.out k
      go_wp2_with fail
      refine (uv_kept (w.heap.size + 1) g _ c (four fr too sq k) _ (by first | rfl | omega | go_num) hfk wr HS.out.bs HS.out.size (by omega)).mono ?_
      rintro e w5 ⟨g5, c5, rfl, hb5, hx5, hk5, hl5⟩
      have HS5 : Hid (St w fr too sq ins rd ad va vn vc val (.slice (some ⟨g5, 0, none⟩) (5 + S (four fr too sq) (k + 1)) c5) (5 + S (four fr too sq) (k + 1)) w5) := by
        have e : 5 + S (four fr too sq) (k + 1) = 5 + S (four fr too sq) k + uvl (four fr too sq k) := by rw [S_succ]; omega
        rw [e]; exact HS.out.next hb5 hx5
      have HF5 : Hid (∀ j, j < 4 → w5.cell? ⟨q, j, none⟩ = some (.int .i64 (four fr too sq j))) := by
        intro j hj
        have := World.cell?_of_block (w := wr) (w' := w5) (a := ⟨q, j, none⟩) (hk5 q hqw (Ne.symm hgq'))
        rw [this]; exact HFw.out j hj
      have hs5 := hx5.size
      have hS5 : 5 + S (four fr too sq) k + uvl (four fr too sq k) = 5 + S (four fr too sq) (k + 1) := by rw [S_succ]; omega
      rw [hS5]
      clear hb5 hx5 hk5 hS5 HS HFw
      go_wp2_with fail
      go_roundw
      case rel => exact ⟨k + 1, g5, c5, by omega, by go_num, rfl, by omega, by omega, HS5.out, HF5.out⟩
      case measure => simp [intOf]; omega
    · have hke : k = 4 := by omega
      subst hke
      have hn4 : 5 + S (four fr too sq) 4 = 6 + uvl fr + uvl too + uvl sq := by rw [S_four]; omega
      rw [hn4] at HS ⊢
      have q1 := uvl_nine hfr; have q2 := uvl_nine htoo; have q3 := uvl_nine hsq; have q4 := uvl_nine hins; have q5 := uvl_nine hrd; have q6 := uvl_nine had; have q7 := uvl_nine (show val.size ≤ 9223372036854775807 by omega)
      clear hn4 HFw hSl hqw hgq' HS4 HF HFl hgq hw3 hg3 hk4 hk
      obtain ⟨hlt, c0, c1, c2, c3, c4, c7, c8, c9, c10, c13⟩ := HS.out.msg
      go_wp2_with fail
      refine (is48 wr).mono ?_
      rintro e wr' ⟨rfl, hwe⟩
      subst wr'
      go_wp2_with fail
      refine (uv_kept (w.heap.size + 1) g _ c ins _ (by first | rfl | omega | go_num) hins wr HS.out.bs HS.out.size (by omega)).mono ?_
      rintro e w10 ⟨g10, k10, rfl, hb, hx, _, _⟩
      have HS10 : Hid (St w fr too sq ins rd ad va vn vc val (.slice (some ⟨g10, 0, none⟩) (6 + uvl fr + uvl too + uvl sq + uvl ins) k10) (6 + uvl fr + uvl too + uvl sq + uvl ins) w10) := HS.out.next hb hx
      clear hb hx HS
      clear hlt c0 c1 c2 c3 c4 c7 c8 c9 c10 c13
      obtain ⟨hlt, c0, c1, c2, c3, c4, c7, c8, c9, c10, c13⟩ := HS10.out.msg
      go_wp2_with fail
      refine (is49 w10).mono ?_
      rintro e w10' ⟨rfl, hwe⟩
      subst w10'
      go_wp2_with fail
      refine (is50 w10).mono ?_
      rintro e w10' ⟨rfl, hwe⟩
      subst w10'
      go_wp2_with fail
      refine (uv_kept (w.heap.size + 1) g10 _ k10 rd _ (by first | rfl | omega | go_num) hrd w10 HS10.out.bs HS10.out.size (by omega)).mono ?_
      rintro e w11 ⟨g11, k11, rfl, hb, hx, _, _⟩
      have HS11 : Hid (St w fr too sq ins rd ad va vn vc val (.slice (some ⟨g11, 0, none⟩) (6 + uvl fr + uvl too + uvl sq + uvl ins + uvl rd) k11) (6 + uvl fr + uvl too + uvl sq + uvl ins + uvl rd) w11) := HS10.out.next hb hx
      clear hb hx HS10
      clear hlt c0 c1 c2 c3 c4 c7 c8 c9 c10 c13
      obtain ⟨hlt, c0, c1, c2, c3, c4, c7, c8, c9, c10, c13⟩ := HS11.out.msg
      go_wp2_with fail
      refine (uv_kept (w.heap.size + 1) g11 _ k11 ad _ (by first | rfl | omega | go_num) had w11 HS11.out.bs HS11.out.size (by omega)).mono ?_
      rintro e w12 ⟨g12, k12, rfl, hb, hx, _, _⟩
      have HS12 : Hid (St w fr too sq ins rd ad va vn vc val (.slice (some ⟨g12, 0, none⟩) (6 + uvl fr + uvl too + uvl sq + uvl ins + uvl rd + uvl ad) k12) (6 + uvl fr + uvl too + uvl sq + uvl ins + uvl rd + uvl ad) w12) := HS11.out.next hb hx
      clear hb hx HS11
      clear hlt c0 c1 c2 c3 c4 c7 c8 c9 c10 c13
      obtain ⟨hlt, c0, c1, c2, c3, c4, c7, c8, c9, c10, c13⟩ := HS12.out.msg
      go_wp2_with fail
      refine (is51 w12).mono ?_
      rintro e w12' ⟨rfl, hwe⟩
      subst w12'
      obtain ⟨v13, w13, hr13, hb13, hx13⟩ := (HV.out.kept HS12.out.below).news (c := vc) (w.heap.size + 1) _ _ HS12.out.bs HS12.out.size (by omega)
      have HS13 : Hid (St w fr too sq ins rd ad va vn vc val v13 (6 + uvl fr + uvl too + uvl sq + uvl ins + uvl rd + uvl ad + vn) w13) := HS12.out.next hb13 hx13
      obtain ⟨g13, k13, rfl, hg13⟩ := HS13.out.form (by omega)
      clear hb13 hx13
      obtain ⟨hlt', d0, d1, d2, d3, d4, d7, d8, d9, d10, d13⟩ := HS13.out.msg
      go_wp2_with (at_builtin; refine wpList_append_run _ rfl (.tmp 108) (.tmp 110) 45 91 rfl _ _ rfl rfl _ w13 hr13 ?_)
      clear hr13 HS12
      clear hlt c0 c1 c2 c3 c4 c7 c8 c9 c10 c13
      have hlt := hlt'; have c0 := d0; have c1 := d1; have c2 := d2; have c3 := d3; have c4 := d4; have c7 := d7; have c8 := d8; have c9 := d9; have c10 := d10; have c13 := d13
      clear hlt' d0 d1 d2 d3 d4 d7 d8 d9 d10 d13
      refine (is52 w13).mono ?_
      rintro e w13' ⟨rfl, hwe⟩
      subst w13'
      go_wp2_with fail
      refine (uv_kept (w.heap.size + 1) g13 _ k13 val.size _ (by first | rfl | omega | go_num) (by omega) w13 HS13.out.bs HS13.out.size (by omega)).mono ?_
      rintro e w14 ⟨g14, k14, rfl, hb, hx, _, _⟩
      have HS14 : Hid (St w fr too sq ins rd ad va vn vc val (.slice (some ⟨g14, 0, none⟩) (6 + uvl fr + uvl too + uvl sq + uvl ins + uvl rd + uvl ad + vn + uvl val.size) k14) (6 + uvl fr + uvl too + uvl sq + uvl ins + uvl rd + uvl ad + vn + uvl val.size) w14) := HS13.out.next hb hx
      clear hb hx HS13
      clear hlt c0 c1 c2 c3 c4 c7 c8 c9 c10 c13
      obtain ⟨hlt, c0, c1, c2, c3, c4, c7, c8, c9, c10, c13⟩ := HS14.out.msg
      obtain ⟨v15, w15, hr15, hb15, hx15⟩ := append_value (w.heap.size + 1) 45 _ _ w14 HS14.out.bs HS14.out.size val (by omega)
      have HS15 : Hid (St w fr too sq ins rd ad va vn vc val v15 (6 + uvl fr + uvl too + uvl sq + uvl ins + uvl rd + uvl ad + vn + uvl val.size + val.size) w15) := HS14.out.next hb15 hx15
      obtain ⟨g15, k15, rfl, hg15⟩ := HS15.out.form (by omega)
      clear hb15 hx15
      obtain ⟨hlt', d0, d1, d2, d3, d4, d7, d8, d9, d10, d13⟩ := HS15.out.msg
      go_wp2_with (at_builtin; refine wpList_append_run _ rfl (.tmp 126) (.tmp 128) 45 9 rfl _ _ rfl rfl _ w15 hr15 ?_)
      refine (is54 w15).mono ?_
      rintro e w15' ⟨rfl, hwe⟩
      subst w15'
      go_wp2_with fail
      go_ret
      exact ⟨_, _, rfl, HS15.out.below⟩
end Go.Proofs.Qxb6616238a.Enc
