import Derived.Test.Qxb6616238aEnc
import Derived.Laws.CopyOwn
import Derived.Deep.WholeRow
import Derived.Deep.MidRow
namespace Go.Proofs.Qxb6616238a.Enc
open Go.RowKit
set_option maxRecDepth 100000
set_option linter.unusedVariables false
set_option linter.unusedSimpArgs false


theorem built93 : Try.prog.built 93 [(0, .int .i64 0), (1, .int .i64 0), (2, .string ByteArray.empty)] = some #[.int .i64 0, .int .i64 0, .string ByteArray.empty] := by kernel_rfl
theorem built95 (fr too sq ins rd ad : Int) (va : Option Addr) (vn vc : Nat) (val : ByteArray) : Try.prog.built 95 [(0, .int .u8 1), (1, .int .i64 fr), (2, .int .i64 too), (3, .int .i64 sq), (4, .int .i64 ins), (5, .int .i64 0), (6, .int .i64 0), (7, .int .i64 rd), (8, .int .i64 ad), (9, .slice va vn vc), (10, .string val), (11, .agg #[.int .i64 0, .int .i64 0, .string ByteArray.empty]), (12, .int .i64 0), (13, .int .i64 0), (14, .int .i64 0), (15, .int .i64 0), (16, .int .i64 0), (17, .int .i64 0), (18, .slice none 0 0)] =
    some #[.int .u8 1, .int .i64 fr, .int .i64 too, .int .i64 sq, .int .i64 ins, .int .i64 0, .int .i64 0, .int .i64 rd, .int .i64 ad, .slice va vn vc, .string val, .int .i64 0, .int .i64 0, .string ByteArray.empty, .int .i64 0, .int .i64 0, .int .i64 0, .int .i64 0, .int .i64 0, .int .i64 0, .slice none 0 0] := by kernel_rfl

theorem wpList_built {P : Program} (w : World) {ops : Array Oper} {rest : List Oper} {o : Oper} {a : Act} {Q : Exit → Act → World → Prop} (hgd : o.guard = none) (t : TypeId) (parts : Array (Nat × Operand))
    (ho : o.op = .build t parts) (cells : Array Value) (hc : P.built t (parts.toList.map fun p => (p.1, a.eval p.2)) = some cells) (h : wpList P ops Q rest (a.put o.dst (.agg cells)) w) : wpList P ops Q (o :: rest) a w := by
  refine wpList_plain hgd fun K hK => ?_
  have e : (parts.map fun (i, x) => (i, a.eval x)).toList = parts.toList.map fun p => (p.1, a.eval p.2) := by simp
  have := run_build (P := P) w t (parts.map fun (i, x) => (i, a.eval x)) cells (by rw [e]; exact hc)
  unfold Oper.wp execOp
  simp only [ho, Sem.run_bind, this, Result.andThen_ok]
  exact hK _ _ h

theorem wpList_store_new {P : Program} (w : World) {ops : Array Oper} {rest : List Oper} {op : Oper} {a : Act} {Q : Exit → Act → World → Prop} (hgd : op.guard = none) (ty : TypeId) (x y : Operand) (ho : op.op = .store ty x y)
    (c c' : Array Value) (hx : a.eval x = .pointer (some ⟨w.heap.size, 0, none⟩)) (hy : a.eval y = .agg c') (hi : (P.info? ty).map (·.size) = some c'.size) (hs : c.size = c'.size) (h1 : c'.all (·.oneCell') = true)
    (h : wpList P ops Q rest (a.put op.dst undef) (w.alloc (.cells c' ty))) : wpList P ops Q (op :: rest) a (w.alloc (.cells c ty)) := by
  refine wpList_plain hgd fun K hK => ?_
  have hk := hK _ _ h
  unfold Oper.wp execOp
  simp only [ho, hx, hy, Sem.run_bind, run_storeAt_new w ty c c' hi hs h1, Result.andThen_ok]
  exact hk

theorem wpList_load_new {P : Program} (w : World) {ops : Array Oper} {rest : List Oper} {op : Oper} {a : Act} {Q : Exit → Act → World → Prop} (hgd : op.guard = none) (ty : TypeId) (x : Operand) (ho : op.op = .load ty x)
    (c : Array Value) (hx : a.eval x = .pointer (some ⟨w.heap.size, 0, none⟩)) (d : TypeDesc) (hu : P.underlying ty = some d) (hd : d.isRow = true) (hi : (P.info? ty).map (·.size) = some c.size)
    (h : wpList P ops Q rest (a.put op.dst (.agg c)) (w.alloc (.cells c ty))) : wpList P ops Q (op :: rest) a (w.alloc (.cells c ty)) := by
  refine wpList_load_mid hgd ty x ho w.heap.size 0 hx c.toList d (fun j v hv => ?_) hu hd (by simpa using hi) (by simpa using h)
  rw [Nat.zero_add, cell_of_row _ _ j c ty (0, 0) (heap_alloc_last w _)]
  simpa using hv

theorem size95 : (Try.prog.info? 95).map (·.size) = some 21 := by kernel_rfl

set_option maxHeartbeats 2000000 in
theorem zzencode_any (fr too sq ins rd ad : Nat) (va : Option Addr) (vn vc : Nat) (val : ByteArray) (knd : Int) (dg : Nat) (w : World)
    (hfr : fr ≤ 9223372036854775807) (htoo : too ≤ 9223372036854775807) (hsq : sq ≤ 9223372036854775807) (hins : ins ≤ 9223372036854775807) (hrd : rd ≤ 9223372036854775807) (had : ad ≤ 9223372036854775807)
    (hvn : vn ≤ 1048576) (hval : val.size ≤ 1048576) (hdg : dg < 4294967296) (hv : VRow w va vn) :
    Calls Try.prog 28 #[.int .u8 knd, .int .u32 dg, .int .u8 1, .int .i64 fr, .int .i64 too, .int .i64 sq, .int .i64 ins, .int .i64 0, .int .i64 0, .int .i64 rd, .int .i64 ad, .slice va vn vc, .string val, .int .i64 0, .int .i64 0, .string ByteArray.empty, .int .i64 0, .int .i64 0, .int .i64 0, .int .i64 0, .int .i64 0, .int .i64 0, .slice none 0 0] w fun e w' =>
      ∃ a c, e = .returned (.slice a (6 + uvl fr + uvl too + uvl sq + uvl ins + uvl rd + uvl ad + vn + uvl val.size + val.size) c) ∧ Below w.heap.size w w' := by
  have HV : Hid (VRow w va vn) := hv
  clear hv
  obtain ⟨cs, hcs⟩ : ∃ cs : Array Value, cs = #[.int .u8 1, .int .i64 fr, .int .i64 too, .int .i64 sq, .int .i64 ins, .int .i64 0, .int .i64 0, .int .i64 rd, .int .i64 ad, .slice va vn vc, .string val, .int .i64 0, .int .i64 0, .string ByteArray.empty, .int .i64 0, .int .i64 0, .int .i64 0, .int .i64 0, .int .i64 0, .int .i64 0, .slice none 0 0] := ⟨_, rfl⟩
  have hb95 := built95 fr too sq ins rd ad va vn vc val
  rw [← hcs] at hb95
  have hsz : cs.size = 21 := by rw [hcs]; rfl
  have hone : cs.all (·.oneCell') = true := by rw [hcs]; simp [Value.oneCell']
  have hi95 : (Try.prog.info? 95).map (·.size) = some cs.size := by rw [hsz]; exact size95
  have HX : Hid (Below w.heap.size w (w.alloc (.cells cs 95))) := Ext_alloc w _
  have HE : Hid (cs = #[.int .u8 1, .int .i64 fr, .int .i64 too, .int .i64 sq, .int .i64 ins, .int .i64 0, .int .i64 0, .int .i64 rd, .int .i64 ad, .slice va vn vc, .string val, .int .i64 0, .int .i64 0, .string ByteArray.empty, .int .i64 0, .int .i64 0, .int .i64 0, .int .i64 0, .int .i64 0, .int .i64 0, .slice none 0 0]) := hcs
  clear hcs
  go_enter Try.func28, Try.ntmps28
  go_wp2_with first | (refine wpList_built _ rfl 93 _ rfl #[.int .i64 0, .int .i64 0, .string ByteArray.empty] (by simp; exact built93) ?_) | (refine wpList_built _ rfl 95 _ rfl cs ?hc ?_; case hc => (simp; exact hb95)) | (refine wpList_store_new _ rfl 95 (.tmp 47) (.tmp 70) rfl _ cs rfl rfl hi95 (by rw [hsz]; rfl) hone ?_) | (refine wpList_load_new _ rfl 95 (.tmp 47) rfl cs rfl _ Try.underlying95 rfl hi95 ?_)
  have HV' : Hid (VRow (w.alloc (.cells cs 95)) va vn) := HV.out.kept HX.out
  have hE := HE.out
  subst hE
  refine (encode_any fr too sq ins rd ad va vn vc val knd dg _ hfr htoo hsq hins hrd had hvn hval hdg HV'.out).mono ?_
  rintro e w' ⟨a, c, rfl, hx⟩
  have HX' := HX.out.trans' hx (by simp)
  go_wp2_with fail
  go_ret
  exact ⟨_, _, rfl, HX'⟩

theorem bytes27' (a0 a1 a2 a3 a4 a5 a6 : Int) (a : Option Addr) (n cap : Nat) (s : ByteArray) (a9 a10 : Int) (w : World) (hn : n ≤ 9223372036854775807) (hs : s.size ≤ 9223372036854775807) :
    Calls Try.prog 27 #[.int .i64 a0, .int .i64 a1, .int .i64 a2, .int .i64 a3, .int .i64 a4, .int .i64 a5, .int .i64 a6, .slice a n cap, .string s, .int .u8 a9, .int .u32 a10] w fun e w' => RetB e ∧ w' = w := by
  by_cases h1 : 1048576 < (n : Int)
  · go_enter Try.func27, Try.ntmps27
    go_wp2
    go_ret
    exact ⟨⟨_, rfl⟩, rfl⟩
  by_cases h2 : 1048576 < (s.size : Int)
  · go_enter Try.func27, Try.ntmps27
    go_wp2
    go_ret
    exact ⟨⟨_, rfl⟩, rfl⟩
  by_cases h3 : 1048576 < (n : Int) + s.size
  · go_enter Try.func27, Try.ntmps27
    go_wp2
    go_ret
    exact ⟨⟨_, rfl⟩, rfl⟩
  · go_enter Try.func27, Try.ntmps27
    go_wp2
    go_ret
    exact ⟨⟨_, rfl⟩, rfl⟩

theorem neq45_some (a : Addr) (n cap : Nat) (w : World) : (binOp .neq 45 (.slice (some a) n cap) (.slice none 0 0)).run Try.prog w = .ok (.bool true) w := by kernel_rfl

theorem own_list {w : World} {B : Nat} {e : TypeId} {g n cap : Nat} {xs : List Value} (h : w.ownsRow B e 1 (.slice (some ⟨g, 0, none⟩) n cap) n xs) : ∃ cur : List Value, w.heap[g]? = some (.cells cur.toArray e (0, 0)) ∧ cur.length = cap := by
  rcases h.2 with ⟨h', _⟩ | ⟨g', cap', cur, h', hb, hg, hnc, hcm, hcs, htake⟩
  · simp at h'
  · simp only [Value.slice.injEq, Option.some.injEq, Addr.mk.injEq, and_true, true_and] at h'
    obtain ⟨rfl, rfl⟩ := h'
    exact ⟨cur.toList, by simpa using hg, by simp [hcs]⟩

theorem copy_run {w : World} {g n cap : Nat} {ad : Option Addr} {cur : List Value} (hg : w.heap[g]? = some (.cells cur.toArray 5 (0, 0))) (hl : cur.length = n) (hr : VRow w ad n) (hn : 1 ≤ n) :
    ∃ w', (Builtin.copy_ #[45, 45] 3 #[.slice (some ⟨g, 0, none⟩) n n, .slice ad n cap]).run Try.prog w = .ok (.int .i64 n) w' ∧ VRow w' (some ⟨g, 0, none⟩) n ∧ (∀ B w0, Below B w0 w → B ≤ g → Below B w0 w') := by
  have hsz : (Try.prog.info? 5).map (·.size) = some 1 := by kernel_rfl
  obtain ⟨x, news, rfl, hx, hln, hc, h1⟩ := hr
  have := run_copy_row (P := Try.prog) w 45 45 3 5 g 0 n n x n cap cur.toArray 5 news Try.underlying45 hsz hg (by simp; omega) hc (by simp; omega) h1
  have hrow := setRow_heap w g cur.toArray (news ++ cur.drop n).toArray 5 (0, 0) hg
  have hlt : g < (w.setRow g (news ++ cur.drop n).toArray).heap.size := by
    rcases Nat.lt_or_ge g (w.setRow g (news ++ cur.drop n).toArray).heap.size with h' | h'
    · exact h'
    · rw [Array.getElem?_eq_none h'] at hrow; cases hrow
  refine ⟨w.setRow g (news ++ cur.drop n).toArray, by rw [this]; simp [goInt, hln], ⟨_, news, rfl, hlt, hln, ?_, h1⟩, fun B w0 hb hB => below_setRow hb hB _⟩
  intro j u hj
  have hjl : j < news.length := (List.getElem?_eq_some_iff.1 hj).1
  rw [Addr.add_mid, Nat.zero_add, cell_of_row _ g j _ _ _ hrow]
  rw [List.getElem?_toArray, List.getElem?_append_left hjl]; exact hj

theorem uvLen_is (x u : Nat) (hu : uvl x = u) (hx : x ≤ 9223372036854775807) (i : Int) (hi : i = x) (w : World) : Calls Try.prog 29 #[.int .u64 i] w fun e w' => e = .returned (.int .i64 u) ∧ w' = w := by
  subst hi; subst hu
  exact uvLen_any x (by omega) w
end Go.Proofs.Qxb6616238a.Enc
