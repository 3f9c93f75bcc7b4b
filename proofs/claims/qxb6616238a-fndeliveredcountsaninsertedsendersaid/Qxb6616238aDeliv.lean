import Derived.Test.Qxb6616238aNew
import Derived.Laws.CopyOwn
import Derived.Deep.AppendLies
import Derived.Deep.CutBlock
namespace Go.Proofs.Qxb6616238a.Grow
set_option linter.unusedVariables false
set_option linter.unusedSimpArgs false
open Go.ChangeShapes Go.WideShapes Go.ChangeAt Go.RowKit

/-- What a slice of ints holds. -/
def IRow (w : World) (a : Option Addr) (zs : List Int) : Prop := ∀ i (h : i < zs.length), ∃ g o, a = some ⟨g, o, none⟩ ∧ w.cell? ⟨g, o + i, none⟩ = some (.int .i64 (zs[i])) ∧ g < w.heap.size

theorem IRow.kept {w w' : World} {a : Option Addr} {zs : List Int} (h : IRow w a zs) (hx : Ext w w') : IRow w' a zs := by
  intro i hi
  obtain ⟨g, o, ha, hc, hg⟩ := h i hi
  refine ⟨g, o, ha, ?_, Nat.lt_of_lt_of_le hg hx.size⟩
  rw [Below.cell hx (p := ⟨g, o + i, none⟩) hg]; exact hc

theorem nodeDelivered_any (a : Option Addr) (n cap : Nat) (hn : n ≤ 1000000) (w : World) :
    Calls Try.prog 11 #[.bool false, .slice a n cap] w fun e w' => ∃ nb, e = .returned (.pointer (some ⟨nb, 0, none⟩)) ∧ w'.cell? ⟨nb, 21, none⟩ = some (.slice a n cap) ∧ Ext w w' := by
  go_enter Try.func11, Try.ntmps11
  go_wp2_with fail
  refine (new_any n hn w).mono ?_
  rintro e w1 ⟨nb, rfl, hN, hx⟩
  obtain ⟨hge, cs, mb, hb, hsz, h14, h17, hmb, hmh⟩ := hN
  have hc : w1.cell? ⟨nb, 21, none⟩ = some (cs[21]'(by omega)) := by
    rw [cell_of_row w1 nb 21 cs _ _ hb]; simp [hsz]
  have hf : w1.frozen? ⟨nb, 21, none⟩ = false := frozen_of_row w1 nb 21 cs _ hb
  have HC : Hid ((w1.setCell ⟨nb, 21, none⟩ (.slice a n cap)).cell? ⟨nb, 21, none⟩ = some (.slice a n cap)) := by
    have := heap_setCell_same w1 nb 21 cs 69 (.slice a n cap) hb
    show (w1.setCell ⟨nb, 21, none⟩ (.slice a n cap)).cell? ⟨nb, 21, none⟩ = _
    rw [cell_of_row _ nb 21 _ _ _ this]; simp [hsz]
  have HX : Hid (Ext w (w1.setCell ⟨nb, 21, none⟩ (.slice a n cap))) := Below.setCell hx hge _
  generalize cs[21]'(by omega) = old at hc
  clear hb hsz h14 h17 hmb hmh hx hge
  go_wp2_with fail
  go_ret
  exact ⟨nb, rfl, HC.out, HX.out⟩

def isum (zs : List Int) : Int := zs.foldr (· + ·) 0
theorem isum_append (a b : List Int) : isum (a ++ b) = isum a + isum b := by
  induction a with
  | nil => simp [isum]
  | cons x a ih => simp only [isum, List.cons_append, List.foldr_cons] at *; omega
theorem isum_snoc (zs : List Int) (k : Nat) (h : k < zs.length) : isum (zs.take (k + 1)) = isum (zs.take k) + zs[k] := by
  rw [List.take_succ_eq_append_getElem h, isum_append]; simp [isum]
theorem wrap_isum_nil : (0 : Int) = wrap64 (isum []) := by simp [isum, wrap64]
theorem wrap_step (a b : Int) : wrap64 (wrap64 a + b) = wrap64 (a + b) := by unfold wrap64; omega

theorem delivered_any (nb : Nat) (a : Option Addr) (zs : List Int) (cap : Nat) (hn : zs.length ≤ 1000000) (w : World) (hc : w.cell? ⟨nb, 21, none⟩ = some (.slice a zs.length cap)) (hr : IRow w a zs) :
    Calls Try.prog 12 #[.pointer (some ⟨nb, 0, none⟩)] w fun e w' => e = .returned (.int .i64 (wrap64 (isum zs))) ∧ w' = w := by
  go_enter Try.func12, Try.ntmps12
  go_wp2
  go_loop [3, 5, 11] (fun c _ i => ∃ k : Nat, k ≤ zs.length ∧ i = .int .i64 k ∧ c = .int .i64 (wrap64 (isum (zs.take k)))) (fun _ _ i => zs.length - (intOf i).toNat)
  case atStart => exact ⟨0, Nat.zero_le _, rfl, congrArg (Value.int .i64) (by rw [List.take_zero]; exact wrap_isum_nil)⟩
  case round =>
    obtain ⟨k, hk, rfl, rfl⟩ := hrel
    by_cases hlt : k < zs.length
    · obtain ⟨g, o, rfl, hcell, hg⟩ := hr k hlt
      have hlt' : (k : Int) < zs.length := by omega
      have HS : Hid (isum (zs.take (k + 1)) = isum (zs.take k) + zs[k]) := isum_snoc zs k hlt
      generalize zs[k] = z at *
      generalize hq : isum (zs.take k) = q at *
      have HQ : Hid (isum (zs.take k) = q) := hq
      clear hq
      go_wp2
      go_round
      case rel => exact ⟨k + 1, by omega, by go_num, congrArg (Value.int .i64) (by rw [HS.out, wrap_step])⟩
      case measure => simp [intOf]; omega
    · go_wp2
      go_ret
      have : k = zs.length := by omega
      subst this
      rw [List.take_length]
      exact ⟨rfl, rfl⟩

def RetB (e : Ending) : Prop := ∃ b, e = .returned (.bool b)
theorem RetB.mk (b : Bool) : RetB (.returned (.bool b)) := ⟨b, rfl⟩

theorem bytes10 (a : Option Addr) (n cap : Nat) (i x : Int) (w : World) (hn : n ≤ 9223372036854775807) :
    Calls Try.prog 10 #[.slice a n cap, .int .i64 i, .int .i64 x] w fun e w' => RetB e ∧ w' = w := by
  by_cases hbig : 1048576 < (n : Int)
  · go_enter Try.func10, Try.ntmps10
    go_wp2
    go_ret
    exact ⟨RetB.mk _, rfl⟩
  · go_enter Try.func10, Try.ntmps10
    go_wp2
    go_ret
    exact ⟨RetB.mk _, rfl⟩

theorem neq24_nil (w : World) : (binOp .neq 24 (.slice none 0 0) (.slice none 0 0)).run Try.prog w = .ok (.bool false) w := by kernel_rfl
theorem neq24_some (a : Addr) (n cap : Nat) (w : World) : (binOp .neq 24 (.slice (some a) n cap) (.slice none 0 0)).run Try.prog w = .ok (.bool true) w := by kernel_rfl

theorem own_list {w : World} {B : Nat} {e : TypeId} {g n cap : Nat} {xs : List Value} (h : w.ownsRow B e 1 (.slice (some ⟨g, 0, none⟩) n cap) n xs) : ∃ cur : List Value, w.heap[g]? = some (.cells cur.toArray e (0, 0)) ∧ cur.length = cap := by
  rcases h.2 with ⟨h', _⟩ | ⟨g', cap', cur, h', hb, hg, hnc, hcm, hcs, htake⟩
  · simp at h'
  · simp only [Value.slice.injEq, Option.some.injEq, Addr.mk.injEq, and_true, true_and] at h'
    obtain ⟨rfl, rfl⟩ := h'
    exact ⟨cur.toList, by simpa using hg, by simp [hcs]⟩

theorem addr_plain (b off j : Nat) : (⟨b, off, none⟩ : Addr).add j = ⟨b, off + j, none⟩ := by
  unfold Addr.add
  split
  · simp_all
  · rfl

theorem irow_src {w : World} {ad : Addr} {zs : List Int} (h : IRow w (some ad) zs) : ∀ j v, (zs.map (Value.int .i64))[j]? = some v → w.cell? (ad.add j) = some v := by
  intro j v hj
  rw [List.getElem?_map] at hj
  obtain ⟨z, hz, rfl⟩ := Option.map_eq_some_iff.1 hj
  obtain ⟨hl, hz'⟩ := List.getElem?_eq_some_iff.1 hz
  obtain ⟨g, o, ha, hc, _⟩ := h j hl
  cases ha
  rw [addr_plain, hc, hz']

theorem irow_splice {w : World} {g : Nat} {cur : List Value} {zs : List Int} (h : w.heap[g]? = some (.cells (splice cur 0 (zs.map (Value.int .i64))).toArray 3 (0, 0))) : IRow w (some ⟨g, 0, none⟩) zs := by
  intro i hi
  have hlt : g < w.heap.size := by
    rcases Nat.lt_or_ge g w.heap.size with h' | h'
    · exact h'
    · rw [Array.getElem?_eq_none h'] at h; cases h
  refine ⟨g, 0, rfl, ?_, hlt⟩
  rw [Nat.zero_add, cell_of_row w g i _ _ _ h]
  simp [splice, List.getElem?_append_left, hi]

theorem ints_one (zs : List Int) : ∀ v ∈ zs.map (Value.int .i64), v.oneCell' = true := by
  intro v hv
  obtain ⟨z, _, rfl⟩ := List.mem_map.1 hv
  rfl

theorem copy_run {w : World} {g cap : Nat} {ad : Addr} {cur : List Value} {zs : List Int} (hg : w.heap[g]? = some (.cells cur.toArray 3 (0, 0))) (hl : cur.length = zs.length) (hr : IRow w (some ad) zs) :
    ∃ w', (Builtin.copy_ #[24, 24] 3 #[.slice (some ⟨g, 0, none⟩) zs.length zs.length, .slice (some ad) zs.length cap]).run Try.prog w = .ok (.int .i64 zs.length) w' ∧ IRow w' (some ⟨g, 0, none⟩) zs ∧ (∀ B w0, Below B w0 w → B ≤ g → Below B w0 w') := by
  have hsz : (Try.prog.info? 3).map (·.size) = some 1 := by kernel_rfl
  by_cases h0 : zs.length = 0
  · have := run_copy_none (P := Try.prog) w 24 24 3 3 (some ⟨g, 0, none⟩) (some ad) zs.length zs.length zs.length cap Try.underlying24 hsz (by simp [h0])
    refine ⟨w, ?_, fun i hi => by omega, fun B w0 hb _ => hb⟩
    rw [this, h0]; rfl
  · have := run_copy_row (P := Try.prog) w 24 24 3 3 g 0 zs.length zs.length ad zs.length cap cur.toArray 3 (zs.map (Value.int .i64)) Try.underlying24 hsz hg (by simp) (irow_src hr) (by simp [hl]) (ints_one zs)
    refine ⟨w.setRow g (zs.map (Value.int .i64) ++ cur.drop zs.length).toArray, by rw [this]; simp [goInt], irow_splice (cur := cur) ?_, fun B w0 hb hB => below_setRow hb hB _⟩
    rw [setRow_heap w g cur.toArray _ 3 (0, 0) hg]; simp [splice]

theorem own_grow {w w1 : World} {B : Nat} {v : Value} {n : Nat} {xs : List Value} (w0 : World) (hB : Below B w0 w) (hBs : B ≤ w.heap.size) (ho : w.ownsRow B 3 1 v n xs) {o : Obj} (hg : (w.alloc o).grownBy w1 v.ownBlock) : Below B w0 w1 :=
  (hB.alloc hBs o).grown hg (by simp; omega) (fun k hk => (ho.lt k hk).1)

theorem irow_own {w : World} {B g cap : Nat} {zs : List Int} (h : w.ownsRow B 3 1 (.slice (some ⟨g, 0, none⟩) zs.length cap) zs.length (zs.map (Value.int .i64))) : IRow w (some ⟨g, 0, none⟩) zs := by
  intro i hi
  refine ⟨g, 0, rfl, ?_, (h.lt g rfl).2⟩
  rw [Nat.zero_add, h.cellAt i (by omega)]
  simp [hi]

def ins (zs : List Int) (i : Nat) (x : Int) : List Int := zs.take i ++ x :: zs.drop i

set_option maxRecDepth 100000 in
set_option maxHeartbeats 2000000 in
theorem deliv_walk (a : Option Addr) (cap : Nat) (zs : List Int) (i x : Int) (w : World) (hr : IRow w a zs) (hnil : a = none → zs = [] ∧ cap = 0) (hlen : zs.length ≤ 9223372036854775807)
    (hi0 : -9223372036854775808 ≤ i) (hi1 : i ≤ 9223372036854775807) (hx0 : -9223372036854775808 ≤ x) (hx1 : x ≤ 9223372036854775807) :
    Calls Try.prog 4 #[.slice a zs.length cap, .int .i64 i, .int .i64 x] w fun e w' => e = .returned (.bool true) ∧ Below w.heap.size w w' := by
  go_enter Try.func4, Try.ntmps4
  go_wp2_with fail
  refine (bytes10 a zs.length cap i x w hlen).mono ?_
  rintro e w1 ⟨⟨b, rfl⟩, rfl⟩
  cases b with
  | false =>
    go_wp2_with fail
    go_ret
    exact ⟨rfl, Below.refl _ _⟩
  | true =>
  by_cases hbig : 65536 < (zs.length : Int)
  · go_wp2_with fail
    go_ret
    exact ⟨rfl, Below.refl _ _⟩
  by_cases hi : i < 0
  · go_wp2_with fail
    go_ret
    exact ⟨rfl, Below.refl _ _⟩
  by_cases hi' : (zs.length : Int) < i
  · go_wp2_with fail
    go_ret
    exact ⟨rfl, Below.refl _ _⟩
  by_cases hx : x < 0
  · go_wp2_with fail
    go_ret
    exact ⟨rfl, Below.refl _ _⟩
  obtain ⟨m, rfl⟩ := Int.eq_ofNat_of_zero_le (show 0 ≤ i by omega)
  have hm : m ≤ zs.length := by omega
  have hbig' : zs.length ≤ 65536 := by omega
  clear hi0 hi1 hi hi' hbig hlen
  go_wp2_with fail
  go_loop [7] (fun v => ∃ k : Nat, k ≤ zs.length ∧ v = .int .i64 k) (fun v => zs.length - (intOf v).toNat)
  case atStart => exact ⟨0, Nat.zero_le _, rfl⟩
  case round =>
    obtain ⟨k, hk, rfl⟩ := hrel
    by_cases hlt : k < zs.length
    · obtain ⟨g, o, rfl, hcell, hg⟩ := hr k hlt
      have hlt' : (k : Int) < zs.length := by omega
      generalize zs[k] = z at *
      by_cases hz : z < 0
      · go_wp2_with fail
        go_ret
        exact ⟨rfl, Below.refl _ _⟩
      · go_wp2_with fail
        go_round
        case rel => exact ⟨k + 1, by omega, by go_num⟩
        case measure => simp [intOf]; omega
    · clear hk
      have HR : Hid (IRow w1 a zs) := hr
      have HNil : Hid (a = none → zs = [] ∧ cap = 0) := hnil
      clear hr hnil
      obtain ⟨i0, hi, hz0, hz1, hz2⟩ := info_parts info3
      have hsz3 : (Try.prog.info? 3).map (·.size) = some 1 := by rw [hi]; simp [hz1]
      have hne : ∀ W, (binOp .neq 24 (.slice a zs.length cap) (.slice none 0 0)).run Try.prog W = .ok (.bool a.isSome) W := fun W => by
        cases a with
        | none => obtain ⟨rfl, rfl⟩ := HNil.out rfl; exact neq24_nil W
        | some ad => exact neq24_some ad _ _ W
      go_upto_if 48 with fail
      go_cut [8] (fun v wx => ∃ a2 c2, v = .slice a2 zs.length c2 ∧ IRow wx a2 zs ∧ Ext w1 wx)
      case first =>
        cases a with
        | none =>
          obtain ⟨rfl, rfl⟩ := HNil.out rfl
          go_wp2_with fail
          go_meet
          case rel => exact ⟨none, 0, rfl, fun i h => by simp at h, Ext.refl _⟩
        | some ad =>
          go_wp2_with (at_make; refine wpList_make_full _ rfl (.tmp 50) (.tmp 50) 24 rfl w1.heap.size 3 i0 (.int .i64 0) 1 Try.underlying24 hi hz0 hz1 .i64 .i64 _ _ zs.length rfl rfl rfl rfl (by rw [hz2]; omega) (by unfold maxLen; omega) (Nat.le_refl _) ?_; intro w2 hown2 hgrow2; obtain ⟨cur, hcur, hcl⟩ := own_list hown2; have hb2 : Below w1.heap.size w1 w2 := (Below.refl _ w1).grown hgrow2 (Nat.le_refl _) (fun k hk => by cases hk); obtain ⟨w3, hcopy, HI, HB⟩ := copy_run (cap := cap) hcur hcl (HR.out.kept hb2); have HI3 : Hid (IRow w3 (some ⟨w1.heap.size, 0, none⟩) zs) := HI; have HX3 : Hid (Ext w1 w3) := HB _ _ hb2 (Nat.le_refl _); clear hown2 hgrow2 HI HB hcur hcl hb2)
          go_meet
          case rel => exact ⟨_, _, rfl, HI3.out, HX3.out⟩
      case rest =>
        obtain ⟨a2, c2, rfl, hr2, hx2⟩ := hcut
        have HR2 : Hid (IRow wc a2 zs) := hr2
        have HX2 : Hid (Ext w1 wc) := hx2
        have HRw : Hid (IRow wc a zs) := HR.out.kept hx2
        clear hr2 hx2 hne
        have hcs : wc.heap.size ≤ wc.heap.size := Nat.le_refl _
        go_upto_region 17 with (at_make; refine wpList_make_own _ rfl (.const (.int .i64 0)) (.tmp 57) 24 rfl wc.heap.size 3 i0 (.int .i64 0) 1 Try.underlying24 hi hz0 hz1 .i64 .i64 _ (zs.length + 1) rfl rfl (by omega) (by rw [hz2]; omega) (by unfold maxLen; omega) (Nat.le_refl _) ?_; intro w2 hown2 hgrow2)
        have HB2 : Hid (Below wc.heap.size wc w2) := (Below.refl _ wc).grown hgrow2 (Nat.le_refl _) (fun k hk => by cases hk)
        have HO2 : Hid (w2.ownsRow wc.heap.size 3 1 (.slice (some ⟨wc.heap.size, 0, none⟩) 0 (zs.length + 1)) 0 []) := hown2
        clear hown2 hgrow2 hcs
        go_wp2_with fail
        go_loopw [9, 10] (fun v iv wr => ∃ k g c : Nat, k ≤ m ∧ iv = .int .i64 k ∧ v = .slice (some ⟨g, 0, none⟩) k c ∧ Hid (wr.ownsRow wc.heap.size 3 1 (.slice (some ⟨g, 0, none⟩) k c) k ((zs.take k).map (Value.int .i64))) ∧ Hid (Below wc.heap.size wc wr)) (fun _ iv _ => m - (intOf iv).toNat)
        case atStart => exact ⟨0, _, _, Nat.zero_le _, rfl, rfl, HO2.out, HB2.out⟩
        case round =>
          obtain ⟨k2, g, c, hk2, rfl, rfl, HO, HB⟩ := hrel
          have hws := HB.out.size
          by_cases hlt2 : k2 < m
          · obtain ⟨ga, oa, rfl, hcell, hga⟩ := (HRw.out.kept HB.out) k2 (by omega)
            have hlt2' : (k2 : Int) < m := by omega
            have hlt3' : (k2 : Int) < zs.length := by omega
            have HT : Hid ((zs.take k2).map (Value.int .i64) ++ [.int .i64 (zs[k2]'(by omega))] = (zs.take (k2 + 1)).map (Value.int .i64)) := by
              show _ = _
              rw [List.take_succ_eq_append_getElem (by omega), List.map_append]; rfl
            generalize zs[k2]'(by omega) = z at *
            go_wp2_with (at_builtin; refine wpList_append_lies _ rfl (.tmp 64) (.tmp 69) 24 rfl wc.heap.size 3 i0 (.int .i64 0) 1 8 Try.underlying24 hi hz0 hz1 hz2 rfl (by omega) _ _ _ rfl (HO.out.alloc _) ⟨wr.heap.size, 0, none⟩ 1 1 [.int .i64 z] rfl rfl (World.news_of_block (heap_alloc_new _ _)) (by intro u hu; simp at hu; subst hu; rfl) (by omega) (by unfold maxLen; omega) (by omega) (by simp; omega) (wr.heap.size + 1) (by simp) ?_; intro g3 cap3 w3 hown3 hgrow3 hat3 hlt3)
            rw [HT.out] at hown3
            have HO3 : Hid (w3.ownsRow wc.heap.size 3 1 (.slice (some ⟨g3, 0, none⟩) (k2 + 1) cap3) (k2 + 1) ((zs.take (k2 + 1)).map (Value.int .i64))) := hown3
            have HB3 : Hid (Below wc.heap.size wc w3) := own_grow wc HB.out hws HO.out hgrow3
            clear hown3 hgrow3 hat3 hlt3
            go_wp2_with fail
            go_roundw
            case rel => exact ⟨k2 + 1, g3, cap3, by omega, by go_num, rfl, HO3.out, HB3.out⟩
            case measure => simp [intOf]; omega
          · have hkm : k2 = m := by omega
            subst hkm
            go_upto_region 22 with (at_builtin; refine wpList_append_lies _ rfl (.tmp 71) (.tmp 73) 24 rfl wc.heap.size 3 i0 (.int .i64 0) 1 8 Try.underlying24 hi hz0 hz1 hz2 rfl (by omega) _ _ _ rfl (HO.out.alloc _) ⟨wr.heap.size, 0, none⟩ 1 1 [.int .i64 x] rfl rfl (World.news_of_block (heap_alloc_new _ _)) (by intro u hu; simp at hu; subst hu; rfl) (by omega) (by unfold maxLen; omega) (by omega) (by simp; omega) (wr.heap.size + 1) (by simp) ?_; intro g3 cap3 w3 hown3 hgrow3 hat3 hlt3)
            have HO3 : Hid (w3.ownsRow wc.heap.size 3 1 (.slice (some ⟨g3, 0, none⟩) (k2 + 1) cap3) (k2 + 1) ((zs.take k2 ++ x :: (zs.take k2).drop k2).map (Value.int .i64))) := by
              have e : (zs.take k2).drop k2 = [] := List.drop_of_length_le (by rw [List.length_take]; omega)
              show w3.ownsRow _ _ _ _ _ _
              rw [e, List.map_append]; exact hown3
            have HB3 : Hid (Below wc.heap.size wc w3) := own_grow wc HB.out hws HO.out hgrow3
            clear hown3 hgrow3 hat3 hlt3 hlt2 HO HB hws
            go_wp2_with fail
            go_loopw [9, 11] (fun v iv wr => ∃ q g c : Nat, k2 ≤ q ∧ q ≤ zs.length ∧ iv = .int .i64 q ∧ v = .slice (some ⟨g, 0, none⟩) (q + 1) c ∧ Hid (wr.ownsRow wc.heap.size 3 1 (.slice (some ⟨g, 0, none⟩) (q + 1) c) (q + 1) ((zs.take k2 ++ x :: (zs.take q).drop k2).map (Value.int .i64))) ∧ Hid (Below wc.heap.size wc wr)) (fun _ iv _ => zs.length - (intOf iv).toNat)
            case atStart => exact ⟨k2, g3, cap3, Nat.le_refl _, by omega, rfl, rfl, HO3.out, HB3.out⟩
            case round =>
              obtain ⟨q, g, c, hq1, hq2, rfl, rfl, HO, HB⟩ := hrel
              have hws := HB.out.size
              by_cases hltq : q < zs.length
              · obtain ⟨ga, oa, rfl, hcell, hga⟩ := (HRw.out.kept HB.out) q hltq
                have hltq' : (q : Int) < zs.length := by omega
                have HT : Hid ((zs.take k2 ++ x :: (zs.take q).drop k2).map (Value.int .i64) ++ [.int .i64 (zs[q]'hltq)] = (zs.take k2 ++ x :: (zs.take (q + 1)).drop k2).map (Value.int .i64)) := by
                  show _ = _
                  rw [List.take_succ_eq_append_getElem hltq, List.drop_append_of_le_length (by rw [List.length_take]; omega)]
                  simp
                generalize zs[q]'hltq = z at *
                go_wp2_with (at_builtin; refine wpList_append_lies _ rfl (.tmp 82) (.tmp 87) 24 rfl wc.heap.size 3 i0 (.int .i64 0) 1 8 Try.underlying24 hi hz0 hz1 hz2 rfl (by omega) _ _ _ rfl (HO.out.alloc _) ⟨wr.heap.size, 0, none⟩ 1 1 [.int .i64 z] rfl rfl (World.news_of_block (heap_alloc_new _ _)) (by intro u hu; simp at hu; subst hu; rfl) (by omega) (by unfold maxLen; omega) (by omega) (by simp; omega) (wr.heap.size + 1) (by simp) ?_; intro g4 cap4 w4 hown4 hgrow4 hat4 hlt4)
                rw [HT.out] at hown4
                have HO4 : Hid (w4.ownsRow wc.heap.size 3 1 (.slice (some ⟨g4, 0, none⟩) (q + 1 + 1) cap4) (q + 1 + 1) ((zs.take k2 ++ x :: (zs.take (q + 1)).drop k2).map (Value.int .i64))) := hown4
                have HB4 : Hid (Below wc.heap.size wc w4) := own_grow wc HB.out hws HO.out hgrow4
                clear hown4 hgrow4 hat4 hlt4
                go_wp2_with fail
                go_roundw
                case rel => exact ⟨q + 1, g4, cap4, by omega, by omega, by go_num, rfl, HO4.out, HB4.out⟩
                case measure => simp [intOf]; omega
              · have hqn : q = zs.length := by omega
                subst hqn
                have HOI : Hid (IRow wr (some ⟨g, 0, none⟩) (ins zs k2 x)) := by
                  have e : zs.take k2 ++ x :: (zs.take zs.length).drop k2 = ins zs k2 x := by rw [List.take_length]; rfl
                  have h1 := HO.out
                  rw [e] at h1
                  have hl : (ins zs k2 x).length = zs.length + 1 := by unfold ins; simp; omega
                  rw [← hl] at h1
                  exact irow_own h1
                have HRwr : Hid (IRow wr a zs) := HRw.out.kept HB.out
                have HR2r : Hid (IRow wr a2 zs) := HR2.out.kept HB.out
                have HXr : Hid (Ext w1 wr) := HX2.out.trans HB.out
                have hli : Hid ((ins zs k2 x).length = zs.length + 1) := by
                  show _ = _
                  unfold ins; simp; omega
                have HSum : Hid (isum (ins zs k2 x) = isum zs + x) := by
                  show _ = _
                  have e : isum zs = isum (zs.take k2) + isum (zs.drop k2) := by rw [← isum_append, List.take_append_drop]
                  unfold ins
                  rw [isum_append, e]
                  simp only [isum, List.foldr_cons]
                  omega
                clear HO HB hws hltq hq1 HO3 HB3 HO2 HB2 HRw HR2 HX2
                go_wp2_with fail
                go_loop [12, 13] (fun tv iv => ∃ k : Nat, k ≤ zs.length ∧ iv = .int .i64 k ∧ tv = .int .i64 (wrap64 (isum (zs.take k)))) (fun _ iv => zs.length - (intOf iv).toNat)
                case atStart => exact ⟨0, Nat.zero_le _, rfl, congrArg (Value.int .i64) (by rw [List.take_zero]; exact wrap_isum_nil)⟩
                case round =>
                  obtain ⟨k4, hk4, rfl, rfl⟩ := hrel
                  by_cases hlt4 : k4 < zs.length
                  · obtain ⟨ga, oa, rfl, hcell, hga⟩ := HRwr.out k4 hlt4
                    have hlt4' : (k4 : Int) < zs.length := by omega
                    have HS : Hid (isum (zs.take (k4 + 1)) = isum (zs.take k4) + zs[k4]) := isum_snoc zs k4 hlt4
                    generalize zs[k4] = z at *
                    generalize hq : isum (zs.take k4) = q at *
                    have HQ : Hid (isum (zs.take k4) = q) := hq
                    clear hq
                    go_wp2_with fail
                    go_round
                    case rel => exact ⟨k4 + 1, by omega, by go_num, congrArg (Value.int .i64) (by rw [HS.out, wrap_step])⟩
                    case measure => simp [intOf]; omega
                  · have hk4n : k4 = zs.length := by omega
                    subst hk4n
                    rw [List.take_length]
                    clear hlt4 hk4
                    have HSum' := HSum
                    obtain ⟨S, hS⟩ : ∃ S, S = isum zs := ⟨_, rfl⟩
                    rw [← hS]
                    have HSv : Hid (S = isum zs) := hS
                    clear hS
                    go_wp2_with fail
                    refine (nodeDelivered_any a2 zs.length c2 (by omega) wr).mono ?_
                    rintro e w5 ⟨nb, rfl, hc5, hx5⟩
                    have HR5 : Hid (IRow w5 a2 zs) := HR2r.out.kept hx5
                    have HX5 : Hid (Ext wr w5) := hx5
                    have HC5 : Hid (w5.cell? ⟨nb, 21, none⟩ = some (.slice a2 zs.length c2)) := hc5
                    clear hc5 hx5
                    go_wp2_with fail
                    refine (delivered_any nb a2 zs c2 (by omega) w5 HC5.out HR5.out).mono ?_
                    rintro e w6 ⟨rfl, rfl⟩
                    go_wp2_with fail
                    refine (nodeDelivered_any (some ⟨g, 0, none⟩) (zs.length + 1) c (by omega) w6).mono ?_
                    rintro e w7 ⟨nb2, rfl, hc7, hx7⟩
                    have HI7 : Hid (IRow w7 (some ⟨g, 0, none⟩) (ins zs k2 x)) := HOI.out.kept (HX5.out.trans hx7)
                    have HC7 : Hid (w7.cell? ⟨nb2, 21, none⟩ = some (.slice (some ⟨g, 0, none⟩) (ins zs k2 x).length c)) := by
                      show _ = _
                      rw [hli.out]; exact hc7
                    have HX7 : Hid (Ext w1 w7) := HXr.out.trans (HX5.out.trans hx7)
                    clear hc7 hx7
                    go_wp2_with fail
                    refine (delivered_any nb2 (some ⟨g, 0, none⟩) (ins zs k2 x) c (by rw [hli.out]; omega) w7 HC7.out HI7.out).mono ?_
                    rintro e w8 ⟨rfl, rfl⟩
                    rw [← HSv.out]
                    have e1 : (wrap64 S == wrap64 S) = true := by simp
                    have e2 : (wrap64 (isum (ins zs k2 x)) == wrap64 (wrap64 S + x)) = true := by
                      rw [HSum'.out, ← HSv.out, wrap_step]; simp
                    go_wp2_with fail
                    go_ret
                    exact ⟨rfl, HX7.out⟩
end Go.Proofs.Qxb6616238a.Grow
