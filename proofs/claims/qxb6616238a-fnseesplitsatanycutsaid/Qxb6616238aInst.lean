import Derived.Test.Qxb6616238aNew
import Derived.Deep.AppendLies
import Derived.Deep.CutBlock
import Derived.Deep.MidRow
import Derived.Deep.WholeRow
namespace Go.Proofs.Qxb6616238a.Grow
set_option linter.unusedVariables false
set_option linter.unusedSimpArgs false
set_option maxRecDepth 100000
open Go.ChangeShapes Go.WideShapes Go.ChangeAt Go.RowKit

/-- A place of the estimates: none, or a tally's block and its round. -/
abbrev Pl := Option (Nat × Int)
def plv : Pl → Value
  | none => .pointer none
  | some p => .pointer (some ⟨p.1, 0, none⟩)

/-- A waiting message's cells, of its type, its number and its round; all else is zero. -/
def pc (p : Int × Int × Int) : List Value := [.int .u8 p.1, .int .i64 0, .int .i64 0, .int .i64 0, .int .i64 p.2.1, .int .i64 0, .int .i64 0, .int .i64 p.2.2, .int .i64 0, .slice none 0 0, .string ByteArray.empty, .int .i64 0, .int .i64 0, .string ByteArray.empty, .int .i64 0, .int .i64 0, .int .i64 0, .int .i64 0, .int .i64 0, .int .i64 0, .slice none 0 0, .slice none 0 0, .bool false]
theorem pc_length (p : Int × Int × Int) : (pc p).length = 23 := rfl
theorem pc_one (p : Int × Int × Int) : ∀ u ∈ pc p, u.oneCell' = true := by
  intro u hu
  simp [pc] at hu
  rcases hu with rfl | rfl | rfl | rfl | rfl | rfl | rfl | rfl | rfl | rfl | rfl | rfl | rfl | rfl | rfl | rfl | rfl | rfl | rfl | rfl | rfl | rfl | rfl <;> rfl

structure InstP (B ib nb : Nat) (ci cn : Array Value) (ev pv : Value) (num seen lift : Int) (ts : List Pl) (ps : List (Int × Int × Int)) (w : World) : Prop where
  iB : B ≤ ib
  nB : B ≤ nb
  ne : ib ≠ nb
  hi : w.heap[ib]? = some (.cells ci 88 (0, 0))
  cz : ci.size = 20
  c0 : ci[0]? = some (.pointer (some ⟨nb, 0, none⟩))
  c1 : ci[1]? = some (.int .i64 num)
  c5 : ci[5]? = some (.int .i64 seen)
  c8 : ci[8]? = some ev
  c12 : ci[12]? = some (.int .i64 lift)
  hn : w.heap[nb]? = some (.cells cn 69 (0, 0))
  nz : cn.size = 30
  n14 : cn[14]? = some pv
  he : w.ownsRow B 100 1 ev ts.length (ts.map plv)
  hp : w.ownsRow B 104 23 pv ps.length (ps.flatMap pc)
  ei : ev.ownBlock ≠ some ib
  en : ev.ownBlock ≠ some nb
  pi : pv.ownBlock ≠ some ib
  pn : pv.ownBlock ≠ some nb
  ep : ∀ g, ev.ownBlock = some g → pv.ownBlock ≠ some g
  tl : ∀ b r, some (b, r) ∈ ts → B ≤ b ∧ b < w.heap.size ∧ b ≠ ib ∧ b ≠ nb ∧ ev.ownBlock ≠ some b ∧ pv.ownBlock ≠ some b ∧ w.cell? ⟨b, 1, none⟩ = some (.int .i64 r)

theorem lt_of_some {w : World} {k : Nat} {o : Obj} (h : w.heap[k]? = some o) : k < w.heap.size := by
  rcases Nat.lt_or_ge k w.heap.size with h' | h'
  · exact h'
  · rw [Array.getElem?_eq_none h'] at h; cases h

theorem InstP.iSz {B ib nb : Nat} {ci cn : Array Value} {ev pv : Value} {num seen lift : Int} {ts : List Pl} {ps : List (Int × Int × Int)} {w : World} (h : InstP B ib nb ci cn ev pv num seen lift ts ps w) : ib < w.heap.size := lt_of_some h.hi
theorem InstP.nSz {B ib nb : Nat} {ci cn : Array Value} {ev pv : Value} {num seen lift : Int} {ts : List Pl} {ps : List (Int × Int × Int)} {w : World} (h : InstP B ib nb ci cn ev pv num seen lift ts ps w) : nb < w.heap.size := lt_of_some h.hn

theorem InstP.icell {B ib nb : Nat} {ci cn : Array Value} {ev pv : Value} {num seen lift : Int} {ts : List Pl} {ps : List (Int × Int × Int)} {w : World} (h : InstP B ib nb ci cn ev pv num seen lift ts ps w) (j : Nat) : w.cell? ⟨ib, j, none⟩ = ci[j]? := cell_of_row w ib j ci _ _ h.hi
theorem InstP.ncell {B ib nb : Nat} {ci cn : Array Value} {ev pv : Value} {num seen lift : Int} {ts : List Pl} {ps : List (Int × Int × Int)} {w : World} (h : InstP B ib nb ci cn ev pv num seen lift ts ps w) (j : Nat) : w.cell? ⟨nb, j, none⟩ = cn[j]? := cell_of_row w nb j cn _ _ h.hn
theorem InstP.ifr {B ib nb : Nat} {ci cn : Array Value} {ev pv : Value} {num seen lift : Int} {ts : List Pl} {ps : List (Int × Int × Int)} {w : World} (h : InstP B ib nb ci cn ev pv num seen lift ts ps w) (j : Nat) : w.frozen? ⟨ib, j, none⟩ = false := frozen_of_row w ib j ci _ h.hi
theorem InstP.nfr {B ib nb : Nat} {ci cn : Array Value} {ev pv : Value} {num seen lift : Int} {ts : List Pl} {ps : List (Int × Int × Int)} {w : World} (h : InstP B ib nb ci cn ev pv num seen lift ts ps w) (j : Nat) : w.frozen? ⟨nb, j, none⟩ = false := frozen_of_row w nb j cn _ h.hn

theorem own_kept {w w' : World} {B : Nat} {e : TypeId} {s : Nat} {v : Value} {n : Nat} {xs : List Value} (h : w.ownsRow B e s v n xs) (hk : ∀ g, v.ownBlock = some g → w'.heap[g]? = w.heap[g]?) : w'.ownsRow B e s v n xs := by
  refine ⟨h.1, ?_⟩
  rcases h.2 with h0 | ⟨g, cap, cur, rfl, hb, hg, h1, h2, h3, h4⟩
  · exact .inl h0
  · exact .inr ⟨g, cap, cur, rfl, hb, by rw [hk g rfl]; exact hg, h1, h2, h3, h4⟩

/-- A world in which the state's own blocks stand has the state. -/
theorem InstP.kept {B ib nb : Nat} {ci cn : Array Value} {ev pv : Value} {num seen lift : Int} {ts : List Pl} {ps : List (Int × Int × Int)} {w w' : World} (h : InstP B ib nb ci cn ev pv num seen lift ts ps w) (hs : w.heap.size ≤ w'.heap.size)
    (hk : ∀ k, k < w.heap.size → w'.heap[k]? = w.heap[k]?) : InstP B ib nb ci cn ev pv num seen lift ts ps w' :=
  { h with
    hi := by rw [hk _ h.iSz]; exact h.hi
    hn := by rw [hk _ h.nSz]; exact h.hn
    he := own_kept h.he (fun g hg => hk g (h.he.lt g hg).2)
    hp := own_kept h.hp (fun g hg => hk g (h.hp.lt g hg).2)
    tl := fun b r hb => by
      obtain ⟨h1, h2, h3, h4, h5, h6, h7⟩ := h.tl b r hb
      exact ⟨h1, by omega, h3, h4, h5, h6, by rw [World.cell?_of_block (w := w) (hk b h2)]; exact h7⟩ }

/-- The state's blocks turn, and no others that it speaks of. -/
theorem InstP.upd {B ib nb : Nat} {ci cn : Array Value} {ev pv : Value} {num seen lift : Int} {ts : List Pl} {ps : List (Int × Int × Int)} {w w2 : World} (h : InstP B ib nb ci cn ev pv num seen lift ts ps w) {ci' cn' : Array Value} {ev' pv' : Value} {seen' lift' : Int} {ts' : List Pl} {ps' : List (Int × Int × Int)}
    (hs : w.heap.size ≤ w2.heap.size) (hi' : w2.heap[ib]? = some (.cells ci' 88 (0, 0))) (cz' : ci'.size = 20) (c0' : ci'[0]? = ci[0]?) (c1' : ci'[1]? = ci[1]?) (c5' : ci'[5]? = some (.int .i64 seen')) (c8' : ci'[8]? = some ev') (c12' : ci'[12]? = some (.int .i64 lift'))
    (hn' : w2.heap[nb]? = some (.cells cn' 69 (0, 0))) (nz' : cn'.size = 30) (n14' : cn'[14]? = some pv')
    (hr : ∀ k, k < w.heap.size → k ≠ ib → k ≠ nb → some k ≠ ev.ownBlock → some k ≠ pv.ownBlock → w2.heap[k]? = w.heap[k]?)
    (he' : w2.ownsRow B 100 1 ev' ts'.length (ts'.map plv)) (hp' : w2.ownsRow B 104 23 pv' ps'.length (ps'.flatMap pc))
    (evo : ev'.ownBlock = ev.ownBlock ∨ ∀ g, ev'.ownBlock = some g → w.heap.size ≤ g) (pvo : pv'.ownBlock = pv.ownBlock ∨ ∀ g, pv'.ownBlock = some g → w.heap.size ≤ g)
    (ep' : ∀ g, ev'.ownBlock = some g → pv'.ownBlock ≠ some g)
    (tl' : ∀ b r, some (b, r) ∈ ts' → some (b, r) ∈ ts ∨ (w.heap.size ≤ b ∧ b < w2.heap.size ∧ ev'.ownBlock ≠ some b ∧ pv'.ownBlock ≠ some b ∧ w2.cell? ⟨b, 1, none⟩ = some (.int .i64 r))) :
    InstP B ib nb ci' cn' ev' pv' num seen' lift' ts' ps' w2 := by
  have i1 := h.iSz
  have n1 := h.nSz
  have iB := h.iB
  have nB := h.nB
  have off : ∀ (v v' : Value), (v'.ownBlock = v.ownBlock ∨ ∀ g, v'.ownBlock = some g → w.heap.size ≤ g) → ∀ k, k < w.heap.size → v.ownBlock ≠ some k → v'.ownBlock ≠ some k := by
    intro v v' ho k hk hne e
    rcases ho with ho | ho
    · exact hne (by rw [← ho]; exact e)
    · have := ho k e; omega
  refine ⟨h.iB, h.nB, h.ne, hi', cz', by rw [c0']; exact h.c0, by rw [c1']; exact h.c1, c5', c8', c12', hn', nz', n14', he', hp', off _ _ evo _ i1 h.ei, off _ _ evo _ n1 h.en, off _ _ pvo _ i1 h.pi, off _ _ pvo _ n1 h.pn, ep', ?_⟩
  intro b r hb
  rcases tl' b r hb with hb | ⟨h1, h2, h3, h4, h5⟩
  · obtain ⟨h1, h2, h3, h4, h5, h6, h7⟩ := h.tl b r hb
    exact ⟨h1, by omega, h3, h4, off _ _ evo _ h2 h5, off _ _ pvo _ h2 h6, by rw [World.cell?_of_block (w := w) (hr b h2 h3 h4 (fun e => h5 e.symm) (fun e => h6 e.symm))]; exact h7⟩
  · exact ⟨by omega, h2, by omega, by omega, h3, h4, h5⟩

theorem info100 : (Try.prog.info? 100).map (fun i => (i.zero, i.size, i.bytes)) = some (some (Value.pointer none), 1, 8) := by kernel_rfl
theorem info104 : (Try.prog.info? 104).map (fun i => (i.zero, i.size, i.bytes)) = some (some (Value.agg (pc (0, 0, 0)).toArray), 23, 248) := by kernel_rfl
theorem built102 (r : Int) : Try.prog.built 102 [(1, .int .i64 r)] = some #[.int .u8 0, .int .i64 r, .int .i64 0, .int .i64 0, .slice none 0 0, .int .i64 0, .int .i64 0, .string ByteArray.empty, .int .i64 0, .int .i64 0, .slice none 0 0, .bool false, .bool false] := by kernel_rfl

theorem wpList_built {P : Program} (w : World) {ops : Array Oper} {rest : List Oper} {o : Oper} {a : Act} {Q : Exit → Act → World → Prop} (hgd : o.guard = none) (t : TypeId) (parts : Array (Nat × Operand))
    (ho : o.op = .build t parts) (cells : Array Value) (hc : P.built t (parts.toList.map fun p => (p.1, a.eval p.2)) = some cells) (h : wpList P ops Q rest (a.put o.dst (.agg cells)) w) : wpList P ops Q (o :: rest) a w := by
  refine wpList_plain hgd fun K hK => ?_
  have e : (parts.map fun (i, x) => (i, a.eval x)).toList = parts.toList.map fun p => (p.1, a.eval p.2) := by simp
  have := run_build (P := P) w t (parts.map fun (i, x) => (i, a.eval x)) cells (by rw [e]; exact hc)
  unfold Oper.wp execOp
  simp only [ho, Sem.run_bind, this, Result.andThen_ok]
  exact hK _ _ h

theorem wpList_append_run {P : Program} (w : World) {ops : Array Oper} {rest : List Oper} {o : Oper} {a : Act} {Q : Exit → Act → World → Prop} (hgd : o.guard = none) (sl x : Operand) (t u : TypeId)
    (ho : o.op = .call { callee := .builtin .append, args := #[sl, x], argTypes := #[t, u] }) (vs vx : Value) (hs : a.eval sl = vs) (hx : a.eval x = vx) (v' : Value) (w' : World)
    (hr : (Builtin.append_ #[t, u] o.type #[vs, vx]).run P w = .ok v' w') (h : wpList P ops Q rest (a.put o.dst v') w') : wpList P ops Q (o :: rest) a w := by
  refine wpList_plain hgd fun K hK => ?_
  unfold Oper.wp execOp
  simp only [ho, resolve, invoke, builtin, Sem.run_bind, Sem.run_pure, Result.andThen_ok, List.map_toArray, List.map_cons, List.map_nil, hs, hx, hr]
  exact hK _ _ h

theorem setCell_size (w : World) (a : Addr) (v : Value) : (w.setCell a v).heap.size = w.heap.size := by simp
theorem set_get_ne {cs : Array Value} {i j : Nat} (v : Value) (h : i ≠ j) : (cs.setIfInBounds i v)[j]? = cs[j]? := by rw [Array.getElem?_setIfInBounds_ne h]
theorem set_get_eq {cs : Array Value} {i : Nat} (v : Value) (h : i < cs.size) : (cs.setIfInBounds i v)[i]? = some v := by simp [h]

/-- The estimates' row grown by one place and laid into the state. -/
theorem InstP.pushE {B ib nb : Nat} {ci cn : Array Value} {ev pv : Value} {num seen lift : Int} {ts : List Pl} {ps : List (Int × Int × Int)} {w w1 w2 : World} (h : InstP B ib nb ci cn ev pv num seen lift ts ps w) (hx : Ext w w1) {g cap : Nat} {p : Pl}
    (hown : w2.ownsRow B 100 1 (.slice (some ⟨g, 0, none⟩) (ts.length + 1) cap) (ts.length + 1) (ts.map plv ++ [plv p])) (hgrow : w1.grownBy w2 ev.ownBlock) (hat : ev.ownBlock = some g ∨ g = w1.heap.size)
    (hp : ∀ b r, p = some (b, r) → w.heap.size ≤ b ∧ b < w1.heap.size ∧ w1.cell? ⟨b, 1, none⟩ = some (.int .i64 r)) :
    InstP B ib nb (ci.setIfInBounds 8 (.slice (some ⟨g, 0, none⟩) (ts.length + 1) cap)) cn (.slice (some ⟨g, 0, none⟩) (ts.length + 1) cap) pv num seen lift (ts ++ [p]) ps (w2.setCell ⟨ib, 8, none⟩ (.slice (some ⟨g, 0, none⟩) (ts.length + 1) cap)) := by
  have hxs := hx.size
  have hgs := hgrow.size
  have i1 := h.iSz
  have n1 := h.nSz
  have k2 : ∀ k, k < w.heap.size → some k ≠ ev.ownBlock → w2.heap[k]? = w.heap[k]? := fun k hk hne => by
    rw [hgrow.block k (by omega) hne]; exact Below.block hx k hk
  have hi2 : w2.heap[ib]? = some (.cells ci 88 (0, 0)) := by rw [k2 ib i1 (fun e => h.ei e.symm)]; exact h.hi
  have hgi : g ≠ ib := by
    rcases hat with hat | hat
    · exact fun e => h.ei (by rw [← e]; exact hat)
    · omega
  have hob : ∀ (x : Nat), Value.ownBlock (.slice (some ⟨g, 0, none⟩) (ts.length + 1) cap) = some x ↔ g = x := by simp [Value.ownBlock]
  have hoth : ∀ k, k ≠ ib → (w2.setCell ⟨ib, 8, none⟩ (.slice (some ⟨g, 0, none⟩) (ts.length + 1) cap)).heap[k]? = w2.heap[k]? := fun k hk => heap_setCell_other w2 ⟨ib, 8, none⟩ k _ hk
  refine h.upd (by simp; omega) (heap_setCell_same w2 ib 8 ci 88 _ hi2) (by simp [h.cz]) (set_get_ne _ (by decide)) (set_get_ne _ (by decide)) (by rw [set_get_ne _ (by decide)]; exact h.c5) (set_get_eq _ (by rw [h.cz]; decide)) (by rw [set_get_ne _ (by decide)]; exact h.c12) ?_ h.nz h.n14 ?_ ?_ ?_ ?_ (.inl rfl) ?_ ?_
  · rw [hoth nb (Ne.symm h.ne), k2 nb n1 (fun e => h.en e.symm)]; exact h.hn
  · intro k hk h1 h2 h3 h4
    rw [hoth k h1]; exact k2 k hk h3
  · have e1 : (ts ++ [p]).length = ts.length + 1 := by simp
    have e2 : (ts ++ [p]).map plv = ts.map plv ++ [plv p] := by simp
    rw [e1, e2]
    exact own_kept hown (fun x hx => by rw [hob] at hx; subst hx; exact hoth g hgi)
  · refine own_kept h.hp (fun x hx => ?_)
    have hxi : x ≠ ib := fun e => h.pi (by rw [← e]; exact hx)
    rw [hoth x hxi]
    exact k2 x (h.hp.lt x hx).2 (fun e => h.ep x e.symm hx)
  · rcases hat with hat | hat
    · exact .inl (by rw [hat]; rfl)
    · exact .inr (fun x hx => by rw [hob] at hx; omega)
  · intro x hx e
    rw [hob] at hx; subst hx
    rcases hat with hat | hat
    · exact h.ep g hat e
    · have := (h.hp.lt g e).2; omega
  · intro b r hb
    rcases List.mem_append.1 hb with hb | hb
    · exact .inl hb
    · have hb' : p = some (b, r) := by simpa using Eq.symm (by simpa using hb)
      obtain ⟨h1, h2, h3⟩ := hp b r hb'
      have hne : some b ≠ ev.ownBlock := fun e => by have := (h.he.lt b e.symm).2; omega
      have hc2 : w2.heap[b]? = w1.heap[b]? := hgrow.block b h2 hne
      refine .inr ⟨h1, by simp; omega, ?_, ?_, ?_⟩
      · rw [Ne, hob]
        rcases hat with hat | hat
        · exact fun e => hne (by rw [← e]; exact hat.symm)
        · omega
      · exact fun e => by have := (h.hp.lt b e).2; omega
      · rw [World.cell?_of_block (w := w2) (hoth b (by omega)), World.cell?_of_block (w := w1) hc2]; exact h3

set_option maxHeartbeats 1000000 in
theorem addNone_any (B ib nb : Nat) (ci cn : Array Value) (ev pv : Value) (num seen lift : Int) (ts : List Pl) (ps : List (Int × Int × Int)) (w : World) (h : InstP B ib nb ci cn ev pv num seen lift ts ps w) (hl : ts.length ≤ 65536) :
    Calls Try.prog 34 #[.pointer (some ⟨ib, 0, none⟩)] w fun e w' => e = .returned (.tuple #[]) ∧ ∃ ci' ev', InstP B ib nb ci' cn ev' pv num seen lift (ts ++ [none]) ps w' ∧ Below B w w' := by
  obtain ⟨i0, hi, hz0, hz1, hz2⟩ := info_parts info100
  have hc8 : w.cell? ⟨ib, 8, none⟩ = some ev := by rw [h.icell]; exact h.c8
  have hBs : B ≤ w.heap.size := Nat.le_trans h.iB (Nat.le_of_lt h.iSz)
  obtain ⟨g, cap, w2, hr, hown, hgrow, hat, hlt⟩ := run_append_lies (P := Try.prog) (w.alloc (.cells #[.pointer none] 100)) 83 83 B 100 i0 (.pointer none) 1 8 Try.underlying83 hi hz0 hz1 hz2 rfl (by decide) ev ts.length (ts.map plv) (h.he.alloc _) ⟨w.heap.size, 0, none⟩ 1 1 [.pointer none] rfl (World.news_of_block (heap_alloc_new _ _)) (by intro u hu; simp at hu; subst hu; rfl) (by decide) (by unfold maxLen; omega) (by omega) (by simp; omega) (w.heap.size + 1) (by simp)
  have HI := h.pushE (p := none) (Ext.alloc w _) hown hgrow (by simpa using hat) (fun b r e => by cases e)
  have hx2 : Below B w w2 := ((Below.refl B w).alloc hBs _).grown hgrow (by simp; omega) (fun k hk => (h.he.lt k hk).1)
  have HB : Hid (Below B w (w2.setCell ⟨ib, 8, none⟩ (.slice (some ⟨g, 0, none⟩) (ts.length + 1) cap))) := Below.setCell hx2 h.iB _
  have hi2 : w2.heap[ib]? = some (.cells ci 88 (0, 0)) := by
    rw [hgrow.block ib (by have := h.iSz; simp; omega) (fun e => h.ei e.symm)]
    rw [heap_alloc_old w _ h.iSz]; exact h.hi
  have hc2 : w2.cell? ⟨ib, 8, none⟩ = some ev := by rw [cell_of_row w2 ib 8 ci _ _ hi2]; exact h.c8
  have hf2 : w2.frozen? ⟨ib, 8, none⟩ = false := frozen_of_row w2 ib 8 ci _ hi2
  have HI' : Hid (InstP B ib nb (ci.setIfInBounds 8 (.slice (some ⟨g, 0, none⟩) (ts.length + 1) cap)) cn (.slice (some ⟨g, 0, none⟩) (ts.length + 1) cap) pv num seen lift (ts ++ [none]) ps (w2.setCell ⟨ib, 8, none⟩ (.slice (some ⟨g, 0, none⟩) (ts.length + 1) cap))) := HI
  clear HI hgrow hown hat hi2 hx2 h hi hz0 hz1 hz2
  go_enter Try.func34, Try.ntmps34
  go_wp2_with (at_builtin; refine wpList_append_run _ rfl (.tmp 6) (.tmp 7) 83 83 rfl _ _ rfl rfl _ w2 hr ?_)
  go_end0
  exact ⟨rfl, _, _, HI'.out, HB.out⟩

set_option maxHeartbeats 1000000 in
theorem addTally_any (B ib nb : Nat) (ci cn : Array Value) (ev pv : Value) (num seen lift : Int) (ts : List Pl) (ps : List (Int × Int × Int)) (w : World) (h : InstP B ib nb ci cn ev pv num seen lift ts ps w) (hl : ts.length ≤ 65536) (r : Int) :
    Calls Try.prog 33 #[.pointer (some ⟨ib, 0, none⟩), .int .i64 r] w fun e w' => e = .returned (.tuple #[]) ∧ ∃ ci' ev' b, InstP B ib nb ci' cn ev' pv num seen lift (ts ++ [some (b, r)]) ps w' ∧ Below B w w' := by
  obtain ⟨i0, hi, hz0, hz1, hz2⟩ := info_parts info100
  have hc8 : w.cell? ⟨ib, 8, none⟩ = some ev := by rw [h.icell]; exact h.c8
  have hBs : B ≤ w.heap.size := Nat.le_trans h.iB (Nat.le_of_lt h.iSz)
  obtain ⟨tc, htc⟩ : ∃ tc : Array Value, tc = #[.int .u8 0, .int .i64 r, .int .i64 0, .int .i64 0, .slice none 0 0, .int .i64 0, .int .i64 0, .string ByteArray.empty, .int .i64 0, .int .i64 0, .slice none 0 0, .bool false, .bool false] := ⟨_, rfl⟩
  have hb102 := built102 r
  rw [← htc] at hb102
  have hxa : Ext w ((w.alloc (.cells tc 102)).alloc (.cells #[.pointer (some ⟨w.heap.size, 0, none⟩)] 100)) := (Ext.alloc w _).trans (Ext.alloc _ _)
  obtain ⟨g, cap, w2, hr, hown, hgrow, hat, hlt⟩ := run_append_lies (P := Try.prog) ((w.alloc (.cells tc 102)).alloc (.cells #[.pointer (some ⟨w.heap.size, 0, none⟩)] 100)) 83 83 B 100 i0 (.pointer none) 1 8 Try.underlying83 hi hz0 hz1 hz2 rfl (by decide) ev ts.length (ts.map plv) ((h.he.alloc _).alloc _) ⟨(w.alloc (.cells tc 102)).heap.size, 0, none⟩ 1 1 [.pointer (some ⟨w.heap.size, 0, none⟩)] rfl (World.news_of_block (heap_alloc_new _ _)) (by intro u hu; simp at hu; subst hu; rfl) (by decide) (by unfold maxLen; omega) (by omega) (by simp; omega) (w.heap.size + 2) (by simp)
  have hr' : (Builtin.append_ #[83, 83] 83 #[ev, .slice (some ⟨w.heap.size + 1, 0, none⟩) 1 1]).run Try.prog ((w.alloc (.cells tc 102)).alloc (.cells #[.pointer (some ⟨w.heap.size, 0, none⟩)] 100)) = .ok (.slice (some ⟨g, 0, none⟩) (ts.length + 1) cap) w2 := by simpa using hr
  have HI := h.pushE (p := some (w.heap.size, r)) hxa hown hgrow (by simpa using hat) (fun b r' e => by
    simp only [Option.some.injEq, Prod.mk.injEq] at e
    obtain ⟨rfl, rfl⟩ := e
    refine ⟨Nat.le_refl _, by simp; omega, ?_⟩
    subst htc
    simp)
  have hx2 : Below B w w2 := (((Below.refl B w).alloc hBs _).alloc (by simp; omega) _).grown hgrow (by simp; omega) (fun k hk => (h.he.lt k hk).1)
  have HB : Hid (Below B w (w2.setCell ⟨ib, 8, none⟩ (.slice (some ⟨g, 0, none⟩) (ts.length + 1) cap))) := Below.setCell hx2 h.iB _
  have hi2 : w2.heap[ib]? = some (.cells ci 88 (0, 0)) := by
    rw [hgrow.block ib (by have := h.iSz; simp; omega) (fun e => h.ei e.symm), Below.block hxa ib h.iSz]; exact h.hi
  have hc2 : w2.cell? ⟨ib, 8, none⟩ = some ev := by rw [cell_of_row w2 ib 8 ci _ _ hi2]; exact h.c8
  have hf2 : w2.frozen? ⟨ib, 8, none⟩ = false := frozen_of_row w2 ib 8 ci _ hi2
  have HI' : Hid (InstP B ib nb (ci.setIfInBounds 8 (.slice (some ⟨g, 0, none⟩) (ts.length + 1) cap)) cn (.slice (some ⟨g, 0, none⟩) (ts.length + 1) cap) pv num seen lift (ts ++ [some (w.heap.size, r)]) ps (w2.setCell ⟨ib, 8, none⟩ (.slice (some ⟨g, 0, none⟩) (ts.length + 1) cap))) := HI
  clear HI hgrow hown hat hi2 hx2 h hi hz0 hz1 hz2 hr hxa htc
  go_enter Try.func33, Try.ntmps33
  go_wp2_with first | (at_builtin; refine wpList_append_run _ rfl (.tmp 8) (.tmp 12) 83 83 rfl _ _ rfl rfl _ w2 hr' ?_) | (refine wpList_built _ rfl 102 _ rfl tc ?hc ?_; case hc => (simp; exact hb102))
  go_end0
  exact ⟨rfl, _, _, _, HI'.out, HB.out⟩

theorem seen_any (B ib nb : Nat) (ci cn : Array Value) (ev pv : Value) (num seen lift : Int) (ts : List Pl) (ps : List (Int × Int × Int)) (w : World) (h : InstP B ib nb ci cn ev pv num seen lift ts ps w) : Calls Try.prog 18 #[.pointer (some ⟨ib, 0, none⟩)] w fun e w' => e = .returned (.int .i64 seen) ∧ w' = w := by
  have hc : w.cell? ⟨ib, 5, none⟩ = some (.int .i64 seen) := by rw [h.icell]; exact h.c5
  clear h
  go_enter Try.func18, Try.ntmps18
  go_wp2_with fail
  go_ret
  exact ⟨rfl, rfl⟩

theorem own_slice {w : World} {B : Nat} {e : TypeId} {s : Nat} {v : Value} {n : Nat} {xs : List Value} (h : w.ownsRow B e s v n xs) : ∃ a c, v = .slice a n c := by
  rcases h.2 with ⟨rfl, rfl⟩ | ⟨g, cap, cur, rfl, _⟩
  · exact ⟨_, _, rfl⟩
  · exact ⟨_, _, rfl⟩

theorem estCount_any (B ib nb : Nat) (ci cn : Array Value) (ev pv : Value) (num seen lift : Int) (ts : List Pl) (ps : List (Int × Int × Int)) (w : World) (h : InstP B ib nb ci cn ev pv num seen lift ts ps w) : Calls Try.prog 37 #[.pointer (some ⟨ib, 0, none⟩)] w fun e w' => e = .returned (.int .i64 ts.length) ∧ w' = w := by
  have hc : w.cell? ⟨ib, 8, none⟩ = some ev := by rw [h.icell]; exact h.c8
  obtain ⟨a, c, rfl⟩ := own_slice h.he
  clear h
  go_enter Try.func37, Try.ntmps37
  go_wp2_with fail
  go_ret
  exact ⟨rfl, rfl⟩

theorem pendCount_any (B ib nb : Nat) (ci cn : Array Value) (ev pv : Value) (num seen lift : Int) (ts : List Pl) (ps : List (Int × Int × Int)) (w : World) (h : InstP B ib nb ci cn ev pv num seen lift ts ps w) : Calls Try.prog 39 #[.pointer (some ⟨ib, 0, none⟩)] w fun e w' => e = .returned (.int .i64 ps.length) ∧ w' = w := by
  have hc : w.cell? ⟨ib, 0, none⟩ = some (.pointer (some ⟨nb, 0, none⟩)) := by rw [h.icell]; exact h.c0
  have hc' : w.cell? ⟨nb, 14, none⟩ = some pv := by rw [h.ncell]; exact h.n14
  obtain ⟨a, c, rfl⟩ := own_slice h.hp
  clear h
  go_enter Try.func39, Try.ntmps39
  go_wp2_with fail
  go_ret
  exact ⟨rfl, rfl⟩
end Go.Proofs.Qxb6616238a.Grow
