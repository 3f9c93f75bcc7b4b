import Derived.Test.Qxb6616160aTick2
namespace Go.Proofs.Qxb6616160a.Tick
set_option linter.unusedVariables false
set_option linter.unusedSimpArgs false
open Go.ChangeShapes Go.WideShapes Go.ChangeAt Go.RowKit

/-- What a slice of clients holds. -/
structure Cs (w : World) (a : Option Addr) (cs : List (ByteArray × Int)) : Prop where
  cell : ∀ i (h : i < cs.length), ∃ b off, a = some ⟨b, off, none⟩ ∧ w.cell? ⟨b, off + i * 2, none⟩ = some (.string (cs[i]).1) ∧ w.cell? ⟨b, off + i * 2 + 1, none⟩ = some (.int .u64 (cs[i]).2) ∧ b < w.heap.size
  rng : ∀ i (h : i < cs.length), 0 ≤ (cs[i]).2 ∧ (cs[i]).2 ≤ 18446744073709551615
  str : ∀ i (h : i < cs.length), (cs[i]).1.size ≤ 9223372036854775807

theorem Cs.kept {w w' : World} {a : Option Addr} {cs : List (ByteArray × Int)} (h : Cs w a cs) {B : Nat} (hb : Below B w w') (hB : w.heap.size ≤ B) : Cs w' a cs := by
  refine ⟨fun i hi => ?_, h.rng, h.str⟩
  obtain ⟨b, off, ha, h1, h2, hlt⟩ := h.cell i hi
  refine ⟨b, off, ha, ?_, ?_, Nat.lt_of_lt_of_le hlt hb.size⟩
  · rw [hb.cell (p := ⟨b, off + i * 2, none⟩) (Nat.lt_of_lt_of_le hlt hB)]; exact h1
  · rw [hb.cell (p := ⟨b, off + i * 2 + 1, none⟩) (Nat.lt_of_lt_of_le hlt hB)]; exact h2

/-- It returns a bool. -/
def RetB (p : Bool → Prop) (e : Ending) : Prop := ∃ b, e = .returned (.bool b) ∧ p b
theorem RetB.mk {p : Bool → Prop} (b : Bool) (h : p b) : RetB p (.returned (.bool b)) := ⟨b, rfl, h⟩
def Short (cs : List (ByteArray × Int)) (b : Bool) : Prop := b = true → ∀ i (h : i < cs.length), (cs[i]).1.size ≤ 1048576
def Few (n : Nat) (b : Bool) : Prop := b = false → n ≤ 4096
def Apart (cs : List (ByteArray × Int)) (b : Bool) : Prop := b = true → ∀ i j (hi : i < cs.length) (hj : j < cs.length), i < j → (cs[i]).1 ≠ (cs[j]).1
def Whatever (b : Bool) : Prop := True

theorem bytes9 (w : World) (a : Option Addr) (cap : Nat) (cs : List (ByteArray × Int)) (now most at_ : Int) (hC : Cs w a cs) (hn : cs.length ≤ 9223372036854775807) :
    Calls Try.prog 9 #[.int .u64 now, .int .i64 most, .slice a cs.length cap, .int .u64 at_] w fun e w' => RetB (Short cs) e ∧ w' = w := by
  by_cases hbig : 1048576 < (cs.length : Int)
  · go_enter Try.func9, Try.ntmps9
    go_wp2
    go_ret
    exact ⟨RetB.mk _ (fun h => by cases h), rfl⟩
  go_enter Try.func9, Try.ntmps9
  go_wp2
  go_loop [9, 10] (fun z i => ∃ (k : Nat) (q : Int), k ≤ cs.length ∧ i = .int .i64 k ∧ z = .int .i64 q ∧ 0 ≤ q ∧ q ≤ 1048576 ∧ Hid (∀ j (h : j < cs.length), j < k → (cs[j]).1.size ≤ 1048576)) (fun _ i => cs.length - (intOf i).toNat)
  case atStart => exact ⟨0, _, Nat.zero_le _, rfl, rfl, by omega, by omega, fun j _ h => by omega⟩
  case round =>
    obtain ⟨k, q, hk, rfl, rfl, hq0, hq1, HS⟩ := hrel
    by_cases hlt : k < cs.length
    · obtain ⟨b, off, rfl, h1, h2, hb⟩ := hC.cell k hlt
      have hs := hC.str k hlt
      have HN : Hid ((cs[k]).1.size ≤ 1048576 → ∀ j (h : j < cs.length), j < k + 1 → (cs[j]).1.size ≤ 1048576) := fun h0 j hj hjk => by
        rcases Nat.lt_or_ge j k with h | h
        · exact HS.out j hj h
        · have : j = k := by omega
          subst this; exact h0
      generalize hid : (cs[k]).1 = id at *
      clear hid h2
      have hlt' : (k : Int) < cs.length := by omega
      by_cases hi1 : 1048576 < (id.size : Int)
      · go_wp2
        go_ret
        exact ⟨RetB.mk _ (fun h => by cases h), rfl⟩
      · by_cases hi2 : 1048576 < q + (id.size : Int)
        · go_wp2
          go_ret
          exact ⟨RetB.mk _ (fun h => by cases h), rfl⟩
        · go_wp2
          go_round
          case rel => exact ⟨k + 1, _, by omega, by go_num, rfl, by omega, by omega, HN.out (by omega)⟩
          case measure => simp [intOf]; omega
    · go_wp2
      go_ret
      exact ⟨RetB.mk _ (fun _ j hj => HS.out j hj (by omega)), rfl⟩

theorem bytes22 (w : World) (a : Option Addr) (cap : Nat) (cs : List (ByteArray × Int)) (now most at_ bt_ : Int) (hC : Cs w a cs) (hn : cs.length ≤ 9223372036854775807) :
    Calls Try.prog 22 #[.int .u64 now, .int .i64 most, .slice a cs.length cap, .int .u64 at_, .int .u64 bt_] w fun e w' => RetB (Short cs) e ∧ w' = w := by
  by_cases hbig : 1048576 < (cs.length : Int)
  · go_enter Try.func22, Try.ntmps22
    go_wp2
    go_ret
    exact ⟨RetB.mk _ (fun h => by cases h), rfl⟩
  go_enter Try.func22, Try.ntmps22
  go_wp2
  go_loop [11, 12] (fun z i => ∃ (k : Nat) (q : Int), k ≤ cs.length ∧ i = .int .i64 k ∧ z = .int .i64 q ∧ 0 ≤ q ∧ q ≤ 1048576 ∧ Hid (∀ j (h : j < cs.length), j < k → (cs[j]).1.size ≤ 1048576)) (fun _ i => cs.length - (intOf i).toNat)
  case atStart => exact ⟨0, _, Nat.zero_le _, rfl, rfl, by omega, by omega, fun j _ h => by omega⟩
  case round =>
    obtain ⟨k, q, hk, rfl, rfl, hq0, hq1, HS⟩ := hrel
    by_cases hlt : k < cs.length
    · obtain ⟨b, off, rfl, h1, h2, hb⟩ := hC.cell k hlt
      have hs := hC.str k hlt
      have HN : Hid ((cs[k]).1.size ≤ 1048576 → ∀ j (h : j < cs.length), j < k + 1 → (cs[j]).1.size ≤ 1048576) := fun h0 j hj hjk => by
        rcases Nat.lt_or_ge j k with h | h
        · exact HS.out j hj h
        · have : j = k := by omega
          subst this; exact h0
      generalize hid : (cs[k]).1 = id at *
      clear hid h2
      have hlt' : (k : Int) < cs.length := by omega
      by_cases hi1 : 1048576 < (id.size : Int)
      · go_wp2
        go_ret
        exact ⟨RetB.mk _ (fun h => by cases h), rfl⟩
      · by_cases hi2 : 1048576 < q + (id.size : Int)
        · go_wp2
          go_ret
          exact ⟨RetB.mk _ (fun h => by cases h), rfl⟩
        · go_wp2
          go_round
          case rel => exact ⟨k + 1, _, by omega, by go_num, rfl, by omega, by omega, HN.out (by omega)⟩
          case measure => simp [intOf]; omega
    · go_wp2
      go_ret
      exact ⟨RetB.mk _ (fun _ j hj => HS.out j hj (by omega)), rfl⟩

theorem tooBig_any (w : World) (a : Option Addr) (cap : Nat) (cs : List (ByteArray × Int)) (hC : Cs w a cs) (hn : cs.length ≤ 9223372036854775807) (hsm : ∀ i (h : i < cs.length), (cs[i]).1.size ≤ 1048576) :
    Calls Try.prog 10 #[.slice a cs.length cap] w fun e w' => RetB (Few cs.length) e ∧ w' = w := by
  by_cases hbig : 4096 < (cs.length : Int)
  · go_enter Try.func10, Try.ntmps10
    go_wp2
    go_ret
    exact ⟨RetB.mk _ (fun h => by cases h), rfl⟩
  have hlen : cs.length ≤ 4096 := by omega
  go_enter Try.func10, Try.ntmps10
  go_wp2
  go_loop [3, 4] (fun z i => ∃ (k : Nat) (q : Int), k ≤ cs.length ∧ i = .int .i64 k ∧ z = .int .i64 q ∧ 0 ≤ q ∧ q ≤ 1048576) (fun _ i => cs.length - (intOf i).toNat)
  case atStart => exact ⟨0, _, Nat.zero_le _, rfl, rfl, by omega, by omega⟩
  case round =>
    obtain ⟨k, q, hk, rfl, rfl, hq0, hq1⟩ := hrel
    by_cases hlt : k < cs.length
    · obtain ⟨b, off, rfl, h1, h2, hb⟩ := hC.cell k hlt
      have hs := hsm k hlt
      generalize hid : (cs[k]).1 = id at *
      clear hid h2
      have hlt' : (k : Int) < cs.length := by omega
      by_cases hi3 : 1048576 < q + (id.size : Int)
      · go_wp2
        go_ret
        exact ⟨RetB.mk _ (fun h => by cases h), rfl⟩
      · go_wp2
        go_round
        case rel => exact ⟨k + 1, _, by omega, by go_num, rfl, by omega, by omega⟩
        case measure => simp [intOf]; omega
    · go_wp2
      go_ret
      exact ⟨RetB.mk _ (fun _ => hlen), rfl⟩

def staleB (now last : Int) : Bool := decide (last < now) && decide (900 < now - last)

theorem stale_any (now last : Int) (w : World) (h0 : 0 ≤ now) (h1 : now ≤ 18446744073709551615) (h2 : 0 ≤ last) (h3 : last ≤ 18446744073709551615) :
    Calls Try.prog 25 #[.int .u64 now, .int .u64 last] w fun e w' => e = .returned (.bool (staleB now last)) ∧ w' = w := by
  by_cases c1 : last < now
  · by_cases c2 : 900 < now - last
    · have hb : staleB now last = true := by simp [staleB, c1, c2]
      rw [hb]; clear hb
      go_enter Try.func25, Try.ntmps25
      go_wp2
      go_ret
      exact ⟨rfl, rfl⟩
    · have hb : staleB now last = false := by simp [staleB, c1, c2]
      rw [hb]; clear hb
      go_enter Try.func25, Try.ntmps25
      go_wp2
      go_ret
      exact ⟨rfl, rfl⟩
  · have hb : staleB now last = false := by simp [staleB, c1]
    rw [hb]; clear hb
    go_enter Try.func25, Try.ntmps25
    go_wp2
    go_ret
    exact ⟨rfl, rfl⟩

theorem zmax_any (a b : Int) (w : World) : Calls Try.prog 15 #[.int .u64 a, .int .u64 b] w fun e w' => e = .returned (.int .u64 (maxI a b)) ∧ w' = w := by
  by_cases c : b < a
  · have hb : maxI a b = a := if_neg (by omega)
    rw [hb]; clear hb
    go_enter Try.func15, Try.ntmps15
    go_wp2
    go_ret
    exact ⟨rfl, rfl⟩
  · have hb : maxI a b = b := by unfold maxI; split <;> omega
    rw [hb]; clear hb
    go_enter Try.func15, Try.ntmps15
    go_wp2
    go_ret
    exact ⟨rfl, rfl⟩

theorem fresh_any (w : World) (a : Option Addr) (cap : Nat) (cs : List (ByteArray × Int)) (now : Int) (hC : Cs w a cs) (hn : cs.length ≤ 4096) (h0 : 0 ≤ now) (h1 : now ≤ 18446744073709551615) :
    Calls Try.prog 12 #[.int .u64 now, .slice a cs.length cap] w fun e w' => RetB Whatever e ∧ w' = w := by
  go_enter Try.func12, Try.ntmps12
  go_wp2
  go_loop [5] (fun i => ∃ (k : Nat), k ≤ cs.length ∧ i = .int .i64 k) (fun i => cs.length - (intOf i).toNat)
  case atStart => exact ⟨0, Nat.zero_le _, rfl⟩
  case round =>
    obtain ⟨k, hk, rfl⟩ := hrel
    by_cases hlt : k < cs.length
    · obtain ⟨b, off, rfl, h1, h2, hb⟩ := hC.cell k hlt
      have hr := hC.rng k hlt
      generalize hid : (cs[k]).2 = last at *
      clear hid h1
      have hlt' : (k : Int) < cs.length := by omega
      have h1' : now ≤ 18446744073709551615 := by assumption
      cases hst : staleB now last with
      | true =>
        go_wp2_with (go_at_call 25; refine (stale_any _ _ _ (by omega) (by omega) (by omega) (by omega)).mono ?_; rintro e w' ⟨rfl, rfl⟩)
        go_ret
        exact ⟨RetB.mk _ trivial, rfl⟩
      | false =>
        go_wp2_with (go_at_call 25; refine (stale_any _ _ _ (by omega) (by omega) (by omega) (by omega)).mono ?_; rintro e w' ⟨rfl, rfl⟩)
        go_round
        case rel => exact ⟨k + 1, by omega, by go_num⟩
        case measure => simp [intOf]; omega
    · go_wp2
      go_ret
      exact ⟨RetB.mk _ trivial, rfl⟩
end Go.Proofs.Qxb6616160a.Tick
