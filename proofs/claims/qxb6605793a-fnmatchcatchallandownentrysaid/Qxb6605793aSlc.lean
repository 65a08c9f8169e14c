import Derived.Test.Qxb6605793aStr
import Derived.Below
import Derived.OwnWalk
import Derived.Lib.LazyBuf
namespace Go.Proofs.Qxb6605793a
open Go.RowKit
set_option linter.unusedVariables false

/-- The strings ss lie behind the address. -/
def Strs (w : World) (a : Option Addr) (ss : List ByteArray) : Prop :=
  ss = [] ∨ ∃ b off, a = some ⟨b, off, none⟩ ∧ ∀ i, i < ss.length → w.cell? ⟨b, off + i, none⟩ = some (.string (ss.getD i ByteArray.empty))
theorem Strs.at {w : World} {a : Option Addr} {ss : List ByteArray} (h : Strs w a ss) {k : Nat} (hk : k < ss.length) :
    ∃ b off, a = some ⟨b, off, none⟩ ∧ w.cell? ⟨b, off + k, none⟩ = some (.string (ss.getD k ByteArray.empty)) := by
  rcases h with rfl | ⟨b, off, ha, hc⟩
  · simp at hk
  · exact ⟨b, off, ha, hc k hk⟩
theorem getD_mem {ss : List ByteArray} {k : Nat} (hk : k < ss.length) : ss.getD k ByteArray.empty ∈ ss := by
  rw [List.getD_eq_getElem?_getD, List.getElem?_eq_getElem hk]
  exact List.getElem_mem hk

/-- What a 'yes' of the bound tells. -/
def Fit (ss : List ByteArray) (p : ByteArray) : Prop := ss.length ≤ 1048576 ∧ (∀ s ∈ ss, s.size ≤ 1048576) ∧ p.size ≤ 1048576

def Told (ss : List ByteArray) (p : ByteArray) (e : Ending) : Prop := ∃ b, e = .returned (.bool b) ∧ (b = true → Fit ss p)

set_option maxHeartbeats 1000000 in
theorem zzbytes7 (a : Option Addr) (cap : Nat) (ss : List ByteArray) (p : ByteArray) (w : World) (hS : Strs w a ss) (hl : ss.length ≤ maxLen) (hp : p.size ≤ maxLen) (hw : ∀ s ∈ ss, s.size ≤ maxLen) :
    Calls Try.prog 7 #[.slice a ss.length cap, .string p] w fun e w' => Told ss p e ∧ w' = w := by
  unfold maxLen at hl hp
  have HW : Hid (∀ s ∈ ss, s.size ≤ maxLen) := hw
  have HS : Hid (Strs w a ss) := hS
  clear hw hS
  by_cases h1 : ss.length ≤ 1048576
  · have c1 : ¬ ((1048576 : Int) < (ss.length : Int)) := by omega
    go_enter Try.func7, Try.ntmps7
    go_wp2
    go_loop [5, 6] (fun z i => ∃ (k m : Nat), k ≤ ss.length ∧ i = .int .i64 k ∧ z = .int .i64 m ∧ m ≤ 1048576 ∧ ∀ j, j < k → (ss.getD j ByteArray.empty).size ≤ 1048576) (fun _ i => ss.length - (intOf i).toNat)
    case atStart => exact ⟨0, ss.length, Nat.zero_le _, rfl, rfl, h1, fun j hj => absurd hj (Nat.not_lt_zero j)⟩
    case round =>
      obtain ⟨k, m, hk, rfl, rfl, hm, hall⟩ := hrel
      have HA : Hid (∀ j, j < k → (ss.getD j ByteArray.empty).size ≤ 1048576) := hall
      clear hall
      by_cases hlt : k < ss.length
      · obtain ⟨b, off, rfl, hc⟩ := HS.out.at hlt
        have hx := HW.out _ (getD_mem hlt)
        unfold maxLen at hx
        obtain ⟨x, hxe⟩ : ∃ x, x = ss.getD k ByteArray.empty := ⟨_, rfl⟩
        rw [← hxe] at hc hx
        have HX : Hid (x = ss.getD k ByteArray.empty) := hxe
        clear hxe
        by_cases hb : x.size ≤ 1048576
        · have c2 : ¬ ((1048576 : Int) < (x.size : Int)) := by omega
          by_cases hc2 : m + x.size ≤ 1048576
          · have c3 : ¬ ((1048576 : Int) < (m : Int) + (x.size : Int)) := by omega
            go_wp2
            go_round
            case rel => exact ⟨k + 1, m + x.size, by omega, by go_num, by go_num, hc2, fun j hj => by
              by_cases hjk : j < k
              · exact HA.out j hjk
              · obtain rfl : j = k := by omega
                rw [← HX.out]; exact hb⟩
            case measure => simp [intOf]; omega
          · have c3 : ((1048576 : Int) < (m : Int) + (x.size : Int)) := by omega
            go_wp2
            go_ret
            exact ⟨⟨_, rfl, fun h => by cases h⟩, rfl⟩
        · have c2 : ((1048576 : Int) < (x.size : Int)) := by omega
          go_wp2
          go_ret
          exact ⟨⟨_, rfl, fun h => by cases h⟩, rfl⟩
      · have HF : Hid (p.size ≤ 1048576 → Fit ss p) := fun hp' => ⟨h1, fun s hs => by
          obtain ⟨i, hi, rfl⟩ := List.getElem_of_mem hs
          have := HA.out i (by omega)
          rwa [List.getD_eq_getElem?_getD, List.getElem?_eq_getElem hi] at this, hp'⟩
        by_cases hb : p.size ≤ 1048576
        · have c2 : ¬ ((1048576 : Int) < (p.size : Int)) := by omega
          by_cases hc2 : m + p.size ≤ 1048576
          · have c3 : ¬ ((1048576 : Int) < (m : Int) + (p.size : Int)) := by omega
            go_wp2
            go_ret
            exact ⟨⟨_, rfl, fun _ => HF.out hb⟩, rfl⟩
          · have c3 : ((1048576 : Int) < (m : Int) + (p.size : Int)) := by omega
            go_wp2
            go_ret
            exact ⟨⟨_, rfl, fun h => by cases h⟩, rfl⟩
        · have c2 : ((1048576 : Int) < (p.size : Int)) := by omega
          go_wp2
          go_ret
          exact ⟨⟨_, rfl, fun h => by cases h⟩, rfl⟩
  · have c1 : ((1048576 : Int) < (ss.length : Int)) := by omega
    go_enter Try.func7, Try.ntmps7
    go_wp2
    go_ret
    exact ⟨⟨_, rfl, fun h => by cases h⟩, rfl⟩

set_option maxHeartbeats 1000000 in
theorem zzbytes12 (a : Option Addr) (cap : Nat) (ss : List ByteArray) (p : ByteArray) (w : World) (hS : Strs w a ss) (hl : ss.length ≤ maxLen) (hp : p.size ≤ maxLen) (hw : ∀ s ∈ ss, s.size ≤ maxLen) :
    Calls Try.prog 12 #[.slice a ss.length cap, .string p] w fun e w' => Told ss p e ∧ w' = w := by
  unfold maxLen at hl hp
  have HW : Hid (∀ s ∈ ss, s.size ≤ maxLen) := hw
  have HS : Hid (Strs w a ss) := hS
  clear hw hS
  by_cases h1 : ss.length ≤ 1048576
  · have c1 : ¬ ((1048576 : Int) < (ss.length : Int)) := by omega
    go_enter Try.func12, Try.ntmps12
    go_wp2
    go_loop [5, 6] (fun z i => ∃ (k m : Nat), k ≤ ss.length ∧ i = .int .i64 k ∧ z = .int .i64 m ∧ m ≤ 1048576 ∧ ∀ j, j < k → (ss.getD j ByteArray.empty).size ≤ 1048576) (fun _ i => ss.length - (intOf i).toNat)
    case atStart => exact ⟨0, ss.length, Nat.zero_le _, rfl, rfl, h1, fun j hj => absurd hj (Nat.not_lt_zero j)⟩
    case round =>
      obtain ⟨k, m, hk, rfl, rfl, hm, hall⟩ := hrel
      have HA : Hid (∀ j, j < k → (ss.getD j ByteArray.empty).size ≤ 1048576) := hall
      clear hall
      by_cases hlt : k < ss.length
      · obtain ⟨b, off, rfl, hc⟩ := HS.out.at hlt
        have hx := HW.out _ (getD_mem hlt)
        unfold maxLen at hx
        obtain ⟨x, hxe⟩ : ∃ x, x = ss.getD k ByteArray.empty := ⟨_, rfl⟩
        rw [← hxe] at hc hx
        have HX : Hid (x = ss.getD k ByteArray.empty) := hxe
        clear hxe
        by_cases hb : x.size ≤ 1048576
        · have c2 : ¬ ((1048576 : Int) < (x.size : Int)) := by omega
          by_cases hc2 : m + x.size ≤ 1048576
          · have c3 : ¬ ((1048576 : Int) < (m : Int) + (x.size : Int)) := by omega
            go_wp2
            go_round
            case rel => exact ⟨k + 1, m + x.size, by omega, by go_num, by go_num, hc2, fun j hj => by
              by_cases hjk : j < k
              · exact HA.out j hjk
              · obtain rfl : j = k := by omega
                rw [← HX.out]; exact hb⟩
            case measure => simp [intOf]; omega
          · have c3 : ((1048576 : Int) < (m : Int) + (x.size : Int)) := by omega
            go_wp2
            go_ret
            exact ⟨⟨_, rfl, fun h => by cases h⟩, rfl⟩
        · have c2 : ((1048576 : Int) < (x.size : Int)) := by omega
          go_wp2
          go_ret
          exact ⟨⟨_, rfl, fun h => by cases h⟩, rfl⟩
      · have HF : Hid (p.size ≤ 1048576 → Fit ss p) := fun hp' => ⟨h1, fun s hs => by
          obtain ⟨i, hi, rfl⟩ := List.getElem_of_mem hs
          have := HA.out i (by omega)
          rwa [List.getD_eq_getElem?_getD, List.getElem?_eq_getElem hi] at this, hp'⟩
        by_cases hb : p.size ≤ 1048576
        · have c2 : ¬ ((1048576 : Int) < (p.size : Int)) := by omega
          by_cases hc2 : m + p.size ≤ 1048576
          · have c3 : ¬ ((1048576 : Int) < (m : Int) + (p.size : Int)) := by omega
            go_wp2
            go_ret
            exact ⟨⟨_, rfl, fun _ => HF.out hb⟩, rfl⟩
          · have c3 : ((1048576 : Int) < (m : Int) + (p.size : Int)) := by omega
            go_wp2
            go_ret
            exact ⟨⟨_, rfl, fun h => by cases h⟩, rfl⟩
        · have c2 : ((1048576 : Int) < (p.size : Int)) := by omega
          go_wp2
          go_ret
          exact ⟨⟨_, rfl, fun h => by cases h⟩, rfl⟩
  · have c1 : ((1048576 : Int) < (ss.length : Int)) := by omega
    go_enter Try.func12, Try.ntmps12
    go_wp2
    go_ret
    exact ⟨⟨_, rfl, fun h => by cases h⟩, rfl⟩

set_option maxHeartbeats 1000000 in
theorem bytes8 (a : Option Addr) (cap : Nat) (ss : List ByteArray) (w : World) (hS : Strs w a ss) (hl : ss.length ≤ 65536) (hw : ∀ s ∈ ss, s.size ≤ 1048576) :
    Calls Try.prog 8 #[.slice a ss.length cap] w fun e w' => (∃ m : Nat, e = .returned (.int .i64 m) ∧ m ≤ 4194304) ∧ w' = w := by
  have HW : Hid (∀ s ∈ ss, s.size ≤ 1048576) := hw
  have HS : Hid (Strs w a ss) := hS
  clear hw hS
  go_enter Try.func8, Try.ntmps8
  go_wp2
  go_loop [3, 4] (fun z i => ∃ (k m : Nat), k ≤ ss.length ∧ i = .int .i64 k ∧ z = .int .i64 m ∧ m ≤ 1048576) (fun _ i => ss.length - (intOf i).toNat)
  case atStart => exact ⟨0, 16 * ss.length, Nat.zero_le _, rfl, by go_num, by omega⟩
  case round =>
    obtain ⟨k, m, hk, rfl, rfl, hm⟩ := hrel
    by_cases hlt : k < ss.length
    · obtain ⟨b, off, rfl, hc⟩ := HS.out.at hlt
      have hx := HW.out _ (getD_mem hlt)
      obtain ⟨x, hxe⟩ : ∃ x, x = ss.getD k ByteArray.empty := ⟨_, rfl⟩
      rw [← hxe] at hc hx
      clear hxe
      by_cases hc2 : m + x.size ≤ 1048576
      · have c3 : ¬ ((1048576 : Int) < (m : Int) + (x.size : Int)) := by omega
        go_wp2
        go_round
        case rel => exact ⟨k + 1, m + x.size, by omega, by go_num, by go_num, hc2⟩
        case measure => simp [intOf]; omega
      · have c3 : ((1048576 : Int) < (m : Int) + (x.size : Int)) := by omega
        go_wp2
        go_ret
        exact ⟨⟨m + x.size, by go_num, by omega⟩, rfl⟩
    · go_wp2
      go_ret
      exact ⟨⟨m, rfl, by omega⟩, rfl⟩

theorem heap_cell_set {w : World} {g : Nat} {cs : Array Value} {t : TypeId} {fr : Nat × Nat} (H : w.heap[g]? = some (.cells cs t fr)) (j : Nat) (v : Value) :
    (w.setCell ⟨g, j, none⟩ v).heap[g]? = some (.cells (cs.setIfInBounds j v) t fr) := by
  simp [World.setCell, Array.getElem?_modify, H]
theorem infoStr : (Try.prog.info? 9).map (fun i => (i.zero, i.size, i.bytes)) = some (some (.string ByteArray.empty), 1, 16) := by kernel_rfl
/-- A row in the making: its first k cells hold the strings. -/
def Fill (w wr : World) (g n k : Nat) (ss : List ByteArray) : Prop :=
  ∃ cur : Array Value, wr.heap[g]? = some (.cells cur 9) ∧ cur.size = n ∧ (∀ i, i < k → cur[i]? = some (.string (ss.getD i ByteArray.empty))) ∧ Below w.heap.size w wr ∧ w.heap.size ≤ g
theorem Fill.start {w wr : World} {g n : Nat} {ss : List ByteArray} {xs : List Value} (h : wr.ownsRow w.heap.size 9 1 (.slice (some ⟨g, 0, none⟩) n n) n xs) (hb : Below w.heap.size w wr) : Fill w wr g n 0 ss := by
  rcases h.2 with ⟨h, _⟩ | ⟨g', cap, cur, hv, hg, hh, _, _, hs, _⟩
  · cases h
  · simp at hv
    obtain ⟨rfl, rfl⟩ := hv
    exact ⟨cur, hh, by simpa using hs, fun i hi => absurd hi (Nat.not_lt_zero i), hb, hg⟩
theorem Fill.cell {w wr : World} {g n k : Nat} {ss : List ByteArray} (h : Fill w wr g n k ss) {j : Nat} (hj : j < n) : (∃ v, wr.cell? ⟨g, j, none⟩ = some v) ∧ wr.frozen? ⟨g, j, none⟩ = false := by
  obtain ⟨cur, hh, hs, _⟩ := h
  exact ⟨⟨cur[j]'(by omega), by simp [World.cell?, hh, show j < cur.size by omega]⟩, by simp [World.frozen?, hh]⟩
theorem Fill.step {w wr : World} {g n k : Nat} {ss : List ByteArray} (h : Fill w wr g n k ss) (hk : k < n) : Fill w (wr.setCell ⟨g, k, none⟩ (.string (ss.getD k ByteArray.empty))) g n (k + 1) ss := by
  obtain ⟨cur, hh, hs, hc, hb, hg⟩ := h
  refine ⟨cur.setIfInBounds k (.string (ss.getD k ByteArray.empty)), heap_cell_set hh k _, by simpa using hs, fun i hi => ?_, hb.setCell hg _, hg⟩
  rw [Array.getElem?_setIfInBounds]
  by_cases hik : k = i
  · subst hik; simp [show k < cur.size by omega]
  · rw [if_neg hik]; exact hc i (by omega)
theorem Fill.strs {w wr : World} {g n : Nat} {ss : List ByteArray} (h : Fill w wr g n n ss) (hn : n = ss.length) : Strs wr (some ⟨g, 0, none⟩) ss := by
  obtain ⟨cur, hh, hs, hc, _⟩ := h
  refine .inr ⟨g, 0, rfl, fun i hi => ?_⟩
  have := hc i (by omega)
  simp [World.cell?, hh, this]
theorem Strs.below {w w' : World} {a : Option Addr} {ss : List ByteArray} (h : Strs w a ss) (hb : Below w.heap.size w w') : Strs w' a ss := by
  rcases h with rfl | ⟨b, off, ha, hc⟩
  · exact .inl rfl
  · refine .inr ⟨b, off, ha, fun i hi => ?_⟩
    have h1 := hc i hi
    have hlt : b < w.heap.size := by
      rcases Nat.lt_or_ge b w.heap.size with h | h
      · exact h
      · simp [World.cell?, Array.getElem?_eq_none h] at h1
    rw [hb.cell (p := ⟨b, off + i, none⟩) hlt]; exact h1

/-- What a maker of a fresh slice hands back. -/
def Made (w : World) (ss : List ByteArray) (e : Ending) (w' : World) : Prop := ∃ a cap, e = .returned (.slice a ss.length cap) ∧ Strs w' a ss ∧ Below w.heap.size w w'

set_option maxHeartbeats 1000000 in
theorem clone9 (a : Option Addr) (cap : Nat) (ss : List ByteArray) (w : World) (hS : Strs w a ss) (hl : ss.length ≤ 65536) (hnil : a = none → ss = []) :
    Calls Try.prog 9 #[.slice a ss.length cap] w fun e w' => Made w ss e w' := by
  obtain ⟨i0, hi, hz0, hz1, hz2⟩ := info_parts infoStr
  have es := fun (a : Option Addr) (l c : Nat) (w : World) => Go.run_eql_slice_nil (P := Try.prog) w 22 9 a l c Try.underlying22
  cases a with
  | none =>
    have hss := hnil rfl
    have HM : Hid (Made w ss (.returned (.slice none 0 0)) w) := by
      subst hss; exact ⟨none, 0, rfl, .inl rfl, Below.refl _ _⟩
    clear hnil hS hss
    go_enter Try.func9, Try.ntmps9
    go_wp2
    go_ret
    exact HM.out
  | some ad =>
    have HS : Hid (Strs w (some ad) ss) := hS
    clear hS hnil
    go_enter Try.func9, Try.ntmps9
    go_wp2_with (at_make; refine wpList_make_full _ rfl _ _ 22 rfl w.heap.size 9 i0 (.string ByteArray.empty) 1 Try.underlying22 hi hz0 hz1 _ _ _ _ ss.length rfl rfl rfl rfl (by rw [hz2]; omega) (by unfold maxLen; omega) (Nat.le_refl _) ?_; intro w2 hown2 hgrow2)
    have HF : Hid (Fill w w2 w.heap.size ss.length 0 ss) := Fill.start hown2 ((Below.refl _ _).grown hgrow2 (Nat.le_refl _) (by simp))
    clear hown2 hgrow2
    go_loopw [4] (fun i wr => ∃ k : Nat, k ≤ ss.length ∧ i = .int .i64 k ∧ Fill w wr w.heap.size ss.length k ss) (fun i _ => ss.length - (intOf i).toNat)
    case atStart => exact ⟨0, Nat.zero_le _, rfl, HF.out⟩
    case round =>
      obtain ⟨k, hk, rfl, hF⟩ := hrel
      have HG : Hid (Fill w wr w.heap.size ss.length k ss) := hF
      clear hF
      by_cases hlt : k < ss.length
      · obtain ⟨b, off, hab, hc⟩ := (HS.out.below (by obtain ⟨_, _, _, _, hb, _⟩ := HG.out; exact hb)).at hlt
        obtain rfl : ad = ⟨b, off, none⟩ := by simpa using hab
        obtain ⟨⟨v0, hc0⟩, hf0⟩ := HG.out.cell hlt
        have HN : Hid (Fill w (wr.setCell ⟨w.heap.size, k, none⟩ (.string (ss.getD k ByteArray.empty))) w.heap.size ss.length (k + 1) ss) := HG.out.step hlt
        obtain ⟨x, hxe⟩ : ∃ x, x = ss.getD k ByteArray.empty := ⟨_, rfl⟩
        rw [← hxe] at hc HN
        clear hxe hab
        go_wp2
        go_roundw
        case rel => exact ⟨k + 1, by omega, by go_num, HN.out⟩
        case measure => simp [intOf]; omega
      · obtain rfl : k = ss.length := by omega
        have HM : Hid (Made w ss (.returned (.slice (some ⟨w.heap.size, 0, none⟩) ss.length ss.length)) wr) := ⟨_, _, rfl, HG.out.strs rfl, by obtain ⟨_, _, _, _, hb, _⟩ := HG.out; exact hb⟩
        go_wp2
        go_ret
        exact HM.out
end Go.Proofs.Qxb6605793a
