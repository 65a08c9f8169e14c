import Derived.Test.Qxb6605793aModel
import Derived.Test.Qxb6605793aMapOps
namespace Go.Proofs.Qxb6605793a
open Go.RowKit
set_option linter.unusedVariables false

theorem und58 (w : World) : (underlying 58).run Try.prog w = .ok (.map 9 4) w := run_underlying Try.underlying58 w
/-- The set of exact entries: nil and none; or a map whose keys they are. -/
def ExactAt (w : World) (mo : Option Nat) (ks : List ByteArray) : Prop :=
  (mo = none ∧ ks = []) ∨ ∃ M es c, mo = some M ∧ w.heap[M]? = some (.map es c) ∧ (∀ e ∈ es.toList, ∃ k ∈ ks, e.key = .string k ∧ e.val = .bool true) ∧ ∀ k ∈ ks, ∃ e ∈ es.toList, e.key = .string k

theorem bq_yes (a : ByteArray) : (a == a) = true := (MapKept.bytes_beq a a).2 rfl
theorem bq_no {a b : ByteArray} (h : a ≠ b) : (a == b) = false := by
  cases hb : (a == b) with
  | false => rfl
  | true => exact absurd ((MapKept.bytes_beq a b).1 hb) h

theorem find_hit (p : ByteArray) : ∀ (es : List MapEntry) (i : Nat), (∀ e ∈ es, ∃ k, e.key = .string k ∧ e.val = .bool true) → (∃ e ∈ es, e.key = .string p) →
    ∃ j e, es[j]? = some e ∧ e.key = .string p ∧ Instr.findNow .string (.string p) es i = some (some (i + j, .bool true))
  | [], _, _, ⟨e, he, _⟩ => by cases he
  | e :: es, i, hall, hex => by
    obtain ⟨k, hk, hv⟩ := hall e (List.mem_cons_self ..)
    by_cases hkp : p = k
    · subst hkp
      exact ⟨0, e, rfl, hk, by simp [Instr.findNow, Instr.sameNow, hk, hv, bq_yes]⟩
    · have hex' : ∃ x ∈ es, x.key = .string p := by
        obtain ⟨x, hx, hxp⟩ := hex
        rcases List.mem_cons.1 hx with rfl | hx
        · rw [hk] at hxp; cases hxp; exact absurd rfl hkp
        · exact ⟨x, hx, hxp⟩
      obtain ⟨j, x, hj, hx, hf⟩ := find_hit p es (i + 1) (fun x hx => hall x (List.mem_cons_of_mem _ hx)) hex'
      refine ⟨j + 1, x, by simpa using hj, hx, ?_⟩
      have : Instr.findNow .string (.string p) (e :: es) i = Instr.findNow .string (.string p) es (i + 1) := by simp [Instr.findNow, Instr.sameNow, hk, bq_no hkp]
      rw [this, hf]
      congr 3
      omega
theorem find_miss (p : ByteArray) : ∀ (es : List MapEntry) (i : Nat), (∀ e ∈ es, ∃ k, e.key = .string k ∧ k ≠ p) → Instr.findNow .string (.string p) es i = some none
  | [], _, _ => rfl
  | e :: es, i, hall => by
    obtain ⟨k, hk, hkp⟩ := hall e (List.mem_cons_self ..)
    have : Instr.findNow .string (.string p) (e :: es) i = Instr.findNow .string (.string p) es (i + 1) := by simp [Instr.findNow, Instr.sameNow, hk, bq_no (Ne.symm hkp)]
    rw [this]
    exact find_miss p es (i + 1) (fun x hx => hall x (List.mem_cons_of_mem _ hx))

theorem zero4 (w : World) : (zeroValue 4).run Try.prog w = .ok (.bool false) w := Try.zeroValue4 w
theorem look58 {w : World} {mo : Option Nat} {ks : List ByteArray} (h : ExactAt w mo ks) (p : ByteArray) :
    (p ∈ ks → (Instr.lookup 58 (.map mo) (.string p) false).run Try.prog w = .ok (.bool true) w) ∧ (p ∉ ks → (Instr.lookup 58 (.map mo) (.string p) false).run Try.prog w = .ok (.bool false) w) := by
  rcases h with ⟨rfl, rfl⟩ | ⟨M, es, c, rfl, hM, h1, h2⟩
  · refine ⟨fun h => absurd h (by simp), fun _ => ?_⟩
    simp [Instr.lookup, check9, find9 p [] none w rfl]
  · refine ⟨fun hp => ?_, fun hp => ?_⟩
    · obtain ⟨j, e, _, _, hf⟩ := find_hit p es.toList 0 (fun e he => by obtain ⟨k, _, hk, hv⟩ := h1 e he; exact ⟨k, hk, hv⟩) (h2 p hp)
      simp [Instr.lookup, MapKept.run_getObj_map hM, check9, find9 p es.toList _ _ hf]
    · have hf := find_miss p es.toList 0 (fun e he => by
        obtain ⟨k, hk, hkey, _⟩ := h1 e he
        exact ⟨k, hkey, fun e => hp (by rw [← e]; exact hk)⟩)
      simp [Instr.lookup, MapKept.run_getObj_map hM, check9, find9 p es.toList _ _ hf]

theorem stays (k : ByteArray) (w : World) : (Instr.keyThatStays (.string k) (.string k)).run Try.prog w = .ok (.string k) w := by
  have : Instr.sameBits 10000 (.string k) (.string k) = true := by
    unfold Instr.sameBits
    exact bq_yes k
  simp [Instr.keyThatStays, this]

/-- 'm[k] = true'. -/
theorem upd58 {w : World} {M : Nat} {ks : List ByteArray} (h : ExactAt w (some M) ks) (k : ByteArray) :
    ∃ es c, (Instr.mapUpdate 58 (.map (some M)) (.string k) (.bool true)).run Try.prog w = .ok () (putMap w M (.map es c)) ∧ ExactAt (putMap w M (.map es c)) (some M) (ks ++ [k]) := by
  rcases h with ⟨h, _⟩ | ⟨M', es, c, hM', hM, h1, h2⟩
  · cases h
  cases hM'
  have hlt : M < w.heap.size := (Array.getElem?_eq_some_iff.1 hM).1
  by_cases hk : k ∈ ks
  · obtain ⟨j, e, hj, hek, hf⟩ := find_hit k es.toList 0 (fun e he => by obtain ⟨x, _, hx, hv⟩ := h1 e he; exact ⟨x, hx, hv⟩) (h2 k hk)
    rw [Nat.zero_add] at hf
    have hj' : es[j]? = some e := by simpa using hj
    refine ⟨es.modify j fun e => { e with key := .string k, val := .bool true }, c, ?_, ?_⟩
    · simp [Instr.mapUpdate, MapKept.run_getObj_map hM, check9, find9 k es.toList _ _ hf, hj', hek, stays, MapKept.run_setObj_map _ hM, putMap]
    · have hmod : ∀ x, x ∈ (es.modify j fun e => { e with key := .string k, val := .bool true }).toList ↔ ∃ i, ∃ y, es.toList[i]? = some y ∧ x = if i = j then { y with key := .string k, val := .bool true } else y := by
        intro x
        rw [List.mem_iff_getElem?]
        constructor
        · rintro ⟨i, hi⟩
          rw [Array.getElem?_toList, Array.getElem?_modify] at hi
          by_cases hij : j = i
          · subst hij
            rw [if_pos rfl, hj'] at hi
            exact ⟨j, e, hj, by simpa using hi.symm⟩
          · rw [if_neg hij] at hi
            exact ⟨i, x, by simpa using hi, by rw [if_neg (Ne.symm hij)]⟩
        · rintro ⟨i, y, hy, rfl⟩
          refine ⟨i, ?_⟩
          rw [Array.getElem?_toList, Array.getElem?_modify]
          have hy' : es[i]? = some y := by simpa using hy
          by_cases hij : j = i
          · subst hij; simp [hy']
          · rw [if_neg hij, if_neg (Ne.symm hij), hy']
      refine .inr ⟨M, _, c, rfl, heap_putMap_same hlt _, fun x hx => ?_, fun q hq => ?_⟩
      · obtain ⟨i, y, hy, rfl⟩ := (hmod x).1 hx
        by_cases hij : i = j
        · exact ⟨k, by simp, by simp [hij], by simp [hij]⟩
        · rw [if_neg hij]
          obtain ⟨z, hz, hk1, hv1⟩ := h1 y (List.mem_of_getElem? hy)
          exact ⟨z, List.mem_append_left _ hz, hk1, hv1⟩
      · have hq' : q ∈ ks := by
          rw [List.mem_append, List.mem_singleton] at hq
          rcases hq with h | rfl
          · exact h
          · exact hk
        obtain ⟨y, hy, hyk⟩ := h2 q hq'
        obtain ⟨i, hi⟩ := List.mem_iff_getElem?.1 hy
        by_cases hij : i = j
        · subst hij
          rw [hj] at hi; cases hi
          rw [hek] at hyk; cases hyk
          exact ⟨_, (hmod _).2 ⟨i, e, hj, rfl⟩, by simp⟩
        · exact ⟨y, (hmod _).2 ⟨i, y, hi, by rw [if_neg hij]⟩, hyk⟩
  · have hf := find_miss k es.toList 0 (fun e he => by
      obtain ⟨x, hx, hkey, _⟩ := h1 e he
      exact ⟨x, hkey, fun e => hk (by rw [← e]; exact hx)⟩)
    refine ⟨es.push ⟨.string k, .bool true, c⟩, c + 1, ?_, ?_⟩
    · simp [Instr.mapUpdate, MapKept.run_getObj_map hM, check9, find9 k es.toList _ _ hf, MapKept.run_setObj_map _ hM, putMap]
    · refine .inr ⟨M, _, _, rfl, heap_putMap_same hlt _, fun x hx => ?_, fun q hq => ?_⟩
      · rw [Array.toList_push, List.mem_append, List.mem_singleton] at hx
        rcases hx with hx | rfl
        · obtain ⟨z, hz, h⟩ := h1 x hx
          exact ⟨z, List.mem_append_left _ hz, h⟩
        · exact ⟨k, by simp, rfl, rfl⟩
      · rw [List.mem_append, List.mem_singleton] at hq
        rcases hq with hq | rfl
        · obtain ⟨y, hy, h⟩ := h2 q hq
          exact ⟨y, by rw [Array.toList_push]; exact List.mem_append_left _ hy, h⟩
        · exact ⟨⟨.string q, .bool true, c⟩, by simp, rfl⟩

theorem ExactAt.heap {w w' : World} {mo : Option Nat} {ks : List ByteArray} (h : ExactAt w mo ks) (hk : ∀ M es c, mo = some M → w.heap[M]? = some (.map es c) → w'.heap[M]? = some (.map es c)) : ExactAt w' mo ks := by
  rcases h with h | ⟨M, es, c, hm, hM, h1, h2⟩
  · exact .inl h
  · exact .inr ⟨M, es, c, hm, hk M es c hm hM, h1, h2⟩
theorem ExactAt.below {w w' : World} {mo : Option Nat} {ks : List ByteArray} (h : ExactAt w mo ks) (hb : Below w.heap.size w w') : ExactAt w' mo ks :=
  h.heap fun M es c _ hM => by rw [hb.block M (Array.getElem?_eq_some_iff.1 hM).1]; exact hM

theorem bss_get (ps : List ByteArray) (k : Nat) (h : k < ps.length) (h' : k < (bss ps).length) : (bss ps)[k] = bs (ps.getD k ByteArray.empty) := by
  simp [bss, List.getD_eq_getElem?_getD, List.getElem?_eq_getElem h]

/-- The path set as newPathSet leaves it. -/
def SetOf (w : World) (es : List ByteArray) (v : Value) : Prop :=
  ∃ mo a cap ps, v = .agg #[.map mo, .slice a ps.length cap] ∧ ExactAt w mo (es.filter fun s => !pat (bs s)) ∧ Strs w a ps ∧ Longest (bss es) (bss ps) ∧ ps.length ≤ 65537 ∧ ∀ s ∈ ps, s.size ≤ 1048576

set_option maxHeartbeats 1000000 in
theorem match24 (es : List ByteArray) (v : Value) (p : ByteArray) (w : World) (hV : SetOf w es v) (hp : p.size ≤ 1048576) :
    Calls Try.prog 24 #[v, .string p] w fun e w' => Matched es p e ∧ Below w.heap.size w w' := by
  obtain ⟨mo, a, cap, ps, rfl, hE, hS, hL, hn, hw⟩ := hV
  have hpm : p.size ≤ maxLen := by unfold maxLen; omega
  have bel : Below w.heap.size w (w.alloc (.cells #[.map mo, .slice a ps.length cap] 60)) := (Below.refl _ _).alloc (Nat.le_refl _) _
  have lk := look58 (hE.below bel) p
  have hmem : p ∈ (es.filter fun s => !pat (bs s)) ↔ bs p ∈ bss es ∧ pat (bs p) = false := by
    rw [List.mem_filter, mem_bss]
    constructor
    · rintro ⟨h1, h2⟩
      exact ⟨⟨p, h1, rfl⟩, by simpa using h2⟩
    · rintro ⟨⟨s, hs, he⟩, h2⟩
      rw [← bs_inj he]
      exact ⟨hs, by rw [he]; simpa using h2⟩
  have HS : Hid (Strs (w.alloc (.cells #[.map mo, .slice a ps.length cap] 60)) a ps) := hS.below bel
  have HL : Hid (Longest (bss es) (bss ps)) := hL
  have HW : Hid (∀ s ∈ ps, s.size ≤ 1048576) := hw
  have HB : Hid (Below w.heap.size w (w.alloc (.cells #[.map mo, .slice a ps.length cap] 60))) := bel
  clear hS hL hw hE bel
  by_cases hx : p ∈ (es.filter fun s => !pat (bs s))
  · have l1 := lk.1 hx
    have HA : Hid (Matched es p (.returned (.tuple #[.string p, .bool true]))) := ⟨p, true, rfl, ans_exact (hmem.1 hx).1 (hmem.1 hx).2, hpm⟩
    clear lk hx hmem
    go_enter Try.func24, Try.ntmps24
    go_wp2
    go_ret2
    exact ⟨HA.out, HB.out⟩
  · have l1 := lk.2 hx
    have HX : Hid (¬ (bs p ∈ bss es ∧ pat (bs p) = false)) := fun h => hx (hmem.2 h)
    clear lk hx hmem
    go_enter Try.func24, Try.ntmps24
    go_wp2
    generalize w.alloc (.cells #[.map mo, .slice a ps.length cap] 60) = W0 at *
    go_loopw [7, 16] (fun _ i wr => ∃ k : Nat, k ≤ ps.length ∧ i = .int .i64 k ∧ (∀ j, j < k → pre (bs (ps.getD j ByteArray.empty)) (bs p) = false) ∧ wr = W0) (fun _ i _ => ps.length - (intOf i).toNat)
    case atStart => exact ⟨0, Nat.zero_le _, rfl, fun j hj => absurd hj (Nat.not_lt_zero j), rfl⟩
    case round =>
      obtain ⟨k, hk, rfl, hno, rfl⟩ := hrel
      have HN0 : Hid (∀ j, j < k → pre (bs (ps.getD j ByteArray.empty)) (bs p) = false) := hno
      clear hno
      by_cases hlt : k < ps.length
      · obtain ⟨b, off, rfl, hc⟩ := HS.out.at hlt
        have hx := HW.out _ (getD_mem hlt)
        have hkb : k < (bss ps).length := by simpa [bss] using hlt
        have HG : Hid ((bss ps)[k] = bs (ps.getD k ByteArray.empty)) := bss_get ps k hlt hkb
        have hpat : pat (bs (ps.getD k ByteArray.empty)) = true := ((HL.out.1 _).1 (mem_bss.2 ⟨_, getD_mem hlt, rfl⟩)).2
        obtain ⟨x, hxe⟩ : ∃ x, x = ps.getD k ByteArray.empty := ⟨_, rfl⟩
        rw [← hxe] at hc hx hpat HG
        have HXE : Hid (x = ps.getD k ByteArray.empty) := hxe
        clear hxe
        have hx1 : 1 ≤ x.size := by rw [← bs_length]; exact pat_length hpat
        have hem : (x.extract 0 (x.size - 1)).size ≤ maxLen := by simp; unfold maxLen; omega
        have HE : Hid (pfx (x.extract 0 (x.size - 1)) p = pre (bs x) (bs p)) := pre_eq x p hx1
        cases hpre : pre (bs x) (bs p) with
        | false =>
          have HQ : Hid (pre (bs x) (bs p) = false) := hpre
          clear hpre hpat
          go_wp2_with fail
          refine (hasPrefix35_any p (x.extract 0 (x.size - 1)) _ hpm hem).mono ?_
          rintro e X ⟨rfl, hX⟩
          have hX' := hX.symm
          subst hX'
          rw [HE.out, HQ.out]
          go_wp2_with fail
          go_roundw
          case rel => exact ⟨k + 1, by omega, by go_num, fun j hj => by
            by_cases hjk : j < k
            · exact HN0.out j hjk
            · obtain rfl : j = k := by omega
              rw [← HXE.out]; exact HQ.out, trivial⟩
          case measure => simp [intOf]; omega
        | true =>
          have HA : Hid (Matched es p (.returned (.tuple #[.string x, .bool true]))) := ⟨x, true, rfl, by
            have := HL.out.hit HX.out k hkb (fun i hi hik => by rw [bss_get ps i (by simpa [bss] using hi) hi]; exact HN0.out i hik) (by rw [HG.out]; exact hpre)
            rwa [HG.out] at this, by unfold maxLen; omega⟩
          have HQ : Hid (pre (bs x) (bs p) = true) := hpre
          clear hpre hpat
          go_wp2_with fail
          refine (hasPrefix35_any p (x.extract 0 (x.size - 1)) _ hpm hem).mono ?_
          rintro e X ⟨rfl, hX⟩
          have hX' := hX.symm
          subst hX'
          rw [HE.out, HQ.out]
          go_wp2_with fail
          go_ret2
          exact ⟨HA.out, HB.out⟩
      · have HA : Hid (Matched es p (.returned (.tuple #[.string ⟨#[]⟩, .bool false]))) := ⟨⟨#[]⟩, false, rfl, HL.out.miss HX.out (fun i hi => by
          rw [bss_get ps i (by simpa [bss] using hi) hi]; exact HN0.out i (by simp [bss] at hi; omega)), Nat.zero_le _⟩
        go_wp2
        go_ret2
        exact ⟨HA.out, HB.out⟩
end Go.Proofs.Qxb6605793a
