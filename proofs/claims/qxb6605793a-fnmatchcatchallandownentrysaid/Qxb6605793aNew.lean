import Derived.Test.Qxb6605793aBld
namespace Go.Proofs.Qxb6605793a
open Go.RowKit Go.Shelf
set_option linter.unusedVariables false
attribute [local go_sem] Oper.semAt_some

theorem range_from {N : Nat} {P : Program} {F : Fence} {n : Nat} {g : Operand} {ps : Array Tmp} {assign body : Code} {Q : Exit → Act → World → Prop} {a : Act} {w : World} (hN : w.heap.size = N)
    (hro : F.round = none) (h1 : 1 ≤ n) {gf : Nat} {lb : Array Value} (hg : a.eval g = .func (.func gf) #[] lb) (hFg : F.fn gf) (eg : ∀ args w, (callFunc gf args).run P w = .ok (.enter gf args) w)
    (vals : Nat → Array Value) (len n₀ : Nat) (hn₀ : n₀ ≤ N) (hps : ∀ k, (vals k).size = ps.size)
    (hiter : ∀ (l : Nat) (J : Nat → World → Prop) (W : World), Below n₀ w W → N ≤ W.heap.size → J 0 W →
      (∀ k W, J k W → k < len → YieldAt F (n - 1 - 1) P l (vals k) W fun e W' => e = .returned (.bool true) ∧ J (k + 1) W' ∧ Below n₀ W W') →
      CallsIn F (n - 1) P gf (#[.func (.yield l) #[] #[]] ++ lb) W fun e W' => (∃ v, e = .returned v) ∧ J len W')
    (I : Nat → World → Prop) (h0 : ∀ r, I 0 ((w.alloc (.deferred (some []))).alloc (.loop r)))
    (hput : ∀ k W r r', I k W → W.heap[N + 1]? = some (.loop r) → I k (W.putObj (N + 1) (.loop r')))
    (a₁ : Nat → Act)
    (hassign : ∀ (l k : Nat) (W : World) (K : Act → World → Prop), K (a₁ k) W →
      assign.wpIn (F.inRound l) (n - 1 - 1) P (Exit.then K (fun _ _ _ => False)) { tmps := (ps.zip (vals k)).foldl (fun t (p, v) => t.setIfInBounds p v) a.tmps, defers := [] } W)
    (hbody : ∀ (l k : Nat) (W : World), I k W → k < len → (∃ r, W.heap[N + 1]? = some (.loop r)) → body.wpIn (F.inRound l) (n - 1 - 1) P (goesOn N n₀ k I W) (a₁ k) W)
    (hdone : ∀ (W : World), I len W → W.heap[N]? = some (.deferred (some [])) → Q .normal { a with defers := { target := .collected N, args := #[] } :: a.defers } W) :
    (Code.rangeFunc g ps assign body).wpIn F n P Q a w := by
  subst hN
  exact range_all hro h1 hg hFg eg vals len n₀ hn₀ hps hiter I h0 hput a₁ hassign hbody hdone

theorem Done.facts {w W : World} {ss : List ByteArray} {mo : Option Nat} {a : Option Addr} {cap : Nat} {ps : List ByteArray} (h : Done w ss W mo a cap ps) :
    W.cell? ⟨w.heap.size + 1, 0, none⟩ = some (.map mo) ∧ W.cell? ⟨w.heap.size + 1, 1, none⟩ = some (.slice a ps.length cap) ∧ W.cell? ⟨w.heap.size, 0, none⟩ = some (.map none) ∧ W.cell? ⟨w.heap.size, 1, none⟩ = some (.slice none 0 0) ∧
    W.frozen? ⟨w.heap.size, 0, none⟩ = false ∧ W.frozen? ⟨w.heap.size, 1, none⟩ = false := by
  obtain ⟨h1, _, _, _, h5, _⟩ := h
  exact ⟨by simp [World.cell?, h5], by simp [World.cell?, h5], by simp [World.cell?, h1], by simp [World.cell?, h1], by simp [World.frozen?, h1], by simp [World.frozen?, h1]⟩

/-- What newPathSet leaves. -/
def NewSet (w : World) (ss : List ByteArray) (e : Ending) (w' : World) : Prop := ∃ v, e = .returned v ∧ SetOf w' ss v ∧ Below w.heap.size w w'

/-- The result is stored; the loop's block is shut. -/
def shut (w W : World) (mo : Option Nat) (s : Value) : World := (((W.setCell ⟨w.heap.size, 0, none⟩ (.map mo)).setCell ⟨w.heap.size, 1, none⟩ s)).putObj (w.heap.size + 2) (.deferred none)
theorem Done.last {w W : World} {ss : List ByteArray} {mo : Option Nat} {a : Option Addr} {cap : Nat} {ps : List ByteArray} (h : Done w ss W mo a cap ps) (hl : ss.length ≤ 65537) (hz : ∀ s ∈ ss, s.size ≤ 1048576) :
    ((W.setCell ⟨w.heap.size, 0, none⟩ (.map mo)).setCell ⟨w.heap.size, 1, none⟩ (.slice a ps.length cap)).heap[w.heap.size + 2]? = some (.deferred (some [])) ∧
    (shut w W mo (.slice a ps.length cap)).cell? ⟨w.heap.size, 0, none⟩ = some (.map mo) ∧ (shut w W mo (.slice a ps.length cap)).cell? ⟨w.heap.size, 1, none⟩ = some (.slice a ps.length cap) ∧
    NewSet w ss (.returned (.agg #[.map mo, .slice a ps.length cap])) (shut w W mo (.slice a ps.length cap)) := by
  have hset := h.setOf (W' := shut w W mo (.slice a ps.length cap)) (fun j hj => by
    unfold shut
    rw [World.putObj_heap_other (by omega), Below.heap_setCell _ _ _ j (by show j ≠ w.heap.size; omega), Below.heap_setCell _ _ _ j (by show j ≠ w.heap.size; omega)]) hl hz
  obtain ⟨h1, h2, h3, h4, h5, _⟩ := h
  have e1 := heap_cell_set h1 0 (.map mo)
  have e2 := heap_cell_set e1 1 (.slice a ps.length cap)
  have e3 : (shut w W mo (.slice a ps.length cap)).heap[w.heap.size]? = some (.cells #[.map mo, .slice a ps.length cap] 60) := by
    unfold shut
    rw [World.putObj_heap_other (by omega), e2]
    rfl
  refine ⟨?_, by simp [World.cell?, e3], by simp [World.cell?, e3], _, rfl, hset, ?_⟩
  · rw [Below.heap_setCell _ _ _ _ (by show w.heap.size + 2 ≠ w.heap.size; omega), Below.heap_setCell _ _ _ _ (by show w.heap.size + 2 ≠ w.heap.size; omega)]; exact h4
  · unfold shut
    exact below_putLoop ((h2.setCell (p := ⟨w.heap.size, 0, none⟩) (Nat.le_refl _) _).setCell (p := ⟨w.heap.size, 1, none⟩) (Nat.le_refl _) _) (by omega) _

theorem eq58 (r : Option Nat) (w : World) : (binOp .eql 58 (.map r) (.map none)).run Try.prog w = .ok (.bool r.isNone) w := run_eql_map_nil (P := Try.prog) w 58 9 4 r Try.underlying58
theorem make58 (w : World) : (Instr.makeMap 58 none).run Try.prog w = .ok (.map (some w.heap.size)) (w.alloc (.map #[] 0)) := by
  simp [Instr.makeMap]

set_option maxRecDepth 100000 in
set_option maxHeartbeats 2000000 in
theorem newset22 (Bv : Nat) (a : Option Addr) (cap : Nat) (ss : List ByteArray) (w : World) (hBv : w.cell? ⟨Bv, 0, none⟩ = some (.slice a ss.length cap)) (hBl : Bv < w.heap.size) (hS : Strs w a ss) (hl : ss.length ≤ 65537) (hz : ∀ s ∈ ss, s.size ≤ 1048576) :
    Calls Try.prog 22 #[.func (.func 34) #[] #[.pointer (some ⟨Bv, 0, none⟩)]] w fun e w' => NewSet w ss e w' := by
  have HS : Hid (StrsIn w.heap.size w a ss) := StrsIn.of hS
  have HZ : Hid (∀ s ∈ ss, s.size ≤ 1048576) := hz
  have HB : Hid (w.cell? ⟨Bv, 0, none⟩ = some (.slice a ss.length cap)) := hBv
  clear hS hz hBv
  refine (callsIn_wide (n := 9)).1 ?_
  have HC : Hid (∀ (n f : Nat) (args : Array Value) (w : World) (R : Ending → World → Prop), Calls Try.prog f args w R → CallsIn Fence.wide n Try.prog f args w R) := fun _ _ _ _ _ h => callsIn_wide.2 h
  have h22 : Fence.wide.fn 22 := trivial
  have h30 : Fence.wide.fn 30 := trivial
  have h31 : Fence.wide.fn 31 := trivial
  have h34 : Fence.wide.fn 34 := trivial
  have hro : Fence.wide.round = none := rfl
  generalize Fence.wide = F at *
  refine callsIn_of_wp_marks Try.func22 rfl h22 ?_ hro
  simp only [Try.ntmps22, List.size_toArray, List.length_cons, List.length_nil, Nat.reduceAdd, Nat.reduceSub, Array.replicate_succ, Array.replicate_zero, List.push_toArray, List.append_toArray, List.nil_append, List.cons_append]
  gi_wp2
  obtain ⟨W0, hW0⟩ : ∃ W0, (w.alloc (.cells #[.map none, .slice none 0 0] 60)).alloc (.cells #[.map none, .slice none 0 0] 60) = W0 := ⟨_, rfl⟩
  have hN : W0.heap.size = w.heap.size + 2 := by rw [← hW0]; simp
  have hB0 : Below w.heap.size w W0 := by rw [← hW0]; exact ((Below.refl _ w).alloc (Nat.le_refl _) _).alloc (by simp) _
  have h00 : W0.heap[w.heap.size]? = some (.cells #[.map none, .slice none 0 0] 60) := by
    rw [← hW0]; exact (Below.heap_alloc _ _ _ (by simp)).trans (World.alloc_heap_new w _)
  have h01 : W0.heap[w.heap.size + 1]? = some (.cells #[.map none, .slice none 0 0] 60) := by
    rw [← hW0]
    have := World.alloc_heap_new (w.alloc (.cells #[.map none, .slice none 0 0] 60)) (.cells #[.map none, .slice none 0 0] 60)
    rwa [World.size_alloc] at this
  rw [hW0]
  clear hW0
  refine range_from hN hro (by decide) (gf := 34) (lb := #[.pointer (some ⟨Bv, 0, none⟩)]) rfl h34 (enters_of Try.func34 (by kernel_rfl) rfl)
    (fun k => #[.string (ss.getD k ByteArray.empty)]) ss.length w.heap.size (by omega) (fun _ => rfl) ?iter
    (Bld w ss) ?start (fun k W r r' h _ => h.put _)
    (fun k => { tmps := #[.func (.func 34) #[] #[.pointer (some ⟨Bv, 0, none⟩)], undef, .pointer (some ⟨w.heap.size, 0, none⟩), .pointer (some ⟨w.heap.size + 1, 0, none⟩), .string (ss.getD k ByteArray.empty), .func (.func 34) #[] #[.pointer (some ⟨Bv, 0, none⟩)], .string (ss.getD k ByteArray.empty), undef, undef, undef, undef, undef, undef, undef, undef, undef, undef, undef, undef, undef, undef, undef, undef, undef, undef, undef, undef], defers := [] }) ?assign ?body ?done
  case iter =>
    intro l J W hW hs h0 hY
    have hW' := hB0.trans hW
    exact values34 F 8 h34 hro (by decide) l Bv w.heap.size a cap ss (by omega) J hY W ((hW'.cell (p := ⟨Bv, 0, none⟩) hBl).trans HB.out) (HS.out.below hW') h0
  case start =>
    intro r
    refine ⟨none, .slice none 0 0, ?_⟩
    have old : ∀ j, j < W0.heap.size → ((W0.alloc (.deferred (some []))).alloc (.loop r)).heap[j]? = W0.heap[j]? := fun j hj =>
      (Below.heap_alloc _ _ _ (by simp; omega)).trans (Below.heap_alloc _ _ _ hj)
    refine ⟨(old _ (by omega)).trans h00, (hB0.alloc (by omega) _).alloc (by simp; omega) _, by simp; omega, (old _ (by omega)).trans h01, .inl ⟨rfl, rfl⟩, fun M h => (by cases h), World.ownsRow_nil _ _ _ _⟩
  case assign =>
    intro l k W K hK
    gi_wp2
    exact hK
  case body =>
    rintro l k W ⟨mo, v, hI⟩ hlt _
    have HI : Hid (BldAt w ss k W mo v) := hI
    obtain ⟨a', cp, rfl⟩ : ∃ a' cp, v = .slice a' (pats (ss.take k)).length cp := by
      rcases hI.2.2.2.2.2.2.2 with ⟨h1, h2⟩ | ⟨g, cap, cur, h1, _⟩
      · rw [h2]; exact ⟨none, 0, h1⟩
      · exact ⟨_, _, h1⟩
    have hcell : W.heap[w.heap.size + 1]? = some (.cells #[.map mo, .slice a' (pats (ss.take k)).length cp] 60) := hI.2.2.2.1
    have hsz4 : w.heap.size + 4 ≤ W.heap.size := hI.2.2.1
    have hlen : (pats (ss.take k)).length ≤ 65537 := by
      have h1 := List.length_filter_le (fun s => pat (bs s)) (ss.take k)
      have h2 := List.length_take_le k ss
      unfold pats
      rw [List.length_take] at h1
      omega
    clear hI
    have c0 : W.cell? ⟨w.heap.size + 1, 0, none⟩ = some (.map mo) := by simp [World.cell?, hcell]
    have c1 : W.cell? ⟨w.heap.size + 1, 1, none⟩ = some (.slice a' (pats (ss.take k)).length cp) := by simp [World.cell?, hcell]
    have f0 : W.frozen? ⟨w.heap.size + 1, 0, none⟩ = false := by simp [World.frozen?, hcell]
    have hx := HZ.out _ (getD_mem hlt)
    clear hcell
    have HP : Hid (∀ b, pat (bs (ss.getD k ByteArray.empty)) = b → pat (ss.getD k ByteArray.empty).data.toList = b) := fun b h => h
    cases hpat : pat (bs (ss.getD k ByteArray.empty)) with
    | true =>
      have hpat' := HP.out _ hpat
      have HQ : Hid (∀ (w1 : World) (v' : Value) (tmp : Obj), w1.ownsRow (w.heap.size + 4) 9 1 v' ((pats (ss.take k)).length + 1) ((pats (ss.take k)).map .string ++ [.string (ss.getD k ByteArray.empty)]) → (W.alloc tmp).grownBy w1 (Value.slice a' (pats (ss.take k)).length cp).ownBlock →
        (w1.cell? ⟨w.heap.size + 1, 1, none⟩ = some (Value.slice a' (pats (ss.take k)).length cp) ∧ w1.frozen? ⟨w.heap.size + 1, 1, none⟩ = false) ∧ goesOn (w.heap.size + 2) w.heap.size k (Bld w ss) W .normal { tmps := #[], defers := [] } (w1.setCell ⟨w.heap.size + 1, 1, none⟩ v')) := fun w1 v' tmp h1 h2 => by
          obtain ⟨p1, p2, p3⟩ := HI.out.pattern hlt hpat h1 h2
          exact ⟨p1, p3.1, p3.2.1, p3.2.2, _, _, p2⟩
      have hrow : W.ownsRow (w.heap.size + 4) 9 1 (.slice a' (pats (ss.take k)).length cp) (pats (ss.take k)).length ((pats (ss.take k)).map .string) := HI.out.2.2.2.2.2.2
      obtain ⟨i0, hi, hz0, hz1, hz2⟩ := info_parts infoStr
      clear hpat HP
      obtain ⟨x, hxe⟩ : ∃ x, x = ss.getD k ByteArray.empty := ⟨_, rfl⟩
      rw [← hxe] at hx hpat' HQ ⊢
      have HR : Hid (W.ownsRow (w.heap.size + 4) 9 1 (.slice a' (pats (ss.take k)).length cp) (pats (ss.take k)).length ((pats (ss.take k)).map .string)) := hrow
      clear hxe hrow
      generalize (pats (ss.take k)).length = m at *
      generalize (pats (ss.take k)).map Value.string = xs at *
      gi_wp2_with (first
        | (gi_at_call 30; refine (CallsIn.inRound l (HC.out _ _ _ _ _ (hasSuffix30_star x _ (by unfold maxLen; omega)))).mono ?_; rintro e X ⟨rfl, hX⟩; have hX' := hX.symm; subst hX'; rw [hpat'])
        | (gi_at_builtin; refine wpListIn_append_own _ rfl _ _ 22 rfl (w.heap.size + 4) 9 i0 (.string ByteArray.empty) 1 16 Try.underlying22 hi hz0 hz1 hz2 rfl (by decide) _ _ _ rfl (HR.out.alloc _) ⟨W.heap.size, 0, none⟩ 1 1 [.string x] rfl rfl (cell_one_new _ _ _) (by simp [Value.oneCell']) (by unfold maxLen; omega) (by omega) (by simp; omega) ?_; intro v' w1 hown' hgrow _; obtain ⟨g', cap', rfl⟩ := ownsRow_succ hown'; obtain ⟨⟨q1, q2⟩, q3⟩ := HQ.out _ _ _ hown' hgrow; clear hown' hgrow))
      exact q3
    | false =>
      have hpat' := HP.out _ hpat
      have HQ : Hid (∀ (M : Nat) (W1 : World), BldAt w ss k W1 (some M) (.slice a' (pats (ss.take k)).length cp) → Kept w W W1 → ∃ es c, (Instr.mapUpdate 58 (.map (some M)) (.string (ss.getD k ByteArray.empty)) (.bool true)).run Try.prog W1 = .ok () (putMap W1 M (.map es c)) ∧
        goesOn (w.heap.size + 2) w.heap.size k (Bld w ss) W .normal { tmps := #[], defers := [] } (putMap W1 M (.map es c))) := fun M W1 h1 h2 => by
          obtain ⟨es, c, p1, p2, p3⟩ := h1.entry hlt hpat
          have := h2.trans p3
          exact ⟨es, c, p1, this.1, this.2.1, this.2.2, _, _, p2⟩
      clear hpat HP
      obtain ⟨x, hxe⟩ : ∃ x, x = ss.getD k ByteArray.empty := ⟨_, rfl⟩
      rw [← hxe] at hx hpat' HQ ⊢
      clear hxe
      generalize (pats (ss.take k)).length = m at *
      cases mo with
      | some M =>
        obtain ⟨es, c, q1, q3⟩ := HQ.out M W HI.out (Kept.refl _ _)
        have e58 := eq58 (some M) W
        simp only [Option.isNone] at e58
        gi_wp2_with (gi_at_call 30; refine (CallsIn.inRound l (HC.out _ _ _ _ _ (hasSuffix30_star x _ (by unfold maxLen; omega)))).mono ?_; rintro e X ⟨rfl, hX⟩; have hX' := hX.symm; subst hX'; rw [hpat'])
        exact q3
      | none =>
        obtain ⟨r1, r2⟩ := HI.out.make
        obtain ⟨es, c, q1, q3⟩ := HQ.out _ _ r1 r2
        have c2 : ((W.alloc (.map #[] 0)).setCell ⟨w.heap.size + 1, 0, none⟩ (.map (some W.heap.size))).cell? ⟨w.heap.size + 1, 0, none⟩ = some (.map (some W.heap.size)) := by
          simp [World.cell?, r1.2.2.2.1]
        have e58 := eq58 none W
        simp only [Option.isNone] at e58
        have m58 := make58 W
        have f2 : (W.alloc (.map #[] 0)).frozen? ⟨w.heap.size + 1, 0, none⟩ = false := by
          rw [World.frozen?_of_block (w := W) (a := ⟨w.heap.size + 1, 0, none⟩) (Below.heap_alloc _ _ _ (by show w.heap.size + 1 < _; omega))]; exact f0
        have c3 : (W.alloc (.map #[] 0)).cell? ⟨w.heap.size + 1, 0, none⟩ = some (.map none) := by
          rw [World.cell?_of_block (w := W) (a := ⟨w.heap.size + 1, 0, none⟩) (Below.heap_alloc _ _ _ (by show w.heap.size + 1 < _; omega))]; exact c0
        clear r1 r2
        gi_wp2_with (gi_at_call 30; refine (CallsIn.inRound l (HC.out _ _ _ _ _ (hasSuffix30_star x _ (by unfold maxLen; omega)))).mono ?_; rintro e X ⟨rfl, hX⟩; have hX' := hX.symm; subst hX'; rw [hpat'])
        exact q3
  case done =>
    rintro W ⟨mo, v, hI⟩ hK
    have HI : Hid (BldAt w ss ss.length W mo v) := hI
    obtain ⟨_, _, _, hc4, _⟩ := hI
    have hv : v = .slice none 0 0 ∨ ∃ g n cp, v = .slice (some ⟨g, 0, none⟩) n cp := by
      rcases HI.out.2.2.2.2.2.2.2 with ⟨h1, h2⟩ | ⟨g, cap, cur, h1, _⟩
      · exact .inl h1
      · exact .inr ⟨_, _, _, h1⟩
    have hlen : (pats ss).length ≤ 65537 := by
      have h1 := List.length_filter_le (fun s => pat (bs s)) ss
      unfold pats
      omega
    rcases hv with rfl | ⟨g, n, cp, rfl⟩
    · have c1 : W.cell? ⟨w.heap.size + 1, 1, none⟩ = some (.slice none 0 0) := by simp [World.cell?, hc4]
      have HD : Hid (Done w ss W mo none 0 []) := HI.out.done0 hK
      obtain ⟨s0, s1, r0, r1, g0, g1⟩ := HD.out.facts
      clear hK hc4 HI
      gi_wp2_with (gi_at_call 31; refine (HC.out _ _ _ _ _ (sort31_none none 0 _ _)).mono ?_; rintro e X ⟨rfl, hX⟩; have hX' := hX.symm; subst hX')
      obtain ⟨k1, k2, k3, k4⟩ := HD.out.last hl HZ.out
      refine ⟨by simp, .inl ⟨_, _, rfl, run_takeDeferred k1, ?_⟩⟩
      refine ⟨.agg #[.map mo, .slice none 0 0], ?_, k4⟩
      unfold shut at k2 k3
      simp only [List.length_nil] at k2 k3
      simp [results, Try.f22, go_sem, k2, k3]
    · obtain ⟨w1, w2, w3, w4⟩ := HI.out.row
      subst w1
      have HR : Hid (∀ i, i < (pats ss).length → W.cell? ⟨g, 0 + i, none⟩ = some (.string ((pats ss).getD i ByteArray.empty)) ∧ W.frozen? ⟨g, 0 + i, none⟩ = false) := w4
      have c1 : W.cell? ⟨w.heap.size + 1, 1, none⟩ = some (.slice (some ⟨g, 0, none⟩) (pats ss).length cp) := by simp [World.cell?, hc4]
      have HX : Hid (∀ e X, Sorted W g 0 (pats ss) e X → e = .returned (.tuple #[]) ∧ ∃ ps, (pats ss).length = ps.length ∧ Done w ss X mo (some ⟨g, 0, none⟩) cp ps) := fun e X h => HI.out.done hK h
      clear hK hc4 HI w4
      gi_wp2_with (gi_at_call 31; refine (HC.out _ _ _ _ _ (sort31 g 0 cp (pats ss) _ HR.out w2 hlen)).mono ?_; rintro e X hX; obtain ⟨rfl, ps, hnp, hD⟩ := HX.out _ _ hX; have HD : Hid (Done w ss X mo (some ⟨g, 0, none⟩) cp ps) := hD; obtain ⟨s0, s1, r0, r1, g0, g1⟩ := hD.facts; clear hX hD)
      obtain ⟨k1, k2, k3, k4⟩ := HD.out.last hl HZ.out
      refine ⟨by simp, .inl ⟨_, _, rfl, run_takeDeferred k1, ?_⟩⟩
      refine ⟨.agg #[.map mo, .slice (some ⟨g, 0, none⟩) ps.length cp], ?_, k4⟩
      unfold shut at k2 k3
      simp [results, Try.f22, go_sem, k2, k3]
end Go.Proofs.Qxb6605793a
