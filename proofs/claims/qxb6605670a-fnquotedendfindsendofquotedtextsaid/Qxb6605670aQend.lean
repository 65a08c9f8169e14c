import Derived.Test.Qxb6605670aRows
import Derived.Test.Qxb6605670aQuote
import Derived.WalkKit
import Derived.WalkSpells
import Derived.WalkLawsBesides
namespace Go.Proofs.Qxb6605670a
open Go.RowKit

/-- The byte at place k. -/
def bt (s : ByteArray) (k : Nat) : Nat := if h : k < s.size then s[k].toNat else 0
theorem bt_at (s : ByteArray) (k : Nat) (h : k < s.size) : bt s k = s[k].toNat := by simp [bt, h]

theorem ret_int {k : IntKind} {a b : Int} (h : a = b) : Ending.returned (.int k a) = .returned (.int k b) := by rw [h]

set_option maxHeartbeats 400000 in
theorem quotedEnd_any (s : ByteArray) (w : World) (hs : s.size ≤ 4194304) :
    Calls Try.prog 23 #[.string s] w fun e w' => (∃ r : Int, e = .returned (.int .i64 r) ∧ EndIs (bt s) s.size r) ∧ w' = w := by
  go_enter Try.func23, Try.ntmps23
  go_wp2
  go_loop [3] (fun i => ∃ k : Nat, 1 ≤ k ∧ k ≤ s.size + 1 ∧ i = .int .i64 k ∧ Inv (bt s) s.size k) (fun i => s.size + 1 - (intOf i).toNat)
  case atStart => exact ⟨1, by omega, by omega, rfl, Inv.start _ _⟩
  case round =>
    obtain ⟨k, hk1, hk, rfl, hinv⟩ := hrel
    have HI : Hid (Inv (bt s) s.size k) := hinv
    clear hinv
    by_cases hlt : k < s.size
    · have hb := bt_at s k hlt
      by_cases h92 : s[k].toNat = 92
      · have c1 : ((s[k].toNat : Int) == 92) = true := by simp [h92]
        have HN : Hid (Inv (bt s) s.size (k + 2)) := HI.out.esc (by rw [hb, h92])
        clear hb h92
        go_wp2
        go_round
        case rel => exact ⟨k + 2, by omega, by omega, by go_num, HN.out⟩
        case measure => simp [intOf]; omega
      · have c1 : ((s[k].toNat : Int) == 92) = false := by rw [beq_eq_false_iff_ne]; omega
        by_cases h34 : s[k].toNat = 34
        · have c2 : ((s[k].toNat : Int) == 34) = true := by simp [h34]
          have HN : Hid (EndIs (bt s) s.size ((k : Int) + 1)) := HI.out.found (by rw [hb, h34]) hlt
          clear hb h92 h34
          go_wp2
          go_ret
          exact ⟨⟨_, rfl, HN.out⟩, rfl⟩
        · have c2 : ((s[k].toNat : Int) == 34) = false := by rw [beq_eq_false_iff_ne]; omega
          have HN : Hid (Inv (bt s) s.size (k + 1)) := HI.out.plain (by rw [hb]; exact h92) (by rw [hb]; exact h34)
          clear hb h92 h34
          go_wp2
          go_round
          case rel => exact ⟨k + 1, by omega, by omega, by go_num, HN.out⟩
          case measure => simp [intOf]; omega
    · have HN : Hid (EndIs (bt s) s.size (-1)) := HI.out.none (by omega)
      go_wp2
      go_ret
      exact ⟨⟨_, rfl, HN.out⟩, rfl⟩

set_option maxHeartbeats 400000 in
theorem zzquotedEnd_any (s : ByteArray) (w : World) (hs : s.size ≤ 4194304) :
    Calls Try.prog 10 #[.string s] w fun e w' => (∃ r : Int, e = .returned (.int .i64 r) ∧ EndIs (bt s) s.size r) ∧ w' = w := by
  go_enter Try.func10, Try.ntmps10
  go_wp2_with fail
  refine (quotedEnd_any s _ hs).mono ?_
  rintro e w' ⟨⟨r, rfl, hr⟩, rfl⟩
  have HR : Hid (EndIs (bt s) s.size r) := hr
  clear hr
  go_wp2
  go_ret
  exact ⟨⟨_, rfl, HR.out⟩, rfl⟩

set_option maxHeartbeats 1000000 in
theorem model_any (s : ByteArray) (w : World) (hs : s.size ≤ 4194304) :
    Calls Try.prog 11 #[.string s] w fun e w' => (∃ r : Int, e = .returned (.int .i64 r) ∧ EndIs (bt s) s.size r) ∧ w' = w := by
  go_enter Try.func11, Try.ntmps11
  go_wp2
  go_loop [3, 4, 5] (fun i _ _ => ∃ j : Nat, 1 ≤ j ∧ j ≤ s.size + 1 ∧ i = .int .i64 j ∧ NoneTo (bt s) s.size j) (fun i _ _ => s.size + 1 - (intOf i).toNat)
  case atStart => exact ⟨1, by omega, by omega, rfl, NoneTo.start _ _⟩
  case round =>
    obtain ⟨j, hj1, hj, rfl, hinv⟩ := hrel
    have HI : Hid (NoneTo (bt s) s.size j) := hinv
    clear hinv
    by_cases hlt : j < s.size
    · have hb := bt_at s j hlt
      by_cases h34 : s[j].toNat = 34
      · have c1 : ((s[j].toNat : Int) != 34) = false := by simp [h34]
        have HB : Hid (bt s j = 34) := by show _ = _; rw [hb, h34]
        clear hb h34
        go_wp2
        go_loop [4, 5] (fun r i => ∃ (k c : Nat), k + 1 ≤ j ∧ i = .int .i64 k ∧ r = .int .i64 c ∧ c + run (bt s) (k + 1) = run (bt s) j) (fun _ i => (intOf i).toNat)
        case atStart => exact ⟨j - 1, 0, by omega, by go_num, rfl, by rw [show j - 1 + 1 = j by omega]; omega⟩
        case round =>
          obtain ⟨k, c, hkj, rfl, rfl, hc⟩ := hrel
          have hrl := run_le (bt s) j
          have hcj : c ≤ j := by omega
          have HC : Hid (c + run (bt s) (k + 1) = run (bt s) j) := hc
          clear hc hrl
          by_cases hk : 1 ≤ k
          · have hks : k < s.size := by omega
            have hbk := bt_at s k hks
            by_cases h92 : s[k].toNat = 92
            · have c2 : ((s[k].toNat : Int) == 92) = true := by simp [h92]
              have HN : Hid (c + 1 + run (bt s) (k - 1 + 1) = run (bt s) j) := by
                show _ = _
                rw [← HC.out, run_more hk (by rw [hbk, h92]), show k - 1 + 1 = k by omega]; omega
              clear hbk h92
              go_wp2
              go_round
              case rel => exact ⟨k - 1, c + 1, by omega, by go_num, by go_num, HN.out⟩
              case measure => simp [intOf]; omega
            · have c2 : ((s[k].toNat : Int) == 92) = false := by rw [beq_eq_false_iff_ne]; omega
              have HN : Hid (c = run (bt s) j) := by
                show _ = _
                rw [← HC.out, run_stop (by rw [hbk]; omega)]; omega
              clear hbk h92
              by_cases hpar : c % 2 = 0
              · have c3 : ((c : Int) % 2 == 0) = true := by rw [beq_iff_eq]; omega
                have HE : Hid (EndIs (bt s) s.size ((j : Int) + 1)) := HI.out.found hlt HB.out (by rw [← HN.out]; exact hpar)
                clear hpar
                go_wp2
                go_ret
                exact ⟨⟨_, rfl, HE.out⟩, rfl⟩
              · have c3 : ((c : Int) % 2 == 0) = false := by rw [beq_eq_false_iff_ne]; omega
                have HE : Hid (NoneTo (bt s) s.size (j + 1)) := HI.out.odd (by rw [← HN.out]; exact hpar)
                clear hpar
                go_wp2
                go_round
                case rel => exact ⟨j + 1, by omega, by omega, by go_num, HE.out⟩
                case measure => simp [intOf]; omega
          · have HN : Hid (c = run (bt s) j) := by
              show _ = _
              rw [← HC.out, run_stop (by omega)]; omega
            by_cases hpar : c % 2 = 0
            · have c3 : ((c : Int) % 2 == 0) = true := by rw [beq_iff_eq]; omega
              have HE : Hid (EndIs (bt s) s.size ((j : Int) + 1)) := HI.out.found hlt HB.out (by rw [← HN.out]; exact hpar)
              clear hpar
              go_wp2
              go_ret
              exact ⟨⟨_, rfl, HE.out⟩, rfl⟩
            · have c3 : ((c : Int) % 2 == 0) = false := by rw [beq_eq_false_iff_ne]; omega
              have HE : Hid (NoneTo (bt s) s.size (j + 1)) := HI.out.odd (by rw [← HN.out]; exact hpar)
              clear hpar
              go_wp2
              go_round
              case rel => exact ⟨j + 1, by omega, by omega, by go_num, HE.out⟩
              case measure => simp [intOf]; omega
      · have c1 : ((s[j].toNat : Int) != 34) = true := by rw [bne_iff_ne]; omega
        have HN : Hid (NoneTo (bt s) s.size (j + 1)) := HI.out.other (by rw [hb]; exact h34)
        clear hb h34
        go_wp2
        go_round
        case rel => exact ⟨j + 1, by omega, by omega, by go_num, HN.out⟩
        case measure => simp [intOf]; omega
    · have HN : Hid (EndIs (bt s) s.size (-1)) := HI.out.none (by omega)
      go_wp2
      go_ret
      exact ⟨⟨_, rfl, HN.out⟩, rfl⟩
end Go.Proofs.Qxb6605670a
