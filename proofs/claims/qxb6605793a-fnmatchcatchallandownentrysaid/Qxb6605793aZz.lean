import Derived.Test.Qxb6605793aNew
namespace Go.Proofs.Qxb6605793a
open Go.RowKit
set_option linter.unusedVariables false

/-- What ZZmatch hands back. -/
def Answered (w : World) (ss : List ByteArray) (p : ByteArray) (e : Ending) (w' : World) : Prop := Matched ss p e ∧ Below w.heap.size w w'

set_option maxHeartbeats 1000000 in
theorem zzmatch10 (a : Option Addr) (cap : Nat) (ss : List ByteArray) (p : ByteArray) (w : World) (hS : Strs w a ss) (hl : ss.length ≤ 65537) (hz : ∀ s ∈ ss, s.size ≤ 1048576) (hp : p.size ≤ 1048576) :
    Calls Try.prog 10 #[.slice a ss.length cap, .string p] w fun e w' => Answered w ss p e w' := by
  have HS : Hid (Strs w a ss) := hS
  have HZ : Hid (∀ s ∈ ss, s.size ≤ 1048576) := hz
  clear hS hz
  go_enter Try.func10, Try.ntmps10
  go_wp2_with fail
  refine (values23 a ss.length cap _).mono ?_
  rintro e X ⟨rfl, hX⟩
  have HB1 : Hid (Below w.heap.size w X) := by rw [hX]; exact (Below.refl _ _).alloc (Nat.le_refl _) _
  have hsz : X.heap.size = w.heap.size + 1 := by rw [hX]; simp
  have hcell : X.cell? ⟨w.heap.size, 0, none⟩ = some (.slice a ss.length cap) := by
    rw [hX]; exact (Boxed.new w 22 _).cell
  clear hX
  have HN := newset22 w.heap.size a cap ss X hcell (by omega) (HS.out.below HB1.out) hl HZ.out
  clear hcell
  go_wp2_with fail
  refine HN.mono ?_
  rintro e Y ⟨v, rfl, hV, hB⟩
  have HB2 : Hid (Below w.heap.size w Y) := HB1.out.trans (hB.mono (by omega))
  have HM := match24 ss v p Y hV hp
  clear hV hB
  go_wp2_with fail
  refine HM.mono ?_
  rintro e Z ⟨⟨r, ok, rfl, hA, hr⟩, hB⟩
  have HA : Hid (Answered w ss p (.returned (.tuple #[.string r, .bool ok])) Z) := ⟨⟨r, ok, rfl, hA, hr⟩, HB2.out.trans (hB.mono (by have := HB2.out.size; omega))⟩
  clear hA hr hB
  go_wp2_with fail
  go_ret2
  exact HA.out
end Go.Proofs.Qxb6605793a
