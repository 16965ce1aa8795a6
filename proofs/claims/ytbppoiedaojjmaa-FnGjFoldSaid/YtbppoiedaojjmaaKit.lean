/- Small words on blocks of bytes that the call's own conversions make. -/
import Derived.Test.YtbppoiedaojjmaaWWords
import Derived.Lib.ConvBytes
namespace Go.Proofs.Ytbppoiedaojjmaa.Kit
open Go.RowKit Go.Proofs.YtbppoiedaojjmaaW.PrintWords

/-- Block g holds bytes: its first cells are l, none of its cells is frozen. -/
def BB (w : World) (g : Nat) (e : TypeId) (cap : Nat) (l : List Int) : Prop :=
  ∃ cs lo hi, w.heap[g]? = some (.cells cs e (lo, hi)) ∧ cs.size = cap ∧ (lo = hi ∨ cap ≤ lo) ∧ l.length ≤ cap ∧ ∀ j, j < l.length → cs[j]? = some (.int .u8 (l.getD j 0))

theorem BB.cell {w : World} {g : Nat} {e : TypeId} {cap : Nat} {l : List Int} (h : BB w g e cap l) (j : Nat) (hj : j < l.length) : w.cell? ⟨g, j, none⟩ = some (.int .u8 (l.getD j 0)) := by
  obtain ⟨cs, lo, hi, h1, h2, h3, h4, h5⟩ := h
  have := h5 j hj
  simpa [World.cell?, h1] using this
theorem BB.frozen {w : World} {g : Nat} {e : TypeId} {cap : Nat} {l : List Int} (h : BB w g e cap l) (j : Nat) (hj : j < cap) : w.frozen? ⟨g, j, none⟩ = false := by
  obtain ⟨cs, lo, hi, h1, h2, h3, h4, h5⟩ := h
  simp [World.frozen?, h1]
  omega
theorem BB.set {w : World} {g : Nat} {e : TypeId} {cap : Nat} {l : List Int} (h : BB w g e cap l) (j : Nat) (hj : j < l.length) (x : Int) : BB (w.setCell ⟨g, j, none⟩ (.int .u8 x)) g e cap (l.set j x) := by
  obtain ⟨cs, lo, hi, h1, h2, h3, h4, h5⟩ := h
  refine ⟨cs.setIfInBounds j (.int .u8 x), lo, hi, by simp [World.setCell, Array.getElem?_modify, h1], by simpa using h2, h3, by simpa using h4, fun i hi' => ?_⟩
  rw [List.length_set] at hi'
  by_cases e : j = i
  · subst e
    rw [Array.getElem?_setIfInBounds_self_of_lt (by omega)]
    simp [List.getD, hi']
  · have := h5 i hi'
    rw [Array.getElem?_setIfInBounds_ne e, this]
    simp [List.getD, List.getElem?_set_ne e]
theorem BB.below {w w1 : World} {g : Nat} {e : TypeId} {cap : Nat} {l : List Int} (h : BB w g e cap l) (hb : Below w.heap.size w w1) : BB w1 g e cap l := by
  obtain ⟨cs, lo, hi, h1, r⟩ := h
  exact ⟨cs, lo, hi, (hb.block g (Array.getElem?_eq_some_iff.1 h1).1).trans h1, r⟩
theorem BB.conv (w : World) (e : TypeId) (s : ByteArray) : BB (Lib.bytesWorld w e s) w.heap.size e (Lib.bytesCells w e s).size (s.data.toList.map fun c => (c.toNat : Int)) := by
  refine ⟨_, _, _, Lib.bytesWorld_at_new w e s, rfl, .inr (Nat.le_refl _), ?_, fun j hj => ?_⟩
  · simp [Lib.bytesCells]
  · simp only [List.length_map, Array.length_toList] at hj
    have hj' : j < s.size := hj
    simp [Lib.bytesCells, Array.getElem?_append, List.getD, hj']
theorem below_conv (w : World) (e : TypeId) (s : ByteArray) : Below w.heap.size w (Lib.bytesWorld w e s) :=
  ⟨rfl, rfl, rfl, by rw [Lib.bytesWorld_size]; omega, fun i hi => Lib.bytesWorld_at_old w e s i hi⟩

theorem BB.str {P : Program} {w : World} {g : Nat} {src dst e : TypeId} {cap c : Nat} {l : List Int} (h : BB w g e cap l) (hs : P.underlying src = some (.slice e)) (he : P.underlying e = some (.int .u8)) (hd : P.underlying dst = some .string) (hl : l.length ≤ 9223372036854775807) :
    (convert src dst (.slice (some ⟨g, 0, none⟩) l.length c)).run P w = .ok (.string (strOfNums l)) w :=
  string_of_reads hs he hd ⟨rfl, hl, fun _ => ⟨_, rfl, fun j hj => by
    have e : (⟨g, 0, none⟩ : Addr).add j = ⟨g, j, none⟩ := by
      simp only [Addr.add]
      split <;> simp_all
    rw [e]
    exact h.cell j hj⟩⟩

end Go.Proofs.Ytbppoiedaojjmaa.Kit
