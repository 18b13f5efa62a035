/-
  From the reading of an argument to how it lies in memory.
-/
import Derived.Test.Qxb6605882aClone
import Derived.Deep.Strs
import Derived.Deep.Slices
namespace Go.Proofs.Qxb6605882a
open Go.ChangeShapes Go.WideShapes Go.ChangeAt Go.RowKit Go.Deep

theorem cells9 : Try.prog.cellsOf 9 = 1 := by kernel_rfl
theorem cells4 : Try.prog.cellsOf 4 = 1 := by kernel_rfl
theorem cells27 : Try.prog.cellsOf 27 = 3 := by kernel_rfl

theorem cell_lt {w : World} {b o : Nat} {v : Value} (h : w.cell? ⟨b, o, none⟩ = some v) : b < w.heap.size := by
  rcases Nat.lt_or_ge b w.heap.size with h' | h'
  · exact h'
  · have : w.heap[b]? = none := Array.getElem?_eq_none h'
    simp [World.cell?, this] at h

section
variable {H : Type} {enc : TypeId × Value → H} {W : World}

theorem open_strsAt {a : Option Addr} {n c : Nat} {d : DataW H} {p : List MemPlace} (h : DataW.Trod enc Try.prog W 0 (fun _ => true) true 24 (.slice a n c) d p) :
    ∃ K : Nat → ByteArray, StrsAt W a n K ∧ n ≤ maxLen ∧ ∀ i, i < n → (K i).size ≤ maxLen := by
  obtain ⟨fuel, hf⟩ := h
  rcases open_strs Try.underlying24 Try.underlying9 cells9 hf with ⟨hcs, _⟩ | ⟨a', len, cap, m, Sx, hcs, _, hl, hm, hmm, _, hx⟩
  · simp [Value.cells] at hcs
    obtain ⟨rfl, rfl, rfl⟩ := hcs
    exact ⟨fun _ => ⟨#[]⟩, fun h => absurd h (by omega), Nat.zero_le _, fun i h => absurd h (by omega)⟩
  · simp [Value.cells] at hcs
    obtain ⟨rfl, rfl, rfl⟩ := hcs
    simp only [if_true] at hmm
    subst hmm
    refine ⟨Sx, fun hn => ?_, by omega, fun i hi => (hx i (by omega)).2⟩
    obtain ⟨b, off, spot⟩ := a'
    have hspot : spot = none := by simpa [Addr.add] using World.cell?_spot (hx 0 (by omega)).1
    subst hspot
    have hc : ∀ i, i < n → W.cell? ⟨b, off + i, none⟩ = some (.string (Sx i)) := fun i hi => by rw [← add_plain]; exact (hx i (by omega)).1
    exact ⟨b, off, rfl, cell_lt (hc 0 hn), hc⟩

theorem open_reqsAt {a : Option Addr} {n c : Nat} {d : DataW H} {p : List MemPlace} (h : DataW.Trod enc Try.prog W 0 (fun _ => true) true 23 (.slice a n c) d p) :
    ∃ (P : Nat → ByteArray) (N : Nat → Bool) (V : Nat → ByteArray), ReqsAt W a n P N V ∧ n ≤ maxLen ∧ ∀ i, i < n → (P i).size ≤ maxLen := by
  obtain ⟨fuel, hf⟩ := h
  rcases open_slice Try.underlying23 hf with ⟨hcs, _⟩ | ⟨a', len, cap, m, k, D, Pl, hcs, _, hl, hm, hmm, _, hx⟩
  · simp [Value.cells] at hcs
    obtain ⟨rfl, rfl, rfl⟩ := hcs
    exact ⟨fun _ => ⟨#[]⟩, fun _ => false, fun _ => ⟨#[]⟩, fun h => absurd h (by omega), Nat.zero_le _, fun i h => absurd h (by omega)⟩
  · simp [Value.cells] at hcs
    obtain ⟨rfl, rfl, rfl⟩ := hcs
    simp only [if_true] at hmm
    subst hmm
    have each : ∀ i, i < m → ∃ q : ByteArray × Bool × ByteArray, W.cell? (a'.add (i * 3)) = some (.string q.1) ∧ W.cell? (a'.add (i * 3 + 1)) = some (.bool q.2.1) ∧ W.cell? (a'.add (i * 3 + 2)) = some (.string q.2.2) ∧ q.1.size ≤ maxLen := by
      intro i hi
      obtain ⟨cs', h1, h2⟩ := hx i hi
      rw [cells27] at h1
      obtain ⟨_, hlen, hcell⟩ := World.cells?_some h1
      obtain ⟨y0, y1, y2, k', _, _, g0, g1, g2⟩ := trod_struct3 Try.underlying27 h2
      match cs', hlen with
      | [v0, v1, v2], _ =>
        simp [cells9, cells4] at g0 g1 g2
        obtain ⟨s0, e0, _, hs0⟩ := DataW.trod_string Try.underlying9 g0
        obtain ⟨b1, e1, _⟩ := DataW.trod_bool Try.underlying4 g1
        obtain ⟨s2, e2, _, _⟩ := DataW.trod_string Try.underlying9 g2
        simp at e0 e1 e2
        subst e0 e1 e2
        have c0 := hcell 0 (by omega)
        have c1 := hcell 1 (by omega)
        have c2 := hcell 2 (by omega)
        rw [add_add] at c0 c1 c2
        exact ⟨(s0, b1, s2), by simpa using c0, by simpa using c1, by simpa using c2, hs0⟩
    obtain ⟨q, hq⟩ := choose_lt each
    refine ⟨fun i => (q i).1, fun i => (q i).2.1, fun i => (q i).2.2, fun hn => ?_, by omega, fun i hi => (hq i (by omega)).2.2.2⟩
    obtain ⟨b, off, spot⟩ := a'
    have hspot : spot = none := by simpa [Addr.add] using World.cell?_spot (hq 0 (by omega)).1
    subst hspot
    have hc : ∀ i, i < n → W.cell? ⟨b, off + i * 3, none⟩ = some (.string (q i).1) ∧ W.cell? ⟨b, off + i * 3 + 1, none⟩ = some (.bool (q i).2.1) ∧ W.cell? ⟨b, off + i * 3 + 2, none⟩ = some (.string (q i).2.2) := fun i hi => by
      obtain ⟨h1, h2, h3, _⟩ := hq i (by omega)
      rw [add_plain] at h1 h2 h3
      exact ⟨h1, h2, h3⟩
    exact ⟨b, off, rfl, cell_lt (hc 0 hn).1, hc⟩
end
end Go.Proofs.Qxb6605882a
