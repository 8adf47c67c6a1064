import Derived.Test.Qxb6627456aPlain
import Derived.ProofKit
import Derived.Deep.Slices
import Derived.Deep.Strs
import Derived.Lib.SmallJoins
namespace Go.Proofs.Qxb6627456a
open Go.ChangeShapes Go.WideShapes Go.ChangeAt Go.RowKit Go.Deep Go.Joins
open Go.ChangeMaps (open_string shut_string)

theorem Try.own : ownKnob Try.prog.godebug = none := by kernel_rfl
theorem Try.laidOut : laidOutB Try.prog = true := by kernel_rfl
theorem Try.cells24 : Try.prog.cellsOf 24 = 3 := by kernel_rfl
theorem Try.cells9 : Try.prog.cellsOf 9 = 1 := by kernel_rfl

theorem trod_fin {H : Type} {enc : TypeId × Value → H} {w : World} {base : Nat} {spare : Nat → Bool} {held : Bool} {fuel : Nat} {cs : List Value} {x : DataW H × List MemPlace}
    (h : DataW.trod enc Try.prog w base spare held fuel 24 cs = some x) : ∃ s f m : ByteArray, cs = [.string s, .string f, .string m] := by
  obtain ⟨y0, y1, y2, n, _, hl, h0, h1, h2⟩ := trod_struct3 Try.underlying24 h
  rw [Try.cells24] at hl
  rw [Try.cells9] at h0 h1 h2
  match cs, hl with
  | [a, b, c], _ =>
    obtain ⟨s, e0, _⟩ := DataW.trod_string Try.underlying9 h0
    obtain ⟨f, e1, _⟩ := DataW.trod_string Try.underlying9 h1
    obtain ⟨m, e2, _⟩ := DataW.trod_string Try.underlying9 h2
    simp at e0 e1 e2
    exact ⟨s, f, m, by rw [e0, e1, e2]⟩

theorem open_fs {H : Type} {enc : TypeId × Value → H} {w : World} {a : Option Addr} {len cap : Nat} {d : DataW H} {p : List MemPlace}
    (h : DataW.Trod enc Try.prog w 0 (fun _ => true) true 22 (.slice a len cap) d p) : ∃ S F M, Row3 w a len S F M ∧ len ≤ cap ∧ cap ≤ maxLen := by
  obtain ⟨fuel, hf⟩ := h
  rcases open_slice Try.underlying22 hf with ⟨hcs, _⟩ | ⟨x, l, c, m, n, D, Pl, hcs, _, hl, hm, hmm, _, hx⟩
  · simp [Value.cells] at hcs
    obtain ⟨rfl, rfl, rfl⟩ := hcs
    exact ⟨fun _ => ByteArray.empty, fun _ => ByteArray.empty, fun _ => ByteArray.empty, .inl rfl, Nat.le_refl _, Nat.zero_le _⟩
  · simp [Value.cells] at hcs
    obtain ⟨rfl, rfl, rfl⟩ := hcs
    simp at hmm
    rw [Try.cells24] at hx
    have each : ∀ i, i < len → ∃ q : ByteArray × ByteArray × ByteArray, w.cell? (x.add (i * 3)) = some (.string q.1) ∧ w.cell? (x.add (i * 3 + 1)) = some (.string q.2.1) ∧ w.cell? (x.add (i * 3 + 2)) = some (.string q.2.2) := by
      intro i hi
      obtain ⟨cs', h1, h2⟩ := hx i (by omega)
      obtain ⟨_, hlen, hcell⟩ := World.cells?_some h1
      obtain ⟨s, f, g, rfl⟩ := trod_fin h2
      have e0 := hcell 0 (by omega)
      have e1 := hcell 1 (by omega)
      have e2 := hcell 2 (by omega)
      rw [add_add] at e0 e1 e2
      exact ⟨(s, f, g), by simpa using e0, by simpa using e1, by simpa using e2⟩
    obtain ⟨q, hq⟩ := choose_lt (α := ByteArray × ByteArray × ByteArray) each
    refine ⟨fun i => (q i).1, fun i => (q i).2.1, fun i => (q i).2.2, ?_, hl, hm⟩
    by_cases h0 : len = 0
    · exact .inl h0
    · obtain ⟨b, off, spot⟩ := x
      have hspot : spot = none := by simpa [Addr.add] using World.cell?_spot (hq 0 (by omega)).1
      subst hspot
      refine .inr ⟨b, off, rfl, fun k hk => ?_⟩
      have := hq k hk
      simp only [Addr.add_lit] at this
      simpa only [Nat.add_assoc] using this
end Go.Proofs.Qxb6627456a
