/-
  THE FRAME's COMMON PARTS: what a slice of bytes that came in is; that the program bears no knob of its own; its types are laid out.
-/
import Derived.Test.YtfdbcjdkikmjiaaDoorCards
import Derived.Test.YtfdbcjdkikmjiaaDoorTie
import Derived.Test.YtfdbcjdkikmjiaaDoorPick
import Derived.WalkKit
import Derived.ProofKit
import Derived.OpenShut
import Derived.ChangeOld
import Derived.Below
import Derived.Lay
import Derived.LaidOnce
import Derived.SevenTiedAt
import Derived.Lib.LaidU8
namespace Go.Proofs.YtfdbcjdkikmjiaaDoor
open Go.ChangeShapes Go.WideShapes Go.ChangeAt Go.RowKit
set_option linter.unusedVariables false

theorem own : ownKnob Tryd.prog.godebug = none := by kernel_rfl
theorem laidOut : laidOutB Tryd.prog = true := by kernel_rfl
/-- A slice of bytes that came in, as the walks want it. -/
theorem code_of_trod {H : Type} {enc : TypeId × Value → H} {W : World} {a0 : Option Addr} {len0 cap0 : Nat} {x : DataW H × List MemPlace} {fuel : Nat}
    (hf : DataW.trod enc Tryd.prog W 0 (fun _ => true) true fuel 24 (Value.slice a0 len0 cap0).cells.toList = some x) : CodeIs W.heap.size (.slice a0 len0 cap0) len0 W := by
  rcases open_ints Tryd.underlying24 Tryd.underlying5 (by kernel_rfl) hf with ⟨hcs, _⟩ | ⟨x, l, c, zs, hcs, _, hl, hm, hz, _, hcell, hwz⟩
  · simp [Value.cells] at hcs
    obtain ⟨rfl, rfl, rfl⟩ := hcs
    exact ⟨⟨_, _, rfl⟩, fun h => by omega⟩
  · simp [Value.cells] at hcs
    obtain ⟨rfl, rfl, rfl⟩ := hcs
    refine ⟨⟨_, _, rfl⟩, fun hpos => ?_⟩
    have hz' : zs.length = cap0 := by simpa using hz
    obtain ⟨b, off, spot⟩ := x
    have hc0 := hcell 0 (by omega)
    have hspot : spot = none := by simpa [Addr.add] using World.cell?_spot hc0
    subst hspot
    have hc : ∀ i, i < zs.length → W.cell? ⟨b, off + i, none⟩ = some (.int .u8 (zs.getD i 0)) := fun i hi => by have := hcell i hi; rwa [Addr.add_lit] at this
    have hb : b < W.heap.size := by
      have h := hc 0 (by omega)
      rcases Nat.lt_or_ge b W.heap.size with h' | h'
      · exact h'
      · simp [World.cell?, Array.getElem?_eq_none h'] at h
    refine ⟨b, off, cap0, hb, hl, hm, rfl, fun k hk => ?_⟩
    have hk' : k < zs.length := by omega
    have hw := hwz (zs.getD k 0) (by rw [List.getD_eq_getElem?_getD, List.getElem?_eq_getElem hk']; exact List.getElem_mem hk')
    have hr : 0 ≤ zs.getD k 0 ∧ zs.getD k 0 ≤ 255 := by simpa [Lit.wf, IntKind.min, IntKind.max, IntKind.signed, IntKind.bits] using hw
    exact ⟨_, hr.1, hr.2, hc k hk'⟩
end Go.Proofs.YtfdbcjdkikmjiaaDoor
