/-
  THE TABLES unicode.asciiFold, unicode.caseOrbit: what a row's list gives of them.
-/
import Derived.Test.YtfdbcjdkikmjiaaDoorRows
import Derived.Test.YtfdbcjdkikmjiaaDoorPlainFold
import Derived.Lib.LaidTab
import Derived.Lib.LaidU8
import Derived.Lib.LaidCase
import Derived.Lib.Hide
import Derived.WalkKit
import Derived.WalkSpells
import Derived.Below
namespace Go.Proofs.YtfdbcjdkikmjiaaDoor
open Go.RowKit Go.Lib
set_option linter.unusedVariables false

def AscIs (w : World) : Prop := ∀ k : Nat, k < 128 → w.cell? ⟨0, k, none⟩ = some (.int .u16 ((Plain.foldAscii k : Nat) : Int))
def ascZ : List Int := (List.range 128).map fun k => ((Plain.foldAscii k : Nat) : Int)
theorem asc_of_laid {w : World} {l : List (String × DataW Unit)} (hL : laidMet Tryd.prog l w) (hm : ("unicode.asciiFold", (Rows.laid_unicode_asciiFold : DataW Unit)) ∈ l) : AscIs w := by
  obtain ⟨g, t, cs, fuel, p, hg, ht, hvar, hd⟩ := Lib.laidMet.reads hL hm
  obtain rfl := Option.some.inj ((show Tryd.prog.globalNamed "unicode.asciiFold" = some 0 by kernel_rfl).symm.trans hg)
  obtain rfl := Option.some.inj ((show (Tryd.prog.globals[0]?).map (·.type) = some 37 by kernel_rfl).symm.trans ht)
  have e : (Rows.laid_unicode_asciiFold : DataW Unit) = tabData .u16 ascZ := by kernel_rfl
  rw [e] at hd
  have tab : TabIs Tryd.prog w "unicode.asciiFold" .u16 ascZ := by
    unfold TabIs
    rw [hvar, ← cells_of_tab Tryd.underlying37 Tryd.underlying36 (by kernel_rfl) (by kernel_rfl) hd]
  intro k hk
  have := tab.cell hg k (by simp [ascZ]; exact hk)
  rw [this]
  simp [ascZ, hk]
theorem asc_below {w w' : World} (h : AscIs w) (hb : Below w.heap.size w w') : AscIs w' := fun k hk => cell_later hb (h k hk)

def orbAt (i : Nat) : Nat × Nat := Plain.orbitL.getD i (0, 0)
def OrbIs (w : World) : Prop := ∃ R oR cap, w.cell? ⟨1, 0, none⟩ = some (.slice (some ⟨R, oR, none⟩) 94 cap) ∧
  ∀ i, i < 94 → w.cell? ⟨R, oR + i * 2, none⟩ = some (.int .u16 ((orbAt i).1 : Int)) ∧ w.cell? ⟨R, oR + i * 2 + 1, none⟩ = some (.int .u16 ((orbAt i).2 : Int))
theorem orb_below {w w' : World} (h : OrbIs w) (hb : Below w.heap.size w w') : OrbIs w' := by
  obtain ⟨R, oR, cap, hg, hT⟩ := h
  exact ⟨R, oR, cap, cell_later hb hg, fun i hi => ⟨cell_later hb (hT i hi).1, cell_later hb (hT i hi).2⟩⟩
def pairData (p : Nat × Nat) : DataW Unit := .agg (([(p.1 : Int), (p.2 : Int)] : List Int).map fun z => .lit (.int .u16 z))
theorem orb_len : Plain.orbitL.length = 94 := by kernel_rfl
theorem cellsPair : Tryd.prog.cellsOf 41 = 2 := by kernel_rfl
theorem orb_of_laid {w : World} {l : List (String × DataW Unit)} (hL : laidMet Tryd.prog l w) (hm : ("unicode.caseOrbit", (Rows.laid_unicode_caseOrbit : DataW Unit)) ∈ l) : OrbIs w := by
  obtain ⟨g, t, cs, fuel, p, hg, ht, hvar, hd⟩ := Lib.laidMet.reads hL hm
  obtain rfl := Option.some.inj ((show Tryd.prog.globalNamed "unicode.caseOrbit" = some 1 by kernel_rfl).symm.trans hg)
  obtain rfl := Option.some.inj ((show (Tryd.prog.globals[1]?).map (·.type) = some 38 by kernel_rfl).symm.trans ht)
  have e : (Rows.laid_unicode_caseOrbit : DataW Unit) = .slice (Plain.orbitL.map pairData) [] := by kernel_rfl
  rw [e] at hd
  rcases DataW.trod_slice Tryd.underlying38 hd with ⟨_, hx'⟩ | ⟨a', len, cap, el, rs, m, rfl, hc0, hx', _, hlc, _, hel, helem, hsp, _⟩
  · cases hx'
  have e0 := congrArg Prod.fst hx'
  simp only [DataW.slice.injEq] at e0
  obtain ⟨eE, eR⟩ := e0
  have hlen : len = 94 := by
    have := congrArg List.length eE
    rw [List.length_map, orb_len, List.length_map] at this
    omega
  subst hlen
  have hrow : ∀ i, i < 94 → ∀ j, j < 2 → w.cell? ((a'.add (i * 2)).add j) = ([.int .u16 ((orbAt i).1 : Int), .int .u16 ((orbAt i).2 : Int)] : List Value)[j]? := by
    intro i hi j hj
    have h1 := helem i hi
    rw [cellsPair] at h1
    obtain ⟨b, hb⟩ : ∃ b, el[i]? = some b := ⟨el[i]'(by omega), List.getElem?_eq_getElem (by omega)⟩
    rw [hb] at h1
    obtain ⟨ce, hce, hte⟩ := Option.bind_eq_some_iff.1 h1
    have hb1 : b.1 = pairData (orbAt i) := by
      have := congrArg (·[i]?) eE
      simp only [List.getElem?_map, hb, Option.map_some] at this
      have hi' : i < Plain.orbitL.length := by rw [orb_len]; exact hi
      rw [List.getElem?_eq_getElem hi'] at this
      simp only [Option.map_some, Option.some.injEq] at this
      rw [← this]
      simp [orbAt, hi']
    have hcs := ints_of_struct (p := b.2) Tryd.underlying41 (fun q f hq => by
      match q, hq with
      | 0, hq => simp at hq; subst hq; exact ⟨Tryd.underlying36, rfl, by kernel_rfl⟩
      | 1, hq => simp at hq; subst hq; exact ⟨Tryd.underlying36, rfl, by kernel_rfl⟩
      | q + 2, hq => simp at hq) (by rw [cellsPair]; rfl) (by rw [← pairData, ← hb1]; exact hte)
    obtain ⟨_, _, hcc⟩ := World.cells?_some hce
    rw [hcc j hj, hcs]
    rfl
  obtain ⟨R, oR, sR⟩ := a'
  obtain rfl : sR = none := by
    have h00 := hrow 0 (by omega) 0 (by omega)
    have : (Addr.add (Addr.add ⟨R, oR, sR⟩ (0 * 2)) 0) = ⟨R, oR, sR⟩ := by simp [Addr.add]
    rw [this] at h00
    exact cell_spot h00
  refine ⟨R, oR, cap, ?_, fun i hi => ?_⟩
  · rw [World.var?_cell hg hvar 0, ← Array.getElem?_toList, hc0]
    rfl
  · have k0 := hrow i hi 0 (by omega)
    have k1 := hrow i hi 1 (by omega)
    rw [Addr.add_lit, Addr.add_lit] at k0 k1
    exact ⟨by simpa using k0, by simpa using k1⟩
theorem orb_small : (Plain.orbitL.all fun p => Nat.blt p.1 65536 && Nat.blt p.2 65536) = true := by kernel_rfl
theorem orbAt_small (i : Nat) (hi : i < 94) : (orbAt i).1 < 65536 ∧ (orbAt i).2 < 65536 := by
  have hi' : i < Plain.orbitL.length := by rw [orb_len]; exact hi
  have := List.all_eq_true.1 orb_small Plain.orbitL[i] (List.getElem_mem hi')
  simp only [Bool.and_eq_true, Nat.blt_eq] at this
  simpa [orbAt, hi'] using this
theorem orbAt_get (i : Nat) (hi : i < 94) : Plain.orbitL[i]? = some (orbAt i) := by
  have hi' : i < Plain.orbitL.length := by rw [orb_len]; exact hi
  simp [orbAt, hi']
theorem orbAt_mono (i j : Nat) (hij : i < j) (hj : j < 94) : (orbAt i).1 < (orbAt j).1 := Plain.sortedL_apart Plain.orbitL_sorted i j _ _ hij (orbAt_get i (by omega)) (orbAt_get j hj)
end Go.Proofs.YtfdbcjdkikmjiaaDoor
