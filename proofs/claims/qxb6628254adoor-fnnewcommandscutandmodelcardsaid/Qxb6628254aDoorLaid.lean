import Derived.Test.Qxb6628254aDoorRows
import Derived.Test.Qxb6628254aDoorTextLaw
import Derived.ProofKit
import Derived.OpenShut
import Derived.ShutString
import Derived.ChangeOld
import Derived.ChangeVars
import Derived.LaidLaws
import Derived.LaidHandle
import Derived.SliceStrings
import Derived.Lib.LaidU8
import Derived.Deep.DeepLaidRun
import Derived.Deep.DeepWitnessRef
namespace Go.Proofs.Qxb6628254aDoor
open Go.ChangeShapes Go.WideShapes Go.ChangeAt Go.RowKit

theorem own : ownKnob Tryd.prog.godebug = none := by kernel_rfl
theorem laidOut : laidOutB Tryd.prog = true := by kernel_rfl
theorem white_same : (Rows.laid_unicode_White_Space : DataW Unit) = Lib.whiteData := by kernel_rfl
theorem ascii_same : (Rows.laid_strings_asciiSpace : DataW Unit) = Lib.tabData .u8 Lib.asciiSpaceTab := by kernel_rfl
theorem gT : Tryd.prog.globalNamed "strings.asciiSpace" = some 0 := by kernel_rfl
theorem gTType : (Tryd.prog.globals[0]?).map (·.type) = some 51 := by kernel_rfl
theorem u51 : Tryd.prog.underlying 51 = some (.array 256 5) := by kernel_rfl
theorem c5 : Tryd.prog.cellsOf 5 = 1 := by kernel_rfl
theorem c51 : Tryd.prog.cellsOf 51 = 256 := by kernel_rfl
theorem c9 : Tryd.prog.cellsOf 9 = 1 := by kernel_rfl

abbrev theLaid : List (String × DataW Unit) := [("unicode.White_Space", Rows.laid_unicode_White_Space), ("strings.asciiSpace", Rows.laid_strings_asciiSpace)]

theorem tabs_of_laid {W : World} (h : laidMet Tryd.prog theLaid W) : Tabs W := by
  have h1 : Lib.VarReads Tryd.prog W "unicode.White_Space" Rows.laid_unicode_White_Space := Lib.laidMet.reads h (.head _)
  have h2 : Lib.VarReads Tryd.prog W "strings.asciiSpace" Rows.laid_strings_asciiSpace := Lib.laidMet.reads h (.tail _ (.head _))
  rw [white_same] at h1
  rw [ascii_same] at h2
  refine ⟨?_, ?_⟩
  · obtain ⟨g', t', cs, fuel, p, hg', ht', hvar, hd⟩ := h2
    obtain rfl := Option.some.inj (gT.symm.trans hg')
    obtain rfl := Option.some.inj (gTType.symm.trans ht')
    unfold Lib.TabIs
    rw [hvar, ← Lib.cells_of_tab u51 Tryd.underlying5 c5 c51 hd]
  · exact whiteTab_of_reads (ρ := Tryd.lays157_ren) { Tryd.lays157 with } ⟨by kernel_rfl, by kernel_rfl, by kernel_rfl, by kernel_rfl, by kernel_rfl, by kernel_rfl, by kernel_rfl, by kernel_rfl⟩ h1

/-- a slice of strings, as its reading shows it -/
theorem sl_of {H : Type} {enc : TypeId × Value → H} {W : World} {a : Option Addr} {len cap : Nat} {d : DataW H} {p : List MemPlace}
    (h : DataW.Trod enc Tryd.prog W 0 (fun _ => true) true 22 (.slice a len cap) d p) : ∃ xs : List ByteArray, Sl W (.slice a len cap) xs ∧ ∀ x ∈ xs, x.size ≤ maxLen := by
  obtain ⟨fuel, hf⟩ := h
  rcases open_strings Tryd.underlying22 Tryd.underlying9 c9 hf with ⟨hcs, _⟩ | ⟨x, l, c, ss, hcs, _, hl, hm, hz, _, hcell, hsz⟩
  · simp [Value.cells] at hcs
    obtain ⟨rfl, rfl, rfl⟩ := hcs
    exact ⟨[], ⟨none, 0, rfl, Nat.zero_le _, Nat.zero_le _, fun h => absurd h (by simp)⟩, fun x h => absurd h (by simp)⟩
  · simp [Value.cells] at hcs
    obtain ⟨rfl, rfl, rfl⟩ := hcs
    have hz2 : ss.length = cap := by simpa using hz
    have htl : (ss.take len).length = len := by rw [List.length_take]; omega
    refine ⟨ss.take len, ⟨some x, cap, by rw [htl], by omega, hm, fun h0 => ?_⟩, fun s hs => hsz s (List.mem_of_mem_take hs)⟩
    rw [htl] at h0
    obtain ⟨b, off, spot⟩ := x
    have hspot : spot = none := by simpa [Addr.add] using World.cell?_spot (hcell 0 (by omega))
    subst hspot
    refine ⟨b, off, rfl, fun j y hj => ?_⟩
    have hjl : j < len := by have := (List.getElem?_eq_some_iff.1 hj).1; omega
    have c := hcell j (by omega)
    rw [add_plain] at c
    rw [List.getElem?_take_of_lt hjl] at hj
    have : ss.getD j ByteArray.empty = y := by simp [List.getD, hj]
    rw [this] at c
    exact c

/-- a world that meets the condition -/
noncomputable def laidWorld (os : Os) : World :=
  let N := (World.settled Tryd.prog os).heap.size
  let w0 := World.holding Tryd.prog os ⟨#[.cells (Lib.whiteT.map fun (z : Nat) => Value.int .u16 (z : Int)).toArray (Tryd.lays157_ren.t 198), .cells #[.slice (some ⟨N, 0, none⟩) 7 7, .slice none 0 0, .int .i64 2] (Tryd.lays157_ren.t 196)], #[], []⟩
  let put (h : Array Obj) (g : Nat) (cs : Array Value) : Array Obj := h.modify g fun
    | .cells _ t frozen => .cells cs t frozen
    | o => o
  { w0 with heap := put (put w0.heap 0 (Lib.asciiSpaceTab.map fun z => Value.int .u8 z).toArray) 1 #[.pointer (some ⟨N + 1, 0, none⟩)] }
theorem laid_met (os : Os) (args : Array Value) : laidMet Tryd.prog theLaid ((laidWorld os).forCall (fun _ _ => 0) ⟨#[], args, []⟩).memory :=
  laidMet_of_run3 10 (by kernel_rfl) (by kernel_rfl) (by kernel_rfl)

end Go.Proofs.Qxb6628254aDoor
