import Derived.Test.Qxb6628292aFmtProg
import Derived.Stop.CallBack
import Derived.Stop.IfaceNil
import GoSem.ClaimData
import Derived.WalkKit
import Derived.WalkSpells
import Derived.Stop.Texts
import Derived.Stop.JoinedTold
import Derived.Stop.FmtQuoteTie
import Derived.Stop.FmtTextKit
namespace Go.Proofs.Qxb6628292aFmt
open Go.RowKit Go.Extern.Stop Go.Stop Go.Extern

/-! ### The closed facts on fmt's stop at this dump (each by the kernel) -/
/-- "namespace=%q,pod=%q,container=%q" -/
def fmtL : List UInt8 := [110, 97, 109, 101, 115, 112, 97, 99, 101, 61, 37, 113, 44, 112, 111, 100, 61, 37, 113, 44, 99, 111, 110, 116, 97, 105, 110, 101, 114, 61, 37, 113]
theorem call20 (args : Array Value) (w : World) : (callFunc 20 args).run Tryf.prog w = ((FmtStop.sprintf #[9, 74] #[9] args).run Tryf.prog w).andThen fun v w' => .ok (.value v) w' :=
  run_callFunc_extern Tryf.func20 (by kernel_rfl) (by kernel_rfl) (by kernel_rfl) (by kernel_rfl) args w
theorem guard1 (name : String) (w : World) : (FmtStop.guard name).run Tryf.prog w = .ok () w := by kernel_rfl
theorem fmt0 : FmtStop.printed? ⟨#[110, 97, 109, 101, 115, 112, 97, 99, 101, 61, 37, 113, 44, 112, 111, 100, 61, 37, 113, 44, 99, 111, 110, 116, 97, 105, 110, 101, 114, 61, 37, 113]⟩ 3 = some [(0, 113, false), (1, 113, false), (2, 113, false)] := by kernel_rfl
theorem fmt0r (w : World) : (FmtDoors.printed ⟨#[110, 97, 109, 101, 115, 112, 97, 99, 101, 61, 37, 113, 44, 112, 111, 100, 61, 37, 113, 44, 99, 111, 110, 116, 97, 105, 110, 101, 114, 61, 37, 113]⟩ 3).run Tryf.prog w = .ok [(0, 113, false), (1, 113, false), (2, 113, false)] w := by kernel_rfl
def shape9 : List UInt8 := [12, 6, 0, 0, 0, 0, 0, 0, 0, 115, 116, 114, 105, 110, 103]
theorem op9_113 (name : String) (x : ByteArray) (w : World) : (FmtStop.operand name false 113 false (.iface 9 (.string x))).run Tryf.prog w = .ok (shape9, FmtStop.pack x.data.toList) w := by kernel_rfl

attribute [local go_sem] call20 guard1 fmt0 fmt0r op9_113

def reading (a b c : List UInt8) : List (List UInt8) := [fmtL, shape9, FmtStop.pack a, shape9, FmtStop.pack b, shape9, FmtStop.pack c]

/-- the labels that fmt gives -/
noncomputable def labB (F : Interp) (a b c : ByteArray) : ByteArray := FmtStop.textOf (F "fmt.Sprintf" (reading a.data.toList b.data.toList c.data.toList) 0)

set_option maxHeartbeats 400000 in
theorem labels_any (F : Interp) (a b c : ByteArray) (w : World) (hF : F.answers w.tape) :
    Calls Tryf.prog 18 #[.string a, .string b, .string c] w fun e w' => e = .returned (.string (labB F a b c)) ∧ Below w.heap.size w w' := by
  have hF' := answers_open hF
  go_enter Tryf.func18, Tryf.ntmps18
  go_wp2
  go_ret
  exact ⟨rfl, ((Below.refl _ _).alloc (Nat.le_refl _) _).drew⟩

theorem t_parse : (FmtText.parse fmtL).map FmtText.glue = some [.lit [110, 97, 109, 101, 115, 112, 97, 99, 101, 61], .verb {} 113, .lit [44, 112, 111, 100, 61], .verb {} 113, .lit [44, 99, 111, 110, 116, 97, 105, 110, 101, 114, 61], .verb {} 113] := by rfl

def tText (a b c : List UInt8) : List UInt8 := [110, 97, 109, 101, 115, 112, 97, 99, 101, 61] ++ FmtText.quote false a ++ [44, 112, 111, 100, 61] ++ FmtText.quote false b ++ [44, 99, 111, 110, 116, 97, 105, 110, 101, 114, 61] ++ FmtText.quote false c

theorem t_text (a b c : List UInt8) (ha : a.length < 2 ^ 64) (hb : b.length < 2 ^ 64) (hc : c.length < 2 ^ 64) : FmtText.text "fmt.Sprintf" (reading a b c) = some (tText a b c) := by
  have h1 := FmtText.operand_str_at (sh := shape9) rfl rfl a ha
  have h2 := FmtText.operand_str_at (sh := shape9) rfl rfl b hb
  have h3 := FmtText.operand_str_at (sh := shape9) rfl rfl c hc
  rw [reading, FmtText.text_sprintf_glued t_parse (FmtText.operands_cons h1 (FmtText.operands_cons h2 (FmtText.operands_cons h3 FmtText.operands_nil)))]
  simp [FmtText.render, FmtText.printArg_q_str, tText]

/-- the labels' size, fmt's text told -/
theorem labB_size (F : Interp) (a b c : ByteArray) (ha : a.size ≤ 65536) (hb : b.size ≤ 65536) (hc : c.size ≤ 65536) : (labB F.told a b c).size ≤ 2000000 := by
  have la : a.data.toList.length = a.size := by rw [Array.length_toList]; rfl
  have lb : b.data.toList.length = b.size := by rw [Array.length_toList]; rfl
  have lc : c.data.toList.length = c.size := by rw [Array.length_toList]; rfl
  have q1 := FmtText.quote_length_le a.data.toList
  have q2 := FmtText.quote_length_le b.data.toList
  have q3 := FmtText.quote_length_le c.data.toList
  have hl : (tText a.data.toList b.data.toList c.data.toList).length ≤ 2000000 := by
    simp only [tText, List.length_append, List.length_cons, List.length_nil]
    omega
  have ht := told_string F (t_text a.data.toList b.data.toList c.data.toList (by omega) (by omega) (by omega)) (by omega)
  have e : (labB F.told a b c).data.toList = tText a.data.toList b.data.toList c.data.toList := by
    rw [← ht]
    exact Go.Kit.textOf_list _ _ _
  have h2 : (labB F.told a b c).data.toList.length = (labB F.told a b c).size := by rw [Array.length_toList]; rfl
  rw [← h2, e]
  exact hl
end Go.Proofs.Qxb6628292aFmt
