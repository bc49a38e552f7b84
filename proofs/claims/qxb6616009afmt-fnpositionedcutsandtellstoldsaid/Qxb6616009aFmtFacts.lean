/-
  The closed facts for a walk over fmt.Sprintf (function 9 of this dump, a plain stop), typed by hand after the guide's LabelFmt.lean, at this dump's numbers; and the plain text that it gives.
-/
import Derived.Test.Qxb6616009aFmtCards
import Derived.Test.Qxb6616009aFmtPlain
import Derived.Stop.CallBack
import Derived.Stop.IfaceNil
import Derived.Stop.FmtTextKit
import Derived.Stop.FmtTextVerbs
import Derived.Stop.Texts
import Derived.Stop.Told
import GoSem.ClaimData
namespace Go.Proofs.Qxb6616009aFmt
open Go.Extern.Stop Go.Stop Go.Extern Go.Kit

@[go_sem] theorem call9 (args : Array Value) (w : World) : (callFunc 9 args).run Tryf.prog w = ((FmtStop.sprintf #[9, 42] #[9] args).run Tryf.prog w).andThen fun v w' => .ok (.value v) w' :=
  run_callFunc_extern Tryf.func9 (by kernel_rfl) (by kernel_rfl) (by kernel_rfl) (by kernel_rfl) args w

@[go_sem] theorem sprintfGuard (name : String) (w : World) : (FmtStop.guard name).run Tryf.prog w = .ok () w := by kernel_rfl

/-- The format, its bytes. -/
@[go_sem] theorem fmt2 : FmtStop.printed? ⟨#[108, 105, 110, 101, 32, 37, 100, 44, 32, 99, 111, 108, 117, 109, 110, 32, 37, 100, 58, 32, 37, 115]⟩ 3 = some [(0, 100, false), (1, 100, false), (2, 115, false)] := by kernel_rfl
@[go_sem] theorem fmt2r (w : World) : (FmtDoors.printed ⟨#[108, 105, 110, 101, 32, 37, 100, 44, 32, 99, 111, 108, 117, 109, 110, 32, 37, 100, 58, 32, 37, 115]⟩ 3).run Tryf.prog w = .ok [(0, 100, false), (1, 100, false), (2, 115, false)] w := by kernel_rfl

def shape3 : List UInt8 := [5, 3, 0, 0, 0, 0, 0, 0, 0, 105, 110, 116]
@[go_sem] theorem op3_100 (name : String) (x : Int) (w : World) : (FmtStop.operand name false 100 false (.iface 3 (.int .i64 x))).run Tryf.prog w = .ok (shape3, Go.Extern.Stop.digits 8 (x % 2 ^ 64).toNat) w := by kernel_rfl
def shape9 : List UInt8 := [12, 6, 0, 0, 0, 0, 0, 0, 0, 115, 116, 114, 105, 110, 103]
@[go_sem] theorem op9_115 (name : String) (x : ByteArray) (w : World) : (FmtStop.operand name false 115 false (.iface 9 (.string x))).run Tryf.prog w = .ok (shape9, FmtStop.pack x.data.toList) w := by kernel_rfl

/-- What fmt is asked. -/
def reading (l c : Int) (m : List UInt8) : List (List UInt8) :=
  [[108, 105, 110, 101, 32, 37, 100, 44, 32, 99, 111, 108, 117, 109, 110, 32, 37, 100, 58, 32, 37, 115], shape3, digits 8 (l % 18446744073709551616).toNat, shape3, digits 8 (c % 18446744073709551616).toNat, shape9, FmtStop.pack m]

theorem parsed : (FmtText.parse [108, 105, 110, 101, 32, 37, 100, 44, 32, 99, 111, 108, 117, 109, 110, 32, 37, 100, 58, 32, 37, 115]).map FmtText.glue = some [.lit [108, 105, 110, 101, 32], .verb {} 100, .lit [44, 32, 99, 111, 108, 117, 109, 110, 32], .verb {} 100, .lit [58, 32], .verb {} 115] := by rfl

theorem text_said (l c : Int) (m : List UInt8) (hm : m.length < 2 ^ 64) (wl : (Lit.int .i64 l).wf = true) (wc : (Lit.int .i64 c).wf = true) :
    FmtText.text "fmt.Sprintf" (reading l c m) = some (said l c m) := by
  have hl := FmtText.operand_int_at (sh := shape3) (k := .i64) rfl rfl l wl
  have hc := FmtText.operand_int_at (sh := shape3) (k := .i64) rfl rfl c wc
  have hn := FmtText.operand_str_at (sh := shape9) rfl rfl m hm
  rw [reading, FmtText.text_sprintf_glued parsed (FmtText.operands_cons hl (FmtText.operands_cons hc (FmtText.operands_cons hn FmtText.operands_nil)))]
  simp [FmtText.render, FmtText.printArg_d _ _ wl, FmtText.printArg_d _ _ wc, FmtText.printArg_s_str, said]

/-- What 'F.told' answers, as the walk spells it. -/
theorem told_said (F : Interp) (l c : Int) (m : List UInt8) (hm : m.length < 2 ^ 62) (wl : (Lit.int .i64 l).wf = true) (wc : (Lit.int .i64 c).wf = true) :
    (FmtStop.textOf (F.told "fmt.Sprintf" (reading l c m) 0)).data.toList = said l c m := by
  have l1 := FmtText.itoa_length_le wl
  have l2 := FmtText.itoa_length_le wc
  have ht := told_string F (text_said l c m (by omega) wl wc) (by simp [said]; omega)
  rw [textOf_list, ht]

end Go.Proofs.Qxb6616009aFmt
