import Derived.Test.Qxb6616546aFmtNames
import Derived.Stop.CallBack
import Derived.Stop.IfaceNil
import Derived.Stop.FmtTextLaws
import Derived.Stop.FmtTextKit
import Derived.Stop.AnswerFmt
import Derived.Stop.JoinedTold
import Derived.Stop.Texts
import Derived.WalkSpells
import GoSem.ClaimData
namespace Go.Proofs
open Go.Extern.Stop Go.Stop Go.Extern

-- fmt.Sprintf: function 22: a plain stop
theorem Tryf.call22 (args : Array Value) (w : World) : (callFunc 22 args).run Tryf.prog w = ((FmtStop.sprintf #[9, 83] #[9] args).run Tryf.prog w).andThen fun v w' => .ok (.value v) w' :=
  run_callFunc_extern Tryf.func22 (by kernel_rfl) (by kernel_rfl) (by kernel_rfl) (by kernel_rfl) args w
theorem Tryf.guard (name : String) (w : World) : (FmtStop.guard name).run Tryf.prog w = .ok () w := by kernel_rfl

-- "%d reserve grants %s"
def manyF : ByteArray := ⟨#[37, 100, 32, 114, 101, 115, 101, 114, 118, 101, 32, 103, 114, 97, 110, 116, 115, 32, 37, 115]⟩
-- "; %s not held: %s"
def groupF : ByteArray := ⟨#[59, 32, 37, 115, 32, 110, 111, 116, 32, 104, 101, 108, 100, 58, 32, 37, 115]⟩
theorem many_p : FmtStop.printed? manyF 2 = some [(0, 100, false), (1, 115, false)] := by kernel_rfl
theorem group_p : FmtStop.printed? groupF 2 = some [(0, 115, false), (1, 115, false)] := by kernel_rfl
theorem many_t : (FmtText.parse manyF.data.toList).map FmtText.glue = some [.verb {} 100, .lit [32, 114, 101, 115, 101, 114, 118, 101, 32, 103, 114, 97, 110, 116, 115, 32], .verb {} 115] := by rfl
theorem group_t : (FmtText.parse groupF.data.toList).map FmtText.glue = some [.lit [59, 32], .verb {} 115, .lit [32, 110, 111, 116, 32, 104, 101, 108, 100, 58, 32], .verb {} 115] := by rfl
def Tryf.shape3 : List UInt8 := [5, 3, 0, 0, 0, 0, 0, 0, 0, 105, 110, 116]
def Tryf.shape9 : List UInt8 := [12, 6, 0, 0, 0, 0, 0, 0, 0, 115, 116, 114, 105, 110, 103]
theorem Tryf.op3_100 (name : String) (x : Int) (w : World) : (FmtStop.operand name false 100 false (.iface 3 (.int .i64 x))).run Tryf.prog w = .ok (Tryf.shape3, Go.Extern.Stop.digits 8 (x % 2 ^ 64).toNat) w := by kernel_rfl
theorem Tryf.op9_115 (name : String) (x : ByteArray) (w : World) : (FmtStop.operand name false 115 false (.iface 9 (.string x))).run Tryf.prog w = .ok (Tryf.shape9, FmtStop.pack x.data.toList) w := by kernel_rfl

namespace Qxb6616546aFmt
open Go.RowKit Go.Kit

def manyR (x : Int) (s : List UInt8) : List (List UInt8) := [manyF.data.toList, Tryf.shape3, digits 8 (x % 18446744073709551616).toNat, Tryf.shape9, FmtStop.pack s]
def groupR (g s : List UInt8) : List (List UInt8) := [groupF.data.toList, Tryf.shape9, FmtStop.pack g, Tryf.shape9, FmtStop.pack s]

theorem many_text (x : Int) (s : List UInt8) (hs : s.length < 2 ^ 64) (hw : (Lit.int .i64 x).wf = true) : FmtText.text "fmt.Sprintf" (manyR x s) = some (Lib.itoa x ++ manyT ++ s) := by
  have hi := FmtText.operand_int_at (sh := Tryf.shape3) (k := .i64) rfl rfl x hw
  have hn := FmtText.operand_str_at (sh := Tryf.shape9) rfl rfl s hs
  rw [manyR, FmtText.text_sprintf_glued many_t (FmtText.operands_cons hi (FmtText.operands_cons hn FmtText.operands_nil))]
  simp [FmtText.render, FmtText.printArg_d _ _ hw, FmtText.printArg_s_str, manyT]

theorem group_text (g s : List UInt8) (hg : g.length < 2 ^ 64) (hs : s.length < 2 ^ 64) : FmtText.text "fmt.Sprintf" (groupR g s) = some ([59, 32] ++ g ++ notHeldT ++ s) := by
  have hi := FmtText.operand_str_at (sh := Tryf.shape9) rfl rfl g hg
  have hn := FmtText.operand_str_at (sh := Tryf.shape9) rfl rfl s hs
  rw [groupR, FmtText.text_sprintf_glued group_t (FmtText.operands_cons hi (FmtText.operands_cons hn FmtText.operands_nil))]
  simp [FmtText.render, FmtText.printArg_s_str, notHeldT]

theorem text_ba (F : Interp) (rd : List (List UInt8)) (t : List UInt8) (h : F.told.string "fmt.Sprintf" rd 0 = t) : FmtStop.textOf (F.told "fmt.Sprintf" rd 0) = B8 t := by
  subst h
  rw [← textOf_list]
  exact (Lib.mk_data _).symm

theorem itoa_le (x : Int) (hw : (Lit.int .i64 x).wf = true) : (Lib.itoa x).length ≤ 21 := FmtText.itoa_length_le hw

theorem sprint_many (F : Interp) (b : Nat) (x : Int) (s : ByteArray) (w : World) (hF : F.told.answers w.tape) (hs : s.size ≤ 1000000000) (hw : (Lit.int .i64 x).wf = true)
    (h0 : w.cell? ⟨b, 0, none⟩ = some (.iface 3 (.int .i64 x))) (h1 : w.cell? ⟨b, 1, none⟩ = some (.iface 9 (.string s))) :
    (callFunc 22 #[.string ⟨#[37, 100, 32, 114, 101, 115, 101, 114, 118, 101, 32, 103, 114, 97, 110, 116, 115, 32, 37, 115]⟩, .slice (some ⟨b, 0, none⟩) 2 2]).run Tryf.prog w = .ok (.value (.string (B8 (Lib.itoa x ++ manyT ++ str s)))) w.drew := by
  have hF' := answers_open hF
  have hl : (str s).length = s.size := by simp [str]
  have hi := itoa_le x hw
  have ht := told_string F (many_text x (str s) (by omega) hw) (by simp [manyT, hl]; omega)
  have e0 : (⟨b, 0, none⟩ : Addr).add 0 = ⟨b, 0, none⟩ := rfl
  have e1 : (⟨b, 0, none⟩ : Addr).add 1 = ⟨b, 1, none⟩ := rfl
  have hm := many_p
  unfold manyF at hm
  rw [← text_ba F _ _ ht]
  simp [go_sem, Tryf.call22, FmtStop.sprintf_lit, Tryf.guard, FmtStop.cells, e0, e1, h0, h1, hm, FmtStop.readAll, Tryf.op3_100, Tryf.op9_115, FmtStop.text, Question.forced, Question.cut]
  rw [hF']
  rfl

theorem sprint_group (F : Interp) (b : Nat) (g s : ByteArray) (w : World) (hF : F.told.answers w.tape) (hg : g.size ≤ 1000000000) (hs : s.size ≤ 1000000000)
    (h0 : w.cell? ⟨b, 0, none⟩ = some (.iface 9 (.string g))) (h1 : w.cell? ⟨b, 1, none⟩ = some (.iface 9 (.string s))) :
    (callFunc 22 #[.string ⟨#[59, 32, 37, 115, 32, 110, 111, 116, 32, 104, 101, 108, 100, 58, 32, 37, 115]⟩, .slice (some ⟨b, 0, none⟩) 2 2]).run Tryf.prog w = .ok (.value (.string (B8 ([59, 32] ++ str g ++ notHeldT ++ str s)))) w.drew := by
  have hF' := answers_open hF
  have hl : (str s).length = s.size := by simp [str]
  have hk : (str g).length = g.size := by simp [str]
  have ht := told_string F (group_text (str g) (str s) (by omega) (by omega)) (by simp [notHeldT, hl, hk]; omega)
  have e0 : (⟨b, 0, none⟩ : Addr).add 0 = ⟨b, 0, none⟩ := rfl
  have e1 : (⟨b, 0, none⟩ : Addr).add 1 = ⟨b, 1, none⟩ := rfl
  have hm := group_p
  unfold groupF at hm
  rw [← text_ba F _ _ ht]
  simp [go_sem, Tryf.call22, FmtStop.sprintf_lit, Tryf.guard, FmtStop.cells, e0, e1, h0, h1, hm, FmtStop.readAll, Tryf.op9_115, FmtStop.text, Question.forced, Question.cut]
  rw [hF']
  rfl

end Qxb6616546aFmt
end Go.Proofs
