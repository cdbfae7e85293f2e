/-
  plan.numbered (7), plan.ZZnumbered (5): what they hand back, fmt's text told; the byte guard (4).
-/
import Derived.Test.Qxb6616607aFmtRows
import Derived.WalkKit
import Derived.WalkSpells
import Derived.WalkLawsBesides
import Derived.Stop.CallBack
import Derived.Stop.IfaceNil
import Derived.Stop.Texts
import Derived.Stop.Told
import Derived.Stop.FmtQuoteTie
import Derived.Stop.FmtTextKit
import Derived.Stop.FmtTextWidths
namespace Go.Proofs.Qxb6616607aFmt
open Go.RowKit Go.Extern.Stop Go.Stop Go.Extern Go.Kit

theorem Tryf.call8 (args : Array Value) (w : World) : (callFunc 8 args).run Tryf.prog w = ((FmtStop.sprintf #[9, 45] #[9] args).run Tryf.prog w).andThen fun v w' => .ok (.value v) w' :=
  run_callFunc_extern Tryf.func8 (by kernel_rfl) (by kernel_rfl) (by kernel_rfl) (by kernel_rfl) args w
theorem Tryf.guard (name : String) (w : World) : (FmtStop.guard name).run Tryf.prog w = .ok () w := by kernel_rfl
theorem Tryf.fmt2 : FmtStop.printed? ⟨#[37, 115, 91, 37, 100, 93]⟩ 2 = some [(0, 115, false), (1, 100, false)] := by kernel_rfl
theorem Tryf.fmt2r (w : World) : (FmtDoors.printed ⟨#[37, 115, 91, 37, 100, 93]⟩ 2).run Tryf.prog w = .ok [(0, 115, false), (1, 100, false)] w := by kernel_rfl
def Tryf.shape3 : List UInt8 := [5, 3, 0, 0, 0, 0, 0, 0, 0, 105, 110, 116]
def Tryf.shape9 : List UInt8 := [12, 6, 0, 0, 0, 0, 0, 0, 0, 115, 116, 114, 105, 110, 103]
theorem Tryf.op3_100 (name : String) (x : Int) (w : World) : (FmtStop.operand name false 100 false (.iface 3 (.int .i64 x))).run Tryf.prog w = .ok (Tryf.shape3, Go.Extern.Stop.digits 8 (x % 2 ^ 64).toNat) w := by kernel_rfl
theorem Tryf.op9_115 (name : String) (x : ByteArray) (w : World) : (FmtStop.operand name false 115 false (.iface 9 (.string x))).run Tryf.prog w = .ok (Tryf.shape9, FmtStop.pack x.data.toList) w := by kernel_rfl

/-- WHAT fmt IS ASKED. -/
def asked (key : List UInt8) (n : Int) : List (List UInt8) := [[37, 115, 91, 37, 100, 93], Tryf.shape9, FmtStop.pack key, Tryf.shape3, digits 8 (n % 18446744073709551616).toNat]
/-- THE TEXT: the key, '[', the number, ']'. -/
def numText (key : List UInt8) (n : Int) : List UInt8 := key ++ ([91] ++ (Lib.itoa n ++ [93]))

theorem t_parse : (FmtText.parse [37, 115, 91, 37, 100, 93]).map FmtText.glue = some [.verb {} 115, .lit [91], .verb {} 100, .lit [93]] := by rfl

theorem t_text (key : List UInt8) (n : Int) (hs : key.length < 2 ^ 64) (hw : (Lit.int .i64 n).wf = true) : FmtText.text "fmt.Sprintf" (asked key n) = some (numText key n) := by
  have hi := FmtText.operand_int_at (sh := Tryf.shape3) (k := .i64) rfl rfl n hw
  have hn := FmtText.operand_str_at (sh := Tryf.shape9) rfl rfl key hs
  rw [asked, FmtText.text_sprintf_glued t_parse (FmtText.operands_cons hn (FmtText.operands_cons hi FmtText.operands_nil))]
  simp [FmtText.render, FmtText.printArg_d _ _ hw, FmtText.printArg_s_str, numText]

set_option maxHeartbeats 400000 in
theorem num7_all (F : Interp) (key : ByteArray) (n : Int) (w : World) (hF : F.answers w.tape) :
    Calls Tryf.prog 7 #[.string key, .int .i64 n] w fun e w' => e = .returned (.string (FmtStop.textOf (F "fmt.Sprintf" (asked key.data.toList (wrap64 (n + 1))) 0))) ∧ Below w.heap.size w w' := by
  have hF' := answers_open hF
  have f1 := Tryf.call8
  have f2 := Tryf.guard
  have f3 := Tryf.fmt2
  have f3r := Tryf.fmt2r
  have f4 := Tryf.op3_100
  have f5 := Tryf.op9_115
  go_enter Tryf.func7, Tryf.ntmps7
  go_wp2
  go_ret
  exact ⟨rfl, (((Below.refl _ _).alloc (Nat.le_refl _) _).drew)⟩

theorem bytes_ext {a : ByteArray} {l : List UInt8} (h : a.data.toList = l) : a = ⟨l.toArray⟩ := by
  obtain ⟨d⟩ := a
  simp at h
  subst h
  simp

/-- The bytes that numbered hands back. -/
def numStr (key : ByteArray) (n : Int) : ByteArray := ⟨(numText key.data.toList (wrap64 (n + 1))).toArray⟩

theorem told_num (F : Interp) (key : ByteArray) (n : Int) (hk : key.size ≤ 1048576) : FmtStop.textOf (F.told "fmt.Sprintf" (asked key.data.toList (wrap64 (n + 1))) 0) = numStr key n := by
  have hl : key.data.toList.length ≤ 1048576 := by simpa using hk
  have hw := wrap64_wf (n + 1)
  have l1 := FmtText.itoa_length_le hw
  have ht := told_string F (t_text key.data.toList (wrap64 (n + 1)) (by omega) hw) (by simp only [numText, List.length_append, List.length_cons, List.length_nil]; omega)
  exact bytes_ext (by rw [textOf_list, ht])

set_option maxHeartbeats 400000 in
theorem num5 (F : Interp) (key : ByteArray) (n : Int) (w : World) (hF : F.told.answers w.tape) (hk : key.size ≤ 1048576) :
    Calls Tryf.prog 5 #[.string key, .int .i64 n] w fun e w' => e = .returned (.string (numStr key n)) ∧ Below w.heap.size w w' := by
  have HT : Hid (FmtStop.textOf (F.told "fmt.Sprintf" (asked key.data.toList (wrap64 (n + 1))) 0) = numStr key n) := told_num F key n hk
  go_enter Tryf.func5, Tryf.ntmps5
  go_wp2_with fail
  refine (num7_all F.told key n w hF).mono ?_
  rintro e w' ⟨rfl, hB⟩
  rw [HT.out]
  clear hF
  go_wp2
  go_ret
  exact ⟨rfl, hB⟩

/-- A bool is handed back. -/
def IsB (e : Ending) : Prop := ∃ b, e = .returned (.bool b)

set_option maxHeartbeats 400000 in
theorem bytes4 (a b : ByteArray) (n m : Int) (w : World) (ha : a.size ≤ maxLen) (hb : b.size ≤ maxLen) :
    Calls Tryf.prog 4 #[.string a, .int .i64 n, .string b, .int .i64 m] w fun e w' => IsB e ∧ w' = w := by
  unfold maxLen at ha hb
  go_enter Tryf.func4, Tryf.ntmps4
  go_wp2
  all_goals go_ret
  all_goals exact ⟨⟨_, rfl⟩, rfl⟩
end Go.Proofs.Qxb6616607aFmt
