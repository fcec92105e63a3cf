import Derived.Test.YbulkdvdwFmtCards
import Derived.WalkKit
import Derived.WalkSpells
import Derived.WalkLawsBesides
import Derived.Deep.Light
import Derived.BigQuiet
import Derived.Stop.CallBack
import Derived.Stop.IfaceNil
namespace Go.Proofs.YbulkdvdwFmt
open Go.RowKit Go.Extern.Stop Go.Stop Go.Extern

theorem call6 (args : Array Value) (w : World) : (callFunc 6 args).run Ybaf.prog w = (FmtCalls.sprintf #[9, 68] #[9] args).run Ybaf.prog w :=
  run_callFunc_next Ybaf.func6 (by kernel_rfl) (by kernel_rfl) (by kernel_rfl) args w
theorem fguard (name : String) (w : World) : (FmtStop.guard name).run Ybaf.prog w = .ok () w := by kernel_rfl
theorem nextTurns : Extern.next FmtCalls.turnsRow = some (FmtCalls.begun #[] #[]) := by kernel_rfl
theorem nextReturned : Extern.next FmtCalls.returnedRow = some (FmtCalls.returned #[] #[]) := by kernel_rfl
/-- "app %q of set %q" -/
theorem fmtA : FmtStop.printed? ⟨#[97, 112, 112, 32, 37, 113, 32, 111, 102, 32, 115, 101, 116, 32, 37, 113]⟩ 2 = some [(0, 113, false), (1, 113, false)] := by kernel_rfl
/-- "app %q" -/
theorem fmtB : FmtStop.printed? ⟨#[97, 112, 112, 32, 37, 113]⟩ 1 = some [(0, 113, false)] := by kernel_rfl
/-- "parameter %q" -/
theorem fmtC : FmtStop.printed? ⟨#[112, 97, 114, 97, 109, 101, 116, 101, 114, 32, 37, 113]⟩ 1 = some [(0, 113, false)] := by kernel_rfl
/-- "parameter %q of group %q" -/
theorem fmtD : FmtStop.printed? ⟨#[112, 97, 114, 97, 109, 101, 116, 101, 114, 32, 37, 113, 32, 111, 102, 32, 103, 114, 111, 117, 112, 32, 37, 113]⟩ 2 = some [(0, 113, false), (1, 113, false)] := by kernel_rfl
def shape9 : List UInt8 := [12, 6, 0, 0, 0, 0, 0, 0, 0, 115, 116, 114, 105, 110, 103]
theorem op9_113 (name : String) (x : ByteArray) (w : World) : (FmtStop.operand name false 113 false (.iface 9 (.string x))).run Ybaf.prog w = .ok (shape9, FmtStop.pack x.data.toList) w := by kernel_rfl
theorem op9_115 (name : String) (x : ByteArray) (w : World) : (FmtStop.operand name false 115 false (.iface 9 (.string x))).run Ybaf.prog w = .ok (shape9, FmtStop.pack x.data.toList) w := by kernel_rfl
theorem invokeString38 (x : Value) (w : World) : (invoke (.fn (.method "String") #[]) #[.iface 38 x]).run Ybaf.prog w = .ok (.enter 8 #[x]) w := by kernel_rfl

theorem act9_113 (name : String) (x : Value) (w : World) : (FmtCalls.act name false 113 false (.iface 9 x)).run Ybaf.prog w = .ok (.closed false) w := by kernel_rfl
theorem act9_115 (name : String) (x : Value) (w : World) : (FmtCalls.act name false 115 false (.iface 9 x)).run Ybaf.prog w = .ok (.closed false) w := by kernel_rfl
theorem act38_115 (name : String) (x : Value) (w : World) : (FmtCalls.act name false 115 false (.iface 38 x)).run Ybaf.prog w = .ok (.call false) w := by kernel_rfl
theorem isString38 (w : World) : (FmtDoors.textMethod 38 "String").run Ybaf.prog w = .ok true w := by kernel_rfl

set_option maxHeartbeats 400000 in
theorem key_group (F : Interp) (n g : ByteArray) (w : World) (hF : F.answers w.tape) (hg : g.toList.isEmpty = false) :
    Calls Ybaf.prog 8 #[.agg #[.string n, .string g]] w fun e w' => (∃ s, e = .returned (.string s)) ∧ Below w.heap.size w w' := by
  have hF' : ∀ i name reading k range, w.tape i (.extern (word name reading k) range) = F name reading k := hF
  have h1 := call6
  have h2 := fguard
  have h3 := fmtD
  have h5 := op9_113
  have h6 := act9_113
  go_enter Ybaf.func8, Ybaf.ntmps8
  go_wp2
  apply rows_value nextTurns
  case hr =>
    go_simp
    exact ⟨rfl, rfl⟩
  case h =>
    go_wp2
    go_ret
    exact ⟨⟨_, rfl⟩, by repeat (first | exact Below.refl _ _ | refine Below.drew ?_ | refine Below.alloc ?_ (by simp) _)⟩

set_option maxHeartbeats 400000 in
theorem key_main (F : Interp) (n g : ByteArray) (w : World) (hF : F.answers w.tape) (hg : g.toList.isEmpty = true) :
    Calls Ybaf.prog 8 #[.agg #[.string n, .string g]] w fun e w' => (∃ s, e = .returned (.string s)) ∧ Below w.heap.size w w' := by
  have hF' : ∀ i name reading k range, w.tape i (.extern (word name reading k) range) = F name reading k := hF
  have h1 := call6
  have h2 := fguard
  have h3 := fmtC
  have h5 := op9_113
  have h6 := act9_113
  go_enter Ybaf.func8, Ybaf.ntmps8
  go_wp2
  apply rows_value nextTurns
  case hr =>
    go_simp
    exact ⟨rfl, rfl⟩
  case h =>
    go_wp2
    go_ret
    exact ⟨⟨_, rfl⟩, by repeat (first | exact Below.refl _ _ | refine Below.drew ?_ | refine Below.alloc ?_ (by simp) _)⟩

set_option maxHeartbeats 400000 in
theorem label_set (F : Interp) (n g : ByteArray) (w : World) (hF : F.answers w.tape) (hg : g.toList.isEmpty = false) :
    Calls Ybaf.prog 7 #[.agg #[.string n, .string g, .string ⟨#[]⟩, .string ⟨#[]⟩, .slice none 0 0, .string ⟨#[]⟩, .slice none 0 0, .string ⟨#[]⟩, .string ⟨#[]⟩, .string ⟨#[]⟩, .slice none 0 0, .slice none 0 0, .slice none 0 0]] w fun e w' => (∃ s, e = .returned (.string s)) ∧ Below w.heap.size w w' := by
  have hF' : ∀ i name reading k range, w.tape i (.extern (word name reading k) range) = F name reading k := hF
  have h1 := call6
  have h2 := fguard
  have h3 := fmtA
  have h5 := op9_113
  have h6 := act9_113
  go_enter Ybaf.func7, Ybaf.ntmps7
  go_wp2
  apply rows_value nextTurns
  case hr =>
    go_simp
    exact ⟨rfl, rfl⟩
  case h =>
    go_wp2
    go_ret
    exact ⟨⟨_, rfl⟩, by repeat (first | exact Below.refl _ _ | refine Below.drew ?_ | refine Below.alloc ?_ (by simp) _)⟩

set_option maxHeartbeats 400000 in
theorem label_bare (F : Interp) (n g : ByteArray) (w : World) (hF : F.answers w.tape) (hg : g.toList.isEmpty = true) :
    Calls Ybaf.prog 7 #[.agg #[.string n, .string g, .string ⟨#[]⟩, .string ⟨#[]⟩, .slice none 0 0, .string ⟨#[]⟩, .slice none 0 0, .string ⟨#[]⟩, .string ⟨#[]⟩, .string ⟨#[]⟩, .slice none 0 0, .slice none 0 0, .slice none 0 0]] w fun e w' => (∃ s, e = .returned (.string s)) ∧ Below w.heap.size w w' := by
  have hF' : ∀ i name reading k range, w.tape i (.extern (word name reading k) range) = F name reading k := hF
  have h1 := call6
  have h2 := fguard
  have h3 := fmtB
  have h5 := op9_113
  have h6 := act9_113
  go_enter Ybaf.func7, Ybaf.ntmps7
  go_wp2
  apply rows_value nextTurns
  case hr =>
    go_simp
    exact ⟨rfl, rfl⟩
  case h =>
    go_wp2
    go_ret
    exact ⟨⟨_, rfl⟩, by repeat (first | exact Below.refl _ _ | refine Below.drew ?_ | refine Below.alloc ?_ (by simp) _)⟩

theorem key_any (F : Interp) (n g : ByteArray) (w : World) (hF : F.answers w.tape) :
    Calls Ybaf.prog 8 #[.agg #[.string n, .string g]] w fun e w' => (∃ s, e = .returned (.string s)) ∧ Below w.heap.size w w' := by
  cases h : g.toList.isEmpty
  · exact key_group F n g w hF h
  · exact key_main F n g w hF h

theorem label_any (F : Interp) (n g : ByteArray) (w : World) (hF : F.answers w.tape) :
    Calls Ybaf.prog 7 #[.agg #[.string n, .string g, .string ⟨#[]⟩, .string ⟨#[]⟩, .slice none 0 0, .string ⟨#[]⟩, .slice none 0 0, .string ⟨#[]⟩, .string ⟨#[]⟩, .string ⟨#[]⟩, .slice none 0 0, .slice none 0 0, .slice none 0 0]] w fun e w' => (∃ s, e = .returned (.string s)) ∧ Below w.heap.size w w' := by
  cases h : g.toList.isEmpty
  · exact label_set F n g w hF h
  · exact label_bare F n g w hF h

end Go.Proofs.YbulkdvdwFmt
