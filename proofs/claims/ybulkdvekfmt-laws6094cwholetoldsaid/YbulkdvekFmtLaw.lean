import Derived.Test.YbulkdvekFmtCards
import Derived.WalkKit
import Derived.WalkSpells
import Derived.WalkLawsBesides
import Derived.Deep.Light
import Derived.BigQuiet
import Derived.Stop.CallBack
import Derived.Stop.IfaceNil
namespace Go.Proofs.YbulkdvekFmt
open Go.RowKit Go.Extern.Stop Go.Stop Go.Extern

theorem call7 (args : Array Value) (w : World) : (callFunc 7 args).run Ybaf.prog w = ((FmtStop.errorf #[9, 43] #[38] args).run Ybaf.prog w).andThen fun v w' => .ok (.value v) w' :=
  run_callFunc_extern Ybaf.func7 (by kernel_rfl) (by kernel_rfl) (by kernel_rfl) (by kernel_rfl) args w
theorem fguard (name : String) (w : World) : (FmtStop.guard name).run Ybaf.prog w = .ok () w := by kernel_rfl
theorem fmt0 : FmtStop.printed? ⟨#[116, 104, 101, 32, 112, 101, 101, 114, 32, 37, 115, 32, 97, 110, 115, 119, 101, 114, 115, 32, 97, 115, 32, 114, 101, 112, 108, 105, 99, 97, 32, 37, 113]⟩ 2 = some [(0, 115, false), (1, 113, false)] := by kernel_rfl
theorem fmt0r (w : World) : (FmtDoors.printed ⟨#[116, 104, 101, 32, 112, 101, 101, 114, 32, 37, 115, 32, 97, 110, 115, 119, 101, 114, 115, 32, 97, 115, 32, 114, 101, 112, 108, 105, 99, 97, 32, 37, 113]⟩ 2).run Ybaf.prog w = .ok [(0, 115, false), (1, 113, false)] w := by kernel_rfl
def shape9 : List UInt8 := [12, 6, 0, 0, 0, 0, 0, 0, 0, 115, 116, 114, 105, 110, 103]
theorem op9_115w (name : String) (x : ByteArray) (w : World) : (FmtStop.operand name true 115 false (.iface 9 (.string x))).run Ybaf.prog w = .ok (shape9, FmtStop.pack x.data.toList) w := by kernel_rfl
theorem op9_113w (name : String) (x : ByteArray) (w : World) : (FmtStop.operand name true 113 false (.iface 9 (.string x))).run Ybaf.prog w = .ok (shape9, FmtStop.pack x.data.toList) w := by kernel_rfl
theorem ptr45 (w : World) : (FmtStop.ptrTo "errors.errorString").run Ybaf.prog w = .ok 45 w := by kernel_rfl
theorem elem45 (w : World) : (elemOf 45).run Ybaf.prog w = .ok 47 w := by kernel_rfl
theorem isError45 (w : World) : (FmtDoors.textMethod 45 "Error").run Ybaf.prog w = .ok true w := by kernel_rfl

set_option maxHeartbeats 400000 in
theorem answered_no (F : Interp) (b : Nat) (id lid : ByteArray) (w : World) (hF : F.answers w.tape) (hc : w.cell? ⟨b, 0, none⟩ = some (.string lid)) (hne : (id.toList == lid.toList) = false) :
    Calls Ybaf.prog 4 #[.pointer (some ⟨b, 0, none⟩), .string id] w fun e w' => (∃ u x, e = .returned (.iface u x)) ∧ Below w.heap.size w w' := by
  have hF' : ∀ i name reading k range, w.tape i (.extern (word name reading k) range) = F name reading k := hF
  have h1 := call7
  have h2 := fguard
  have h3 := fmt0
  have h4 := fmt0r
  have h5 := op9_115w
  have h6 := op9_113w
  have h7 := ptr45
  have h8 := elem45
  have h9 := isError45
  go_enter Ybaf.func4, Ybaf.ntmps4
  go_wp2
  go_ret
  exact ⟨⟨_, _, rfl⟩, by repeat (first | exact Below.refl _ _ | refine Below.drew ?_ | refine Below.alloc ?_ (by simp) _)⟩

set_option maxHeartbeats 400000 in
theorem answered_yes (b : Nat) (id lid : ByteArray) (w : World) (hc : w.cell? ⟨b, 0, none⟩ = some (.string lid)) (hne : (id.toList == lid.toList) = true) :
    Calls Ybaf.prog 4 #[.pointer (some ⟨b, 0, none⟩), .string id] w fun e w' => e = .returned .nilIface ∧ w' = w := by
  go_enter Ybaf.func4, Ybaf.ntmps4
  go_wp2
  go_ret
  exact ⟨rfl, rfl⟩

theorem toList_size (a : ByteArray) : a.toList.length = a.size := by rw [ByteArray.toList_eq]; exact Array.length_toList

theorem toList_at (a : ByteArray) (k : Nat) (h : k < a.size) : a.toList[k]? = some a[k] := by
  rw [ByteArray.toList_eq, Array.getElem?_toList]
  exact Array.getElem?_eq_getElem h
theorem ne_of_byte (a b : ByteArray) (k : Nat) (h1 : k < a.size) (h2 : k < b.size) (h : ((a[k].toNat : Int) != (b[k].toNat : Int)) = true) : (a.toList == b.toList) = false := by
  simp
  intro e
  have e1 := congrArg (fun l : List UInt8 => l[k]?) e
  simp only [toList_at a k h1, toList_at b k h2, Option.some.injEq] at e1
  rw [e1] at h
  simp at h
theorem eq_step (a b : ByteArray) (k : Nat) (h1 : k < a.size) (h2 : k < b.size) (h : ((a[k].toNat : Int) != (b[k].toNat : Int)) = false) (hj : ∀ j, j < k → a.toList[j]? = b.toList[j]?) : ∀ j, j < k + 1 → a.toList[j]? = b.toList[j]? := by
  intro j hl
  by_cases e : j = k
  · subst e
    rw [toList_at a j h1, toList_at b j h2]
    simp at h
    have : a[j] = b[j] := UInt8.toNat_inj.1 (by omega)
    rw [this]
  · exact hj j (by omega)
theorem eq_all (a b : ByteArray) (hs : a.size = b.size) (hj : ∀ j, j < a.size → a.toList[j]? = b.toList[j]?) : (a.toList == b.toList) = true := by
  simp
  apply List.ext_getElem?
  intro j
  by_cases h : j < a.size
  · exact hj j h
  · rw [List.getElem?_eq_none (by rw [toList_size]; omega), List.getElem?_eq_none (by rw [toList_size]; omega)]

set_option maxHeartbeats 400000 in
theorem equal_len (a b : ByteArray) (w : World) (hne : a.size ≠ b.size) :
    Calls Ybaf.prog 5 #[.string a, .string b] w fun e w' => e = .returned (.bool (a.toList == b.toList)) ∧ ∃ n, w' = w.drewN n := by
  have hf : (a.toList == b.toList) = false := by
    simp
    intro h
    have := congrArg List.length h
    rw [toList_size, toList_size] at this
    exact hne this
  rw [hf]
  have hd : ((a.size : Int) == (b.size : Int)) = false := by simp; omega
  go_enter Ybaf.func5, Ybaf.ntmps5
  go_wp2
  go_ret
  exact ⟨rfl, 0, rfl⟩

set_option maxHeartbeats 400000 in
theorem equal_same (a b : ByteArray) (w : World) (ha : a.size ≤ maxLen) (hs : a.size = b.size) :
    Calls Ybaf.prog 5 #[.string a, .string b] w fun e w' => e = .returned (.bool (a.toList == b.toList)) ∧ ∃ n, w' = w.drewN n := by
  unfold maxLen at ha
  have hd : ((a.size : Int) == (b.size : Int)) = true := by simp; omega
  have HS : Hid (a.size = b.size) := hs
  clear hs
  go_enter Ybaf.func5, Ybaf.ntmps5
  go_wp2
  go_loopw [5] (fun i wr => ∃ k n : Nat, k ≤ a.size ∧ i = .int .i64 k ∧ (∀ j, j < k → a.toList[j]? = b.toList[j]?) ∧ wr = w.drewN n) (fun i _ => a.size - (intOf i).toNat)
  case atStart => exact ⟨0, 0, Nat.zero_le _, rfl, by intro j hj; omega, rfl⟩
  case round =>
    obtain ⟨k, n, hk, rfl, HJ, rfl⟩ := hrel
    by_cases hlt : k < a.size
    · have hlt' : k < b.size := HS.out ▸ hlt
      have h1 : (k : Int) < (a.size : Int) := by omega
      have h2 : (k : Int) < (b.size : Int) := by omega
      go_wp2
      go_quiet (fail)
      go_wp2
      · go_ret
        have hb := ‹((a[k].toNat : Int) != (b[k].toNat : Int)) = true›
        go_light
        rw [ne_of_byte a b k hlt hlt' hb]
        exact ⟨rfl, n + nq, by simp⟩
      · have hb := ‹((a[k].toNat : Int) != (b[k].toNat : Int)) = false›
        go_light
        exact ⟨⟨k + 1, n + nq, by omega, by go_num, eq_step a b k hlt hlt' hb HJ, rfl⟩, by simp [intOf]; omega⟩
    · have hk' : k = a.size := by omega
      subst hk'
      go_wp2
      go_ret
      go_light
      rw [eq_all a b HS.out HJ]
      exact ⟨rfl, n, rfl⟩

theorem equal_any (a b : ByteArray) (w : World) (ha : a.size ≤ maxLen) :
    Calls Ybaf.prog 5 #[.string a, .string b] w fun e w' => e = .returned (.bool (a.toList == b.toList)) ∧ ∃ n, w' = w.drewN n := by
  by_cases h : a.size = b.size
  · exact equal_same a b w ha h
  · exact equal_len a b w h

theorem bcell {W w1 : World} (hb : Below W.heap.size W w1) : (∀ b o, b < W.heap.size → w1.cell? ⟨b, o, none⟩ = W.cell? ⟨b, o, none⟩) ∧ (∀ b o, b < W.heap.size → w1.frozen? ⟨b, o, none⟩ = W.frozen? ⟨b, o, none⟩) :=
  ⟨fun b o h => hb.cell (p := ⟨b, o, none⟩) h, fun b o h => hb.frozen (p := ⟨b, o, none⟩) h⟩

set_option maxHeartbeats 400000 in
theorem law_differs (F : Interp) (lid ans : ByteArray) (w : World) (hF : F.answers w.tape) (ha : ans.size ≤ maxLen) (hne : (ans.toList == lid.toList) = false) :
    Calls Ybaf.prog 3 #[.string lid, .string ans, .bool false] w fun e w' => e = .returned (.bool true) ∧ Below w.heap.size w w' := by
  go_enter Ybaf.func3, Ybaf.ntmps3
  go_wp2_with fail
  refine (answered_no F _ ans lid _ ?_ ?_ hne).mono ?_
  · exact hF
  · simp [go_sem]
  rintro e w1 ⟨⟨u, x, rfl⟩, hb⟩
  obtain ⟨hc, _⟩ := bcell hb
  have hB : Below w.heap.size w w1 := ((Below.refl w.heap.size w).alloc (Nat.le_refl _) _).trans (hb.mono (by simp))
  clear hb
  go_wp2_with fail
  refine (equal_any ans lid _ ha).mono ?_
  rintro e w2 ⟨rfl, n, rfl⟩
  rw [hne]
  go_wp2
  go_ret
  exact ⟨rfl, below_drewN hB n⟩

set_option maxHeartbeats 400000 in
theorem law_equal (lid ans : ByteArray) (w : World) (ha : ans.size ≤ maxLen) (hne : (ans.toList == lid.toList) = true) :
    Calls Ybaf.prog 3 #[.string lid, .string ans, .bool false] w fun e w' => e = .returned (.bool true) ∧ Below w.heap.size w w' := by
  go_enter Ybaf.func3, Ybaf.ntmps3
  go_wp2_with fail
  refine (answered_yes _ ans lid _ (by simp [go_sem]) hne).mono ?_
  rintro e w1 ⟨rfl, rfl⟩
  go_wp2_with fail
  refine (equal_any ans lid _ ha).mono ?_
  rintro e w2 ⟨rfl, n, rfl⟩
  rw [hne]
  go_wp2
  go_ret
  exact ⟨rfl, below_drewN ((Below.refl w.heap.size w).alloc (Nat.le_refl _) _) n⟩

set_option maxHeartbeats 400000 in
theorem law_same (lid ans : ByteArray) (w : World) (ha : lid.size ≤ maxLen) :
    Calls Ybaf.prog 3 #[.string lid, .string ans, .bool true] w fun e w' => e = .returned (.bool true) ∧ Below w.heap.size w w' := by
  have hne : (lid.toList == lid.toList) = true := by simp
  go_enter Ybaf.func3, Ybaf.ntmps3
  go_wp2_with fail
  refine (answered_yes _ lid lid _ (by simp [go_sem]) hne).mono ?_
  rintro e w1 ⟨rfl, rfl⟩
  go_wp2_with fail
  refine (equal_any lid lid _ ha).mono ?_
  rintro e w2 ⟨rfl, n, rfl⟩
  rw [hne]
  go_wp2
  go_ret
  exact ⟨rfl, below_drewN ((Below.refl w.heap.size w).alloc (Nat.le_refl _) _) n⟩

theorem law_any (F : Interp) (lid ans : ByteArray) (same : Bool) (w : World) (hF : F.answers w.tape) (hl : lid.size ≤ maxLen) (ha : ans.size ≤ maxLen) :
    Calls Ybaf.prog 3 #[.string lid, .string ans, .bool same] w fun e w' => e = .returned (.bool true) ∧ Below w.heap.size w w' := by
  cases same
  · cases h : (ans.toList == lid.toList)
    · exact law_differs F lid ans w hF ha h
    · exact law_equal lid ans w ha h
  · exact law_same lid ans w hl
end Go.Proofs.YbulkdvekFmt
