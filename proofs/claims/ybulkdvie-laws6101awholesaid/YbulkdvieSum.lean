import Derived.Test.YbulkdvieRep
namespace Go.Proofs.Ybulkdvie
open Go.RowKit Go.Maps

/-! ### The two small functions of an entry -/
def kz (kind : Int) : Int := wrap64 ((IntKind.u64.wrap kind).tmod 17)
def rz (sel : Int) (res : ByteArray) : ByteArray :=
  if (sel % 6 == 0) = true then ⟨#[80, 65, 83, 83]⟩ else if (sel % 6 == 1) = true then ⟨#[70, 65, 73, 76]⟩ else if (sel % 6 == 2) = true then ⟨#[87, 65, 82, 78]⟩
  else if (sel % 6 == 3) = true then ⟨#[83, 75, 73, 80]⟩ else if (sel % 6 == 4) = true then ⟨#[]⟩ else res

set_option maxHeartbeats 400000 in
theorem result_any (key : ByteArray) (kind sel : Int) (res : ByteArray) (conn : Bool) (det : ByteArray) (h0 : 0 ≤ sel) (h1 : sel ≤ 255) (w : World) :
    Calls Yba.prog 5 #[.agg #[.string key, .int .i64 kind, .int .u8 sel, .string res, .bool conn, .string det]] w fun e w' => e = .returned (.string (rz sel res)) ∧ w' = w.alloc (.cells #[.string key, .int .i64 kind, .int .u8 sel, .string res, .bool conn, .string det] 24) := by
  go_enter Yba.func5, Yba.ntmps5
  go_wp2
  all_goals
    go_ret
    refine ⟨?_, rfl⟩
    go_light
    simp_all [rz]

theorem kind_any (key : ByteArray) (kind sel : Int) (res : ByteArray) (conn : Bool) (det : ByteArray) (w : World) :
    Calls Yba.prog 6 #[.agg #[.string key, .int .i64 kind, .int .u8 sel, .string res, .bool conn, .string det]] w fun e w' => e = .returned (.int .i64 (kz kind)) ∧ w' = w.alloc (.cells #[.string key, .int .i64 kind, .int .u8 sel, .string res, .bool conn, .string det] 24) := by
  go_enter Yba.func6, Yba.ntmps6
  go_wp2
  go_ret
  exact ⟨rfl, rfl⟩

/-! ### A map of outcomes, each value held as it is -/
def RV (v : Value) : Option (DataW Value × List MemPlace) := some (.held v, [])
/-- An outcome. -/
def ov (r : ByteArray) (o : Nat) (k : Int) (c : Bool) (d : ByteArray) : Value :=
  .agg #[.string r, .slice (some ⟨o, 0, none⟩) 1 1, .int .i64 k, .bool c, .int .i64 0, .bool false, .pointer none, .int .u8 0, .int .u8 0, .bool false, .string d, .slice none 0 0, .nilIface]
def zeroOut : Value :=
  .agg #[.string ⟨#[]⟩, .slice none 0 0, .int .i64 0, .bool false, .int .i64 0, .bool false, .pointer none, .int .u8 0, .int .u8 0, .bool false, .string ⟨#[]⟩, .slice none 0 0, .nilIface]
theorem zero42 (w : World) : (zeroValue 42).run Yba.prog w = .ok zeroOut w := by kernel_rfl

theorem own_tight {w : World} {b n : Nat} {D : DataW Value} (h : w.ownsMap Yba.prog 9 RV b n D) : w.ownsMap Yba.prog 9 RV b (Maps.size D) D := by
  obtain ⟨es, clock, hb, F, hs, rfl⟩ := h
  exact ⟨es, clock, hb, F, by simp [Maps.size, length_sorted], rfl⟩

/-- What a lookup of a key that is not there gives. -/
theorem look_none {w : World} {b n : Nat} {D : DataW Value} (h : w.ownsMap Yba.prog 9 RV b n D) (s : ByteArray) (hs : s.size ≤ maxLen) (hat : ∀ z, D.atKey (.string s.data.toList) z = z) :
    (Instr.lookup 25 (.map (some b)) (.string s) true).run Yba.prog w = .ok (.tuple #[zeroOut, .bool false]) w := by
  obtain ⟨v, ps, hrun, hv⟩ := h.look_ok keyed9 Yba.underlying25 (zero42 w) (zd := .held zeroOut) (zp := []) rfl (WideMaps.keyOf_string_mk Yba.underlying9 hs)
  rw [hat] at hv
  simp [RV] at hv
  rw [hrun, has_false_of_atKey hat, hv.1]
theorem look_some {w : World} {b n : Nat} {D : DataW Value} (h : w.ownsMap Yba.prog 9 RV b n D) (s : ByteArray) (hs : s.size ≤ maxLen) (x : Value) (hat : ∀ z, D.atKey (.string s.data.toList) z = .held x) :
    (Instr.lookup 25 (.map (some b)) (.string s) true).run Yba.prog w = .ok (.tuple #[x, .bool true]) w := by
  obtain ⟨v, ps, hrun, hv⟩ := h.look_ok keyed9 Yba.underlying25 (zero42 w) (zd := .held zeroOut) (zp := []) rfl (WideMaps.keyOf_string_mk Yba.underlying9 hs)
  rw [hat] at hv
  simp [RV] at hv
  rw [hrun, has_true_of_atKey hat, hv.1]

/-! ### The summary -/
set_option maxHeartbeats 400000 in
theorem sum_none (b n : Nat) (D : DataW Value) (id : ByteArray) (w : World) (h : w.ownsMap Yba.prog 9 RV b n D) (hs : id.size ≤ maxLen) (hat : ∀ z, D.atKey (.string id.data.toList) z = z) :
    Calls Yba.prog 7 #[.map (some b), .string id] w fun e w' => e = .returned (.string ⟨#[117, 110, 107, 110, 111, 119, 110]⟩) ∧ Below w.heap.size w w' := by
  have hl := look_none h id hs hat
  unfold zeroOut at hl
  clear hat h
  go_enter Yba.func7, Yba.ntmps7
  go_wp2
  go_ret
  exact ⟨rfl, Joins.below_alloc1 _ _⟩

def sumOf (r : ByteArray) (k : Int) : ByteArray := if (k == 8) = true then ⟨#[97, 99, 99, 101, 112, 116, 101, 100]⟩ else if (r.toList == [80, 65, 83, 83]) = true then ⟨#[114, 101, 102, 117, 115, 101, 100]⟩ else ⟨#[117, 110, 107, 110, 111, 119, 110]⟩

set_option maxHeartbeats 400000 in
theorem sum_some (b n : Nat) (D : DataW Value) (id : ByteArray) (r : ByteArray) (o : Nat) (k : Int) (c : Bool) (d : ByteArray) (w : World) (h : w.ownsMap Yba.prog 9 RV b n D) (hs : id.size ≤ maxLen) (hat : ∀ z, D.atKey (.string id.data.toList) z = .held (ov r o k c d)) :
    Calls Yba.prog 7 #[.map (some b), .string id] w fun e w' => e = .returned (.string (sumOf r k)) ∧ Below w.heap.size w w' := by
  have hl := look_some h id hs _ hat
  unfold ov at hl
  clear hat h
  go_enter Yba.func7, Yba.ntmps7
  go_wp2
  all_goals
    go_ret
    refine ⟨?_, Joins.below_alloc1 _ _⟩
    go_light
    simp_all [sumOf]

end Go.Proofs.Ybulkdvie
