import Derived.Test.YbulkdvjuJob
namespace Go.Proofs.Ybulkdvju
open Go.RowKit
attribute [local go_sem] run_store_float

/-- The hosts that came in. -/
structure InHosts (b off len : Nat) (HR : Nat → Bool) (TF : Nat → Nat) (AG : Nat → ByteArray) (JA : Nat → Option Addr) (JX JO JL JC : Nat → Nat) (J : Nat → Nat → Int) (w : World) : Prop where
  c0 : ∀ i, i < len → w.cell? ⟨b, off + i * 4, none⟩ = some (.bool (HR i))
  c1 : ∀ i, i < len → w.cell? ⟨b, off + i * 4 + 1, none⟩ = some (.float .f64 (TF i))
  c2 : ∀ i, i < len → w.cell? ⟨b, off + i * 4 + 2, none⟩ = some (.string (AG i))
  c3 : ∀ i, i < len → w.cell? ⟨b, off + i * 4 + 3, none⟩ = some (.slice (JA i) (JL i) (JC i))
  ja : ∀ i, i < len → 0 < JL i → JA i = some ⟨JX i, JO i, none⟩ ∧ JX i < w.heap.size
  jc : ∀ i, i < len → ∀ k, k < JL i → w.cell? ⟨JX i, JO i + k, none⟩ = some (.int .u8 (J i k)) ∧ 0 ≤ J i k ∧ J i k ≤ 255
  jl : ∀ i, i < len → JL i ≤ 140737488351232
  blt : b < w.heap.size

theorem InHosts.keep {b off len : Nat} {HR : Nat → Bool} {TF : Nat → Nat} {AG : Nat → ByteArray} {JA : Nat → Option Addr} {JX JO JL JC : Nat → Nat} {J : Nat → Nat → Int} {w w' : World}
    (h : InHosts b off len HR TF AG JA JX JO JL JC J w) (hb : Below w.heap.size w w') : InHosts b off len HR TF AG JA JX JO JL JC J w' := by
  obtain ⟨h0, h1, h2, h3, h4, h5, h6, h7⟩ := h
  have e : ∀ o, w'.cell? ⟨b, o, none⟩ = w.cell? ⟨b, o, none⟩ := fun o => hb.cell (p := ⟨b, o, none⟩) h7
  exact ⟨fun i hi => (e _).trans (h0 i hi), fun i hi => (e _).trans (h1 i hi), fun i hi => (e _).trans (h2 i hi), fun i hi => (e _).trans (h3 i hi),
    fun i hi hp => ⟨(h4 i hi hp).1, Nat.lt_of_lt_of_le (h4 i hi hp).2 hb.size⟩,
    fun i hi k hk => ⟨(hb.cell (p := ⟨JX i, JO i + k, none⟩) (h4 i hi (by omega)).2).trans (h5 i hi k hk).1, (h5 i hi k hk).2⟩, h6, Nat.lt_of_lt_of_le h7 hb.size⟩

/-- How many jobs the first k hosts have. -/
def sumTo (JL : Nat → Nat) : Nat → Nat
  | 0 => 0
  | k + 1 => sumTo JL k + JL k
theorem sumTo_le {JL : Nat → Nat} {len : Nat} (h : ∀ i, i < len → JL i ≤ 140737488351232) : ∀ k, k ≤ len → sumTo JL k ≤ k * 140737488351232 := by
  intro k
  induction k with
  | zero => intro _; simp [sumTo]
  | succ k ih =>
    intro hk
    have h1 := ih (by omega)
    have h2 := h k (by omega)
    simp only [sumTo]
    omega
theorem sumTo_mono (JL : Nat → Nat) : ∀ {k len : Nat}, k ≤ len → sumTo JL k ≤ sumTo JL len := by
  intro k len h
  induction len with
  | zero => have : k = 0 := by omega
            subst this; exact Nat.le_refl _
  | succ n ih =>
    by_cases e : k = n + 1
    · subst e; exact Nat.le_refl _
    · have := ih (by omega); simp only [sumTo]; omega
theorem le_sumTo {JL : Nat → Nat} {i len : Nat} (h : i < len) : JL i ≤ sumTo JL len := by
  have := sumTo_mono JL (k := i + 1) (len := len) (by omega)
  simp only [sumTo] at this
  omega

set_option maxRecDepth 100000 in
theorem lawC_many (a : Option Addr) (len cap : Nat) (name : ByteArray) (w : World) (h : 65536 < len) :
    Calls Yba.prog 4 #[.slice a len cap, .string name] w fun e w' => e = .returned (.bool true) ∧ Below w.heap.size w w' := by
  go_enter Yba.func4, Yba.ntmps4
  go_wp2
  go_ret
  exact ⟨rfl, Below.refl _ _⟩

set_option maxHeartbeats 1000000 in
set_option maxRecDepth 100000 in
theorem lawC_full (b off len cap : Nat) (HR : Nat → Bool) (TF : Nat → Nat) (AG : Nat → ByteArray) (JA : Nat → Option Addr) (JX JO JL JC : Nat → Nat) (J : Nat → Nat → Int) (name : ByteArray) (w : World)
    (hl0 : 0 < len) (hlen : len ≤ 65536) (HI : InHosts b off len HR TF AG JA JX JO JL JC J w) (hbig : 1048576 < sumTo JL len) :
    Calls Yba.prog 4 #[.slice (some ⟨b, off, none⟩) len cap, .string name] w fun e w' => e = .returned (.bool true) ∧ Below w.heap.size w w' := by
  have hd : decide ((65536 : Int) < (len : Int)) = false := by simp; omega
  have hle := sumTo_le HI.jl
  have HLE := (show Hid _ from hle)
  clear hle
  go_enter Yba.func4, Yba.ntmps4
  go_wp2
  go_loop [5, 30] (fun t i => ∃ k : Nat, k ≤ len ∧ i = .int .i64 k ∧ t = .int .i64 (sumTo JL k)) (fun _ i => len - (intOf i).toNat)
  case atStart => exact ⟨0, Nat.zero_le _, rfl, rfl⟩
  case round =>
    obtain ⟨k, hk1, rfl, rfl⟩ := hrel
    have h1 := HLE.out k hk1
    by_cases hlt : k < len
    · have c3 := HI.c3 k hlt
      have hj := HI.jl k hlt
      have hli : (k : Int) < (len : Int) := by omega
      have hb1 : (sumTo JL k : Int) + (JL k : Int) ≤ 9223372036854775807 := by omega
      go_wp2
      go_light
      refine ⟨⟨k + 1, by omega, by go_num, ?_⟩, by simp [intOf]; omega⟩
      simp [sumTo]
    · have hkl : k = len := by omega
      subst hkl
      have hbig' : (1048576 : Int) < (sumTo JL k : Int) := by omega
      go_wp2
      go_ret
      exact ⟨rfl, Below.refl _ _⟩

end Go.Proofs.Ybulkdvju
