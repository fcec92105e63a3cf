import Derived.Test.YbulkdvieMap
import Derived.Deep.RegionHeld3
namespace Go.Proofs.Ybulkdvie
open Go.RowKit Go.Maps

theorem lawA_many (a : Option Addr) (len cap : Nat) (sel : Int) (raw : ByteArray) (w : World) (h : 1048576 < len) :
    Calls Yba.prog 3 #[.slice a len cap, .int .u8 sel, .string raw] w fun e w' => e = .returned (.bool true) ∧ Below w.heap.size w w' := by
  go_enter Yba.func3, Yba.ntmps3
  go_wp2
  go_ret
  exact ⟨rfl, Below.refl _ _⟩

/-- The entries that came in. -/
structure Ents (len b off : Nat) (Ke : Nat → ByteArray) (Kd Se : Nat → Int) (Re : Nat → ByteArray) (Cn : Nat → Bool) (De : Nat → ByteArray) (w : World) : Prop where
  c0 : ∀ i, i < len → w.cell? ⟨b, off + i * 6, none⟩ = some (.string (Ke i))
  c1 : ∀ i, i < len → w.cell? ⟨b, off + i * 6 + 1, none⟩ = some (.int .i64 (Kd i))
  c2 : ∀ i, i < len → w.cell? ⟨b, off + i * 6 + 2, none⟩ = some (.int .u8 (Se i))
  c3 : ∀ i, i < len → w.cell? ⟨b, off + i * 6 + 3, none⟩ = some (.string (Re i))
  c4 : ∀ i, i < len → w.cell? ⟨b, off + i * 6 + 4, none⟩ = some (.bool (Cn i))
  c5 : ∀ i, i < len → w.cell? ⟨b, off + i * 6 + 5, none⟩ = some (.string (De i))
  sel : ∀ i, i < len → 0 ≤ Se i ∧ Se i ≤ 255
  key : ∀ i, i < len → (Ke i).size ≤ maxLen

theorem Ents.keep {len b off : Nat} {Ke : Nat → ByteArray} {Kd Se : Nat → Int} {Re : Nat → ByteArray} {Cn : Nat → Bool} {De : Nat → ByteArray} {w w' : World} (h : Ents len b off Ke Kd Se Re Cn De w) {B : Nat} (hb : Below B w w') (hB : b < B) : Ents len b off Ke Kd Se Re Cn De w' := by
  obtain ⟨h0, h1, h2, h3, h4, h5, h6, h7⟩ := h
  have e : ∀ o, w'.cell? ⟨b, o, none⟩ = w.cell? ⟨b, o, none⟩ := fun o => hb.cell (p := ⟨b, o, none⟩) hB
  exact ⟨fun i hi => (e _).trans (h0 i hi), fun i hi => (e _).trans (h1 i hi), fun i hi => (e _).trans (h2 i hi), fun i hi => (e _).trans (h3 i hi), fun i hi => (e _).trans (h4 i hi), fun i hi => (e _).trans (h5 i hi), h6, h7⟩

/-- What the map holds behind k rounds: 'O' names the blocks of the observations. -/
def outs (Ke : Nat → ByteArray) (Kd Se : Nat → Int) (Re : Nat → ByteArray) (Cn : Nat → Bool) (De : Nat → ByteArray) (O : Nat → Nat) (k : Nat) (s : List UInt8) : Option Value :=
  (last Ke k s).map fun i => ov (rz (Se i) (Re i)) (O i) (kz (Kd i)) (Cn i) (De i)

/-- What is known of the world inside the statement that fills the map: the entry's own variable, the map, all the rest. -/
def SE (key : ByteArray) (kd se : Int) (re : ByteArray) (cn : Bool) (de : ByteArray) (mb n : Nat) (f : List UInt8 → Option Value) (ok : Value → Prop) (wr w' : World) : Prop :=
  w'.cell? ⟨wr.heap.size, 0, none⟩ = some (.string key) ∧ w'.cell? ⟨wr.heap.size, 1, none⟩ = some (.int .i64 kd) ∧ w'.cell? ⟨wr.heap.size, 2, none⟩ = some (.int .u8 se) ∧ w'.cell? ⟨wr.heap.size, 3, none⟩ = some (.string re) ∧
    w'.cell? ⟨wr.heap.size, 4, none⟩ = some (.bool cn) ∧ w'.cell? ⟨wr.heap.size, 5, none⟩ = some (.string de) ∧ Z mb n f key.data.toList ok w' ∧ ButAt mb wr w' ∧ wr.heap.size < w'.heap.size

section
variable {key : ByteArray} {kd se : Int} {re : ByteArray} {cn : Bool} {de : ByteArray} {mb n : Nat} {f : List UInt8 → Option Value} {ok : Value → Prop} {wr w' : World}
theorem se_init (h : MapIs wr mb n f) : SE key kd se re cn de mb n f ok wr (wr.alloc (.cells #[.string key, .int .i64 kd, .int .u8 se, .string re, .bool cn, .string de] 24)).drew := by
  refine ⟨?_, ?_, ?_, ?_, ?_, ?_, .inl (h.alloc _), ButAt.of (Joins.below_alloc1 wr _).drew, by simp⟩
  all_goals simp [go_sem]
theorem se_alloc (h : SE key kd se re cn de mb n f ok wr w') (o : Obj) : SE key kd se re cn de mb n f ok wr (w'.alloc o) := by
  obtain ⟨h0, h1, h2, h3, h4, h5, hz, hb, hs⟩ := h
  have hc : ∀ q, (w'.alloc o).cell? ⟨wr.heap.size, q, none⟩ = w'.cell? ⟨wr.heap.size, q, none⟩ := fun q => (Joins.below_alloc1 w' o).cell (p := ⟨wr.heap.size, q, none⟩) hs
  exact ⟨(hc _).trans h0, (hc _).trans h1, (hc _).trans h2, (hc _).trans h3, (hc _).trans h4, (hc _).trans h5, hz.alloc o, hb.trans (ButAt.of (Joins.below_alloc1 w' o)), by simp; omega⟩
theorem se_put {u : World} {v : Value} (h : SE key kd se re cn de mb n f ok wr w') (hm : mb < wr.heap.size) (hok : ok v) (hu : MapIs u mb (n + 1) (fun x => if x = key.data.toList then some v else f x) ∧ w'.grownBy u (some mb)) : SE key kd se re cn de mb n f ok wr u := by
  obtain ⟨h0, h1, h2, h3, h4, h5, hz, hb, hs⟩ := h
  have hg := ButAt.grown hu.2
  have hc : ∀ q, u.cell? ⟨wr.heap.size, q, none⟩ = w'.cell? ⟨wr.heap.size, q, none⟩ := fun q => hg.cell hs (by omega) q
  exact ⟨(hc _).trans h0, (hc _).trans h1, (hc _).trans h2, (hc _).trans h3, (hc _).trans h4, (hc _).trans h5, .inr ⟨v, hok, hu.1⟩, hb.trans hg, Nat.lt_of_lt_of_le hs hg.size⟩
end

/-- The kind and the result that the second loop has found. -/
def lk (Kd : Nat → Int) : Option Nat → Int
  | some i => kz (Kd i)
  | none => 0
def lr (Se : Nat → Int) (Re : Nat → ByteArray) : Option Nat → ByteArray
  | some i => rz (Se i) (Re i)
  | none => ⟨#[]⟩

theorem last_ne {Ke : Nat → ByteArray} {k : Nat} {id : ByteArray} (h : ((Ke k).toList == id.toList) = false) : last Ke (k + 1) id.data.toList = last Ke k id.data.toList := by
  rw [last, if_neg]
  rw [ByteArray.toList_eq, ByteArray.toList_eq] at h
  simpa using h
theorem last_eq {Ke : Nat → ByteArray} {k : Nat} {id : ByteArray} (h : ((Ke k).toList == id.toList) = true) : last Ke (k + 1) id.data.toList = some k := by
  rw [last, if_pos]
  rw [ByteArray.toList_eq, ByteArray.toList_eq] at h
  simpa using h
theorem own_keep {w w' : World} {b n : Nat} {D : DataW Value} (h : w.ownsMap Yba.prog 9 RV b n D) (hb : Below w.heap.size w w') : w'.ownsMap Yba.prog 9 RV b n D := by
  have hl := h.lt
  obtain ⟨es, clock, h1, F, h2, h3⟩ := h
  exact ⟨es, clock, (hb.block b hl).trans h1, F, h2, h3⟩

theorem sum_at (b n : Nat) (D : DataW Value) (id : ByteArray) (r : ByteArray) (o : Nat) (k : Int) (c : Bool) (d x : ByteArray) (w : World) (h : w.ownsMap Yba.prog 9 RV b n D) (hs : id.size ≤ maxLen) (hat : ∀ z, D.atKey (.string id.data.toList) z = .held (ov r o k c d)) (hx : sumOf r k = x) :
    Calls Yba.prog 7 #[.map (some b), .string id] w fun e w' => e = .returned (.string x) ∧ Below w.heap.size w w' := by
  subst hx
  exact sum_some b n D id r o k c d w h hs hat

theorem outs_step (Ke : Nat → ByteArray) (Kd Se : Nat → Int) (Re : Nat → ByteArray) (Cn : Nat → Bool) (De : Nat → ByteArray) (O : Nat → Nat) (k o : Nat) :
    (fun x => if x = (Ke k).data.toList then some (ov (rz (Se k) (Re k)) o (kz (Kd k)) (Cn k) (De k)) else outs Ke Kd Se Re Cn De O k x) = outs Ke Kd Se Re Cn De (fun i => if i = k then o else O i) (k + 1) := by
  funext x
  unfold outs
  rw [last]
  by_cases e : x = (Ke k).data.toList
  · rw [if_pos e, if_pos e.symm]
    simp
  · rw [if_neg e, if_neg (fun h => e h.symm)]
    cases hl : last Ke k x with
    | none => rfl
    | some i =>
      have : i ≠ k := by have := last_lt hl; omega
      simp [this]

theorem roundA {Ke : Nat → ByteArray} {Kd Se : Nat → Int} {Re : Nat → ByteArray} {Cn : Nat → Bool} {De : Nat → ByteArray} {O : Nat → Nat} {len k : Nat} {w wr W : World} {v : Value} {U : World → Value → World}
    (hU : ∀ x v, Z w.heap.size k (outs Ke Kd Se Re Cn De O k) (Ke k).data.toList (fun v => ∃ o, v = ov (rz (Se k) (Re k)) o (kz (Kd k)) (Cn k) (De k)) x →
      MapIs (U x v) w.heap.size (k + 1) (fun y => if y = (Ke k).data.toList then some v else outs Ke Kd Se Re Cn De O k y) ∧ x.grownBy (U x v) (some w.heap.size))
    (hlt : k < len) (HB : Below w.heap.size w wr) (hZ : Z w.heap.size k (outs Ke Kd Se Re Cn De O k) (Ke k).data.toList (fun v => ∃ o, v = ov (rz (Se k) (Re k)) o (kz (Kd k)) (Cn k) (De k)) W)
    (hv : ∃ o, v = ov (rz (Se k) (Re k)) o (kz (Kd k)) (Cn k) (De k)) (hW : Below wr.heap.size wr W) :
    ∃ (k1 : Nat) (O1 : Nat → Nat), k1 ≤ len ∧ Value.int .i64 ((k : Int) + 1) = .int .i64 k1 ∧ MapIs (U W v) w.heap.size k1 (outs Ke Kd Se Re Cn De O1 k1) ∧ Below w.heap.size w (U W v) ∧ w.heap.size < (U W v).heap.size := by
  obtain ⟨o, rfl⟩ := hv
  obtain ⟨h1, hg⟩ := hU W _ hZ
  rw [outs_step] at h1
  refine ⟨k + 1, _, by omega, by go_num, h1, (HB.trans (hW.mono HB.size)).grown hg (Nat.le_trans HB.size hW.size) (fun q hq => by simp at hq; omega), ?_⟩
  exact h1.lt

set_option maxHeartbeats 4000000 in
theorem lawA_some (len b off cap : Nat) (Ke : Nat → ByteArray) (Kd Se : Nat → Int) (Re : Nat → ByteArray) (Cn : Nat → Bool) (De : Nat → ByteArray) (sel : Int) (raw : ByteArray) (w : World)
    (hl0 : 0 < len) (hlen : len ≤ 1048576) (hb : b < w.heap.size) (h0 : 0 ≤ sel) (h1 : sel ≤ 255) (hraw : raw.size ≤ maxLen) (HE : Ents len b off Ke Kd Se Re Cn De w) :
    Calls Yba.prog 3 #[.slice (some ⟨b, off, none⟩) len cap, .int .u8 sel, .string raw] w fun e w' => e = .returned (.bool true) ∧ Below w.heap.size w w' := by
  have hmm := @run_makeMap Yba.prog
  have hd : decide ((1048576 : Int) < (len : Int)) = false := by simp; omega
  have hp : (0 : Int) < (len : Int) := by omega
  have hfirst : ∃ id : ByteArray, id.size ≤ maxLen ∧ ((sel % 2 == 0) = true ∧ 0 ≤ sel / 2 % (len : Int) ∧ sel / 2 % (len : Int) < (len : Int) ∧ w.cell? ⟨b, off + (sel / 2 % (len : Int)).toNat * 6, none⟩ = some (.string id) ∨ (sel % 2 == 0) = false ∧ id = raw) := by
    by_cases hsel : sel % 2 = 0
    · have hx0 : 0 ≤ sel / 2 % (len : Int) := Int.emod_nonneg _ (by omega)
      have hx1 : sel / 2 % (len : Int) < (len : Int) := Int.emod_lt_of_pos _ hp
      exact ⟨Ke (sel / 2 % (len : Int)).toNat, HE.key _ (by omega), .inl ⟨by simpa using hsel, hx0, hx1, HE.c0 (sel / 2 % (len : Int)).toNat (by omega)⟩⟩
    · exact ⟨raw, hraw, .inr ⟨by simpa using hsel, rfl⟩⟩
  obtain ⟨id, hids, hfirst⟩ := hfirst
  rcases hfirst with ⟨hsel, hx0, hx1, cid⟩ | ⟨hsel, rfl⟩
  all_goals
    go_enter Yba.func3, Yba.ntmps3
    go_wp2
    go_loopw [9] (fun i wr => ∃ (k : Nat) (O : Nat → Nat), k ≤ len ∧ i = .int .i64 k ∧ MapIs wr w.heap.size k (outs Ke Kd Se Re Cn De O k) ∧ Below w.heap.size w wr ∧ w.heap.size < wr.heap.size) (fun i _ => len - (intOf i).toNat)
    case atStart => exact ⟨0, fun _ => 0, Nat.zero_le _, rfl, map_start w, Joins.below_alloc1 _ _, by simp⟩
    case round =>
      obtain ⟨k, O, hk1, rfl, HM, HB, hsz1⟩ := hrel
      have HE2 := HE.keep HB hb
      by_cases hlt : k < len
      · have c0 := HE2.c0 k hlt
        have c1 := HE2.c1 k hlt
        have c2 := HE2.c2 k hlt
        have c3 := HE2.c3 k hlt
        have c4 := HE2.c4 k hlt
        have c5 := HE2.c5 k hlt
        obtain ⟨hs0, hs1⟩ := HE2.sel k hlt
        have hks := HE2.key k hlt
        have hli : (k : Int) < (len : Int) := by omega
        obtain ⟨U, hU⟩ := z_store w.heap.size k (outs Ke Kd Se Re Cn De O k) (Ke k) (fun v => ∃ o, v = ov (rz (Se k) (Re k)) o (kz (Kd k)) (Cn k) (De k)) (by unfold maxLen; omega) hks
        have hU1 := fun w v h => (hU w v h).1
        have hU2 := fun w v h => (hU w v h).2
        clear hU
        have HU2 := (show Hid _ from hU2)
        clear hU2
        clear HE2
        go_wp2
        go_region_held3 (fun w' => w'.cell? ⟨wr.heap.size, 0, none⟩ = some (.string (Ke k)) ∧ w'.cell? ⟨wr.heap.size, 1, none⟩ = some (.int .i64 (Kd k)) ∧ w'.cell? ⟨wr.heap.size, 2, none⟩ = some (.int .u8 (Se k)) ∧ w'.cell? ⟨wr.heap.size, 3, none⟩ = some (.string (Re k)) ∧ w'.cell? ⟨wr.heap.size, 4, none⟩ = some (.bool (Cn k)) ∧ w'.cell? ⟨wr.heap.size, 5, none⟩ = some (.string (De k)) ∧ Z w.heap.size k (outs Ke Kd Se Re Cn De O k) (Ke k).data.toList (fun v => ∃ o, v = ov (rz (Se k) (Re k)) o (kz (Kd k)) (Cn k) (De k)) w' ∧ ButAt w.heap.size wr w' ∧ wr.heap.size < w'.heap.size)
          (first | exact se_init HM | exact se_alloc (by assumption) _ | exact se_put (by assumption) hsz1 ⟨_, rfl⟩ (HU2.out _ _ (by go_split_ands; assumption)))
          (first | (go_at_call 5; refine (result_any _ _ _ _ _ _ hs0 hs1 _).mono ?_; rintro e w' ⟨rfl, rfl⟩) | (go_at_call 6; refine (kind_any _ _ _ _ _ _ _).mono ?_; rintro e w' ⟨rfl, rfl⟩))
        all_goals
          go_wp2
          go_light
          exact ⟨roundA HU2.out hlt HB (by repeat (first | exact .inl HM | apply Z.drew | apply Z.alloc)) ⟨_, rfl⟩ (by repeat (first | exact Below.refl _ _ | apply Below.drew | refine Below.alloc ?_ (by simp <;> omega) _)), by simp [intOf]; omega⟩
      · have hkl : k = len := by omega
        subst hkl
        obtain ⟨D, hown, hsz, hh⟩ := HM
        have hlen1 := fun ty => hown.len Yba.underlying25 ty
        obtain ⟨W1, rfl⟩ : ∃ x, x = wr := ⟨_, rfl⟩
        have HH := (show Hid _ from hh)
        have HO := (show Hid _ from hown)
        clear hh hown
        go_wp2
        go_loopw [12, 13, 14, 15] (fun f kd rs i wq => ∃ k2 : Nat, k2 ≤ k ∧ i = .int .i64 k2 ∧ f = .bool (last Ke k2 id.data.toList).isSome ∧ kd = .int .i64 (lk Kd (last Ke k2 id.data.toList)) ∧ rs = .string (lr Se Re (last Ke k2 id.data.toList)) ∧ Below W1.heap.size W1 wq) (fun _ _ _ i _ => k - (intOf i).toNat)
        case atStart => exact ⟨0, Nat.zero_le _, rfl, rfl, rfl, rfl, Below.refl _ _⟩
        case round =>
          obtain ⟨k2, hk2, rfl, rfl, rfl, rfl, HB2⟩ := hrel
          by_cases hlt2 : k2 < k
          · have HE3 := HE2.keep HB2 (by omega)
            have c0 := HE3.c0 k2 hlt2
            have c1 := HE3.c1 k2 hlt2
            have c2 := HE3.c2 k2 hlt2
            have c3 := HE3.c3 k2 hlt2
            have c4 := HE3.c4 k2 hlt2
            have c5 := HE3.c5 k2 hlt2
            obtain ⟨hs0, hs1⟩ := HE3.sel k2 hlt2
            have hli : (k2 : Int) < (k : Int) := by omega
            have hbw1 : b ≠ wr.heap.size := by have := HB2.size; omega
            have hbw2 : b < wr.heap.size := by have := HB2.size; omega
            clear HE3
            cases heq : ((Ke k2).toList == id.toList)
            · have hla := last_ne heq
              have HLA := (show Hid _ from hla)
              clear hla
              go_wp2
              go_light
              refine ⟨⟨k2 + 1, by omega, by go_num, ?_, ?_, ?_, HB2⟩, by simp [intOf]; omega⟩
              all_goals rw [HLA.out]
            · have hla := last_eq heq
              have HLA := (show Hid _ from hla)
              clear hla
              go_wp2_with fail
              refine (kind_any _ _ _ _ _ _ _).mono ?_
              rintro e w' ⟨rfl, rfl⟩
              go_wp2_with fail
              refine (result_any _ _ _ _ _ _ hs0 hs1 _).mono ?_
              rintro e w' ⟨rfl, rfl⟩
              go_wp2
              go_light
              refine ⟨⟨k2 + 1, by omega, by go_num, ?_, ?_, ?_, ?_⟩, by simp [intOf]; omega⟩
              · rw [HLA.out]; rfl
              · rw [HLA.out]; rfl
              · rw [HLA.out]; rfl
              · exact (HB2.alloc HB2.size _).alloc (by simp; have := HB2.size; omega) _
          · have hk2k : k2 = k := by omega
            subst hk2k
            have hownr := own_keep HO.out HB2
            have hB3 : Below w.heap.size w wr := HB.trans (HB2.mono (by omega))
            have hat := HH.out id.data.toList
            cases hla : last Ke k2 id.data.toList with
            | none =>
              have hat2 : ∀ z, D.atKey (.string id.data.toList) z = z := fun z => by rw [hat z]; simp [outs, hla]
              clear hat hla HE2
              go_wp2_with fail
              refine (sum_none w.heap.size _ D id _ hownr hids hat2).mono ?_
              rintro e w3 ⟨rfl, hb3⟩
              have hlen3 := fun ty => (own_keep hownr hb3).len Yba.underlying25 ty
              have hB4 : Below w.heap.size w w3 := hB3.trans (hb3.mono hB3.size)
              clear hb3 hat2 hownr
              go_wp2
              go_ret
              exact ⟨rfl, hB4⟩
            | some q =>
              have hat2 : ∀ z, D.atKey (.string id.data.toList) z = .held (ov (rz (Se q) (Re q)) (O q) (kz (Kd q)) (Cn q) (De q)) := fun z => by rw [hat z]; simp [outs, hla]
              clear hat hla HE2
              simp only [lk, lr]
              generalize rz (Se q) (Re q) = r at hat2
              generalize kz (Kd q) = kk at hat2
              obtain ⟨x, hx⟩ : ∃ x, sumOf r kk = x := ⟨_, rfl⟩
              have HX : Hid (sumOf r kk = x) := hx
              clear hx
              cases hk8 : (kk == 8) <;> cases hrp : (r.toList == [80, 65, 83, 83])
              all_goals
                go_wp2_with fail
                refine (sum_at w.heap.size _ D id r (O q) kk (Cn q) (De q) x wr hownr hids hat2 HX.out).mono ?_
                rintro e w3 ⟨rfl, hb3⟩
                have hxe := HX.out
                simp only [sumOf, hk8, hrp, if_true, Bool.false_eq_true, if_false] at hxe
                subst hxe
                have hlen4 := fun ty => (own_keep hownr hb3).len Yba.underlying25 ty
                have hB4 : Below w.heap.size w w3 := hB3.trans (hb3.mono hB3.size)
                clear hb3 HX
                go_wp2
                go_ret
                exact ⟨rfl, hB4⟩

end Go.Proofs.Ybulkdvie
