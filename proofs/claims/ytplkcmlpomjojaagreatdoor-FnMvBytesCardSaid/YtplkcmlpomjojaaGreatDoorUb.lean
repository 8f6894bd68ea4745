/- (*Position).UnmarshalBinary: a position from its bytes. For every sound position with small numbers. (Printed by gen_ub.py.) -/
import Derived.Test.YtplkcmlpomjojaaGreatDoorMb
import Derived.Test.YtplkcmlpomjojaaGreatDoorBg
import Derived.Test.YtplkcmlpomjojaaGreatDoorGe
import Derived.Deep.DeepCutAuto
namespace Go.Proofs.YtplkcmlpomjojaaGreatDoor
open Go Go.RowKit
set_option maxHeartbeats 8000000
set_option linter.unusedSimpArgs false
set_option linter.unusedVariables false
set_option maxRecDepth 100000

def posR (bv : Value) (s : ByteArray) (h f t e : Int) : Array Value := #[bv, .string s, .slice none 0 0, .int .i64 h, .int .i64 f, .int .i8 t, .int .i8 e, .bool false]
structure UbSt (w0 : World) (PB : List Value) (p : List Int) (pg q bg : Nat) (row : Array Value) (W : World) : Prop where
  row : W.heap[pg]? = some (.cells row 75 (0, 0))
  bd : W.heap[bg]? = some (.cells (brd p) 125 (0, 0))
  dat : ∀ i, i < 101 → W.cell? ⟨q, i, none⟩ = PB[i]?
  bel : Below w0.heap.size w0 W
  ql : q < W.heap.size
theorem UbSt.below {w0 : World} {PB : List Value} {p : List Int} {pg q bg : Nat} {row : Array Value} {W W' : World} (h : UbSt w0 PB p pg q bg row W) (hb : Below W.heap.size W W') : UbSt w0 PB p pg q bg row W' :=
  ⟨(hb.block pg (Array.getElem?_eq_some_iff.1 h.row).1).trans h.row, (hb.block bg (Array.getElem?_eq_some_iff.1 h.bd).1).trans h.bd, fun i hi => (hb.cell (p := ⟨q, i, none⟩) h.ql).trans (h.dat i hi), h.bel.trans (hb.mono h.bel.size), Nat.lt_of_lt_of_le h.ql hb.size⟩
theorem UbSt.set {w0 : World} {PB : List Value} {p : List Int} {pg q bg : Nat} {row : Array Value} {W : World} (h : UbSt w0 PB p pg q bg row W) (hq : q ≠ pg) (hbg : bg ≠ pg) (hpg : w0.heap.size ≤ pg) (i : Nat) (v : Value) : UbSt w0 PB p pg q bg (row.setIfInBounds i v) (W.setCell ⟨pg, i, none⟩ v) :=
  ⟨heap_setCell_same W pg i _ _ v h.row, (heap_setCell_other _ _ _ _ hbg).trans h.bd, fun j hj => (World.cell?_of_block (a := ⟨q, j, none⟩) (heap_setCell_other _ _ _ _ hq)).trans (h.dat j hj), h.bel.setCell (p := ⟨pg, i, none⟩) hpg _, by simpa using h.ql⟩
theorem bytes8_len (x : BitVec 64) : (bytes8 x).length = 8 := by simp [bytes8]
theorem bytes8_get (x : BitVec 64) (j : Nat) (h : j < 8) : (bytes8 x)[j]? = some (.int .u8 (byteOf x j)) := by simp [bytes8, h]
theorem bytesOf_len (F : Nat → BitVec 64) : ∀ k, (bytesOf F k).length = 8 * k
  | 0 => rfl
  | k + 1 => by rw [bytesOf_step, List.length_append, bytesOf_len F k, bytes8_len]; omega
theorem bytesOf_get (F : Nat → BitVec 64) : ∀ n k j, k < n → j < 8 → (bytesOf F n)[8 * k + j]? = some (.int .u8 (byteOf (F k) j))
  | 0, k, j, h, hj => by omega
  | n + 1, k, j, h, hj => by
    rw [bytesOf_step]
    by_cases e : k = n
    · subst e
      rw [List.getElem?_append_right (by rw [bytesOf_len]; omega), bytesOf_len, show 8 * k + j - 8 * k = j by omega]
      exact bytes8_get _ j hj
    · rw [List.getElem?_append_left (by rw [bytesOf_len]; omega)]
      exact bytesOf_get F n k j (by omega) hj
theorem posBytes_get (p : List Int) (tn k : Nat) (hk : k < 12) (j : Nat) (hj : j < 8) : (posBytes p tn)[8 * k + j]? = some (.int .u8 (byteOf (bbF p k) j)) := by
  have hl := bytesOf_len (bbF p) 12
  have hg := bytesOf_get (bbF p) 12 k j hk hj
  unfold posBytes
  simp only [List.append_assoc]
  rw [List.getElem?_append_left (by omega)]
  exact hg
theorem wrap_i64s (n : Int) (h0 : 0 ≤ n) (h1 : n ≤ 1000000) : IntKind.i64.wrap n = n := by
  unfold IntKind.wrap
  simp only [show IntKind.i64.bits = 64 from rfl, show IntKind.i64.signed = true from rfl, Bool.true_and]
  split <;> rename_i h <;> simp at h <;> omega
theorem flag_bits : ∀ n < 64, ∀ k < 6, bits .and .u8 ((n : Nat) : Int) (2 ^ k) = if n / 2 ^ k % 2 = 1 then 2 ^ k else 0 := by decide +kernel
theorem flag_nat (ca tn ep : Int) (h0 : 0 ≤ ca) (h1 : ca ≤ 15) (t0 : 0 ≤ tn) (t1 : tn ≤ 1) : ∃ n : Nat, flagB ca tn ep = (n : Int) ∧ n < 64 ∧ (∀ k < 4, (n / 2 ^ k % 2 = 1 ↔ ca / 2 ^ k % 2 = 1)) ∧ (n / 2 ^ 4 % 2 = 1 ↔ tn = 1) ∧ (n / 2 ^ 5 % 2 = 1 ↔ ep ≠ -1) := by
  obtain ⟨c, rfl⟩ := Int.eq_ofNat_of_zero_le h0
  obtain ⟨t, rfl⟩ := Int.eq_ofNat_of_zero_le t0
  unfold flagB epFlag
  by_cases he : ep = -1
  · refine ⟨c + 16 * t, by rw [if_pos he]; simp, by omega, ?_, by simp; omega, by simp [he]; omega⟩
    intro k hk
    match k, hk with
    | 0, _ => simp; omega
    | 1, _ => simp; omega
    | 2, _ => simp; omega
    | 3, _ => simp; omega
  · refine ⟨c + 16 * t + 32, by rw [if_neg he]; simp, by omega, ?_, by simp; omega, by simp [he]; omega⟩
    intro k hk
    match k, hk with
    | 0, _ => simp; omega
    | 1, _ => simp; omega
    | 2, _ => simp; omega
    | 3, _ => simp; omega
theorem flag_and (ca tn ep : Int) (h0 : 0 ≤ ca) (h1 : ca ≤ 15) (t0 : 0 ≤ tn) (t1 : tn ≤ 1) : (∀ k < 4, bits .and .u8 (flagB ca tn ep) (2 ^ k) = if ca / 2 ^ k % 2 = 1 then 2 ^ k else 0) ∧ (bits .and .u8 (flagB ca tn ep) 16 = if tn = 1 then 16 else 0) ∧ (bits .and .u8 (flagB ca tn ep) 32 = if ep = -1 then 0 else 32) := by
  obtain ⟨n, e, hn, h4, ht, he⟩ := flag_nat ca tn ep h0 h1 t0 t1
  rw [e]
  refine ⟨fun k hk => ?_, ?_, ?_⟩
  · rw [flag_bits n hn k (by omega)]
    by_cases h : ca / 2 ^ k % 2 = 1
    · rw [if_pos h, if_pos ((h4 k hk).2 h)]
    · rw [if_neg h, if_neg (fun g => h ((h4 k hk).1 g))]
  · rw [show (16 : Int) = 2 ^ 4 from rfl, flag_bits n hn 4 (by omega)]
    by_cases h : tn = 1
    · rw [if_pos h, if_pos (ht.2 h)]
    · rw [if_neg h, if_neg (fun g => h (ht.1 g))]
  · rw [show (32 : Int) = 2 ^ 5 from rfl, flag_bits n hn 5 (by omega)]
    by_cases h : ep = -1
    · rw [if_pos h, if_neg (fun g => he.1 g h)]
    · rw [if_neg h, if_pos (he.2 h)]
theorem u16_be (f : Nat) (h : f < 65536) : Lib.byteCells (Lib.beBytes 2 f) = [.int .u8 ((f / 256 % 256).toUInt8).toNat, .int .u8 ((f % 256).toUInt8).toNat] ∧ Lib.beNat [(f / 256 % 256).toUInt8, (f % 256).toUInt8] = f := by
  refine ⟨by simp [Lib.byteCells, Lib.beBytes, Lib.leBytes], ?_⟩
  simp [Lib.beNat, Lib.beFrom, Lib.toUInt8_mod, UInt8.toNat_ofNat']
  omega
/-- The last five bytes of a position. -/
theorem posBytes_end (p : List Int) (tn : Nat) (f : Nat) (hf : p.getD 68 0 = (f : Int)) : ∀ A, bytesOf (bbF p) 12 = A → A.length = 96 → (posBytes p tn)[96]? = some (.int .u8 (p.getD 67 0)) ∧ (posBytes p tn)[97]? = some (.int .u8 ((f / 256 % 256).toUInt8).toNat) ∧ (posBytes p tn)[98]? = some (.int .u8 ((f % 256).toUInt8).toNat) ∧ (posBytes p tn)[99]? = some (.int .u8 (p.getD 66 0 % 256)) ∧ (posBytes p tn)[100]? = some (.int .u8 (flagB (p.getD 65 0) tn (p.getD 66 0))) := by
  intro A hA hlen
  unfold posBytes
  rw [hA, hf, Int.toNat_natCast]
  have e : Lib.byteCells (Lib.beBytes 2 f) = [.int .u8 ((f / 256 % 256).toUInt8).toNat, .int .u8 ((f % 256).toUInt8).toNat] := by simp [Lib.byteCells, Lib.beBytes, Lib.leBytes]
  rw [e]
  simp only [List.append_assoc]
  refine ⟨?_, ?_, ?_, ?_, ?_⟩
  all_goals (rw [List.getElem?_append_right (by omega), hlen]; rfl)
theorem casText_mt (ca : Int) (h : (casTo ca 4).toList.isEmpty = true) : casText ca = ⟨#[45]⟩ := by
  unfold casText
  by_cases e : casTo ca 4 = ByteArray.empty
  · rw [if_pos e]
  · rw [txt_some e] at h; cases h
theorem casText_some (ca : Int) (h : (casTo ca 4).toList.isEmpty = false) : casText ca = casTo ca 4 := by
  unfold casText
  by_cases e : casTo ca 4 = ByteArray.empty
  · rw [txt_empty e] at h; cases h
  · rw [if_neg e]
theorem ub_read (p : List Int) (tn : Nat) (hs : Sound p tn) (hh : p.getD 67 0 ≤ 255) (hf : p.getD 68 0 ≤ 10000) (w0 : World) (hT : Tabs w0) (hA : IntSl w0 1 .i8 allL) (pg q cap : Nat) (w : World) (hb0 : Below w0.heap.size w0 w) (hpg : w0.heap.size ≤ pg) (hq : q ≠ pg) (hcap : 101 ≤ cap)
    (hrow : w.heap[pg]? = some (.cells (posR (.pointer none) ⟨#[]⟩ 0 0 0 0) 75 (0, 0))) (hby : ∀ i, i < 101 → w.cell? ⟨q, i, none⟩ = (posBytes p tn)[i]?) (hql : q < w.heap.size) :
    Calls Tryz.prog 39 #[.pointer (some ⟨pg, 0, none⟩), .slice (some ⟨q, 0, none⟩) 101 cap] w fun e w' => e = .returned .nilIface ∧ (∃ bg, EngCells p tn pg bg w') ∧ Below w0.heap.size w0 w' := by
  obtain ⟨k0, k1, hk0, hk1, h0, h1, _, _, hcb⟩ := hs.kings
  have hic := lay (fun (bg : Nat) (W : World) hE hl => ic_check p tn hs.one pg bg W hE hl k0 k1 hk0 hk1 h0 h1)
  have hfl := flag_and (p.getD 65 0) tn (p.getD 66 0) hs.ca0 hs.ca1 (by omega) (by have := hs.one; omega)
  obtain ⟨fu, hfu⟩ := Int.eq_ofNat_of_zero_le (show 0 ≤ p.getD 68 0 by have := hs.fu; omega)
  obtain ⟨d96, d97, d98, d99, d100⟩ := posBytes_end p tn fu hfu _ rfl (bytesOf_len (bbF p) 12)
  obtain ⟨ep0, ep1⟩ := hs.ep
  have hone := hs.one
  have hh0 := hs.hf
  have ca0 := hs.ca0
  have ca1 := hs.ca1
  have u16 := (u16_be fu (by omega)).2
  have hcapI : (101 : Int) ≤ (cap : Int) := by omega
  have hcapI2 : (96 : Int) ≤ (cap : Int) := by omega
  have hcapI3 : (99 : Int) ≤ (cap : Int) := by omega
  have hlies : Lies (bbF p) q w := fun k hk j hj => by
    rw [hby _ (by omega)]
    exact posBytes_get p tn k hk j hj
  have hbgr := lay (fun (G : Nat → BitVec 64) (g : Nat) (W : World) hg hq hl => bg_read p G (.int .u64 0) (.int .u64 0) (.int .u64 0) (.int .i8 0) (.int .i8 0) rfl g q cap W hg hq (by omega) hl)
  have hu16 := lay (fun (W : World) c0 c1 => Tryz.binary_BE_Uint16 q 97 2 (cap - 97) (fu / 256 % 256).toUInt8 (fu % 256).toUInt8 W (Nat.le_refl _) c0 c1)
  generalize hPB : posBytes p tn = PB at *
  clear hPB
  generalize h65 : p.getD 65 0 = ca at *
  generalize h66 : p.getD 66 0 = ep at *
  generalize h67 : p.getD 67 0 = ha at *
  have h65s := lay h65
  have h66s := lay h66
  have h67s := lay h67
  have h68s := lay hfu
  rw [hfu] at hf
  clear h65 h66 h67 hfu
  have w64h : wrap64 ha = ha := by unfold wrap64; omega
  have w64f : IntKind.i64.wrap (fu : Int) = (fu : Int) := wrap_i64s _ (by omega) (by omega)
  have w8e : IntKind.i8.wrap (ep % 256) = ep := by
    by_cases he : ep = -1
    · rw [he]; decide
    · rw [show ep % 256 = ep by omega]
      exact wrap_i8 _ (by omega) (by omega)
  go_enter Tryz.func39, Tryz.ntmps39
  go_upto_region 4 with fail
  have hgA : (w.alloc (.cells brd0 125)).heap[w.heap.size]? = some (.cells (brdF (fun _ => 0#64) (.int .u64 0) (.int .u64 0) (.int .u64 0) (.int .i8 0) (.int .i8 0)) 125 (0, 0)) := heap_alloc_new w _
  have hbW : Below w.heap.size w (w.alloc (.cells brd0 125)) := (Below.refl _ _).alloc (Nat.le_refl _) _
  have hpl : pg < w.heap.size := (Array.getElem?_eq_some_iff.1 hrow).1
  have hbg : w.heap.size ≠ pg := by omega
  have hsA : (w.alloc (.cells brd0 125)).heap.size = w.heap.size + 1 := by simp
  have hc := lay (hbgr.out (fun _ => 0#64) w.heap.size _ hgA (by omega) (hlies.most (by omega) (Most.below hbW)))
  have hrA := (hbW.block pg hpl).trans hrow
  have hdA : ∀ i, i < 101 → (w.alloc (.cells brd0 125)).cell? ⟨q, i, none⟩ = PB[i]? := fun i hi => (hbW.cell (p := ⟨q, i, none⟩) hql).trans (hby i hi)
  have hbA := hb0.trans (hbW.mono hb0.size)
  have hs0 := hb0.size
  clear hgA hlies hby hrow hb0 hbW
  go_wp2_with fail
  change Calls _ _ _ (w.alloc (.cells brd0 125)) _
  generalize w.alloc (.cells brd0 125) = wA at *
  refine hc.out.mono ?_
  rintro e1 w1 ⟨rfl, hg1, hM1⟩
  have st : UbSt w0 PB p pg q w.heap.size (posR (.pointer none) ⟨#[]⟩ 0 0 0 0) w1 := ⟨(hM1.1 pg (by omega) (by omega)).trans hrA, hg1, fun i hi => (World.cell?_of_block (a := ⟨q, i, none⟩) (hM1.1 q (by show q ≠ w.heap.size; omega) (by show q < wA.heap.size; omega))).trans (hdA i hi), hM1.2.2 _ _ (by omega) (by omega) hbA, by have := hM1.2.1; omega⟩
  clear hM1 hc hrA hdA hbA hg1 hbgr
  have hset := lay (fun (row : Array Value) (W : World) (h : UbSt w0 PB p pg q w.heap.size row W) (i : Nat) (v : Value) => h.set hq hbg hpg i v)
  generalize w.heap.size = bg at *
  clear hcapI hsA
  have stS := lay st
  have cS := (cell_of_row _ _ 0 _ _ _ st.row).trans rfl
  have fS := frozen_of_row w1 pg 0 _ _ st.row

  clear st
  go_upto_region 8 with fail
  have st : UbSt w0 PB p pg q bg (posR (.pointer (some ⟨bg, 0, none⟩)) ⟨#[]⟩ 0 0 0 0) _ := hset.out _ _ stS.out 0 _
  clear stS cS fS
  generalize w1.setCell ⟨pg, 0, none⟩ _ = w2 at *
  have stS := lay st
  have cS := (cell_of_row _ _ 3 _ _ _ st.row).trans rfl
  have fS := frozen_of_row w2 pg 3 _ _ st.row
  have e96 := (st.dat 96 (by decide)).trans d96
  clear st
  go_upto_region 9 with fail
  have st : UbSt w0 PB p pg q bg (posR (.pointer (some ⟨bg, 0, none⟩)) ⟨#[]⟩ ha 0 0 0) _ := hset.out _ _ stS.out 3 _
  clear stS cS fS
  generalize w2.setCell ⟨pg, 3, none⟩ _ = w3 at *
  have std := lay (st.below (drewN_below _ 1))
  clear st
  refine wp_region_held_drew (S := fun V : World => True) (by kernel_rfl) trivial (fun hHeld => ?_)
  refine wpAnyH_take (i := 0) (v := ?vub_1_0) rfl (by kernel_rfl) (by kernel_rfl) (by kernel_rfl) (fun _ _ _ h => h) (Or.inl ⟨by rfl, ?yub_1_0⟩) hHeld ?rub_1_0
  case yub_1_0 => (intro wq hSw; clear hSw; go_simp; try with_reducible rfl)
  try simp only [List.getElem_toArray, List.getElem_cons_zero, List.getElem_cons_succ, Act.put, List.setIfInBounds_toArray, List.set_cons_zero, List.set_cons_succ]
  refine wpAnyH_take (i := 1) (v := ?vub_2_1) rfl (by kernel_rfl) (by kernel_rfl) (by kernel_rfl) (fun _ _ _ h => h) (Or.inl ⟨by rfl, ?yub_2_1⟩) hHeld ?rub_2_1
  case yub_2_1 => (intro wq hSw; clear hSw; go_simp; try with_reducible rfl)
  try simp only [List.getElem_toArray, List.getElem_cons_zero, List.getElem_cons_succ, Act.put, List.setIfInBounds_toArray, List.set_cons_zero, List.set_cons_succ]
  refine wpAnyH_take (i := 2) (v := ?vub_3_2) rfl (by kernel_rfl) (by kernel_rfl) (by kernel_rfl) (fun _ _ _ h => h) (Or.inl ⟨by rfl, ?yub_3_2⟩) hHeld ?rub_3_2
  case yub_3_2 => (intro wq hSw; clear hSw; go_simp; try with_reducible rfl)
  try simp only [List.getElem_toArray, List.getElem_cons_zero, List.getElem_cons_succ, Act.put, List.setIfInBounds_toArray, List.set_cons_zero, List.set_cons_succ]
  refine wpAnyH_take (i := 3) (v := ?vub_4_3) rfl (by kernel_rfl) (by kernel_rfl) (by kernel_rfl) (fun _ _ _ h => h) (Or.inl ⟨by rfl, ?yub_4_3⟩) hHeld ?rub_4_3
  case yub_4_3 => (intro wq hSw; have hlo : (99 : Int) ≤ (cap : Int) := (by omega); have hne : ¬ cap = 97 := (by omega); clear hSw; go_simp; try with_reducible rfl)
  try simp only [List.getElem_toArray, List.getElem_cons_zero, List.getElem_cons_succ, Act.put, List.setIfInBounds_toArray, List.set_cons_zero, List.set_cons_succ]
  refine wpAnyH_ready (rs := [4]) (by kernel_rfl) (by simp) ?_
  refine AllReadyH.cons rfl (fun K hK => ?_) AllReadyH.nil
  try simp only [List.getElem_toArray, List.getElem_cons_zero, List.getElem_cons_succ, Act.put, List.setIfInBounds_toArray, List.set_cons_zero, List.set_cons_succ]
  try rw [if_pos (by rfl)]
  go_simp
  refine (hu16.out _ ((std.out.dat 97 (by decide)).trans d97) ((std.out.dat 98 (by decide)).trans d98)).mono ?_
  rintro e4 w4 ⟨rfl, hb4⟩
  rw [u16]
  go_wp2_with fail
  refine hK.out _ _ (trivial) (fun hHeld => ?_)
  clear hK K
  try simp only [List.getElem_toArray, List.getElem_cons_zero, List.getElem_cons_succ, Act.put, List.setIfInBounds_toArray, List.set_cons_zero, List.set_cons_succ]
  refine wpAnyH_take (i := 5) (v := ?vub_5_5) rfl (by kernel_rfl) (by kernel_rfl) (by kernel_rfl) (fun _ _ _ h => h) (Or.inl ⟨by rfl, ?yub_5_5⟩) hHeld ?rub_5_5
  case yub_5_5 => (intro wq hSw; clear hSw; go_simp; try with_reducible rfl)
  try simp only [List.getElem_toArray, List.getElem_cons_zero, List.getElem_cons_succ, Act.put, List.setIfInBounds_toArray, List.set_cons_zero, List.set_cons_succ]
  refine wpAnyH_take (i := 6) (v := ?vub_6_6) rfl (by kernel_rfl) (by kernel_rfl) (by kernel_rfl) (fun _ _ _ h => h) (Or.inl ⟨by rfl, ?yub_6_6⟩) hHeld ?rub_6_6
  case yub_6_6 => (intro wq hSw; clear hSw; go_simp; try with_reducible rfl)
  try simp only [List.getElem_toArray, List.getElem_cons_zero, List.getElem_cons_succ, Act.put, List.setIfInBounds_toArray, List.set_cons_zero, List.set_cons_succ]
  refine wpAnyH_take (i := 7) (v := ?vub_7_7) rfl (by kernel_rfl) (by kernel_rfl) (by kernel_rfl) (fun _ _ _ h => h) (Or.inl ⟨by rfl, ?yub_7_7⟩) hHeld ?rub_7_7
  case yub_7_7 => (intro wq hSw; clear hSw; go_simp; try with_reducible rfl)
  try simp only [List.getElem_toArray, List.getElem_cons_zero, List.getElem_cons_succ, Act.put, List.setIfInBounds_toArray, List.set_cons_zero, List.set_cons_succ]
  refine wpAnyH_ready (rs := [8]) (by kernel_rfl) (by simp) ?_
  refine AllReadyH.cons rfl (fun K hK => ?_) AllReadyH.nil
  try simp only [List.getElem_toArray, List.getElem_cons_zero, List.getElem_cons_succ, Act.put, List.setIfInBounds_toArray, List.set_cons_zero, List.set_cons_succ]
  rw [if_pos (by rfl)]
  have st4 := std.out.below hb4
  refine wp_store_one 3 _ _ rfl pg 4 (.int .i64 (fu : Int)) (by rfl) (by rfl) rfl rfl 75 _ st4.row (by simp [posR]) (by kernel_rfl) ?_
  have st : UbSt w0 PB p pg q bg (posR (.pointer (some ⟨bg, 0, none⟩)) ⟨#[]⟩ ha (fu : Int) 0 0) _ := hset.out _ _ st4 4 (.int .i64 (fu : Int))
  generalize w4.setCell ⟨pg, 4, none⟩ _ = w5 at *
  refine hK.out _ _ trivial (fun _ => ?_)
  clear hK K st4 hb4 std hHeld
  try simp only [List.getElem_toArray, List.getElem_cons_zero, List.getElem_cons_succ, Act.put, List.setIfInBounds_toArray, List.set_cons_zero, List.set_cons_succ]
  refine wpAnyH_done (by kernel_rfl) ?_ _
  have stS := lay st
  have cS := (cell_of_row _ _ 6 _ _ _ st.row).trans rfl
  have fS := frozen_of_row w5 pg 6 _ _ st.row
  have e99 := (st.dat 99 (by decide)).trans d99
  clear st
  go_upto_region 11 with fail
  have st : UbSt w0 PB p pg q bg (posR (.pointer (some ⟨bg, 0, none⟩)) ⟨#[]⟩ ha (fu : Int) 0 ep) _ := hset.out _ _ stS.out 6 _
  clear stS cS fS
  generalize w5.setCell ⟨pg, 6, none⟩ _ = w6 at *
  have e100 := (st.dat 100 (by decide)).trans d100
  go_upto_region 12 with fail
  clear e100
  have stS := lay st
  have cS := (cell_of_row _ _ 1 _ _ _ st.row).trans rfl
  have fS := frozen_of_row w6 pg 1 _ _ st.row

  clear st
  go_upto_region 13 with fail
  have st : UbSt w0 PB p pg q bg (posR (.pointer (some ⟨bg, 0, none⟩)) ⟨#[]⟩ ha (fu : Int) 0 ep) _ := hset.out _ _ stS.out 1 _
  clear stS cS fS
  generalize w6.setCell ⟨pg, 1, none⟩ _ = w7 at *
  have stS := lay st
  have cS := (cell_of_row _ _ 5 _ _ _ st.row).trans rfl
  have fS := frozen_of_row w7 pg 5 _ _ st.row

  clear st
  go_upto_region 14 with fail
  have st : UbSt w0 PB p pg q bg (posR (.pointer (some ⟨bg, 0, none⟩)) ⟨#[]⟩ ha (fu : Int) 1 ep) _ := hset.out _ _ stS.out 5 _
  clear stS cS fS
  generalize w7.setCell ⟨pg, 5, none⟩ _ = w8 at *
  have hf1 := hfl.1
  have hf4 := hfl.2.1
  have hf5 := hfl.2.2
  clear hfl
  generalize flagB ca tn ep = B at *
  have hf1s := lay hf1
  have hf4s := lay hf4
  have hf5s := lay hf5
  clear hf1 hf4 hf5 d96 d97 d98 d99 d100 w64h w64f w8e u16 hu16
  have hzs := lay (casTo_size ca 0)
  have stS := lay st
  have rS := st.row
  clear st
  go_upto_if 58 with fail
  go_cut [] (fun wx => UbSt w0 PB p pg q bg (posR (.pointer (some ⟨bg, 0, none⟩)) (casTo ca 1) ha (fu : Int) 1 ep) wx)
  case first =>
    have hcas := lay (show casTo ca 1 = if ca / 2 ^ 0 % 2 = 1 then casTo ca 0 ++ letB 0 else casTo ca 0 from rfl)
    by_cases hbit : ca / 2 ^ 0 % 2 = 1
    · have hb : bits .and .u8 B 1 = 1 := (hf1s.out 0 (by decide)).trans (if_pos hbit)
      have h := hcas.out
      rw [if_pos hbit] at h
      have hs := lay h
      clear h hbit hcas
      have c1 : w8.cell? ⟨pg, 1, none⟩ = some (.string (casTo ca 0)) := (cell_of_row _ _ 1 _ _ _ rS).trans rfl
      have f1 := frozen_of_row w8 pg 1 _ _ rS
      go_wp2_with fail
      all_goals first
        | (exfalso; have hz := hzs.out; omega)
        | skip
      go_meet
      rw [hs.out]
      exact hset.out _ _ stS.out 1 _
    · have hb : bits .and .u8 B 1 = 0 := (hf1s.out 0 (by decide)).trans (if_neg hbit)
      have h := hcas.out
      rw [if_neg hbit] at h
      have hs := lay h
      clear h hbit hcas
      go_wp2_with fail
      go_meet
      rw [hs.out]
      exact stS.out
  case rest =>
    have st := hcut
    clear hzs rS stS hcut
    have hzs := lay (casTo_size ca 1)
    have stS := lay st
    have rS := st.row
    clear st
    go_upto_if 68 with fail
    go_cut [] (fun wx => UbSt w0 PB p pg q bg (posR (.pointer (some ⟨bg, 0, none⟩)) (casTo ca 2) ha (fu : Int) 1 ep) wx)
    case first =>
      have hcas := lay (show casTo ca 2 = if ca / 2 ^ 1 % 2 = 1 then casTo ca 1 ++ letB 1 else casTo ca 1 from rfl)
      by_cases hbit : ca / 2 ^ 1 % 2 = 1
      · have hb : bits .and .u8 B 2 = 2 := (hf1s.out 1 (by decide)).trans (if_pos hbit)
        have h := hcas.out
        rw [if_pos hbit] at h
        have hs := lay h
        clear h hbit hcas
        have c1 : wc.cell? ⟨pg, 1, none⟩ = some (.string (casTo ca 1)) := (cell_of_row _ _ 1 _ _ _ rS).trans rfl
        have f1 := frozen_of_row wc pg 1 _ _ rS
        go_wp2_with fail
        all_goals first
          | (exfalso; have hz := hzs.out; omega)
          | skip
        go_meet
        rw [hs.out]
        exact hset.out _ _ stS.out 1 _
      · have hb : bits .and .u8 B 2 = 0 := (hf1s.out 1 (by decide)).trans (if_neg hbit)
        have h := hcas.out
        rw [if_neg hbit] at h
        have hs := lay h
        clear h hbit hcas
        go_wp2_with fail
        go_meet
        rw [hs.out]
        exact stS.out
    case rest =>
      have st := hcut
      clear hzs rS stS hcut
      have hzs := lay (casTo_size ca 2)
      have stS := lay st
      have rS := st.row
      clear st
      go_upto_if 78 with fail
      go_cut [] (fun wx => UbSt w0 PB p pg q bg (posR (.pointer (some ⟨bg, 0, none⟩)) (casTo ca 3) ha (fu : Int) 1 ep) wx)
      case first =>
        have hcas := lay (show casTo ca 3 = if ca / 2 ^ 2 % 2 = 1 then casTo ca 2 ++ letB 2 else casTo ca 2 from rfl)
        by_cases hbit : ca / 2 ^ 2 % 2 = 1
        · have hb : bits .and .u8 B 4 = 4 := (hf1s.out 2 (by decide)).trans (if_pos hbit)
          have h := hcas.out
          rw [if_pos hbit] at h
          have hs := lay h
          clear h hbit hcas
          have c1 : wc.cell? ⟨pg, 1, none⟩ = some (.string (casTo ca 2)) := (cell_of_row _ _ 1 _ _ _ rS).trans rfl
          have f1 := frozen_of_row wc pg 1 _ _ rS
          go_wp2_with fail
          all_goals first
            | (exfalso; have hz := hzs.out; omega)
            | skip
          go_meet
          rw [hs.out]
          exact hset.out _ _ stS.out 1 _
        · have hb : bits .and .u8 B 4 = 0 := (hf1s.out 2 (by decide)).trans (if_neg hbit)
          have h := hcas.out
          rw [if_neg hbit] at h
          have hs := lay h
          clear h hbit hcas
          go_wp2_with fail
          go_meet
          rw [hs.out]
          exact stS.out
      case rest =>
        have st := hcut
        clear hzs rS stS hcut
        have hzs := lay (casTo_size ca 3)
        have stS := lay st
        have rS := st.row
        clear st
        go_upto_if 88 with fail
        go_cut [] (fun wx => UbSt w0 PB p pg q bg (posR (.pointer (some ⟨bg, 0, none⟩)) (casTo ca 4) ha (fu : Int) 1 ep) wx)
        case first =>
          have hcas := lay (show casTo ca 4 = if ca / 2 ^ 3 % 2 = 1 then casTo ca 3 ++ letB 3 else casTo ca 3 from rfl)
          by_cases hbit : ca / 2 ^ 3 % 2 = 1
          · have hb : bits .and .u8 B 8 = 8 := (hf1s.out 3 (by decide)).trans (if_pos hbit)
            have h := hcas.out
            rw [if_pos hbit] at h
            have hs := lay h
            clear h hbit hcas
            have c1 : wc.cell? ⟨pg, 1, none⟩ = some (.string (casTo ca 3)) := (cell_of_row _ _ 1 _ _ _ rS).trans rfl
            have f1 := frozen_of_row wc pg 1 _ _ rS
            go_wp2_with fail
            all_goals first
              | (exfalso; have hz := hzs.out; omega)
              | skip
            go_meet
            rw [hs.out]
            exact hset.out _ _ stS.out 1 _
          · have hb : bits .and .u8 B 8 = 0 := (hf1s.out 3 (by decide)).trans (if_neg hbit)
            have h := hcas.out
            rw [if_neg hbit] at h
            have hs := lay h
            clear h hbit hcas
            go_wp2_with fail
            go_meet
            rw [hs.out]
            exact stS.out
        case rest =>
          have st := hcut
          clear hzs rS stS hcut
          have c1 : wc.cell? ⟨pg, 1, none⟩ = some (.string (casTo ca 4)) := (cell_of_row _ _ 1 _ _ _ st.row).trans rfl
          have stS := lay st
          have rS := st.row
          clear st
          go_upto_if 100 with fail
          go_cut [] (fun wx => UbSt w0 PB p pg q bg (posR (.pointer (some ⟨bg, 0, none⟩)) (casText ca) ha (fu : Int) 1 ep) wx)
          case first =>
            cases hem : (casTo ca 4).toList.isEmpty with
            | true =>
              have hs := lay (casText_mt ca hem)
              clear hem
              have f1 := frozen_of_row wc pg 1 _ _ rS
              go_wp2_with fail
              go_meet
              rw [hs.out]
              exact hset.out _ _ stS.out 1 _
            | false =>
              have hs := lay (casText_some ca hem)
              clear hem
              go_wp2_with fail
              go_meet
              rw [hs.out]
              exact stS.out
          case rest =>
            have st := hcut
            clear c1 rS stS hcut
            have stS := lay st
            have rS := st.row
            clear st
            go_upto_if 106 with fail
            go_cut [] (fun wx => UbSt w0 PB p pg q bg (posR (.pointer (some ⟨bg, 0, none⟩)) (casText ca) ha (fu : Int) ((tn : Int) + 1) ep) wx)
            case first =>
              rcases (show tn = 0 ∨ tn = 1 by omega) with rfl | rfl
              · have hb : bits .and .u8 B 16 = 0 := hf4s.out.trans (if_neg (by decide))
                go_wp2_with fail
                go_meet
                exact stS.out
              · have hb : bits .and .u8 B 16 = 16 := hf4s.out.trans (if_pos (by decide))
                have c5 : wc.cell? ⟨pg, 5, none⟩ = some (.int .i8 1) := (cell_of_row _ _ 5 _ _ _ rS).trans rfl
                have f5 := frozen_of_row wc pg 5 _ _ rS
                go_wp2_with fail
                go_meet
                exact hset.out _ _ stS.out 5 _
            case rest =>
              have st := hcut
              clear rS stS hcut
              have stS := lay st
              have rS := st.row
              clear st
              go_upto_if 112 with fail
              go_cut [] (fun wx => UbSt w0 PB p pg q bg (posR (.pointer (some ⟨bg, 0, none⟩)) (casText ca) ha (fu : Int) ((tn : Int) + 1) ep) wx)
              case first =>
                by_cases he : ep = -1
                · have hb : bits .and .u8 B 32 = 0 := hf5s.out.trans (if_pos he)
                  have c6 : wc.cell? ⟨pg, 6, none⟩ = some (.int .i8 ep) := (cell_of_row _ _ 6 _ _ _ rS).trans rfl
                  have f6 := frozen_of_row wc pg 6 _ _ rS
                  go_wp2_with fail
                  go_meet
                  have h := hset.out _ _ stS.out 6 (.int .i8 ep)
                  rw [he] at h ⊢
                  exact h
                · have hb : bits .and .u8 B 32 = 32 := hf5s.out.trans (if_neg he)
                  clear he
                  go_wp2_with fail
                  go_meet
                  exact stS.out
              case rest =>
                have st := hcut
                clear rS stS hcut
                have hE : EngAt p tn pg bg wc := ⟨(cell_of_row _ _ 0 _ _ _ st.row).trans rfl, (cell_of_row _ _ 5 _ _ _ st.row).trans rfl, st.bd, hT.below st.bel (Nat.le_refl _), hA.below st.bel⟩
                have hi := hic.out bg wc hE (Array.getElem?_eq_some_iff.1 st.row).1
                rw [hcb] at hi
                have hi := lay hi
                have stS := lay st
                clear st hE hic hf1s hf4s hf5s
                go_wp2_with fail
                refine hi.out.mono ?_
                rintro e9 w9 ⟨rfl, hb9⟩
                have st9 := stS.out.below hb9
                have st9s := lay st9
                have c7 : w9.cell? ⟨pg, 7, none⟩ = some (.bool false) := (cell_of_row _ _ 7 _ _ _ st9.row).trans rfl
                have f7 := frozen_of_row w9 pg 7 _ _ st9.row
                clear st9 hi stS hb9
                go_wp2_with fail
                go_ret
                have sF := hset.out _ _ st9s.out 7 (.bool (checkedB p tn))
                refine ⟨rfl, ⟨bg, ?_, ?_, ?_, ?_, ?_, ?_, sF.bd, (Array.getElem?_eq_some_iff.1 sF.row).1⟩, sF.bel⟩
                · exact (cell_of_row _ _ 0 _ _ _ sF.row).trans rfl
                · rw [h65s.out]; exact (cell_of_row _ _ 1 _ _ _ sF.row).trans rfl
                · rw [h67s.out]; exact (cell_of_row _ _ 3 _ _ _ sF.row).trans rfl
                · rw [h68s.out]; exact (cell_of_row _ _ 4 _ _ _ sF.row).trans rfl
                · exact (cell_of_row _ _ 5 _ _ _ sF.row).trans rfl
                · rw [h66s.out]; exact (cell_of_row _ _ 6 _ _ _ sF.row).trans rfl
end Go.Proofs.YtplkcmlpomjojaaGreatDoor
