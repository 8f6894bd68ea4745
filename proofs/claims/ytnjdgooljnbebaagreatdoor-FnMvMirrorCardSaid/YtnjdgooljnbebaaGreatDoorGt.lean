/- laws.mvTurned: a position seen from the other side. For every sound position.
laws.mvSame of two lists that are the same in another order, each move once: yes. For every such two lists of at most 1000 moves.
FnMvMirror: the law. For every position. -/
import Derived.Test.YtnjdgooljnbebaaGreatDoorG0
import Derived.Test.YtnjdgooljnbebaaGreatDoorGs
import Derived.Test.YtnjdgooljnbebaaGreatDoorGn
import Derived.Test.YtnjdgooljnbebaaGreatDoorGm
namespace Go.Proofs.YtnjdgooljnbebaaGreatDoor
open Go Go.RowKit
open List renaming getElem_toArray → zA, getElem_cons_zero → zB, getElem_cons_succ → zC, setIfInBounds_toArray → zD, set_cons_zero → zE, set_cons_succ → zF
set_option maxHeartbeats 8000000
set_option linter.unusedSimpArgs false
set_option linter.unusedVariables false
set_option maxRecDepth 100000

def turnTo (p : List Int) : Nat → List Int
  | 0 => p
  | n + 1 => (turnTo p n).set (flN n) (tz (p.getD n 0))
theorem turnTo_len (p : List Int) : ∀ n, (turnTo p n).length = p.length
  | 0 => rfl
  | n + 1 => by rw [turnTo, List.length_set, turnTo_len p n]
theorem turnTo_at (p : List Int) (hl : p.length = 69) : ∀ n, n ≤ 64 → ∀ s, s < n → (turnTo p n).getD (flN s) 0 = tz (p.getD s 0)
  | 0, _, s, h => by omega
  | n + 1, hn, s, h => by
    rw [turnTo, getD_set]
    by_cases e : s = n
    · subst e
      rw [if_pos ⟨rfl, by rw [turnTo_len, hl]; have := flN_lt s (by omega); omega⟩]
    · rw [if_neg (fun x => (fl_ne n s (by omega) (by omega)).2 (fun y => e y.symm) x.1)]
      exact turnTo_at p hl n (by omega) s (by omega)
theorem turnTo_far (p : List Int) (j : Nat) (hj : 64 ≤ j) : ∀ n, n ≤ 64 → (turnTo p n).getD j 0 = p.getD j 0
  | 0, _ => rfl
  | n + 1, hn => by
    rw [turnTo, getD_set, if_neg (fun x => by have := flN_lt n (by omega); omega)]
    exact turnTo_far p j hj n (by omega)
def casT (c : Int) : Int := c / 4 + 4 * (c % 4)
def turnA (p : List Int) : List Int := (turnTo p 64).set 64 (1 - p.getD 64 0)
def turnC (p : List Int) : List Int := (turnA p).set 65 (casT (p.getD 65 0))
/-- A position seen from the other side. -/
def turnL (p : List Int) : List Int := if p.getD 66 0 < 0 then turnC p else (turnC p).set 66 (fl (p.getD 66 0))
theorem turnL_len (p : List Int) (hl : p.length = 69) : (turnL p).length = 69 := by
  unfold turnL turnC turnA
  split <;> simp [turnTo_len, hl]
theorem turn_mir (p : List Int) (hl : p.length = 69) : Mir p (turnL p) := by
  have hA : (turnA p).length = 69 := by simp [turnA, turnTo_len, hl]
  have hC : (turnC p).length = 69 := by simp [turnC, hA]
  have off : ∀ j, j ≠ 66 → (turnL p).getD j 0 = (turnC p).getD j 0 := by
    intro j hj
    unfold turnL
    split
    · rfl
    · rw [set_off _ _ _ _ (by omega)]
  refine ⟨turnL_len p hl, ?_, ?_, ?_, ?_, ?_, ?_⟩
  · intro s hs
    have := flN_lt s hs
    rw [off _ (by omega)]
    unfold turnC turnA
    rw [set_off _ _ _ _ (by omega), set_off _ _ _ _ (by omega), turnTo_at p hl 64 (Nat.le_refl _) s hs]
  · rw [off _ (by decide)]
    unfold turnC
    rw [set_off _ _ _ _ (by decide)]
    unfold turnA
    rw [set_on _ _ _ (by rw [turnTo_len, hl]; decide)]
  · rw [off _ (by decide)]
    unfold turnC
    rw [set_on _ _ _ (by rw [hA]; decide)]
    rfl
  · unfold turnL
    split
    · unfold turnC turnA
      rw [set_off _ _ _ _ (by decide), set_off _ _ _ _ (by decide), turnTo_far p 66 (by decide) 64 (Nat.le_refl _)]
    · rw [set_on _ _ _ (by rw [hC]; decide)]
  · rw [off _ (by decide)]
    unfold turnC turnA
    rw [set_off _ _ _ _ (by decide), set_off _ _ _ _ (by decide), turnTo_far p 67 (by decide) 64 (Nat.le_refl _)]
  · rw [off _ (by decide)]
    unfold turnC turnA
    rw [set_off _ _ _ _ (by decide), set_off _ _ _ _ (by decide), turnTo_far p 68 (by decide) 64 (Nat.le_refl _)]
def posZ : List Int := List.replicate 69 0
structure TuW (p L : List Int) (b g : Nat) (w wx : World) : Prop where
  pos : PosAt p b wx
  res : PosAt posZ (b + 1) wx
  out : PosAt L g wx
  bel : Below b w wx
  ap : b + 1 < g
theorem TuW.set {p L : List Int} {b g : Nat} {w wx : World} (h : TuW p L b g w wx) (i : Nat) (z : Int) : TuW p (L.set i z) b g w (wx.setCell ⟨g, i, none⟩ (.int .i64 z)) := by
  obtain ⟨h1, h2, h3, h4, h5⟩ := h
  refine ⟨(heap_setCell_other wx ⟨g, i, none⟩ b _ (by show b ≠ g; omega)).trans h1, (heap_setCell_other wx ⟨g, i, none⟩ (b + 1) _ (by show b + 1 ≠ g; omega)).trans h2, ?_, h4.setCell (p := ⟨g, i, none⟩) (by show b ≤ g; omega) _, h5⟩
  exact row_set h3 i z
theorem xor_56 : ∀ k < 64, bits .xor .i64 ((k : Nat) : Int) 56 = ((flN k : Nat) : Int) := by decide
theorem cas_bits : ∀ c < 16, bits .or .i64 (((c : Nat) : Int) / 4) (wrap64 (bits .and .i64 ((c : Nat) : Int) 3 * 4)) = casT ((c : Nat) : Int) := by decide +kernel
theorem rs_turned (p : List Int) (tn : Nat) (hs : Sound p tn) (w : World) :
    Calls Tryz.prog 13 #[.agg (ints p)] w fun e w' => e = .returned (.agg (ints (turnL p))) ∧ Below w.heap.size w w' := by
  have hl := hs.pos.len
  have l0 : posZ.length = 69 := by simp [posZ]
  have htn := hs.one
  have hpw := lay hs.pos
  have hTs := lay hs.turn
  have hca := lay (And.intro hs.ca0 hs.ca1)
  have hep := lay hs.ep
  have hBW : Below w.heap.size w ((w.alloc (.cells (ints p) 24)).alloc (.cells (ints posZ) 24)) := ((Below.refl _ _).alloc (Nat.le_refl _) _).alloc (by simp) _
  have hrow : ((w.alloc (.cells (ints p) 24)).alloc (.cells (ints posZ) 24)).heap[w.heap.size]? = some (.cells (ints p) 24 (0, 0)) := (heap_alloc_old _ _ (by simp)).trans (heap_alloc_new w _)
  have hres : ((w.alloc (.cells (ints p) 24)).alloc (.cells (ints posZ) 24)).heap[w.heap.size + 1]? = some (.cells (ints posZ) 24 (0, 0)) := by
    have := heap_alloc_new (w.alloc (.cells (ints p) 24)) (.cells (ints posZ) 24)
    rwa [World.size_alloc] at this
  have hWz : Shut (w.heap.size + 1 < ((w.alloc (.cells (ints p) 24)).alloc (.cells (ints posZ) 24)).heap.size) := by
    show _ < _
    simp
  have hBs := lay hBW
  have hrs := lay hrow
  have hes := lay hres
  clear hs hBW hres
  go_enter Tryz.func13, Tryz.ntmps13
  go_upto_region 1 with (fail)
  change Code.wp _ _ _ _ ((w.alloc (.cells (ints p) 24)).alloc (.cells (ints posZ) 24))
  generalize (w.alloc (.cells (ints p) 24)).alloc (.cells (ints posZ) 24) = W at *
  go_upto_region 2 with (first
    | ((with_reducible refine at_load_row hrow Tryz.underlying24 rfl ?_ ?_ ?_); (rw [ints_size, hl]; kernel_rfl); rfl)
    | ((with_reducible refine at_new_row (ints p) ?_ ?_ ?_ ?_ ?_ ?_); (rw [ints_size, hl]; kernel_rfl); (rw [ints_size, hl]; kernel_rfl); exact ints_one _; rfl; rfl; intro W2 rO hC2))
  have hW : TuW p p w.heap.size W.heap.size w W2 := ⟨(hC2.block _ (by have := hWz.out; omega)).trans hrs.out, (hC2.block _ hWz.out).trans hes.out, rO, hBs.out.trans (hC2.mono hBs.out.size), hWz.out⟩
  have hWs := lay hW
  clear hrow rO hC2 hW
  generalize W.heap.size = g at *
  go_wp2_with fail
  go_loopw [4, 5] (fun i _ wx => ∃ k : Nat, k ≤ 64 ∧ i = .int .i64 (k : Int) ∧ TuW p (turnTo p k) w.heap.size g w wx) (fun i _ _ => (64 - intOf i).toNat)
  case atStart => exact ⟨0, by omega, rfl, hWs.out⟩
  case round =>
    obtain ⟨k, hk, rfl, hW⟩ := hrel
    have hWk := lay hW
    by_cases hlt : k < 64
    · have cx : wr.cell? ⟨w.heap.size, k, none⟩ = some (.int .i64 (p.getD k 0)) := hW.pos.cell k (by omega)
      have hfl := flN_lt k hlt
      have hcf := hW.out.cell (flN k) (by rw [turnTo_len, hl]; omega)
      have hff := frozen_of_row wr g (flN k) _ _ hW.out
      have hxor := xor_56 k hlt
      have hset : Shut (TuW p (turnTo p (k + 1)) w.heap.size g w (wr.setCell ⟨g, flN k, none⟩ (.int .i64 (tz (p.getD k 0))))) := hW.set (flN k) (tz (p.getD k 0))
      have hx0 := hpw.out.lo k hlt
      have hx1 := hpw.out.hi k hlt
      have htz : Shut (tz (p.getD k 0) = if p.getD k 0 > 6 then p.getD k 0 - 6 else if p.getD k 0 > 0 then p.getD k 0 + 6 else p.getD k 0) := rfl
      clear hW
      generalize p.getD k 0 = x at *
      generalize flN k = fk at *
      by_cases h6 : x > 6
      · have ht := htz.out
        rw [if_pos h6] at ht
        have hn := hset.out
        rw [ht] at hn
        have hns := lay hn
        clear ht htz hset hn
        go_wp2_with fail
        go_roundw
        case rel => exact ⟨k + 1, by omega, by go_num, hns.out⟩
        case measure => simp [intOf]; omega
      · by_cases h0 : x > 0
        · have ht := htz.out
          rw [if_neg h6, if_pos h0] at ht
          have hn := hset.out
          rw [ht] at hn
          have hns := lay hn
          clear ht htz hset hn
          go_wp2_with fail
          go_roundw
          case rel => exact ⟨k + 1, by omega, by go_num, hns.out⟩
          case measure => simp [intOf]; omega
        · have ht := htz.out
          rw [if_neg h6, if_neg h0] at ht
          have hn := hset.out
          rw [ht] at hn
          have hns := lay hn
          clear ht htz hset hn
          go_wp2_with fail
          go_roundw
          case rel => exact ⟨k + 1, by omega, by go_num, hns.out⟩
          case measure => simp [intOf]; omega
    · obtain rfl : k = 64 := by omega
      have c64 := hW.pos.cell 64 (by omega)
      rw [hTs.out] at c64
      have o64 := hW.out.cell 64 (by rw [turnTo_len, hl]; omega)
      have f64 := frozen_of_row wr g 64 _ _ hW.out
      have hA : Shut (TuW p (turnA p) w.heap.size g w (wr.setCell ⟨g, 64, none⟩ (.int .i64 (1 - (tn : Int))))) := by
        have h := hW.set 64 (1 - (tn : Int))
        unfold turnA
        rw [hTs.out]
        exact h
      clear hW
      go_upto_region 12 with (fail)
      clear c64 o64 f64
      generalize wr.setCell ⟨g, 64, none⟩ (.int .i64 (1 - (tn : Int))) = w2 at *
      have c65 := hA.out.pos.cell 65 (by omega)
      have o65 := hA.out.out.cell 65 (by simp [turnA, turnTo_len, hl])
      have f65 := frozen_of_row w2 g 65 _ _ hA.out.out
      obtain ⟨ca, hcc⟩ : ∃ c, p.getD 65 0 = c := ⟨_, rfl⟩
      rw [hcc] at c65
      have hccs := lay hcc
      have hc0 : 0 ≤ ca := by rw [← hcc]; exact hca.out.1
      have hc1 : ca ≤ 15 := by rw [← hcc]; exact hca.out.2
      clear hcc
      go_upto_region 13 with (fail)
      have hcb : Shut (bits .or .i64 (ca / 4) (wrap64 (bits .and .i64 ca 3 * 4)) = casT ca) := by
        show _ = _
        have := cas_bits ca.toNat (by omega)
        rwa [Int.toNat_of_nonneg hc0] at this
      have hC : Shut (TuW p (turnC p) w.heap.size g w (w2.setCell ⟨g, 65, none⟩ (.int .i64 (bits .or .i64 (ca / 4) (wrap64 (bits .and .i64 ca 3 * 4)))))) := by
        have h := hA.out.set 65 (casT ca)
        rw [hcb.out]
        unfold turnC
        rw [hccs.out]
        exact h
      clear c65 o65 f65
      generalize w2.setCell ⟨g, 65, none⟩ (.int .i64 (bits .or .i64 (ca / 4) (wrap64 (bits .and .i64 ca 3 * 4)))) = w3 at *
      have c66 := hC.out.pos.cell 66 (by omega)
      have hlC : (turnC p).length = 69 := by simp [turnC, turnA, turnTo_len, hl]
      have o66 := hC.out.out.cell 66 (by omega)
      have f66 := frozen_of_row w3 g 66 _ _ hC.out.out
      have hfinal : Shut (turnL p = if p.getD 66 0 < 0 then turnC p else (turnC p).set 66 (fl (p.getD 66 0))) := rfl
      have he0 := hep.out.1
      have he1 := hep.out.2
      have hlT := turnL_len p hl
      generalize p.getD 66 0 = ep at *
      clear hlt hk
      by_cases hp : 0 ≤ ep
      · have hT := hfinal.out
        rw [if_neg (by omega)] at hT
        have hD : Shut (TuW p (turnL p) w.heap.size g w (w3.setCell ⟨g, 66, none⟩ (.int .i64 (fl ep)))) := by
          have h := hC.out.set 66 (fl ep)
          rw [hT]
          exact h
        have hx : bits .xor .i64 ep 56 = fl ep := by
          have := xor_56 ep.toNat (by omega)
          rw [← fl_nat _ (by omega), Int.toNat_of_nonneg hp] at this
          exact this
        clear hT hfinal
        go_upto_region 15 with (fail)
        clear c66 o66 f66 hx
        generalize w3.setCell ⟨g, 66, none⟩ (.int .i64 (fl ep)) = w4 at *
        have hoU : w4.heap[g]? = some (.cells (ints (turnL p)) 24 (0, 0)) := hD.out.out
        have hrU : w4.heap[w.heap.size + 1]? = some (.cells (ints posZ) 24 (0, 0)) := hD.out.res
        have hB := hD.out.bel
        obtain ⟨q, hq⟩ : ∃ q, turnL p = q := ⟨_, rfl⟩
        rw [hq] at hoU hlT
        have hqs := lay hq
        clear hq
        go_wp2_with (first
          | ((with_reducible refine at_load_row hoU Tryz.underlying24 rfl ?_ ?_ ?_); (rw [ints_size, hlT]; kernel_rfl); rfl)
          | ((with_reducible refine at_store_row (ints q) hrU ?_ ?_ ?_ ?_ ?_ ?_); (rw [ints_size, hlT]; kernel_rfl); (rw [ints_size, ints_size, hlT, l0]); exact ints_one _; rfl; rfl))
        (try simp only [Exit.inBlock, Exit.then])
        exact bodyPost_ret (results_cell1 rfl _ _ (w.heap.size + 1) 24 (ints q) (0, 0) _ rfl (setRow_heap _ _ _ (ints q) _ _ hrU) Tryz.underlying24 rfl (by rw [ints_size, hlT]; kernel_rfl)) rfl ⟨by rw [hqs.out], below_setRow hB (by omega) _⟩
      · have hT := hfinal.out
        rw [if_pos (by omega)] at hT
        have hD : Shut (TuW p (turnL p) w.heap.size g w w3) := by
          rw [hT]
          exact hC.out
        clear hT hfinal
        go_upto_region 15 with (fail)
        clear c66 o66 f66
        have hoU : w3.heap[g]? = some (.cells (ints (turnL p)) 24 (0, 0)) := hD.out.out
        have hrU : w3.heap[w.heap.size + 1]? = some (.cells (ints posZ) 24 (0, 0)) := hD.out.res
        have hB := hD.out.bel
        obtain ⟨q, hq⟩ : ∃ q, turnL p = q := ⟨_, rfl⟩
        rw [hq] at hoU hlT
        have hqs := lay hq
        clear hq
        go_wp2_with (first
          | ((with_reducible refine at_load_row hoU Tryz.underlying24 rfl ?_ ?_ ?_); (rw [ints_size, hlT]; kernel_rfl); rfl)
          | ((with_reducible refine at_store_row (ints q) hrU ?_ ?_ ?_ ?_ ?_ ?_); (rw [ints_size, hlT]; kernel_rfl); (rw [ints_size, ints_size, hlT, l0]); exact ints_one _; rfl; rfl))
        (try simp only [Exit.inBlock, Exit.then])
        exact bodyPost_ret (results_cell1 rfl _ _ (w.heap.size + 1) 24 (ints q) (0, 0) _ rfl (setRow_heap _ _ _ (ints q) _ _ hrU) Tryz.underlying24 rfl (by rw [ints_size, hlT]; kernel_rfl)) rfl ⟨by rw [hqs.out], below_setRow hB (by omega) _⟩
end Go.Proofs.YtnjdgooljnbebaaGreatDoor
namespace Go.Proofs.YtnjdgooljnbebaaGreatDoor
open Go Go.RowKit
open List renaming getElem_toArray → zA, getElem_cons_zero → zB, getElem_cons_succ → zC, setIfInBounds_toArray → zD, set_cons_zero → zE, set_cons_succ → zF
set_option maxHeartbeats 8000000
set_option linter.unusedSimpArgs false
set_option linter.unusedVariables false
set_option maxRecDepth 100000

def z0 : Mv := ⟨0, 0, 0⟩
theorem nodup_at (l : List Mv) (h : l.Nodup) (i j : Nat) (hi : i < l.length) (hj : j < l.length) (e : l.getD i z0 = l.getD j z0) : i = j := by
  have h1 : l[i]? = l[j]? := by
    simp [hi, hj] at e ⊢
    exact e
  exact (List.getElem?_inj hi h).1 h1
theorem perm_at (l l' : List Mv) (h : l.Nodup) (hp : l'.Perm l) (i : Nat) (hi : i < l.length) : ∃ t, t < l'.length ∧ ∀ j, j < l'.length → (l'.getD j z0 = l.getD i z0 ↔ j = t) := by
  have hm : l.getD i z0 ∈ l' := hp.mem_iff.2 (by simp [hi])
  obtain ⟨t, ht⟩ := List.mem_iff_getElem?.1 hm
  have htl := (List.getElem?_eq_some_iff.1 ht).1
  have hte : l'.getD t z0 = l.getD i z0 := by rw [List.getD_eq_getElem?_getD, ht]; rfl
  refine ⟨t, htl, fun j hj => ⟨fun e => ?_, fun e => by rw [e, hte]⟩⟩
  exact nodup_at l' (hp.nodup_iff.2 h) j t hj htl (e.trans hte.symm)
def cz (t j : Nat) : Int := if t < j then 1 else 0
theorem own_mvR {w : World} {base n c g : Nat} {l : List Mv} (h : ownMvs w base (.slice (some ⟨g, 0, none⟩) n c) l) (V : World) (hV : Below w.heap.size w V) (k : Nat) (hk : k < l.length) : V.rangeAt g (k * 3) ((mvL (l.getD k z0)).map (Value.int .i64)) := by
  have h1 := (own_row (own_next h hV)).range k hk
  rw [Nat.mul_comm] at h1
  exact h1
theorem ru_same (l l' : List Mv) (hn : l.Nodup) (hp : l'.Perm l) (h218 : l.length ≤ 1000) (b1 b2 : Nat) (v1 v2 : Value) (w : World) (ho1 : ownMvs w b1 v1 l) (ho2 : ownMvs w b2 v2 l') :
    Calls Tryz.prog 14 #[v1, v2] w fun e w' => e = .returned (.bool true) ∧ Below w.heap.size w w' := by
  obtain ⟨a1, c1, rfl, hf1⟩ := mvs_slice ho1
  obtain ⟨a2, c2, rfl, hf2⟩ := mvs_slice ho2
  have hlen : l'.length = l.length := hp.length_eq
  rw [hlen]
  have hll := lay hlen
  have hnd := lay (nodup_at l hn)
  have hpm := lay (perm_at l l' hn hp)
  have ho1 := lay ho1
  have ho2 := lay ho2
  have hf1 := lay hf1
  have hf2 := lay hf2
  clear hn hp hlen
  go_enter Tryz.func14, Tryz.ntmps14
  go_wp2_with fail
  go_loopw [5, 6, 7] (fun i _ _ wr => ∃ k : Nat, k ≤ l.length ∧ i = .int .i64 (k : Int) ∧ Below w.heap.size w wr) (fun i _ _ _ => (l.length - (intOf i).toNat))
  case atStart => exact ⟨0, by omega, rfl, Below.refl _ _⟩
  case round =>
    obtain ⟨k, hk, rfl, hb⟩ := hrel
    by_cases hlt : k < l.length
    · obtain ⟨g1, rfl⟩ := hf1.out (by omega)
      obtain ⟨g2, rfl⟩ := hf2.out (by have := hll.out; omega)
      obtain ⟨t, htl, hte⟩ := hpm.out k hlt
      have hr1 := lay (own_mvR ho1.out)
      have hr2 := lay (own_mvR ho2.out)
      have htes := lay hte
      have hbs := lay hb
      have hts : Shut (t < l.length) := by show _ < _; have := hll.out; omega
      have hltz : (k : Int) < (l.length : Int) := by omega
      clear hte htl hb
      go_wp2_with fail
      go_loopw [6, 7] (fun c i wr => ∃ j : Nat, j ≤ l.length ∧ i = .int .i64 (j : Int) ∧ c = .int .i64 (cz t j) ∧ Below w.heap.size w wr) (fun _ i _ => (l.length - (intOf i).toNat))
      case atStart => exact ⟨0, by omega, rfl, by unfold cz; rw [if_neg (by omega)], hbs.out⟩
      case round =>
        obtain ⟨j, hj, rfl, rfl, hb⟩ := hrel
        by_cases hjt : j < l.length
        · have hA : Shut (∀ V, Below w.heap.size w V → V.rangeAt g1 (j * 3) ((mvL (l.getD j z0)).map (Value.int .i64))) := fun V hV => hr1.out V hV j hjt
          have hB : Shut (∀ V, Below w.heap.size w V → V.rangeAt g1 (k * 3) ((mvL (l.getD k z0)).map (Value.int .i64))) := fun V hV => hr1.out V hV k hlt
          have hC : Shut (∀ V, Below w.heap.size w V → V.rangeAt g2 (j * 3) ((mvL (l'.getD j z0)).map (Value.int .i64))) := fun V hV => hr2.out V hV j (by have := hll.out; omega)
          have hxy : Shut (l.getD j z0 = l.getD k z0 ↔ j = k) := ⟨fun e => hnd.out j k hjt hlt e, fun e => by rw [e]⟩
          have hzy : Shut (l'.getD j z0 = l.getD k z0 ↔ j = t) := htes.out j (by have := hll.out; omega)
          generalize l.getD j z0 = x at *
          generalize l.getD k z0 = y at *
          generalize l'.getD j z0 = z at *
          have hbs2 := lay hb
          have hjz : (j : Int) < (l.length : Int) := by omega
          have hcz : Shut (cz t (j + 1) = if z = y then cz t j + 1 else cz t j) := by
            show _ = _
            unfold cz
            by_cases e : z = y
            · have := hzy.out.1 e
              rw [if_pos e, if_pos (by omega), if_neg (by omega)]
              rfl
            · rw [if_neg e]
              have : ¬ j = t := fun h => e (hzy.out.2 h)
              by_cases h1 : t < j
              · rw [if_pos h1, if_pos (by omega)]
              · rw [if_neg h1, if_neg (by omega)]
          have hc01 : 0 ≤ cz t j ∧ cz t j ≤ 1 := by unfold cz; split <;> omega
          obtain ⟨hc0, hc1⟩ := hc01
          have hE1 : ∀ V, (Op.equalIn 10000 35 (.agg (List.map (Value.int .i64) (mvL x)).toArray) (.agg (List.map (Value.int .i64) (mvL y)).toArray)).run Tryz.prog V = .ok (decide (x = y)) V := fun V => ye_eq x y V
          have hE2 : ∀ V, (Op.equalIn 10000 35 (.agg (List.map (Value.int .i64) (mvL z)).toArray) (.agg (List.map (Value.int .i64) (mvL y)).toArray)).run Tryz.prog V = .ok (decide (z = y)) V := fun V => ye_eq z y V
          clear hb
          generalize cz t j = cc at *
          by_cases hjk : j = k
          · have e1 : decide (x = y) = true := decide_eq_true (hxy.out.2 hjk)
            rw [e1] at hE1
            have hne : decide ((j : Int) = (k : Int)) = true := decide_eq_true (by omega)
            have hne2 : ((j : Int) != (k : Int)) = false := by simp [hjk]
            have hjks := lay hjk
            clear e1 hjk
            go_wp2_with fail
            refine wp_region_held_drew (S := fun V : World => Below w.heap.size w V) (by kernel_rfl) hbs2.out.drew (fun hHeld => ?_)
            refine takeC (i := 0) rfl hHeld ?_
            try simp only [zA, zB, zC, Act.put, zD, zE, zF]
            refine takeC (i := 1) rfl hHeld ?_
            try simp only [zA, zB, zC, Act.put, zD, zE, zF]
            refine takeC (i := 2) rfl hHeld ?_
            try simp only [zA, zB, zC, Act.put, zD, zE, zF]
            refine' takeA (i := 3) (v := _) rfl (yieldsIf_load_mid (by rfl) _ _ rfl _ _ rfl _ _ (fun _ h => hA.out _ h) Tryz.underlying35 rfl (by kernel_rfl)) hHeld ?_
            try simp only [zA, zB, zC, Act.put, zD, zE, zF]
            refine takeC (i := 4) rfl hHeld ?_
            try simp only [zA, zB, zC, Act.put, zD, zE, zF]
            refine takeC (i := 5) rfl hHeld ?_
            try simp only [zA, zB, zC, Act.put, zD, zE, zF]
            refine takeC (i := 6) rfl hHeld ?_
            try simp only [zA, zB, zC, Act.put, zD, zE, zF]
            refine' takeA (i := 7) (v := _) rfl (yieldsIf_load_mid (by rfl) _ _ rfl _ _ rfl _ _ (fun _ h => hB.out _ h) Tryz.underlying35 rfl (by kernel_rfl)) hHeld ?_
            try simp only [zA, zB, zC, Act.put, zD, zE, zF]
            refine takeC (i := 8) rfl hHeld ?_
            try simp only [zA, zB, zC, Act.put, zD, zE, zF]
            refine takeC (i := 9) rfl hHeld ?_
            try simp only [zA, zB, zC, Act.put, zD, zE, zF]
            refine takeC (i := 10) rfl hHeld ?_
            try simp only [zA, zB, zC, Act.put, zD, zE, zF]
            refine takeC (i := 11) rfl hHeld ?_
            try simp only [zA, zB, zC, Act.put, zD, zE, zF]
            refine takeC (i := 12) rfl hHeld ?_
            try simp only [zA, zB, zC, Act.put, zD, zE, zF]
            refine takeC (i := 13) rfl hHeld ?_
            try simp only [zA, zB, zC, Act.put, zD, zE, zF]
            refine wpAnyH_done (by kernel_rfl) ?_ _
            have hH := lay hHeld
            clear hHeld hE1
            go_wp2_with fail
            by_cases hz : z = y
            · have e2 : decide (z = y) = true := decide_eq_true hz
              rw [e2] at hE2
              have hcs := hcz.out
              rw [if_pos hz] at hcs
              have hcs := lay hcs
              clear e2 hz
              refine wp_region_held_drew (S := fun V : World => Below w.heap.size w V) (by kernel_rfl) hH.out.drew (fun hHeld => ?_)
              refine takeC (i := 0) rfl hHeld ?_
              try simp only [zA, zB, zC, Act.put, zD, zE, zF]
              refine takeC (i := 1) rfl hHeld ?_
              try simp only [zA, zB, zC, Act.put, zD, zE, zF]
              refine takeC (i := 2) rfl hHeld ?_
              try simp only [zA, zB, zC, Act.put, zD, zE, zF]
              refine' takeA (i := 3) (v := _) rfl (yieldsIf_load_mid (by rfl) _ _ rfl _ _ rfl _ _ (fun _ h => hC.out _ h) Tryz.underlying35 rfl (by kernel_rfl)) hHeld ?_
              try simp only [zA, zB, zC, Act.put, zD, zE, zF]
              refine takeC (i := 4) rfl hHeld ?_
              try simp only [zA, zB, zC, Act.put, zD, zE, zF]
              refine takeC (i := 5) rfl hHeld ?_
              try simp only [zA, zB, zC, Act.put, zD, zE, zF]
              refine takeC (i := 6) rfl hHeld ?_
              try simp only [zA, zB, zC, Act.put, zD, zE, zF]
              refine' takeA (i := 7) (v := _) rfl (yieldsIf_load_mid (by rfl) _ _ rfl _ _ rfl _ _ (fun _ h => hB.out _ h) Tryz.underlying35 rfl (by kernel_rfl)) hHeld ?_
              try simp only [zA, zB, zC, Act.put, zD, zE, zF]
              refine takeC (i := 8) rfl hHeld ?_
              try simp only [zA, zB, zC, Act.put, zD, zE, zF]
              refine wpAnyH_done (by kernel_rfl) ?_ _
              have hH2 := lay hHeld
              clear hHeld
              go_wp2_with fail
              go_roundw
              case rel => exact ⟨j + 1, by omega, by go_num, by rw [hcs.out], hH2.out⟩
              case measure => simp [intOf]; omega
            · have e2 : decide (z = y) = false := decide_eq_false hz
              rw [e2] at hE2
              have hcs := hcz.out
              rw [if_neg hz] at hcs
              have hcs := lay hcs
              clear e2 hz
              refine wp_region_held_drew (S := fun V : World => Below w.heap.size w V) (by kernel_rfl) hH.out.drew (fun hHeld => ?_)
              refine takeC (i := 0) rfl hHeld ?_
              try simp only [zA, zB, zC, Act.put, zD, zE, zF]
              refine takeC (i := 1) rfl hHeld ?_
              try simp only [zA, zB, zC, Act.put, zD, zE, zF]
              refine takeC (i := 2) rfl hHeld ?_
              try simp only [zA, zB, zC, Act.put, zD, zE, zF]
              refine' takeA (i := 3) (v := _) rfl (yieldsIf_load_mid (by rfl) _ _ rfl _ _ rfl _ _ (fun _ h => hC.out _ h) Tryz.underlying35 rfl (by kernel_rfl)) hHeld ?_
              try simp only [zA, zB, zC, Act.put, zD, zE, zF]
              refine takeC (i := 4) rfl hHeld ?_
              try simp only [zA, zB, zC, Act.put, zD, zE, zF]
              refine takeC (i := 5) rfl hHeld ?_
              try simp only [zA, zB, zC, Act.put, zD, zE, zF]
              refine takeC (i := 6) rfl hHeld ?_
              try simp only [zA, zB, zC, Act.put, zD, zE, zF]
              refine' takeA (i := 7) (v := _) rfl (yieldsIf_load_mid (by rfl) _ _ rfl _ _ rfl _ _ (fun _ h => hB.out _ h) Tryz.underlying35 rfl (by kernel_rfl)) hHeld ?_
              try simp only [zA, zB, zC, Act.put, zD, zE, zF]
              refine takeC (i := 8) rfl hHeld ?_
              try simp only [zA, zB, zC, Act.put, zD, zE, zF]
              refine wpAnyH_done (by kernel_rfl) ?_ _
              have hH2 := lay hHeld
              clear hHeld
              go_wp2_with fail
              go_roundw
              case rel => exact ⟨j + 1, by omega, by go_num, by rw [hcs.out], hH2.out⟩
              case measure => simp [intOf]; omega
          · have e1 : decide (x = y) = false := decide_eq_false (fun e => hjk (hxy.out.1 e))
            rw [e1] at hE1
            clear e1 hjk
            go_wp2_with fail
            refine wp_region_held_drew (S := fun V : World => Below w.heap.size w V) (by kernel_rfl) hbs2.out.drew (fun hHeld => ?_)
            refine takeC (i := 0) rfl hHeld ?_
            try simp only [zA, zB, zC, Act.put, zD, zE, zF]
            refine takeC (i := 1) rfl hHeld ?_
            try simp only [zA, zB, zC, Act.put, zD, zE, zF]
            refine takeC (i := 2) rfl hHeld ?_
            try simp only [zA, zB, zC, Act.put, zD, zE, zF]
            refine' takeA (i := 3) (v := _) rfl (yieldsIf_load_mid (by rfl) _ _ rfl _ _ rfl _ _ (fun _ h => hA.out _ h) Tryz.underlying35 rfl (by kernel_rfl)) hHeld ?_
            try simp only [zA, zB, zC, Act.put, zD, zE, zF]
            refine takeC (i := 4) rfl hHeld ?_
            try simp only [zA, zB, zC, Act.put, zD, zE, zF]
            refine takeC (i := 5) rfl hHeld ?_
            try simp only [zA, zB, zC, Act.put, zD, zE, zF]
            refine takeC (i := 6) rfl hHeld ?_
            try simp only [zA, zB, zC, Act.put, zD, zE, zF]
            refine' takeA (i := 7) (v := _) rfl (yieldsIf_load_mid (by rfl) _ _ rfl _ _ rfl _ _ (fun _ h => hB.out _ h) Tryz.underlying35 rfl (by kernel_rfl)) hHeld ?_
            try simp only [zA, zB, zC, Act.put, zD, zE, zF]
            refine takeC (i := 8) rfl hHeld ?_
            try simp only [zA, zB, zC, Act.put, zD, zE, zF]
            refine takeC (i := 9) rfl hHeld ?_
            try simp only [zA, zB, zC, Act.put, zD, zE, zF]
            refine takeA (i := 10) (v := undef) rfl (Or.inr ⟨by rfl, rfl⟩) hHeld ?_
            try simp only [zA, zB, zC, Act.put, zD, zE, zF]
            refine takeA (i := 11) (v := undef) rfl (Or.inr ⟨by rfl, rfl⟩) hHeld ?_
            try simp only [zA, zB, zC, Act.put, zD, zE, zF]
            refine takeA (i := 12) (v := undef) rfl (Or.inr ⟨by rfl, rfl⟩) hHeld ?_
            try simp only [zA, zB, zC, Act.put, zD, zE, zF]
            refine takeC (i := 13) rfl hHeld ?_
            try simp only [zA, zB, zC, Act.put, zD, zE, zF]
            refine wpAnyH_done (by kernel_rfl) ?_ _
            have hH := lay hHeld
            clear hHeld hE1
            go_wp2_with fail
            by_cases hz : z = y
            · have e2 : decide (z = y) = true := decide_eq_true hz
              rw [e2] at hE2
              have hcs := hcz.out
              rw [if_pos hz] at hcs
              have hcs := lay hcs
              clear e2 hz
              refine wp_region_held_drew (S := fun V : World => Below w.heap.size w V) (by kernel_rfl) hH.out.drew (fun hHeld => ?_)
              refine takeC (i := 0) rfl hHeld ?_
              try simp only [zA, zB, zC, Act.put, zD, zE, zF]
              refine takeC (i := 1) rfl hHeld ?_
              try simp only [zA, zB, zC, Act.put, zD, zE, zF]
              refine takeC (i := 2) rfl hHeld ?_
              try simp only [zA, zB, zC, Act.put, zD, zE, zF]
              refine' takeA (i := 3) (v := _) rfl (yieldsIf_load_mid (by rfl) _ _ rfl _ _ rfl _ _ (fun _ h => hC.out _ h) Tryz.underlying35 rfl (by kernel_rfl)) hHeld ?_
              try simp only [zA, zB, zC, Act.put, zD, zE, zF]
              refine takeC (i := 4) rfl hHeld ?_
              try simp only [zA, zB, zC, Act.put, zD, zE, zF]
              refine takeC (i := 5) rfl hHeld ?_
              try simp only [zA, zB, zC, Act.put, zD, zE, zF]
              refine takeC (i := 6) rfl hHeld ?_
              try simp only [zA, zB, zC, Act.put, zD, zE, zF]
              refine' takeA (i := 7) (v := _) rfl (yieldsIf_load_mid (by rfl) _ _ rfl _ _ rfl _ _ (fun _ h => hB.out _ h) Tryz.underlying35 rfl (by kernel_rfl)) hHeld ?_
              try simp only [zA, zB, zC, Act.put, zD, zE, zF]
              refine takeC (i := 8) rfl hHeld ?_
              try simp only [zA, zB, zC, Act.put, zD, zE, zF]
              refine wpAnyH_done (by kernel_rfl) ?_ _
              have hH2 := lay hHeld
              clear hHeld
              go_wp2_with fail
              go_roundw
              case rel => exact ⟨j + 1, by omega, by go_num, by rw [hcs.out], hH2.out⟩
              case measure => simp [intOf]; omega
            · have e2 : decide (z = y) = false := decide_eq_false hz
              rw [e2] at hE2
              have hcs := hcz.out
              rw [if_neg hz] at hcs
              have hcs := lay hcs
              clear e2 hz
              refine wp_region_held_drew (S := fun V : World => Below w.heap.size w V) (by kernel_rfl) hH.out.drew (fun hHeld => ?_)
              refine takeC (i := 0) rfl hHeld ?_
              try simp only [zA, zB, zC, Act.put, zD, zE, zF]
              refine takeC (i := 1) rfl hHeld ?_
              try simp only [zA, zB, zC, Act.put, zD, zE, zF]
              refine takeC (i := 2) rfl hHeld ?_
              try simp only [zA, zB, zC, Act.put, zD, zE, zF]
              refine' takeA (i := 3) (v := _) rfl (yieldsIf_load_mid (by rfl) _ _ rfl _ _ rfl _ _ (fun _ h => hC.out _ h) Tryz.underlying35 rfl (by kernel_rfl)) hHeld ?_
              try simp only [zA, zB, zC, Act.put, zD, zE, zF]
              refine takeC (i := 4) rfl hHeld ?_
              try simp only [zA, zB, zC, Act.put, zD, zE, zF]
              refine takeC (i := 5) rfl hHeld ?_
              try simp only [zA, zB, zC, Act.put, zD, zE, zF]
              refine takeC (i := 6) rfl hHeld ?_
              try simp only [zA, zB, zC, Act.put, zD, zE, zF]
              refine' takeA (i := 7) (v := _) rfl (yieldsIf_load_mid (by rfl) _ _ rfl _ _ rfl _ _ (fun _ h => hB.out _ h) Tryz.underlying35 rfl (by kernel_rfl)) hHeld ?_
              try simp only [zA, zB, zC, Act.put, zD, zE, zF]
              refine takeC (i := 8) rfl hHeld ?_
              try simp only [zA, zB, zC, Act.put, zD, zE, zF]
              refine wpAnyH_done (by kernel_rfl) ?_ _
              have hH2 := lay hHeld
              clear hHeld
              go_wp2_with fail
              go_roundw
              case rel => exact ⟨j + 1, by omega, by go_num, by rw [hcs.out], hH2.out⟩
              case measure => simp [intOf]; omega
        · have hjl : j = l.length := by omega
          have hc : Shut (cz t j = 1) := by show _ = _; unfold cz; rw [if_pos (by have := hts.out; omega)]
          have hbs2 := lay hb
          clear hb
          subst hjl
          rw [hc.out]
          go_wp2_with fail
          go_roundw
          case rel => exact ⟨k + 1, by omega, by go_num, hbs2.out⟩
          case measure => simp [intOf]; omega
    · have hkl : k = l.length := by omega
      have hbs := lay hb
      clear hb
      subst hkl
      go_wp2_with fail
      go_ret
      exact ⟨rfl, hbs.out⟩
end Go.Proofs.YtnjdgooljnbebaaGreatDoor
namespace Go.Proofs.YtnjdgooljnbebaaGreatDoor
open Go Go.RowKit
open List renaming getElem_toArray → zA, getElem_cons_zero → zB, getElem_cons_succ → zC, setIfInBounds_toArray → zD, set_cons_zero → zE, set_cons_succ → zF
set_option maxHeartbeats 8000000
set_option linter.unusedSimpArgs false
set_option linter.unusedVariables false
set_option maxRecDepth 100000

theorem own_put {w : World} {base : Nat} {e : TypeId} {size g n cap : Nat} {xs : List Value} (h : w.ownsRow base e size (.slice (some ⟨g, 0, none⟩) n cap) n xs) (i : Nat) (hi : i < xs.length) (u : Value) : (w.setCell ⟨g, i, none⟩ u).ownsRow base e size (.slice (some ⟨g, 0, none⟩) n cap) n (xs.set i u) := by
  obtain ⟨h1, ⟨h2, _⟩ | ⟨g', cap', cur, h2, a, b, c, d, e1, f⟩⟩ := h
  · cases h2
  · injection h2 with e2 e3 e4
    injection e2 with e2
    injection e2 with e2
    subst e2
    subst e4
    refine ⟨by rw [List.length_set]; exact h1, Or.inr ⟨g, cap, cur.setIfInBounds i u, rfl, a, heap_setCell_same w g i _ _ u b, c, d, by rw [Array.size_setIfInBounds]; exact e1, ?_⟩⟩
    rw [Array.toList_setIfInBounds, ← f, List.take_set]
theorem mvsC_two (L : List Mv) (k : Nat) (m : Mv) (hk : k < L.length) (h3 : m.3 = (L.getD k z0).3) : mvsC (L.set k m) = ((mvsC L).set (3 * k) (.int .i64 m.1)).set (3 * k + 1) (.int .i64 m.2) := by
  apply List.ext_getElem?
  intro idx
  by_cases hidx : idx < 3 * L.length
  · obtain ⟨i, j, rfl, hj, hi⟩ : ∃ i j, idx = 3 * i + j ∧ j < 3 ∧ i < L.length := ⟨idx / 3, idx % 3, by omega, by omega, by omega⟩
    have g1 := mvsC_get (L.set k m) i j (by rw [List.length_set]; exact hi) hj
    have g2 := mvsC_get L i j hi hj
    have hlen := mvsC_len L
    rw [g1]
    by_cases hik : i = k
    · subst hik
      have e : (L.set i m).getD i ⟨0, 0, 0⟩ = m := by simp [hi]
      rw [e]
      rcases (show j = 0 ∨ j = 1 ∨ j = 2 by omega) with rfl | rfl | rfl
      · rw [List.getElem?_set_ne (by omega), Nat.add_zero, List.getElem?_set_self (by omega)]
        rfl
      · rw [List.getElem?_set_self (by rw [List.length_set]; omega)]
        rfl
      · rw [List.getElem?_set_ne (by omega), List.getElem?_set_ne (by omega), g2]
        show some (Value.int .i64 m.3) = some (Value.int .i64 (L.getD i z0).3)
        rw [h3]
    · have e : (L.set k m).getD i ⟨0, 0, 0⟩ = L.getD i ⟨0, 0, 0⟩ := by
        rw [List.getD_eq_getElem?_getD, List.getD_eq_getElem?_getD, List.getElem?_set_ne (by omega)]
      rw [e, ← g2, List.getElem?_set_ne (by omega), List.getElem?_set_ne (by omega)]
  · rw [List.getElem?_eq_none (by have := mvsC_len (L.set k m); rw [List.length_set] at this; omega), List.getElem?_eq_none (by rw [List.length_set, List.length_set, mvsC_len]; omega)]
/-- The first k moves seen from the other side. -/
def flTo (l : List Mv) : Nat → List Mv
  | 0 => l
  | k + 1 => (flTo l k).set k (flm (l.getD k z0))
theorem flTo_len (l : List Mv) : ∀ k, (flTo l k).length = l.length
  | 0 => rfl
  | k + 1 => by rw [flTo, List.length_set, flTo_len l k]
theorem flTo_get (l : List Mv) : ∀ k, k ≤ l.length → ∀ i, i < l.length → (flTo l k).getD i z0 = if i < k then flm (l.getD i z0) else l.getD i z0
  | 0, _, i, hi => by rw [if_neg (by omega)]; rfl
  | k + 1, hk, i, hi => by
    rw [flTo, List.getD_eq_getElem?_getD]
    by_cases e : k = i
    · subst e
      rw [List.getElem?_set_self (by rw [flTo_len]; omega), if_pos (by omega)]
      rfl
    · rw [List.getElem?_set_ne e, ← List.getD_eq_getElem?_getD, flTo_get l k (by omega) i hi]
      by_cases h : i < k
      · rw [if_pos h, if_pos (by omega)]
      · rw [if_neg h, if_neg (by omega)]
theorem flTo_all (l : List Mv) : flTo l l.length = l.map flm := by
  apply List.ext_getElem?
  intro i
  by_cases hi : i < l.length
  · have h := flTo_get l l.length (Nat.le_refl _) i hi
    rw [if_pos hi, List.getD_eq_getElem?_getD, List.getD_eq_getElem?_getD] at h
    have h1 : (flTo l l.length)[i]? = some ((flTo l l.length)[i]'(by rw [flTo_len]; exact hi)) := List.getElem?_eq_getElem _
    have h2 : l[i]? = some l[i] := List.getElem?_eq_getElem _
    rw [h1, h2] at h
    rw [h1, List.getElem?_map, h2]
    exact congrArg some h
  · rw [List.getElem?_eq_none (by rw [flTo_len]; omega), List.getElem?_eq_none (by rw [List.length_map]; omega)]
theorem frozen_of_own {w : World} {base : Nat} {e : TypeId} {size g n cap : Nat} {xs : List Value} (h : w.ownsRow base e size (.slice (some ⟨g, 0, none⟩) n cap) n xs) (i : Nat) : w.frozen? ⟨g, i, none⟩ = false := by
  obtain ⟨h1, ⟨h2, _⟩ | ⟨g', cap', cur, h2, a, b, c, d, e1, f⟩⟩ := h
  · cases h2
  · injection h2 with e2 e3 e4
    injection e2 with e2
    injection e2 with e2
    subst e2
    exact frozen_of_row w g i _ _ b
theorem fl_xor (s : Int) (h0 : 0 ≤ s) (h1 : s ≤ 63) : bits .xor .i64 s 56 = fl s := by
  have := xor_56 s.toNat (by omega)
  rw [← fl_nat _ (by omega), Int.toNat_of_nonneg h0] at this
  exact this
theorem rv_law (p : List Int) (hl : p.length = 69) (w : World) (hfi : IntTab w 7 .u64 (tabZ bbFilesL)) (hra : IntTab w 6 .u64 (tabZ bbRanksL)) (hdi : IntTab w 4 .u64 (tabZ bbDiagonalsL)) (han : IntTab w 5 .u64 (tabZ bbAntiDiagonalsL)) (hkn : IntTab w 2 .u64 (tabZ bbKnightMovesL)) (hki : IntTab w 3 .u64 (tabZ bbKingMovesL)) (hA : IntSl w 0 .i8 allL) (hP : IntSl w 1 .i8 [2, 3, 4, 5]) :
    Calls Tryz.prog 4 #[.agg (ints p)] w fun e w' => e = .returned (.bool true) ∧ Below w.heap.size w w' := by
  have hT : Tabs w := ⟨hki, hkn, hdi, han, hfi, hra⟩
  clear hfi hra hdi han hkn hki
  have hBW : Below w.heap.size w (w.alloc (.cells (ints p) 24)) := (Below.refl _ _).alloc (Nat.le_refl _) _
  have hrow0 : PosAt p w.heap.size (w.alloc (.cells (ints p) 24)) := heap_alloc_new w (.cells (ints p) 24)
  have hrow : (w.alloc (.cells (ints p) 24)).heap[w.heap.size]? = some (.cells (ints p) 24 (0, 0)) := hrow0
  have hR0 := lay hrow0
  have hRt := lay (fun W => rt_right p hl W)
  have hBs := lay hBW
  have hGb : Shut (∀ V, Below w.heap.size w V → Tabs V ∧ IntSl V 0 .i8 allL ∧ IntSl V 1 .i8 [2, 3, 4, 5]) := fun V hb' => ⟨hT.below hb' (Nat.le_refl _), hA.below hb', hP.below hb'⟩
  clear hT hA hP hBW hrow0
  cases hask : askedB p with
  | false =>
    have hasks := lay hask
    clear hask
    go_enter Tryz.func4, Tryz.ntmps4
    go_wp2_with (first
      | ((with_reducible refine at_load_row hrow Tryz.underlying24 rfl ?_ ?_ ?_); (rw [ints_size, hl]; kernel_rfl); rfl)
      | (go_at_call 9; refine (hRt.out _).mono ?_; rintro e1 w1 ⟨rfl, hb1⟩; rw [hasks.out]))
    go_ret
    exact ⟨rfl, hBs.out.trans (hb1.mono hBs.out.size)⟩
  | true =>
    obtain ⟨tn, hF⟩ := fair_of p hl (askedB_valid hask)
    have h67 := askedB_hf hask
    have h68 := askedB_fu hask
    have h218 := askedB_lg hask
    have hasks := lay hask
    have hM := turn_mir p hl
    have hFq := fair_fl p (turnL p) tn hF hM
    have hlp := legal_perm p (turnL p) tn hF hM
    have h218q : (legalL (turnL p)).length ≤ 218 := by
      have := hlp.length_eq
      rw [List.length_map] at this
      omega
    have h67q : (turnL p).getD 67 0 ≤ 1000000 := by rw [hM.hf]; omega
    have h68q : (turnL p).getD 68 0 ≤ 1000000 := by rw [hM.fu]; omega
    have hlq := hM.len
    obtain ⟨sn, hsn⟩ : ∃ s, statN p tn = s := ⟨_, rfl⟩
    have hsn3 : sn = 0 ∨ sn = 1 ∨ sn = 4 := by
      rw [← hsn]
      unfold statN
      split
      · exact Or.inl rfl
      · split
        · exact Or.inr (Or.inl rfl)
        · exact Or.inr (Or.inr rfl)
    have hTu := lay (fun (W : World) => rs_turned p tn hF.snd W)
    have hMo := lay (fun (W : World) hT hA hP => ya_impl p tn hF h218 (by omega) (by omega) W hT hA hP)
    have hMq := lay (fun (W : World) hT hA hP => ya_impl (turnL p) (1 - tn) hFq h218q h67q h68q W hT hA hP)
    have hSt := lay (fun (W : World) hT hA hP => ws_impl p tn hF (by omega) (by omega) sn hsn hsn3 W hT hA hP)
    have hSq := lay (fun (W : World) hT hA hP => ws_impl (turnL p) (1 - tn) hFq h67q h68q sn ((stat_fl p (turnL p) tn hF hM).trans hsn) hsn3 W hT hA hP)
    have hperm : Shut ((movesL (turnL p) (1 - tn)).Perm ((movesL p tn).map flm)) := ((full_perm (turnL p) (1 - tn) hFq).trans hlp).trans (((full_perm p tn hF).map flm).symm)
    have hnod : Shut (((movesL p tn).map flm).Nodup) := (full_nodup p tn hF).map flm fun a b hne he => hne (flm_inj a b he)
    have hoks : Shut (∀ k, k < (movesL p tn).length → MvOk ((movesL p tn).getD k z0)) := by
      intro k hk
      have hmem : (movesL p tn).getD k z0 ∈ movesL p tn := by simp [hk]
      obtain ⟨x, hx, e⟩ := List.mem_map.1 hmem
      rw [← e]
      exact full_ok p tn hF x hx
    have hlen : (movesL p tn).length ≤ 218 := by
      unfold movesL
      rw [List.length_map, full_len p tn hF]
      exact h218
    clear hask hF h67 h68 h218 hFq hlp h218q h67q h68q hsn hM
    generalize turnL p = q at *
    generalize movesL q (1 - tn) = l2 at *
    generalize movesL p tn = l at *
    go_enter Tryz.func4, Tryz.ntmps4
    go_wp2_with ((with_reducible refine at_load_row hrow Tryz.underlying24 rfl ?_ ?_ ?_); (rw [ints_size, hl]; kernel_rfl); rfl)
    refine (hRt.out _).mono ?_
    rintro e1 w1 ⟨rfl, hb1⟩
    rw [hasks.out]
    have r1 : w1.heap[w.heap.size]? = some (.cells (ints p) 24 (0, 0)) := hR0.out.below hb1
    have hB1 := lay (hBs.out.trans (hb1.mono hBs.out.size))
    have r1s := lay r1
    have hm1 := lay (hMo.out w1 (hGb.out _ hB1.out).1 (hGb.out _ hB1.out).2.1 (hGb.out _ hB1.out).2.2)
    clear hb1 hrow
    go_wp2_with ((with_reducible refine at_load_row r1 Tryz.underlying24 rfl ?_ ?_ ?_); (rw [ints_size, hl]; kernel_rfl); rfl)
    refine hm1.out.mono ?_
    rintro e2 w2 ⟨v1, rfl, ho2, hb2⟩
    have hlt1 := (Array.getElem?_eq_some_iff.1 r1s.out).1
    have r2 : w2.heap[w.heap.size]? = some (.cells (ints p) 24 (0, 0)) := (hb2.block _ hlt1).trans r1s.out
    have hB2 := lay (hB1.out.trans (hb2.mono hB1.out.size))
    have r2s := lay r2
    have ho2s := lay ho2
    have hlt2 : Shut (w.heap.size < w2.heap.size) := Nat.lt_of_lt_of_le hlt1 hb2.size
    have hw12 : Shut (w1.heap.size ≤ w2.heap.size) := hb2.size
    have hw01 : Shut (w.heap.size ≤ w1.heap.size) := hB1.out.size
    clear hb2 r1 ho2 hlt1
    go_wp2_with ((with_reducible refine at_load_row r2 Tryz.underlying24 rfl ?_ ?_ ?_); (rw [ints_size, hl]; kernel_rfl); rfl)
    refine (hTu.out _).mono ?_
    rintro e3 w3 ⟨rfl, hb3⟩
    have hB3 := lay (hB2.out.trans (hb3.mono hB2.out.size))
    have ho3s := lay (own_next ho2s.out hb3)
    have r3s := lay ((hb3.block _ hlt2.out).trans r2s.out)
    have hw23 : Shut (w2.heap.size ≤ w3.heap.size) := hb3.size
    have hmq := lay (hMq.out w3 (hGb.out _ hB3.out).1 (hGb.out _ hB3.out).2.1 (hGb.out _ hB3.out).2.2)
    clear hb3 r2
    go_wp2_with fail
    refine hmq.out.mono ?_
    rintro e4 w4 ⟨v2, rfl, hq4, hb4⟩
    have hB4 := lay (hB3.out.trans (hb4.mono hB3.out.size))
    have ho4s := lay (own_next ho3s.out hb4)
    have hlt3 : Shut (w.heap.size < w3.heap.size) := Nat.lt_of_lt_of_le hlt2.out hw23.out
    have r4 : w4.heap[w.heap.size]? = some (.cells (ints p) 24 (0, 0)) := (hb4.block _ hlt3.out).trans r3s.out
    have r4s := lay r4
    have hq4s := lay hq4
    have hlt4 : Shut (w.heap.size < w4.heap.size) := Nat.lt_of_lt_of_le hlt3.out hb4.size
    have hw34 : Shut (w3.heap.size ≤ w4.heap.size) := hb4.size
    have hs4 := lay (hSt.out w4 (hGb.out _ hB4.out).1 (hGb.out _ hB4.out).2.1 (hGb.out _ hB4.out).2.2)
    clear hb4 hq4
    go_wp2_with ((with_reducible refine at_load_row r4 Tryz.underlying24 rfl ?_ ?_ ?_); (rw [ints_size, hl]; kernel_rfl); rfl)
    refine hs4.out.mono ?_
    rintro e5 w5 ⟨rfl, hb5⟩
    have hB5 := lay (hB4.out.trans (hb5.mono hB4.out.size))
    have ho5s := lay (own_next ho4s.out hb5)
    have hq5s := lay (own_next hq4s.out hb5)
    have r5 : w5.heap[w.heap.size]? = some (.cells (ints p) 24 (0, 0)) := (hb5.block _ hlt4.out).trans r4s.out
    have r5s := lay r5
    have hlt5 : Shut (w.heap.size < w5.heap.size) := Nat.lt_of_lt_of_le hlt4.out hb5.size
    clear hb5 r4
    go_wp2_with ((with_reducible refine at_load_row r5 Tryz.underlying24 rfl ?_ ?_ ?_); (rw [ints_size, hl]; kernel_rfl); rfl)
    refine (hTu.out _).mono ?_
    rintro e6 w6 ⟨rfl, hb6⟩
    have hB6 := lay (hB5.out.trans (hb6.mono hB5.out.size))
    have ho6s := lay (own_next ho5s.out hb6)
    have hq6s := lay (own_next hq5s.out hb6)
    have hs6 := lay (hSq.out w6 (hGb.out _ hB6.out).1 (hGb.out _ hB6.out).2.1 (hGb.out _ hB6.out).2.2)
    clear hb6 r5
    go_wp2_with fail
    refine hs6.out.mono ?_
    rintro e7 w7 ⟨rfl, hb7⟩
    have hB7 := lay (hB6.out.trans (hb7.mono hB6.out.size))
    have ho7 := own_next ho6s.out hb7
    have hq7s := lay (own_next hq6s.out hb7)
    obtain ⟨a1, c1, rfl, hf1⟩ := mvs_slice ho7
    have ho7s := lay ho7
    have hf1 := lay hf1
    clear hb7 ho7
    go_wp2_with fail
    go_loopw [11] (fun i wr => ∃ k : Nat, k ≤ l.length ∧ i = .int .i64 (k : Int) ∧ ownMvs wr w1.heap.size (.slice a1 l.length c1) (flTo l k) ∧ ownMvs wr w3.heap.size v2 l2 ∧ Below w.heap.size w wr) (fun i _ => (l.length - (intOf i).toNat))
    case atStart => exact ⟨0, by omega, rfl, ho7s.out, hq7s.out, hB7.out⟩
    case round =>
      obtain ⟨k, hk, rfl, ho, hq, hb⟩ := hrel
      by_cases hlt : k < l.length
      · obtain ⟨g, rfl⟩ := hf1.out (by omega)
        have hok := hoks.out k hlt
        have f0 := hok.f0
        have f1 := hok.f1
        have t0 := hok.t0
        have t1 := hok.t1
        have hkl : k < (flTo l k).length := by rw [flTo_len]; exact hlt
        have hgk : (flTo l k).getD k z0 = l.getD k z0 := by rw [flTo_get l k (by omega) k hlt, if_neg (by omega)]
        have hmr := own_row ho
        have hgr := hmr.cell k 0 hkl (by omega)
        have hgr1 := hmr.cell k 1 hkl (by omega)
        have hc0 : wr.cell? ⟨g, k * 3, none⟩ = some (.int .i64 (l.getD k z0).1) := by
          rw [Nat.mul_comm]
          refine hgr.trans ?_
          show some (Value.int .i64 ((flTo l k).getD k z0).1) = _
          rw [hgk]
        have hc1 : wr.cell? ⟨g, k * 3 + 1, none⟩ = some (.int .i64 (l.getD k z0).2) := by
          rw [Nat.mul_comm]
          refine hgr1.trans ?_
          show some (Value.int .i64 ((flTo l k).getD k z0).2) = _
          rw [hgk]
        have hgw : Shut (w1.heap.size ≤ g ∧ g < w3.heap.size) := by
          refine ⟨own_ge ho g rfl, ?_⟩
          exact (own_row ho3s.out).lt
        have hcl := mvsC_len (flTo l k)
        rw [flTo_len] at hcl
        have hO1 : Shut (wr.ownsRow w1.heap.size 35 3 (.slice (some ⟨g, 0, none⟩) l.length c1) l.length (mvsC (flTo l k))) := by
          have h := ho
          unfold ownMvs at h
          rw [flTo_len] at h
          exact h
        have hfz := frozen_of_own hO1.out
        have hO2 := lay (own_put hO1.out (3 * k) (by omega) (.int .i64 (fl (l.getD k z0).1)))
        have hO3 := lay (own_put hO2.out (3 * k + 1) (by rw [List.length_set]; omega) (.int .i64 (fl (l.getD k z0).2)))
        have hnext : Shut (((wr.setCell ⟨g, 3 * k, none⟩ (.int .i64 (fl (l.getD k z0).1))).setCell ⟨g, 3 * k + 1, none⟩ (.int .i64 (fl (l.getD k z0).2))).ownsRow w1.heap.size 35 3 (.slice (some ⟨g, 0, none⟩) l.length c1) (flTo l (k + 1)).length (mvsC (flTo l (k + 1)))) := by
          show World.ownsRow _ _ _ _ _ _ _
          rw [flTo_len, flTo, mvsC_two (flTo l k) k (flm (l.getD k z0)) hkl (by rw [hgk]; rfl)]
          exact hO3.out
        have hq2 := lay (ownsRow_setCell_below (ownsRow_setCell_below hq (a := ⟨g, 3 * k, none⟩) hgw.out.2 (.int .i64 (fl (l.getD k z0).1))) (a := ⟨g, 3 * k + 1, none⟩) hgw.out.2 (.int .i64 (fl (l.getD k z0).2)))
        have hb2 := lay ((hb.setCell (p := ⟨g, 3 * k, none⟩) (by show w.heap.size ≤ g; have := hgw.out.1; have := hw01.out; omega) (.int .i64 (fl (l.getD k z0).1))).setCell (p := ⟨g, 3 * k + 1, none⟩) (by show w.heap.size ≤ g; have := hgw.out.1; have := hw01.out; omega) (.int .i64 (fl (l.getD k z0).2)))
        have e3 : 3 * k = k * 3 := Nat.mul_comm _ _
        rw [e3] at hnext hq2 hb2
        have hx0 := fl_xor (l.getD k z0).1 f0 f1
        have hx1 := fl_xor (l.getD k z0).2 t0 t1
        have hc1b : (wr.setCell ⟨g, k * 3, none⟩ (.int .i64 (fl (l.getD k z0).1))).cell? ⟨g, k * 3 + 1, none⟩ = some (.int .i64 (l.getD k z0).2) := by
          exact (World.cell?_setCell_other wr ⟨g, k * 3, none⟩ ⟨g, k * 3 + 1, none⟩ _ (fun e => by injection e with _ e2 _; omega)).trans hc1
        have hfz2 := frozen_of_own (own_put hO1.out (k * 3) (by omega) (.int .i64 (fl (l.getD k z0).1)))
        have hkz : (k : Int) < (l.length : Int) := by omega
        have hfa := hfz (k * 3)
        have hfb := hfz2 (k * 3 + 1)
        clear ho hq hb hmr hgr hgr1 hgk hok hfz hfz2 hc1 e3 hkl hcl
        generalize (l.getD k z0).1 = x at *
        generalize (l.getD k z0).2 = y at *
        go_wp2_with fail
        go_roundw
        case rel => exact ⟨k + 1, by omega, by go_num, hnext.out, hq2.out, hb2.out⟩
        case measure => simp [intOf]; omega
      · have hkl : k = l.length := by omega
        subst hkl
        rw [flTo_all] at ho
        have hsm := lay (ru_same (l.map flm) l2 hnod.out hperm.out (by rw [List.length_map]; omega) _ _ _ _ wr ho hq)
        have hbs := lay hb
        clear ho hq hb
        go_wp2_with (go_at_call 14; refine hsm.out.mono ?_; rintro e8 w8 ⟨rfl, hb8⟩)
        go_ret
        exact ⟨rfl, hbs.out.trans (hb8.mono hbs.out.size)⟩
end Go.Proofs.YtnjdgooljnbebaaGreatDoor
