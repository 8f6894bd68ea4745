/- A rank's text is read into a map of files. For every rank of pieces from 0 to 12. -/
import Derived.Test.YtnpklkenjaambaaDoorFp
import Derived.Test.YtnpklkenjaambaaDoorCm
import Derived.Test.YtnpklkenjaambaaDoorLaid
import Derived.Test.YtnpklkenjaambaaDoorSq
namespace Go.Proofs.YtnpklkenjaambaaDoor
open Go Go.RowKit Go.Maps
set_option maxHeartbeats 4000000
set_option linter.unusedSimpArgs false
set_option linter.unusedVariables false
set_option maxRecDepth 100000

def fcL : List Int := [0, 0, 0, 0, 0, 0, 0, 0, 0, 0, 0, 0, 0, 0, 0, 0, 0, 0, 0, 0, 0, 0, 0, 0, 0, 0, 0, 0, 0, 0, 0, 0, 0, 0, 0, 0, 0, 0, 0, 0, 0, 0, 0, 0, 0, 0, 0, 0, 0, 0, 0, 0, 0, 0, 0, 0, 0, 0, 0, 0, 0, 0, 0, 0, 0, 0, 4, 0, 0, 0, 0, 0, 0, 0, 0, 1, 0, 0, 5, 0, 6, 2, 3, 0, 0, 0, 0, 0, 0, 0, 0, 0, 0, 0, 0, 0, 0, 0, 10, 0, 0, 0, 0, 0, 0, 0, 0, 7, 0, 0, 11, 0, 12, 8, 9, 0, 0, 0, 0, 0, 0, 0, 0, 0, 0, 0, 0, 0]
theorem fcL_says : ∀ n < 256, 1 ≤ pcB (UInt8.ofNat n) → n < 128 ∧ fcL.getD n 0 = pcB (UInt8.ofNat n) := by decide +kernel
theorem fcL_at (c : UInt8) (h : 1 ≤ pcB c) : c.toNat < 128 ∧ fcL.getD c.toNat 0 = pcB c := by
  have h1 := fcL_says c.toNat c.toNat_lt
  rw [UInt8.ofNat_toNat] at h1
  exact h1 h
theorem wf_i8 : ∀ n < 64, (Lit.int .i8 ((n : Nat) : Int)).wf = true := by decide
theorem wf_i8z (z : Int) (h0 : 0 ≤ z) (h1 : z ≤ 63) : (Lit.int .i8 z).wf = true := by
  obtain ⟨n, rfl⟩ := Int.eq_ofNat_of_zero_le h0
  exact wf_i8 n (by omega)
/-- A map of files that says the first squares of a rank. -/
structure RowD (D : DataW Unit) (L : List Int) : Prop where
  isM : IsMap D
  only : ∀ kl, has D kl = true → ∃ x : Nat, x < L.length ∧ kl = .int .i8 (x : Int) ∧ L.getD x 0 ≠ 0
  at_ : ∀ x : Nat, x < L.length → L.getD x 0 ≠ 0 → ∀ zd, D.atKey (.int .i8 (x : Int)) zd = .lit (.int .i8 (L.getD x 0))
  yes : ∀ x : Nat, x < L.length → L.getD x 0 ≠ 0 → has D (.int .i8 (x : Int)) = true
theorem RowD.start : RowD (.map []) [] := ⟨isMap_empty, fun kl h => by simp [has_eq] at h, fun x h => by simp at h, fun x h => by simp at h⟩
theorem RowD.zeros {D : DataW Unit} {L : List Int} (h : RowD D L) (n : Nat) : RowD D (L ++ List.replicate n 0) := by
  have e : ∀ x, (L ++ List.replicate n 0).getD x 0 = L.getD x 0 := by
    intro x
    by_cases hx : x < L.length
    · simp [List.getElem?_append_left hx]
    · simp [List.getElem?_append_right (by omega : L.length ≤ x), List.getElem?_replicate]
      split <;> simp [List.getElem?_eq_none (by omega : L.length ≤ x)]
  have f : ∀ x, x < (L ++ List.replicate n 0).length → L.getD x 0 ≠ 0 → x < L.length := by
    intro x _ h1
    by_cases hx : x < L.length
    · exact hx
    · exact absurd (by simp [List.getElem?_eq_none (by omega : L.length ≤ x)]) h1
  refine ⟨h.isM, fun kl hk => ?_, fun x hx h0 zd => ?_, fun x hx h0 => ?_⟩
  · obtain ⟨x, h1, h2, h3⟩ := h.only kl hk
    exact ⟨x, by simp; omega, h2, by rw [e]; exact h3⟩
  · rw [e] at h0 ⊢
    exact h.at_ x (f x hx h0) h0 zd
  · rw [e] at h0
    exact h.yes x (f x hx h0) h0
theorem lit_ne {x y : Nat} (h : x ≠ y) : (Lit.int .i8 (x : Int)) ≠ .int .i8 (y : Int) := by
  intro e
  simp only [Lit.int.injEq, true_and] at e
  omega
theorem RowD.put {D : DataW Unit} {L : List Int} (h : RowD D L) (v : Int) (hv : v ≠ 0) : RowD (D.put (.int .i8 (L.length : Int)) (.lit (.int .i8 v))) (L ++ [v]) := by
  have e1 : ∀ x, x < L.length → (L ++ [v]).getD x 0 = L.getD x 0 := fun x hx => by simp [List.getElem?_append_left hx]
  have e2 : (L ++ [v]).getD L.length 0 = v := by simp
  refine ⟨h.isM.put _ _, fun kl hk => ?_, fun x hx h0 zd => ?_, fun x hx h0 => ?_⟩
  · by_cases hkl : kl = .int .i8 (L.length : Int)
    · exact ⟨L.length, by simp, hkl, by rw [e2]; exact hv⟩
    · rw [has_put_other hkl] at hk
      obtain ⟨x, h1, h2, h3⟩ := h.only kl hk
      exact ⟨x, by simp; omega, h2, by rw [e1 x h1]; exact h3⟩
  · by_cases hxl : x = L.length
    · subst hxl
      rw [e2]
      exact atKey_put_same h.isM (show WideAt.IsKeyLit (.int .i8 (L.length : Int)) from trivial) _ _
    · simp at hx
      rw [atKey_put_other (lit_ne hxl), e1 x (by omega)]
      rw [e1 x (by omega)] at h0
      exact h.at_ x (by omega) h0 zd
  · by_cases hxl : x = L.length
    · subst hxl
      exact has_put_same h.isM (show WideAt.IsKeyLit (.int .i8 (L.length : Int)) from trivial) _
    · simp at hx
      rw [has_put_other (lit_ne hxl)]
      rw [e1 x (by omega)] at h0
      exact h.yes x (by omega) h0
theorem below_grown {w0 w w' : World} {b : Nat} (h : Below w0.heap.size w0 w) (g : w.grownBy w' (some b)) (hb : w0.heap.size ≤ b) : Below w0.heap.size w0 w' :=
  h.trans ⟨g.os, g.tape, g.output, g.size, fun k hk => g.block k (Nat.lt_of_lt_of_le hk h.size) (by intro e; cases e; omega)⟩
abbrev ownF (w : World) (b n : Nat) (D : DataW Unit) : Prop := w.ownsMap Tryd.prog 95 (plainElem (H := Unit) Tryd.prog 75) b n D
theorem wrap_i8c (n : Nat) (h1 : n < 64) : IntKind.i8.wrap (n : Int) = n := by
  have : ∀ n < 64, IntKind.i8.wrap ((n : Nat) : Int) = n := by decide
  exact this n h1
theorem fr_rank (T : List UInt8) (hT : ∀ c ∈ T, okB c) (h8 : (txBack T).length = 8) (hl : T.length ≤ 8) (b : Nat) (w0 w : World) (hB : Below w0.heap.size w0 w) (hb : w0.heap.size ≤ b) (hc : IntTab w0 4 .i8 fcL) (hown : ownF w b 0 (.map [])) :
    Calls Tryd.prog 56 #[.string (bs T), .map (some b)] w fun e w' => e = .returned .nilIface ∧ (∃ D, ownF w' b 8 D ∧ RowD D (txBack T)) ∧ w.grownBy w' (some b) := by
  have hsz := bs_size T
  have hget : Shut (∀ (k : Nat) (h : k < (bs T).size), (bs T)[k]'h = T.getD k 0) := bs_get T
  go_enter Tryd.func56, Tryd.ntmps56
  go_wp2_with fail
  go_loopw [5, 6, 7, 8, 11] (fun cn _ _ _ ct wr => ∃ (i : Nat) (D : DataW Unit), i ≤ T.length ∧ ct = .int .i64 (i : Int) ∧ cn = .int .i64 ((txBack (T.take i)).length : Int) ∧ ownF wr b i D ∧ RowD D (txBack (T.take i)) ∧ w.grownBy wr (some b))
    (fun _ _ _ _ ct _ => T.length - (intOf ct).toNat)
  case atStart => exact ⟨0, .map [], by omega, rfl, by simp [txBack], hown, by simpa [txBack] using RowD.start, ⟨rfl, rfl, rfl, Nat.le_refl _, fun _ _ _ => rfl⟩⟩
  case round =>
    obtain ⟨i, D, hi, rfl, rfl, hoD, hR, hgw⟩ := hrel
    by_cases hlt : i < T.length
    · have hx := hget.out i (by rw [hsz]; exact hlt)
      have hok := hT (T.getD i 0) (by rw [List.getD_eq_getElem?_getD]; simp [hlt])
      have hst := txBack_take T i hlt
      have hle := txBack_le T (i + 1)
      generalize T.getD i 0 = c at *
      generalize txBack (T.take i) = L at *
      have hcb := c.toNat_lt
      rcases hok with ⟨h47, hd | ⟨hnd, p1, p12⟩⟩
      · -- a digit
        rw [txBack_digit c hd h47] at hst
        have hR2 : Shut (RowD D (txBack (T.take (i + 1)))) := by show RowD _ _; rw [hst]; exact hR.zeros _
        have hlen : (txBack (T.take (i + 1))).length = L.length + (c.toNat - 48) := by rw [hst]; simp
        have a1 : (49 : Int) ≤ (c.toNat : Int) := by omega
        have a2 : (c.toNat : Int) ≤ 56 := by omega
        have hw8 : IntKind.u8.wrap ((c.toNat : Int) - 48) = (c.toNat : Int) - 48 := by rw [IntKind.wrap_u8]; omega
        clear hst hR hd hle
        have hlim : L.length ≤ 8 := by have := hlen; have := txBack_le T (i + 1); omega
        go_wp2_with fail
        go_roundw
        case rel => exact ⟨i + 1, D, by omega, by go_num, by rw [hlen]; go_num, hoD.mono (by omega), hR2.out, hgw⟩
        case measure => simp [intOf]; omega
      · -- a letter
        rw [txBack_letter c hnd h47] at hst
        obtain ⟨c128, cfc⟩ := fcL_at c p1
        have hcell := (hc.below (below_grown hB hgw hb)).cell c.toNat (by rw [show fcL.length = 128 from rfl]; omega)
        rw [cfc] at hcell
        generalize pcB c = v at *
        have hR2 : Shut (RowD (D.put (.int .i8 (L.length : Int)) (.lit (.int .i8 v))) (txBack (T.take (i + 1)))) := by show RowD _ _; rw [hst]; exact hR.put v (by omega)
        have hlen : (txBack (T.take (i + 1))).length = L.length + 1 := by rw [hst]; simp
        have hlim : L.length < 8 := by omega
        have hv0 : (v == (0 : Int)) = false := by simp; omega
        have hwr := wrap_i8c L.length (by omega)
        have hkey := keyOf_int_mk (P := Tryd.prog) Tryd.underlying95 (wf_i8 L.length (by omega))
        have hval := plainElem_int (H := Unit) (P := Tryd.prog) Tryd.underlying75 (wf_i8z v (by omega) (by omega))
        have hoDs : Shut (ownF wr b i D) := hoD
        have him : i < maxLen := Nat.lt_of_lt_of_le (by omega : i < 8) (by decide)
        clear hst hR hle hoD
        have hfin : Shut (∀ w1 : World, ownF w1 b (i + 1) (D.put (.int .i8 (L.length : Int)) (.lit (.int .i8 v))) → wr.grownBy w1 (some b) → w.grownBy w1 (some b)) := fun w1 _ g => hgw.andThen g (fun j hj => by cases hj; exact Or.inr rfl)
        by_cases a1 : (49 : Int) ≤ (c.toNat : Int)
        · have a2 : ¬ (c.toNat : Int) ≤ 56 := by omega
          clear hnd
          go_wp2_with (at_mapUpdate; refine wpList_mapUpdate_own _ rfl _ _ _ 98 rfl 95 75 keyFile Tryd.underlying98 _ b i D rfl hoDs.out him _ _ (.int .i8 (L.length : Int)) rfl rfl hkey (.lit (.int .i8 v)) [] hval ?_; intro w1 hown1 hg1)
          have hg2 := hfin.out w1 hown1 hg1
          go_roundw
          case rel => exact ⟨i + 1, _, by omega, by go_num, by rw [hlen]; go_num, hown1, hR2.out, hg2⟩
          case measure => simp [intOf]; omega
        · clear hnd
          go_wp2_with (at_mapUpdate; refine wpList_mapUpdate_own _ rfl _ _ _ 98 rfl 95 75 keyFile Tryd.underlying98 _ b i D rfl hoDs.out him _ _ (.int .i8 (L.length : Int)) rfl rfl hkey (.lit (.int .i8 v)) [] hval ?_; intro w1 hown1 hg1)
          have hg2 := hfin.out w1 hown1 hg1
          go_roundw
          case rel => exact ⟨i + 1, _, by omega, by go_num, by rw [hlen]; go_num, hown1, hR2.out, hg2⟩
          case measure => simp [intOf]; omega
    · obtain rfl : i = T.length := by omega
      rw [List.take_length] at hR
      rw [List.take_length, h8]
      clear hlt
      have hRs : Shut (RowD D (txBack T)) := hR
      clear hR
      go_wp2
      go_ret
      exact ⟨rfl, ⟨D, hoD.mono hl, hRs.out⟩, hgw⟩
end Go.Proofs.YtnpklkenjaambaaDoor
