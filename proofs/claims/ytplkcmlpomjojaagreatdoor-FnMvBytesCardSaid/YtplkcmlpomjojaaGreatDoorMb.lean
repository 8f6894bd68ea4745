/- (*Position).MarshalBinary: the bytes of a position. For every sound position with small numbers. (Printed by gen_mb.py.) -/
import Derived.Test.YtplkcmlpomjojaaGreatDoorPm
import Derived.Test.YtplkcmlpomjojaaGreatDoorBe
import Derived.Test.YtplkcmlpomjojaaGreatDoorOw
import Derived.Deep.DeepCutAuto
namespace Go.Proofs.YtplkcmlpomjojaaGreatDoor
open Go Go.RowKit
set_option maxHeartbeats 8000000
set_option linter.unusedSimpArgs false
set_option linter.unusedVariables false
set_option maxRecDepth 100000

def epFlag (ep : Int) : Int := if ep = -1 then 0 else 32
def flagB (ca tn ep : Int) : Int := ca + 16 * tn + epFlag ep
/-- The bytes of a position. -/
def posBytes (p : List Int) (tn : Nat) : List Value := bytesOf (bbF p) 12 ++ [.int .u8 (p.getD 67 0)] ++ Lib.byteCells (Lib.beBytes 2 (p.getD 68 0).toNat) ++ [.int .u8 (p.getD 66 0 % 256)] ++ [.int .u8 (flagB (p.getD 65 0) tn (p.getD 66 0))]
theorem bytesOf_one (F : Nat → BitVec 64) (k : Nat) : ∀ q ∈ bytesOf F k, q.oneCell' = true := by
  intro q hq
  unfold bytesOf at hq
  obtain ⟨i, _, h⟩ := List.mem_flatMap.1 hq
  unfold bytes8 at h
  obtain ⟨j, _, rfl⟩ := List.mem_map.1 h
  rfl
theorem low8_all : ∀ a < 16, ∀ k < 4, lowB ((a : Nat) : Int) (k + 1) = (if decide (a / 2 ^ k % 2 = 1) = true then bits .or .u8 (lowB ((a : Nat) : Int) k) (2 ^ k) else lowB ((a : Nat) : Int) k) := by decide +kernel
theorem or16_all : ∀ a < 16, bits .or .u8 ((a : Nat) : Int) 16 = (a : Int) + 16 := by decide +kernel
theorem or32_all : ∀ a < 32, bits .or .u8 ((a : Nat) : Int) 32 = (a : Int) + 32 := by decide +kernel
theorem own_b {w w' : World} {base : Nat} {e : TypeId} {size : Nat} {v : Value} {n : Nat} {xs : List Value} (h : w.ownsRow base e size v n xs) (hb : Below w.heap.size w w') : w'.ownsRow base e size v n xs := by
  obtain ⟨h1, h2 | ⟨g, cap, cur, a1, b, c, d⟩⟩ := h
  · exact ⟨h1, Or.inl h2⟩
  · exact ⟨h1, Or.inr ⟨g, cap, cur, a1, b, (hb.block g (Array.getElem?_eq_some_iff.1 c).1).trans c, d⟩⟩
theorem mb_marshal (p : List Int) (tn : Nat) (hs : Sound p tn) (hh : p.getD 67 0 ≤ 255) (hf : p.getD 68 0 ≤ 10000) (pg bg : Nat) (w : World) (hE : EngCells p tn pg bg w) :
    Calls Tryz.prog 37 #[.pointer (some ⟨pg, 0, none⟩)] w fun e w' => ∃ v, e = .returned (.tuple #[v, .nilIface]) ∧ w'.ownsRow w.heap.size 5 1 v 101 (posBytes p tn) ∧ Below w.heap.size w w' := by
  obtain ⟨i0, hi, hz0, hz1, hz2⟩ := info_parts (show (Tryz.prog.info? 5).map (fun i => (i.zero, i.size, i.bytes)) = some (some (.int .u8 0), 1, 1) by kernel_rfl)
  have e0 := lay (be_marshal (bbF p) _ _ _ _ _ bg w hE.bd)
  have g0 : Shut (∀ V, Below w.heap.size w V → V.cell? ⟨pg, 0, none⟩ = some (.pointer (some ⟨bg, 0, none⟩))) := fun V hV => (hE.below hV (Nat.le_refl _)).c0
  have g1 : Shut (∀ V, Below w.heap.size w V → V.cell? ⟨pg, 1, none⟩ = some (.string (casText (p.getD 65 0)))) := fun V hV => (hE.below hV (Nat.le_refl _)).c1
  have g3 : Shut (∀ V, Below w.heap.size w V → V.cell? ⟨pg, 3, none⟩ = some (.int .i64 (p.getD 67 0))) := fun V hV => (hE.below hV (Nat.le_refl _)).c3
  have g4 : Shut (∀ V, Below w.heap.size w V → V.cell? ⟨pg, 4, none⟩ = some (.int .i64 (p.getD 68 0))) := fun V hV => (hE.below hV (Nat.le_refl _)).c4
  have g5 : Shut (∀ V, Below w.heap.size w V → V.cell? ⟨pg, 5, none⟩ = some (.int .i8 ((tn : Int) + 1))) := fun V hV => (hE.below hV (Nat.le_refl _)).c5
  have g6 : Shut (∀ V, Below w.heap.size w V → V.cell? ⟨pg, 6, none⟩ = some (.int .i8 (p.getD 66 0))) := fun V hV => (hE.below hV (Nat.le_refl _)).c6
  have c0 := hE.c0
  obtain ⟨ep0, ep1⟩ := hs.ep
  have hh0 := hs.hf
  have hf1 := hs.fu
  have hone := hs.one
  have ca0 := hs.ca0
  have ca1 := hs.ca1
  have hres : Shut (posBytes p tn = bytesOf (bbF p) 12 ++ [.int .u8 (p.getD 67 0)] ++ Lib.byteCells (Lib.beBytes 2 (p.getD 68 0).toNat) ++ [.int .u8 (p.getD 66 0 % 256)] ++ [.int .u8 (flagB (p.getD 65 0) tn (p.getD 66 0))]) := by rfl
  have hone1 := bytesOf_one (bbF p) 12
  generalize bytesOf (bbF p) 12 = BB at *
  generalize posBytes p tn = PB at *
  clear hE hs
  generalize p.getD 65 0 = ca at *
  generalize p.getD 66 0 = ep at *
  generalize p.getD 67 0 = ha at *
  obtain ⟨fu, hfu⟩ := Int.eq_ofNat_of_zero_le (show 0 ≤ p.getD 68 0 by omega)
  rw [hfu] at hf hf1 hres g4
  rw [Int.toNat_natCast] at hres
  clear hfu
  have hones := lay hone1
  have w8h : IntKind.u8.wrap ha = ha := by rw [IntKind.wrap_u8]; omega
  have w16 : IntKind.u16.wrap (fu : Int) = (fu : Int) := by unfold IntKind.wrap; simp [IntKind.bits, IntKind.signed]; omega
  have w8e : IntKind.u8.wrap ep = ep % 256 := by rw [IntKind.wrap_u8]
  have hap := lay (fun (B n : Nat) (sv : Value) (xs : List Value) (V : World) hown hB hl => Tryz.binary_BE_AppendUint16 B n fu (by omega) sv xs V hown hB hl)
  have hlow : Shut (∀ k, k < 4 → lowB ca (k + 1) = (if decide (ca.toNat / 2 ^ k % 2 = 1) = true then bits .or .u8 (lowB ca k) (2 ^ k) else lowB ca k)) := by
    intro k hk
    obtain ⟨n, rfl⟩ := Int.eq_ofNat_of_zero_le ca0
    exact low8_all n (by omega) k hk
  have hpc := lay (fun (k : Nat) hk (a b : Int) ha hb V => cc_right ca ca0 ca1 k hk a b ha hb V)
  clear hone1
  go_enter Tryz.func37, Tryz.ntmps37
  go_wp2_with fail
  refine e0.out.mono ?_
  rintro q1 w1 ⟨v1, rfl, hown1, hb1⟩
  have c3 := g3.out w1 hb1
  have hbz1 := hb1.size
  obtain ⟨a1, cc1, rfl, _⟩ := own_slice2 hown1
  have hown1s := lay hown1
  have hb1s := lay hb1
  clear c0 hown1 hb1
  go_upto_region 5 with ((with_reducible refine at_append_all Tryz.underlying28 hi hz0 hz1 hz2 rfl (by decide) (by decide) w.heap.size (.slice none 0 0) 0 [] (World.ownsRow_nil _ _ _ _) _ _ 96 BB hown1s.out hones.out (by decide) hbz1 ?_ ?_ ?_); rfl; rfl; intro v2 w2 hown2 hb2 hz2')
  rw [List.nil_append] at hown2
  have hB2 := hb1s.out.trans hb2
  have c3 := g3.out w2 hB2
  have hbz2 := hB2.size
  have hB2s := lay hB2
  clear hb2 hB2 hz2'
  go_upto_region 6 with ((with_reducible refine at_append1 Tryz.underlying28 hi hz0 hz1 hz2 rfl (by decide) rfl w.heap.size _ _ _ hown2 (by decide) hbz2 ?_ ?_ ?_); rfl; rfl; intro v3 w3 hown3 hb3)
  have hB3 := hB2s.out.trans hb3
  have hbz3 := hB3.size
  have hB3s := lay hB3
  have hown3s := lay hown3
  clear hb3 hB3 hown2 c3 hown3
  refine wp_region_held_drew (S := fun V : World => V.cell? ⟨pg, 4, none⟩ = some (.int .i64 (fu : Int)) ∧ Below w.heap.size w V) (by kernel_rfl) ⟨g4.out _ (hB3s.out.drew), hB3s.out.drew⟩ (fun hHeld => ?_)
  refine wpAnyH_take (i := 0) (v := ?vmb_1_0) rfl (by kernel_rfl) (by kernel_rfl) (by kernel_rfl) (fun _ _ _ h => h) (Or.inl ⟨by rfl, ?ymb_1_0⟩) hHeld ?rmb_1_0
  case ymb_1_0 => (intro wq hSw; clear hSw; go_simp; try with_reducible rfl)
  try simp only [List.getElem_toArray, List.getElem_cons_zero, List.getElem_cons_succ, Act.put, List.setIfInBounds_toArray, List.set_cons_zero, List.set_cons_succ]
  refine wpAnyH_take (i := 1) (v := ?vmb_2_1) rfl (by kernel_rfl) (by kernel_rfl) (by kernel_rfl) (fun _ _ _ h => h) (Or.inl ⟨by rfl, ?ymb_2_1⟩) hHeld ?rmb_2_1
  case ymb_2_1 => (intro wq hSw; clear hSw; go_simp; try with_reducible rfl)
  try simp only [List.getElem_toArray, List.getElem_cons_zero, List.getElem_cons_succ, Act.put, List.setIfInBounds_toArray, List.set_cons_zero, List.set_cons_succ]
  refine wpAnyH_take (i := 2) (v := ?vmb_3_2) rfl (by kernel_rfl) (by kernel_rfl) (by kernel_rfl) (fun _ _ _ h => h) (Or.inl ⟨by rfl, ?ymb_3_2⟩) hHeld ?rmb_3_2
  case ymb_3_2 => (intro wq hSw; clear hSw; go_simp; try with_reducible rfl)
  try simp only [List.getElem_toArray, List.getElem_cons_zero, List.getElem_cons_succ, Act.put, List.setIfInBounds_toArray, List.set_cons_zero, List.set_cons_succ]
  refine wpAnyH_take (i := 3) (v := ?vmb_4_3) rfl (by kernel_rfl) (by kernel_rfl) (by kernel_rfl) (fun _ _ _ h => h) (Or.inl ⟨by rfl, ?ymb_4_3⟩) hHeld ?rmb_4_3
  case ymb_4_3 => (intro wq hSw; clear hSw; go_simp; try with_reducible rfl)
  try simp only [List.getElem_toArray, List.getElem_cons_zero, List.getElem_cons_succ, Act.put, List.setIfInBounds_toArray, List.set_cons_zero, List.set_cons_succ]
  refine wpAnyH_take (i := 4) (v := ?vmb_5_4) rfl (by kernel_rfl) (by kernel_rfl) (by kernel_rfl) (fun _ _ _ h => h) (Or.inl ⟨by rfl, ?ymb_5_4⟩) hHeld ?rmb_5_4
  case ymb_5_4 => (intro wq hSw; clear hSw; go_simp; try with_reducible rfl)
  try simp only [List.getElem_toArray, List.getElem_cons_zero, List.getElem_cons_succ, Act.put, List.setIfInBounds_toArray, List.set_cons_zero, List.set_cons_succ]
  refine wpAnyH_take (i := 5) (v := ?vmb_6_5) rfl (by kernel_rfl) (by kernel_rfl) (by kernel_rfl) (fun _ _ _ h => h) (Or.inl ⟨by rfl, ?ymb_6_5⟩) hHeld ?rmb_6_5
  case ymb_6_5 => (intro wq hSw; have hq := hSw.1; clear hSw; go_simp; try with_reducible rfl)
  try simp only [List.getElem_toArray, List.getElem_cons_zero, List.getElem_cons_succ, Act.put, List.setIfInBounds_toArray, List.set_cons_zero, List.set_cons_succ]
  refine wpAnyH_take (i := 6) (v := ?vmb_7_6) rfl (by kernel_rfl) (by kernel_rfl) (by kernel_rfl) (fun _ _ _ h => h) (Or.inl ⟨by rfl, ?ymb_7_6⟩) hHeld ?rmb_7_6
  case ymb_7_6 => (intro wq hSw; clear hSw; go_simp; try with_reducible rfl)
  try simp only [List.getElem_toArray, List.getElem_cons_zero, List.getElem_cons_succ, Act.put, List.setIfInBounds_toArray, List.set_cons_zero, List.set_cons_succ]
  refine wpAnyH_ready (rs := [7]) (by kernel_rfl) (by simp) ?_
  refine AllReadyH.cons rfl (fun K hK => ?_) AllReadyH.nil
  try simp only [List.getElem_toArray, List.getElem_cons_zero, List.getElem_cons_succ, Act.put, List.setIfInBounds_toArray, List.set_cons_zero, List.set_cons_succ]
  try rw [if_pos (by rfl)]
  go_simp
  refine (hap.out w.heap.size (96 + 1) v3 _ w3.drew hown3s.out hHeld.2.size (by decide)).mono ?_
  rintro e4 w4 ⟨v4, rfl, hown4, hb4⟩
  go_wp2_with fail
  refine hK.out _ _ (⟨g4.out _ (hHeld.2.trans hb4), hHeld.2.trans hb4⟩) (fun hHeld => ?_)
  clear hK K
  try simp only [List.getElem_toArray, List.getElem_cons_zero, List.getElem_cons_succ, Act.put, List.setIfInBounds_toArray, List.set_cons_zero, List.set_cons_succ]
  refine wpAnyH_take (i := 8) (v := ?vmc_1_8) rfl (by kernel_rfl) (by kernel_rfl) (by kernel_rfl) (fun _ _ _ h => h) (Or.inl ⟨by rfl, ?ymc_1_8⟩) hHeld ?rmc_1_8
  case ymc_1_8 => (intro wq hSw; clear hSw; go_simp; try with_reducible rfl)
  try simp only [List.getElem_toArray, List.getElem_cons_zero, List.getElem_cons_succ, Act.put, List.setIfInBounds_toArray, List.set_cons_zero, List.set_cons_succ]
  refine wpAnyH_done (by kernel_rfl) ?_ _
  have hB4s := lay hHeld.2
  clear hHeld hb4 hown3s
  have c6 := g6.out w4 hB4s.out
  have hbz4 := hB4s.out.size
  go_upto_region 8 with ((with_reducible refine at_append1 Tryz.underlying28 hi hz0 hz1 hz2 rfl (by decide) rfl w.heap.size _ _ _ hown4 (by decide) hbz4 ?_ ?_ ?_); rfl; rfl; intro v5 w5 hown5 hb5)
  have hB5s := lay (hB4s.out.trans hb5)
  have hown5s := lay hown5
  clear hb5 hown4 hown5 c6 hB4s
  have hlow0 : lowB ca 0 = 0 := by unfold lowB; simp

  have c1 := g1.out w5 hB5s.out
  have hck := lay (fun V => hpc.out 0 (by decide) 1 1 (by decide) (by decide) V)
  go_upto_if 49 with (go_at_call 79; refine (hck.out _).mono ?_; rintro e10 wb0 ⟨rfl, hb10⟩)
  have hB20 := lay (hB5s.out.trans (hb10.mono hB5s.out.size))
  have ho20 := lay (own_b hown5s.out hb10)
  have hlk := lay (hlow.out 0 (by decide))
  clear hb10 c1 hck
  go_cut [7] (fun s7 wx => s7 = .int .u8 (lowB ca 1) ∧ wx = wb0)
  case first =>
    cases hbit : decide (ca.toNat % 2 = 1) with
    | true =>
      have h := hlk.out
      rw [Nat.pow_zero, Nat.div_one, hbit, if_pos rfl] at h
      have hs := lay h
      clear h
      go_wp2_with fail
      go_meet
      exact ⟨by rw [hs.out]; rw [hlow0]; rfl, rfl⟩
    | false =>
      have h := hlk.out
      rw [Nat.pow_zero, Nat.div_one, hbit, if_neg (by decide)] at h
      have hs := lay h
      clear h
      go_wp2_with fail
      go_meet
      exact ⟨by rw [hs.out]; rw [hlow0], rfl⟩
  case rest =>
    obtain ⟨rfl, rfl⟩ := hcut
    have hcwS := lay (rfl : wc = wc)
    have c1 := g1.out wc hB20.out
    have hck := lay (fun V => hpc.out 1 (by decide) 1 2 (by decide) (by decide) V)
    go_upto_if 56 with (go_at_call 79; refine (hck.out _).mono ?_; rintro e11 wb1 ⟨rfl, hb11⟩)
    have hB21 := lay (hB20.out.trans (hb11.mono hB20.out.size))
    have ho21 := lay (own_b ho20.out hb11)
    have hlk := lay (hlow.out 1 (by decide))
    clear hb11 c1 hck
    go_cut [7] (fun s7 wx => s7 = .int .u8 (lowB ca 2) ∧ wx = wb1)
    case first =>
      cases hbit : decide (ca.toNat / 2 ^ 1 % 2 = 1) with
      | true =>
        have h := hlk.out
        rw [hbit, if_pos rfl] at h
        have hs := lay h
        clear h
        go_wp2_with fail
        go_meet
        exact ⟨by rw [hs.out]; rfl, rfl⟩
      | false =>
        have h := hlk.out
        rw [hbit, if_neg (by decide)] at h
        have hs := lay h
        clear h
        go_wp2_with fail
        go_meet
        exact ⟨by rw [hs.out], rfl⟩
    case rest =>
      obtain ⟨rfl, rfl⟩ := hcut
      have hcwS := lay (rfl : wc = wc)
      have c1 := g1.out wc hB21.out
      have hck := lay (fun V => hpc.out 2 (by decide) 2 1 (by decide) (by decide) V)
      go_upto_if 63 with (go_at_call 79; refine (hck.out _).mono ?_; rintro e12 wb2 ⟨rfl, hb12⟩)
      have hB22 := lay (hB21.out.trans (hb12.mono hB21.out.size))
      have ho22 := lay (own_b ho21.out hb12)
      have hlk := lay (hlow.out 2 (by decide))
      clear hb12 c1 hck
      go_cut [7] (fun s7 wx => s7 = .int .u8 (lowB ca 3) ∧ wx = wb2)
      case first =>
        cases hbit : decide (ca.toNat / 2 ^ 2 % 2 = 1) with
        | true =>
          have h := hlk.out
          rw [hbit, if_pos rfl] at h
          have hs := lay h
          clear h
          go_wp2_with fail
          go_meet
          exact ⟨by rw [hs.out]; rfl, rfl⟩
        | false =>
          have h := hlk.out
          rw [hbit, if_neg (by decide)] at h
          have hs := lay h
          clear h
          go_wp2_with fail
          go_meet
          exact ⟨by rw [hs.out], rfl⟩
      case rest =>
        obtain ⟨rfl, rfl⟩ := hcut
        have hcwS := lay (rfl : wc = wc)
        have c1 := g1.out wc hB22.out
        have hck := lay (fun V => hpc.out 3 (by decide) 2 2 (by decide) (by decide) V)
        go_upto_if 70 with (go_at_call 79; refine (hck.out _).mono ?_; rintro e13 wb3 ⟨rfl, hb13⟩)
        have hB23 := lay (hB22.out.trans (hb13.mono hB22.out.size))
        have ho23 := lay (own_b ho22.out hb13)
        have hlk := lay (hlow.out 3 (by decide))
        clear hb13 c1 hck
        go_cut [7] (fun s7 wx => s7 = .int .u8 (lowB ca 4) ∧ wx = wb3)
        case first =>
          cases hbit : decide (ca.toNat / 2 ^ 3 % 2 = 1) with
          | true =>
            have h := hlk.out
            rw [hbit, if_pos rfl] at h
            have hs := lay h
            clear h
            go_wp2_with fail
            go_meet
            exact ⟨by rw [hs.out]; rfl, rfl⟩
          | false =>
            have h := hlk.out
            rw [hbit, if_neg (by decide)] at h
            have hs := lay h
            clear h
            go_wp2_with fail
            go_meet
            exact ⟨by rw [hs.out], rfl⟩
        case rest =>
          obtain ⟨rfl, rfl⟩ := hcut
          have e4 : lowB ca 4 = ca := by unfold lowB; simp; omega
          rw [e4]
          have hfin : Shut (∀ (x : Int), x = flagB ca tn ep → ∀ v' w', w'.ownsRow w.heap.size 5 1 v' (96 + 1 + 2 + 1 + 1) (BB ++ [.int .u8 ha] ++ Lib.byteCells (Lib.beBytes 2 fu) ++ [.int .u8 (ep % 256)] ++ [.int .u8 x]) → Below w.heap.size wc w' → ∃ v, Ending.returned (.tuple #[v', .nilIface]) = .returned (.tuple #[v, .nilIface]) ∧ w'.ownsRow w.heap.size 5 1 v 101 PB ∧ Below w.heap.size w w') := by
            intro x hx v' w' ho hb
            subst hx
            rw [hres.out]
            exact ⟨v', rfl, ho, hB23.out.trans hb⟩
          have hor16 : bits .or .u8 ca 16 = ca + 16 := by
            obtain ⟨n, rfl⟩ := Int.eq_ofNat_of_zero_le ca0
            exact or16_all n (by omega)
          have hor32 : bits .or .u8 ca 32 = ca + 32 := by
            obtain ⟨n, rfl⟩ := Int.eq_ofNat_of_zero_le ca0
            exact or32_all n (by omega)
          have hor48 : bits .or .u8 (ca + 16) 32 = ca + 16 + 32 := by
            obtain ⟨n, rfl⟩ := Int.eq_ofNat_of_zero_le ca0
            exact or32_all (n + 16) (by omega)
          have h16s := lay hor16
          have h32s := lay hor32
          have h48s := lay hor48
          have c5 := g5.out wc hB23.out
          have c6 := g6.out wc hB23.out
          have hown9 := ho23.out
          have hBz := hB23.out.size
          clear hres e0 hap hpc hlow g0 g1 g3 g4 g5 g6 hor16 hor32 hor48 e4
          by_cases hep : ep = -1
          · rcases (show tn = 0 ∨ tn = 1 by omega) with rfl | rfl
            · replace c5 : wc.cell? ⟨pg, 5, none⟩ = some (.int .i8 1) := by simpa using c5
              go_upto_region 21 with fail
              go_wp2_with ((with_reducible refine at_append1 Tryz.underlying28 hi hz0 hz1 hz2 rfl (by decide) rfl w.heap.size _ _ _ hown9 (by decide) hBz ?_ ?_ ?_); rfl; rfl; intro v6 w6 hown6 hb6)
              go_ret2
              exact hfin.out _ (by unfold flagB epFlag; rw [hep]; simp) _ _ hown6 hb6
            · replace c5 : wc.cell? ⟨pg, 5, none⟩ = some (.int .i8 2) := by simpa using c5
              go_upto_region 21 with fail
              go_wp2_with ((with_reducible refine at_append1 Tryz.underlying28 hi hz0 hz1 hz2 rfl (by decide) rfl w.heap.size _ _ _ hown9 (by decide) hBz ?_ ?_ ?_); rfl; rfl; intro v6 w6 hown6 hb6)
              go_ret2
              exact hfin.out _ (by unfold flagB epFlag; rw [hep, h16s.out]; simp) _ _ hown6 hb6
          · rcases (show tn = 0 ∨ tn = 1 by omega) with rfl | rfl
            · replace c5 : wc.cell? ⟨pg, 5, none⟩ = some (.int .i8 1) := by simpa using c5
              go_upto_region 21 with fail
              go_wp2_with ((with_reducible refine at_append1 Tryz.underlying28 hi hz0 hz1 hz2 rfl (by decide) rfl w.heap.size _ _ _ hown9 (by decide) hBz ?_ ?_ ?_); rfl; rfl; intro v6 w6 hown6 hb6)
              go_ret2
              exact hfin.out _ (by unfold flagB epFlag; rw [if_neg hep, h32s.out]; simp) _ _ hown6 hb6
            · replace c5 : wc.cell? ⟨pg, 5, none⟩ = some (.int .i8 2) := by simpa using c5
              go_upto_region 21 with fail
              go_wp2_with ((with_reducible refine at_append1 Tryz.underlying28 hi hz0 hz1 hz2 rfl (by decide) rfl w.heap.size _ _ _ hown9 (by decide) hBz ?_ ?_ ?_); rfl; rfl; intro v6 w6 hown6 hb6)
              go_ret2
              exact hfin.out _ (by unfold flagB epFlag; rw [if_neg hep, h16s.out, h48s.out]; simp) _ _ hown6 hb6
end Go.Proofs.YtplkcmlpomjojaaGreatDoor
