/- The parts of a move's text as the package cuts it: zzSan. For every text of at most 200 bytes that begins with a piece's letter and has its parts in one way, without a promotion. -/
import Derived.Test.YtnpklkenjaambaaDoorQe
import Derived.Test.YtnpklkenjaambaaDoorQc
import Derived.Shelf.Abstract
import Derived.Deep.DeepCutAuto
import Derived.Great.BuildSlice
namespace Go.Proofs.YtnpklkenjaambaaDoor
open Go Go.RowKit
set_option maxHeartbeats 8000000
set_option linter.unusedSimpArgs false
set_option linter.unusedVariables false
set_option maxRecDepth 100000

theorem isN_le (L T : List UInt8) (i : Nat) : isN L T i ≤ 1 := by unfold isN; split <;> omega
theorem isN_one {L T : List UInt8} {i : Nat} (h : isN L T i = 1) : atB L T i = true := by unfold isN at h; split at h <;> simp_all
theorem isN_of {L T : List UInt8} {i : Nat} (h : atB L T i = true) : isN L T i = 1 := by unfold isN; rw [if_pos h]
/-- The ten texts that are handed back. -/
def tenL (T : List UInt8) (b c d : Nat) : List (List UInt8) := [T, T.take 1] ++ partsL T 1 b c d ++ [[], []]
/-- The cells of the ten texts. -/
def tenV (T : List UInt8) (e1 e2 e3 e4 e5 : Nat) : Array Value :=
  #[.string (bs T), .string ((bs T).extract 0 1), .string ((bs T).extract 1 e1), .string ((bs T).extract e1 e2), .string ((bs T).extract e2 e3), .string ((bs T).extract e3 e4), .string ((bs T).extract e4 e5), .string ByteArray.empty, .string ByteArray.empty, .string ByteArray.empty]
theorem ten_cells (T : List UInt8) (b c d e1 e2 e3 e4 e5 : Nat) (h1 : 1 + b = e1) (h2 : 1 + b + c = e2) (h3 : 1 + b + c + d = e3) (h4 : e3 + 1 = e4) (h5 : e3 + 2 = e5) (hpr : prL T (1 + b + c + d + 2) = 0) :
    ∀ k, k < 10 → (tenV T e1 e2 e3 e4 e5)[k]? = some (.string (bs ((tenL T b c d).getD k []))) := by
  intro k hk
  subst h1 h2 h3 h4 h5
  have hx : ∀ i j n, i + n = j → (bs T).extract i j = bs ((T.drop i).take n) := by
    intro i j n h
    rw [bs_extract, List.drop_take]
    congr 2
    omega
  unfold tenV
  rw [hx 0 1 1 rfl, hx 1 (1 + b) b rfl, hx (1 + b) (1 + b + c) c rfl, hx (1 + b + c) (1 + b + c + d) d rfl, hx (1 + b + c + d) (1 + b + c + d + 1) 1 rfl, hx (1 + b + c + d + 1) (1 + b + c + d + 2) 1 rfl]
  unfold tenL partsL
  rw [hpr]
  match k, hk with
  | 0, _ => rfl
  | 1, _ => rfl
  | 2, _ => rfl
  | 3, _ => rfl
  | 4, _ => rfl
  | 5, _ => rfl
  | 6, _ => rfl
  | 7, _ => rfl
  | 8, _ => rfl
  | 9, _ => rfl
theorem qf_san (T : List UInt8) (b c d : Nat) (hl : T.length ≤ 200) (hb : b ≤ 1) (hc : c ≤ 1) (hd : d ≤ 1) (hp : atB pcsL T 0 = true) (hok : okC T 1 b c d = true) (hpr : prL T (1 + b + c + d + 2) = 0) (htl : tailB (T.drop (1 + b + c + d + 2)) = true) (w : World) :
    Calls Tryd.prog 45 #[.string (bs T)] w fun e w' => ∃ g, e = .returned (.slice (some ⟨g, 0, none⟩) 10 10) ∧ (∀ k, k < 10 → w'.cell? ⟨g, k, none⟩ = some (.string (bs ((tenL T b c d).getD k [])))) ∧ w.heap.size ≤ g ∧ g < w'.heap.size ∧ Below w.heap.size w w' := by
  have hsz := bs_size T
  have hmf := makeFunc_run Tryd.prog
  have hway := qlay (fun b' c' d' p hb' hc' hd' h' hp' ht' => one_way (b' := b') (c' := c') (d' := d') (p := p) hb hc hd hb' hc' hd' hok h' hpr htl hp' ht')
  have hcell : ∀ q, ((w.alloc (.cells #[.string (bs T)] 9)).drewN q).cell? ⟨w.heap.size, 0, none⟩ = some (.string (bs T)) := fun q => by
    rw [World.cell?_drewN]
    exact cell_of_row _ _ 0 _ _ _ (heap_alloc_new w _)
  have hone : Shut (∀ L : List UInt8, L.length ≤ 20 → ∀ (i : Nat) (z : Int), z = (i : Int) → ∀ q, Calls Tryd.prog 63 #[.int .i64 z, .string (bs L), .pointer (some ⟨w.heap.size, 0, none⟩)] ((w.alloc (.cells #[.string (bs T)] 9)).drewN q) fun e w' => e = .returned (.int .i64 (isN L T i)) ∧ ∃ q', w' = (w.alloc (.cells #[.string (bs T)] 9)).drewN q') := by
    intro L hL i z hz q
    subst hz
    refine (qe_one T L i w.heap.size hl hL _ (hcell q)).mono ?_
    rintro e w' ⟨he, q', rfl⟩
    exact ⟨he, q + q', by simp⟩
  have hzt : Shut (∀ (i : Nat), i ≤ 200 → ∀ (z : Int), z = (i : Int) → ∀ V, Calls Tryd.prog 64 #[.string (bs T), .int .i64 z] V fun e w' => e = .returned (.bool (tailB (T.drop i))) ∧ V = w') := by
    intro i hi z hz V
    subst hz
    exact qe_tail T i hl hi V
  have hst := qlay (And.intro hok (And.intro hpr htl))
  have hbel : Shut (Below w.heap.size w (w.alloc (.cells #[.string (bs T)] 9))) := (Below.refl _ _).alloc (Nat.le_refl _) _
  have hp1 := isN_of hp
  clear hp hok hpr htl
  go_enter Tryd.func45, Tryd.ntmps45
  have hcs := qlay hcell
  clear hcell
  go_wp2_with fail
  generalize w.alloc (.cells #[.string (bs T)] 9) = W0 at *
  refine (hone.out pcsL (by decide) 0 _ (by omega) 0).mono ?_
  rintro e w1 ⟨rfl, q, rfl⟩
  rw [hp1]
  go_wp2_with fail
  go_loopw [4] (fun a wr => a = .int .i64 1 ∧ ∃ q, wr = W0.drewN q) (fun _ _ => 0)
  case atStart => exact ⟨rfl, q, rfl⟩
  case round =>
    obtain ⟨rfl, q, rfl⟩ := hrel
    go_wp2_with fail
    refine (hone.out fileL (by decide) 1 _ (by omega) q).mono ?_
    rintro e w1 ⟨rfl, q2, rfl⟩
    have hb1 := isN_le fileL T 1
    have hb2 : Shut (isN fileL T 1 = 1 → atB fileL T 1 = true) := isN_one
    have hb3 : Shut (b ≤ isN fileL T 1) := by
      show _ ≤ _
      have h := hst.out.1
      simp only [okC, Bool.and_eq_true, Bool.or_eq_true, beq_iff_eq] at h
      rcases h.1.1.1.1 with h | h
      · omega
      · rw [isN_of h]; exact hb
    generalize isN fileL T 1 = b0 at *
    have hb3' := hb3.out
    go_wp2_with fail
    go_loopw [5, 6, 7, 8, 9, 10] (fun bv _ _ _ _ _ wr => ∃ bn : Nat, bv = .int .i64 (bn : Int) ∧ b ≤ bn ∧ bn ≤ 1 ∧ (bn = 1 → atB fileL T 1 = true) ∧ ∃ q, wr = W0.drewN q) (fun bv _ _ _ _ _ _ => (intOf bv).toNat)
    case atStart => exact ⟨b0, rfl, hb3.out, hb1, hb2.out, q2, rfl⟩
    case round =>
      clear hb1 hb2 hb3 hb3'
      obtain ⟨bn, rfl, hbl, hbn, hbf, q, rfl⟩ := hrel
      have hbfs := qlay hbf
      clear hbf
      go_wp2_with fail
      refine (hone.out digL (by decide) (1 + bn) _ (by omega) q).mono ?_
      rintro e w1 ⟨rfl, q2, rfl⟩
      have hc1 := isN_le digL T (1 + bn)
      have hc2 : Shut (isN digL T (1 + bn) = 1 → atB digL T (1 + bn) = true) := isN_one
      have hc3 : Shut (bn = b → c ≤ isN digL T (1 + bn)) := by
        intro e
        have h := hst.out.1
        simp only [okC, Bool.and_eq_true, Bool.or_eq_true, beq_iff_eq] at h
        rcases h.1.1.1.2 with h | h
        · omega
        · rw [e, isN_of h]; exact hc
      generalize isN digL T (1 + bn) = c0 at *
      go_wp2_with fail
      go_loopw [6, 7, 8, 9, 10] (fun cv _ _ _ _ wr => ∃ cz : Int, cv = .int .i64 cz ∧ -1 ≤ cz ∧ cz ≤ 1 ∧ (bn = b → (c : Int) ≤ cz) ∧ (cz = 1 → atB digL T (1 + bn) = true) ∧ ∃ q, wr = W0.drewN q) (fun cv _ _ _ _ _ => (intOf cv + 1).toNat)
      case atStart => exact ⟨c0, rfl, by omega, by omega, fun e => by have := hc3.out e; omega, fun e => hc2.out (by omega), q2, rfl⟩
      case round =>
        clear hc1 hc2 hc3
        obtain ⟨cz, rfl, hcl, hcu, hcb, hcf, q, rfl⟩ := hrel
        have hcbs := qlay hcb
        have hcfs := qlay hcf
        clear hcb hcf
        by_cases hcn : cz = -1
        · subst hcn
          obtain rfl : bn = 1 := by
            by_cases e : bn = b
            · have := hcbs.out e; omega
            · omega
          have hb0 : b = 0 := by
            by_cases e : (1 : Nat) = b
            · have := hcbs.out e; omega
            · omega
          clear hcbs hcfs
          go_wp2_with fail
          go_roundw
          case rel => first | exact ⟨0, by go_num, by omega, by omega, fun e => by omega, q, rfl⟩ | ((repeat apply Exists.intro); exact ⟨⟨0, by go_num, by omega, by omega, fun e => by omega, q, rfl⟩, rfl⟩)
          case measure => simp [intOf]
        · obtain ⟨cn, rfl⟩ : ∃ cn : Nat, cz = (cn : Int) := ⟨cz.toNat, by omega⟩
          clear hcn hcl
          go_wp2_with fail
          refine (hone.out [120] (by decide) (1 + bn + cn) _ (by omega) q).mono ?_
          rintro e w1 ⟨rfl, q2, rfl⟩
          have hd1 := isN_le [120] T (1 + bn + cn)
          have hd2 : Shut (isN [120] T (1 + bn + cn) = 1 → atB [120] T (1 + bn + cn) = true) := isN_one
          have hd3 : Shut (bn = b ∧ cn = c → d ≤ isN [120] T (1 + bn + cn)) := by
            rintro ⟨e1, e2⟩
            have h := hst.out.1
            simp only [okC, Bool.and_eq_true, Bool.or_eq_true, beq_iff_eq] at h
            rcases h.1.1.2 with h | h
            · omega
            · rw [e1, e2, isN_of h]; exact hd
          generalize isN [120] T (1 + bn + cn) = d0 at *
          go_wp2_with fail
          go_loopw [7, 8, 9, 10] (fun dv _ _ _ wr => ∃ dz : Int, dv = .int .i64 dz ∧ -1 ≤ dz ∧ dz ≤ 1 ∧ (bn = b ∧ cn = c → (d : Int) ≤ dz) ∧ (dz = 1 → atB [120] T (1 + bn + cn) = true) ∧ ∃ q, wr = W0.drewN q) (fun dv _ _ _ _ => (intOf dv + 1).toNat)
          case atStart => exact ⟨d0, rfl, by omega, by omega, fun e => by have := hd3.out e; omega, fun e => hd2.out (by omega), q2, rfl⟩
          case round =>
            clear hd1 hd2 hd3
            obtain ⟨dz, rfl, hdl, hdu, hdb, hdf, q, rfl⟩ := hrel
            have hdbs := qlay hdb
            have hdfs := qlay hdf
            clear hdb hdf
            by_cases hdn : dz = -1
            · subst hdn
              have hne : Shut (bn = b → c + 1 ≤ cn) := by
                intro e
                have h1 := hcbs.out e
                by_cases e2 : cn = c
                · have := hdbs.out ⟨e, e2⟩; omega
                · omega
              clear hdbs hdfs hcbs hcfs
              go_wp2_with fail
              go_roundw
              case rel => first | exact ⟨(cn : Int) - 1, by go_num, by omega, by omega, fun e => by have := hne.out e; omega, fun e => by omega, q, rfl⟩ | ((repeat apply Exists.intro); exact ⟨⟨(cn : Int) - 1, by go_num, by omega, by omega, fun e => by have := hne.out e; omega, fun e => by omega, q, rfl⟩, rfl⟩)
              case measure => first | (simp [intOf]; done) | (simp [intOf]; omega)
            · obtain ⟨dn, rfl⟩ : ∃ dn : Nat, dz = (dn : Int) := ⟨dz.toNat, by omega⟩
              clear hdn hdl
              have hstar : Shut (bn = b ∧ cn = c → d ≤ dn) := fun e => by have := hdbs.out e; omega
              clear hdbs
              go_wp2_with fail
              refine (hone.out fileL (by decide) (1 + bn + cn + dn) _ (by omega) q).mono ?_
              rintro e w1 ⟨rfl, q2, rfl⟩
              have hf1 := isN_le fileL T (1 + bn + cn + dn)
              have hf2 : Shut (isN fileL T (1 + bn + cn + dn) = 1 → atB fileL T (1 + bn + cn + dn) = true) := isN_one
              have hf3 : Shut (isN fileL T (1 + bn + cn + dn) = 0 → bn = b ∧ cn = c → d + 1 ≤ dn) := by
                intro h0 e
                have h1 := hstar.out e
                by_cases e3 : dn = d
                · exfalso
                  have h := hst.out.1
                  simp only [okC, Bool.and_eq_true, Bool.or_eq_true, beq_iff_eq] at h
                  rw [e.1, e.2, e3, isN_of h.1.2] at h0
                  cases h0
                · omega
              generalize isN fileL T (1 + bn + cn + dn) = f0 at *
              rcases (show f0 = 0 ∨ f0 = 1 by omega) with rfl | rfl
              · have hno : Shut (bn = b ∧ cn = c → d + 1 ≤ dn) := hf3.out rfl
                clear hf1 hf2 hf3 hdfs hcbs hcfs
                go_wp2_with fail
                go_roundw
                case rel => first | exact ⟨(dn : Int) - 1, by go_num, by omega, by omega, fun e => by have := hno.out e; omega, fun e => by omega, q2, rfl⟩ | ((repeat apply Exists.intro); exact ⟨⟨(dn : Int) - 1, by go_num, by omega, by omega, fun e => by have := hno.out e; omega, fun e => by omega, q2, rfl⟩, rfl⟩)
                case measure => first | (simp [intOf]; done) | (simp [intOf]; omega)
              · have hf4 : Shut (atB fileL T (1 + bn + cn + dn) = true) := hf2.out rfl
                clear hf1 hf2 hf3
                go_wp2_with fail
                refine (hone.out digL (by decide) (1 + bn + cn + dn + 1) _ (by omega) q2).mono ?_
                rintro e w1 ⟨rfl, q3, rfl⟩
                have hg1 := isN_le digL T (1 + bn + cn + dn + 1)
                have hg2 : Shut (isN digL T (1 + bn + cn + dn + 1) = 1 → atB digL T (1 + bn + cn + dn + 1) = true) := isN_one
                have hg3 : Shut (isN digL T (1 + bn + cn + dn + 1) = 0 → bn = b ∧ cn = c → d + 1 ≤ dn) := by
                  intro h0 e
                  have h1 := hstar.out e
                  by_cases e3 : dn = d
                  · exfalso
                    have h := hst.out.1
                    simp only [okC, Bool.and_eq_true, Bool.or_eq_true, beq_iff_eq] at h
                    rw [e.1, e.2, e3, isN_of h.2] at h0
                    cases h0
                  · omega
                generalize isN digL T (1 + bn + cn + dn + 1) = g0 at *
                rcases (show g0 = 0 ∨ g0 = 1 by omega) with rfl | rfl
                · have hno : Shut (bn = b ∧ cn = c → d + 1 ≤ dn) := hg3.out rfl
                  clear hf4 hg1 hg2 hg3 hdfs hcbs hcfs
                  go_wp2_with fail
                  go_roundw
                  case rel => first | exact ⟨(dn : Int) - 1, by go_num, by omega, by omega, fun e => by have := hno.out e; omega, fun e => by omega, q3, rfl⟩ | ((repeat apply Exists.intro); exact ⟨⟨(dn : Int) - 1, by go_num, by omega, by omega, fun e => by have := hno.out e; omega, fun e => by omega, q3, rfl⟩, rfl⟩)
                  case measure => first | (simp [intOf]; done) | (simp [intOf]; omega)
                · have hokn : Shut (okC T 1 bn cn dn = true) := by
                    show _ = _
                    rw [okC, hf4.out, hg2.out rfl]
                    have e1 : (bn == 0 || atB fileL T 1) = true := by
                      rcases (show bn = 0 ∨ bn = 1 by omega) with e | e
                      · rw [e]; rfl
                      · rw [hbfs.out e]; simp
                    have e2 : (cn == 0 || atB digL T (1 + bn)) = true := by
                      rcases (show cn = 0 ∨ cn = 1 by omega) with e | e
                      · rw [e]; rfl
                      · rw [hcfs.out (by omega)]; simp
                    have e3 : (dn == 0 || atB [120] T (1 + bn + cn)) = true := by
                      rcases (show dn = 0 ∨ dn = 1 by omega) with e | e
                      · rw [e]; rfl
                      · rw [hdfs.out (by omega)]; simp
                    rw [e1, e2, e3]
                    rfl
                  clear hf4 hg1 hg2 hg3 hdfs hcbs hcfs
                  go_wp2_with fail
                  refine (hone.out [61] (by decide) (1 + bn + cn + dn + 2) _ (by omega) q3).mono ?_
                  rintro e w1 ⟨rfl, q4, rfl⟩
                  have he1 := isN_le [61] T (1 + bn + cn + dn + 2)
                  have he2 : Shut (isN [61] T (1 + bn + cn + dn + 2) = 1 → atB [61] T (1 + bn + cn + dn + 2) = true) := isN_one
                  generalize isN [61] T (1 + bn + cn + dn + 2) = e0 at *
                  rcases (show e0 = 0 ∨ e0 = 1 by omega) with rfl | rfl
                  · clear he1 he2
                    have hpz0 : Shut ((0 : Int) = 2 → prL T (1 + bn + cn + dn + 2) = 2) := fun h => by omega
                    go_wp2_with fail
                    go_loopw [10] (fun pv wr => ∃ pz : Int, pv = .int .i64 pz ∧ (pz = 2 ∨ pz = 0 ∨ pz = -2) ∧ (pz = 2 → prL T (1 + bn + cn + dn + 2) = 2) ∧ (bn = b ∧ cn = c ∧ dn = d → 0 ≤ pz) ∧ ∃ q, wr = W0.drewN q) (fun pv _ => (intOf pv + 2).toNat)
                    case atStart => exact ⟨(0 : Int), rfl, by omega, hpz0.out, fun _ => by omega, q4, rfl⟩
                    case round =>
                      obtain ⟨pz, rfl, hp3, hp2, hps, q, rfl⟩ := hrel
                      have hp2s := qlay hp2
                      have hpss := qlay hps
                      clear hp2 hps
                      by_cases hpm : pz = -2
                      · subst hpm
                        have hno : Shut (bn = b ∧ cn = c → d + 1 ≤ dn) := by
                          intro e
                          have h1 := hstar.out e
                          by_cases e3 : dn = d
                          · have := hpss.out ⟨e.1, e.2, e3⟩; omega
                          · omega
                        go_wp2_with fail
                        go_roundw
                        case rel => first | exact ⟨(dn : Int) - 1, by go_num, by omega, by omega, fun e => by have := hno.out e; omega, fun e => by omega, q, rfl⟩ | ((repeat apply Exists.intro); exact ⟨⟨(dn : Int) - 1, by go_num, by omega, by omega, fun e => by have := hno.out e; omega, fun e => by omega, q, rfl⟩, rfl⟩)
                        case measure => first | (simp [intOf]; done) | (simp [intOf]; omega)
                      · obtain ⟨pn, rfl⟩ : ∃ pn : Nat, pz = (pn : Int) := ⟨pz.toNat, by omega⟩
                        have hcl := hcs.out q
                        have hpp : Shut (pn = 0 ∨ pn = prL T (1 + bn + cn + dn + 2)) := by
                          rcases hp3 with h | h | h
                          · right; rw [hp2s.out h]; omega
                          · left; omega
                          · omega
                        have hun : Shut (tailB (T.drop (1 + bn + cn + dn + 2 + pn)) = true → bn = b ∧ cn = c ∧ dn = d ∧ pn = 0) := fun h => hway.out bn cn dn pn hbn (by omega) (by omega) hokn.out hpp.out h
                        have hns : Shut (tailB (T.drop (1 + bn + cn + dn + 2 + pn)) = false → bn = b ∧ cn = c ∧ dn = d → False) := by
                          rintro h ⟨rfl, rfl, rfl⟩
                          have h2 := hst.out.2
                          rcases hpp.out with h3 | h3
                          · rw [h3, Nat.add_zero] at h; rw [h2.2] at h; cases h
                          · rw [h2.1] at h3; rw [h3, Nat.add_zero] at h; rw [h2.2] at h; cases h
                        go_wp2_with fail
                        refine (hzt.out (1 + bn + cn + dn + 2 + pn) (by omega) _ (by omega) _).mono ?_
                        rintro e w1 ⟨rfl, rfl⟩
                        cases ht : tailB (T.drop (1 + bn + cn + dn + 2 + pn)) with
                        | false =>
                          have hns2 := qlay (hns.out ht)
                          clear hns hun hpp hp2s hpss ht
                          go_wp2_with fail
                          go_roundw
                          case rel => first | exact ⟨(pn : Int) - 2, by go_num, by omega, fun e => by omega, fun e => (hns2.out e).elim, q, rfl⟩ | ((repeat apply Exists.intro); exact ⟨⟨(pn : Int) - 2, by go_num, by omega, fun e => by omega, fun e => (hns2.out e).elim, q, rfl⟩, rfl⟩)
                          case measure => first | (simp [intOf]; done) | (simp [intOf]; omega)
                        | true =>
                          obtain ⟨rfl, rfl, rfl, rfl⟩ := hun.out ht
                          have hsays := okC_says hokn.out
                          have hle : bn + cn + dn + 3 ≤ T.length := by have := hsays.2.2.2.2.1; omega
                          clear hsays
                          obtain ⟨e1, he1⟩ : ∃ e : Nat, 1 + bn = e := ⟨_, rfl⟩
                          obtain ⟨e2, he2⟩ : ∃ e : Nat, 1 + bn + cn = e := ⟨_, rfl⟩
                          obtain ⟨e3, he3⟩ : ∃ e : Nat, 1 + bn + cn + dn = e := ⟨_, rfl⟩
                          obtain ⟨e4, he4⟩ : ∃ e : Nat, e3 + 1 = e := ⟨_, rfl⟩
                          obtain ⟨e5, he5⟩ : ∃ e : Nat, e3 + 2 = e := ⟨_, rfl⟩
                          have l0 : (1 : Int) ≤ (T.length : Int) := by omega
                          have l1 : (1 : Int) ≤ (e1 : Int) := by omega
                          have l2 : (e1 : Int) ≤ (T.length : Int) := by omega
                          have l3 : (e1 : Int) ≤ (e2 : Int) := by omega
                          have l4 : (e2 : Int) ≤ (T.length : Int) := by omega
                          have l5 : (e2 : Int) ≤ (e3 : Int) := by omega
                          have l6 : (e3 : Int) ≤ (T.length : Int) := by omega
                          have l7 : (e3 : Int) ≤ (e4 : Int) := by omega
                          have l8 : (e4 : Int) ≤ (T.length : Int) := by omega
                          have l9 : (e4 : Int) ≤ (e5 : Int) := by omega
                          have l10 : (e5 : Int) ≤ (T.length : Int) := by omega
                          have v1 : IntKind.i64.wrap (1 + (bn : Int)) = (e1 : Int) := by rw [IntKind.wrap_i64]; omega
                          have v2 : IntKind.i64.wrap ((e1 : Int) + (cn : Int)) = (e2 : Int) := by rw [IntKind.wrap_i64]; omega
                          have v3 : IntKind.i64.wrap ((e3 : Int) + 1) = (e4 : Int) := by rw [IntKind.wrap_i64]; omega
                          have v4 : IntKind.i64.wrap (e5 : Int) = (e5 : Int) := by rw [IntKind.wrap_i64]; omega
                          have hes := qlay (And.intro he1 (And.intro he2 (And.intro he3 (And.intro he4 he5))))
                          have hcells := qlay (ten_cells T bn cn dn e1 e2 e3 e4 e5 he1 he2 he3 he4 he5 hst.out.2.1)
                          obtain ⟨ib, hib, hz0, hz1, hz2⟩ := info_parts (show (Tryd.prog.info? 9).map (fun i => (i.zero, i.size, i.bytes)) = some (some (.string ByteArray.empty), 1, 16) by kernel_rfl)
                          go_upto_region 23 with fail
                          rw [show (1 + (bn : Int) + (cn : Int) + (dn : Int) + 2) = (e5 : Int) by omega, show (1 + (bn : Int) + (cn : Int) + (dn : Int)) = (e3 : Int) by omega]
                          clear he1 he2 he3 he4 he5 hle
                          refine wp_region_held_drew (S := fun V : World => V.cell? ⟨w.heap.size, 0, none⟩ = some (.string (bs T))) (by kernel_rfl) (by show World.cell? _ _ = _; exact hcs.out q) (fun hHeld => ?_)
                          refine wpAnyH_take (i := 0) (v := ?vqf1_1_0) rfl (by kernel_rfl) (by kernel_rfl) (by kernel_rfl) (fun _ _ _ h => h) (Or.inl ⟨by rfl, ?yqf1_1_0⟩) hHeld ?rqf1_1_0
                          case yqf1_1_0 => (intro wq hSw; have hq := hSw; clear hSw; go_simp; try with_reducible rfl)
                          try simp only [List.getElem_toArray, List.getElem_cons_zero, List.getElem_cons_succ, Act.put, List.setIfInBounds_toArray, List.set_cons_zero, List.set_cons_succ]
                          refine wpAnyH_take (i := 1) (v := ?vqf1_2_1) rfl (by kernel_rfl) (by kernel_rfl) (by kernel_rfl) (fun _ _ _ h => h) (Or.inl ⟨by rfl, ?yqf1_2_1⟩) hHeld ?rqf1_2_1
                          case yqf1_2_1 => (intro wq hSw; have hq := hSw; clear hSw; go_simp; try with_reducible rfl)
                          try simp only [List.getElem_toArray, List.getElem_cons_zero, List.getElem_cons_succ, Act.put, List.setIfInBounds_toArray, List.set_cons_zero, List.set_cons_succ]
                          refine wpAnyH_take (i := 2) (v := ?vqf1_3_2) rfl (by kernel_rfl) (by kernel_rfl) (by kernel_rfl) (fun _ _ _ h => h) (Or.inl ⟨by rfl, ?yqf1_3_2⟩) hHeld ?rqf1_3_2
                          case yqf1_3_2 => (intro wq hSw; clear hSw; go_simp; try with_reducible rfl)
                          try simp only [List.getElem_toArray, List.getElem_cons_zero, List.getElem_cons_succ, Act.put, List.setIfInBounds_toArray, List.set_cons_zero, List.set_cons_succ]
                          refine wpAnyH_take (i := 3) (v := ?vqf1_4_3) rfl (by kernel_rfl) (by kernel_rfl) (by kernel_rfl) (fun _ _ _ h => h) (Or.inl ⟨by rfl, ?yqf1_4_3⟩) hHeld ?rqf1_4_3
                          case yqf1_4_3 => (intro wq hSw; clear hSw; go_simp; try with_reducible rfl)
                          try simp only [List.getElem_toArray, List.getElem_cons_zero, List.getElem_cons_succ, Act.put, List.setIfInBounds_toArray, List.set_cons_zero, List.set_cons_succ]
                          refine wpAnyH_take (i := 4) (v := ?vqf1_5_4) rfl (by kernel_rfl) (by kernel_rfl) (by kernel_rfl) (fun _ _ _ h => h) (Or.inl ⟨by rfl, ?yqf1_5_4⟩) hHeld ?rqf1_5_4
                          case yqf1_5_4 => (intro wq hSw; have hq := hSw; clear hSw; go_simp; try with_reducible rfl)
                          try simp only [List.getElem_toArray, List.getElem_cons_zero, List.getElem_cons_succ, Act.put, List.setIfInBounds_toArray, List.set_cons_zero, List.set_cons_succ]
                          refine wpAnyH_take (i := 5) (v := ?vqf1_6_5) rfl (by kernel_rfl) (by kernel_rfl) (by kernel_rfl) (fun _ _ _ h => h) (Or.inl ⟨by rfl, ?yqf1_6_5⟩) hHeld ?rqf1_6_5
                          case yqf1_6_5 => (intro wq hSw; clear hSw; go_simp; try with_reducible rfl)
                          try simp only [List.getElem_toArray, List.getElem_cons_zero, List.getElem_cons_succ, Act.put, List.setIfInBounds_toArray, List.set_cons_zero, List.set_cons_succ]
                          refine wpAnyH_take (i := 6) (v := ?vqf1_7_6) rfl (by kernel_rfl) (by kernel_rfl) (by kernel_rfl) (fun _ _ _ h => h) (Or.inl ⟨by rfl, ?yqf1_7_6⟩) hHeld ?rqf1_7_6
                          case yqf1_7_6 => (intro wq hSw; clear hSw; go_simp; try with_reducible rfl)
                          try simp only [List.getElem_toArray, List.getElem_cons_zero, List.getElem_cons_succ, Act.put, List.setIfInBounds_toArray, List.set_cons_zero, List.set_cons_succ]
                          refine wpAnyH_take (i := 7) (v := ?vqf1_8_7) rfl (by kernel_rfl) (by kernel_rfl) (by kernel_rfl) (fun _ _ _ h => h) (Or.inl ⟨by rfl, ?yqf1_8_7⟩) hHeld ?rqf1_8_7
                          case yqf1_8_7 => (intro wq hSw; clear hSw; go_simp; try with_reducible rfl)
                          try simp only [List.getElem_toArray, List.getElem_cons_zero, List.getElem_cons_succ, Act.put, List.setIfInBounds_toArray, List.set_cons_zero, List.set_cons_succ]
                          refine wpAnyH_take (i := 8) (v := ?vqf1_9_8) rfl (by kernel_rfl) (by kernel_rfl) (by kernel_rfl) (fun _ _ _ h => h) (Or.inl ⟨by rfl, ?yqf1_9_8⟩) hHeld ?rqf1_9_8
                          case yqf1_9_8 => (intro wq hSw; clear hSw; go_simp; try with_reducible rfl)
                          try simp only [List.getElem_toArray, List.getElem_cons_zero, List.getElem_cons_succ, Act.put, List.setIfInBounds_toArray, List.set_cons_zero, List.set_cons_succ]
                          refine wpAnyH_take (i := 9) (v := ?vqf1_10_9) rfl (by kernel_rfl) (by kernel_rfl) (by kernel_rfl) (fun _ _ _ h => h) (Or.inl ⟨by rfl, ?yqf1_10_9⟩) hHeld ?rqf1_10_9
                          case yqf1_10_9 => (intro wq hSw; clear hSw; go_simp; try with_reducible rfl)
                          try simp only [List.getElem_toArray, List.getElem_cons_zero, List.getElem_cons_succ, Act.put, List.setIfInBounds_toArray, List.set_cons_zero, List.set_cons_succ]
                          refine wpAnyH_take (i := 10) (v := ?vqf1_11_10) rfl (by kernel_rfl) (by kernel_rfl) (by kernel_rfl) (fun _ _ _ h => h) (Or.inl ⟨by rfl, ?yqf1_11_10⟩) hHeld ?rqf1_11_10
                          case yqf1_11_10 => (intro wq hSw; have hq := hSw; clear hSw; go_simp; try with_reducible rfl)
                          try simp only [List.getElem_toArray, List.getElem_cons_zero, List.getElem_cons_succ, Act.put, List.setIfInBounds_toArray, List.set_cons_zero, List.set_cons_succ]
                          refine wpAnyH_take (i := 11) (v := ?vqf1_12_11) rfl (by kernel_rfl) (by kernel_rfl) (by kernel_rfl) (fun _ _ _ h => h) (Or.inl ⟨by rfl, ?yqf1_12_11⟩) hHeld ?rqf1_12_11
                          case yqf1_12_11 => (intro wq hSw; clear hSw; go_simp; try with_reducible rfl)
                          try simp only [List.getElem_toArray, List.getElem_cons_zero, List.getElem_cons_succ, Act.put, List.setIfInBounds_toArray, List.set_cons_zero, List.set_cons_succ]
                          refine wpAnyH_take (i := 12) (v := ?vqf1_13_12) rfl (by kernel_rfl) (by kernel_rfl) (by kernel_rfl) (fun _ _ _ h => h) (Or.inl ⟨by rfl, ?yqf1_13_12⟩) hHeld ?rqf1_13_12
                          case yqf1_13_12 => (intro wq hSw; clear hSw; go_simp; try with_reducible rfl)
                          try simp only [List.getElem_toArray, List.getElem_cons_zero, List.getElem_cons_succ, Act.put, List.setIfInBounds_toArray, List.set_cons_zero, List.set_cons_succ]
                          refine wpAnyH_take (i := 13) (v := ?vqf1_14_13) rfl (by kernel_rfl) (by kernel_rfl) (by kernel_rfl) (fun _ _ _ h => h) (Or.inl ⟨by rfl, ?yqf1_14_13⟩) hHeld ?rqf1_14_13
                          case yqf1_14_13 => (intro wq hSw; clear hSw; go_simp; try with_reducible rfl)
                          try simp only [List.getElem_toArray, List.getElem_cons_zero, List.getElem_cons_succ, Act.put, List.setIfInBounds_toArray, List.set_cons_zero, List.set_cons_succ]
                          refine wpAnyH_take (i := 14) (v := ?vqf1_15_14) rfl (by kernel_rfl) (by kernel_rfl) (by kernel_rfl) (fun _ _ _ h => h) (Or.inl ⟨by rfl, ?yqf1_15_14⟩) hHeld ?rqf1_15_14
                          case yqf1_15_14 => (intro wq hSw; clear hSw; go_simp; try with_reducible rfl)
                          try simp only [List.getElem_toArray, List.getElem_cons_zero, List.getElem_cons_succ, Act.put, List.setIfInBounds_toArray, List.set_cons_zero, List.set_cons_succ]
                          refine wpAnyH_take (i := 15) (v := ?vqf1_16_15) rfl (by kernel_rfl) (by kernel_rfl) (by kernel_rfl) (fun _ _ _ h => h) (Or.inl ⟨by rfl, ?yqf1_16_15⟩) hHeld ?rqf1_16_15
                          case yqf1_16_15 => (intro wq hSw; clear hSw; go_simp; try with_reducible rfl)
                          try simp only [List.getElem_toArray, List.getElem_cons_zero, List.getElem_cons_succ, Act.put, List.setIfInBounds_toArray, List.set_cons_zero, List.set_cons_succ]
                          refine wpAnyH_take (i := 16) (v := ?vqf1_17_16) rfl (by kernel_rfl) (by kernel_rfl) (by kernel_rfl) (fun _ _ _ h => h) (Or.inl ⟨by rfl, ?yqf1_17_16⟩) hHeld ?rqf1_17_16
                          case yqf1_17_16 => (intro wq hSw; clear hSw; go_simp; try with_reducible rfl)
                          try simp only [List.getElem_toArray, List.getElem_cons_zero, List.getElem_cons_succ, Act.put, List.setIfInBounds_toArray, List.set_cons_zero, List.set_cons_succ]
                          refine wpAnyH_take (i := 17) (v := ?vqf1_18_17) rfl (by kernel_rfl) (by kernel_rfl) (by kernel_rfl) (fun _ _ _ h => h) (Or.inl ⟨by rfl, ?yqf1_18_17⟩) hHeld ?rqf1_18_17
                          case yqf1_18_17 => (intro wq hSw; clear hSw; go_simp; try with_reducible rfl)
                          try simp only [List.getElem_toArray, List.getElem_cons_zero, List.getElem_cons_succ, Act.put, List.setIfInBounds_toArray, List.set_cons_zero, List.set_cons_succ]
                          refine wpAnyH_take (i := 18) (v := ?vqf1_19_18) rfl (by kernel_rfl) (by kernel_rfl) (by kernel_rfl) (fun _ _ _ h => h) (Or.inl ⟨by rfl, ?yqf1_19_18⟩) hHeld ?rqf1_19_18
                          case yqf1_19_18 => (intro wq hSw; clear hSw; go_simp; try with_reducible rfl)
                          try simp only [List.getElem_toArray, List.getElem_cons_zero, List.getElem_cons_succ, Act.put, List.setIfInBounds_toArray, List.set_cons_zero, List.set_cons_succ]
                          refine wpAnyH_take (i := 19) (v := ?vqf1_20_19) rfl (by kernel_rfl) (by kernel_rfl) (by kernel_rfl) (fun _ _ _ h => h) (Or.inl ⟨by rfl, ?yqf1_20_19⟩) hHeld ?rqf1_20_19
                          case yqf1_20_19 => (intro wq hSw; clear hSw; go_simp; try with_reducible rfl)
                          try simp only [List.getElem_toArray, List.getElem_cons_zero, List.getElem_cons_succ, Act.put, List.setIfInBounds_toArray, List.set_cons_zero, List.set_cons_succ]
                          refine wpAnyH_take (i := 20) (v := ?vqf1_21_20) rfl (by kernel_rfl) (by kernel_rfl) (by kernel_rfl) (fun _ _ _ h => h) (Or.inl ⟨by rfl, ?yqf1_21_20⟩) hHeld ?rqf1_21_20
                          case yqf1_21_20 => (intro wq hSw; have hq := hSw; clear hSw; go_simp; try with_reducible rfl)
                          try simp only [List.getElem_toArray, List.getElem_cons_zero, List.getElem_cons_succ, Act.put, List.setIfInBounds_toArray, List.set_cons_zero, List.set_cons_succ]
                          refine wpAnyH_take (i := 21) (v := ?vqf1_22_21) rfl (by kernel_rfl) (by kernel_rfl) (by kernel_rfl) (fun _ _ _ h => h) (Or.inl ⟨by rfl, ?yqf1_22_21⟩) hHeld ?rqf1_22_21
                          case yqf1_22_21 => (intro wq hSw; clear hSw; go_simp; try with_reducible rfl)
                          try simp only [List.getElem_toArray, List.getElem_cons_zero, List.getElem_cons_succ, Act.put, List.setIfInBounds_toArray, List.set_cons_zero, List.set_cons_succ]
                          refine wpAnyH_take (i := 22) (v := ?vqf1_23_22) rfl (by kernel_rfl) (by kernel_rfl) (by kernel_rfl) (fun _ _ _ h => h) (Or.inl ⟨by rfl, ?yqf1_23_22⟩) hHeld ?rqf1_23_22
                          case yqf1_23_22 => (intro wq hSw; clear hSw; go_simp; try with_reducible rfl)
                          try simp only [List.getElem_toArray, List.getElem_cons_zero, List.getElem_cons_succ, Act.put, List.setIfInBounds_toArray, List.set_cons_zero, List.set_cons_succ]
                          refine wpAnyH_take (i := 23) (v := ?vqf1_24_23) rfl (by kernel_rfl) (by kernel_rfl) (by kernel_rfl) (fun _ _ _ h => h) (Or.inl ⟨by rfl, ?yqf1_24_23⟩) hHeld ?rqf1_24_23
                          case yqf1_24_23 => (intro wq hSw; clear hSw; go_simp; try with_reducible rfl)
                          try simp only [List.getElem_toArray, List.getElem_cons_zero, List.getElem_cons_succ, Act.put, List.setIfInBounds_toArray, List.set_cons_zero, List.set_cons_succ]
                          refine wpAnyH_take (i := 24) (v := ?vqf1_25_24) rfl (by kernel_rfl) (by kernel_rfl) (by kernel_rfl) (fun _ _ _ h => h) (Or.inl ⟨by rfl, ?yqf1_25_24⟩) hHeld ?rqf1_25_24
                          case yqf1_25_24 => (intro wq hSw; clear hSw; go_simp; try with_reducible rfl)
                          try simp only [List.getElem_toArray, List.getElem_cons_zero, List.getElem_cons_succ, Act.put, List.setIfInBounds_toArray, List.set_cons_zero, List.set_cons_succ]
                          refine wpAnyH_take (i := 25) (v := ?vqf1_26_25) rfl (by kernel_rfl) (by kernel_rfl) (by kernel_rfl) (fun _ _ _ h => h) (Or.inl ⟨by rfl, ?yqf1_26_25⟩) hHeld ?rqf1_26_25
                          case yqf1_26_25 => (intro wq hSw; clear hSw; go_simp; try with_reducible rfl)
                          try simp only [List.getElem_toArray, List.getElem_cons_zero, List.getElem_cons_succ, Act.put, List.setIfInBounds_toArray, List.set_cons_zero, List.set_cons_succ]
                          refine wpAnyH_take (i := 26) (v := ?vqf1_27_26) rfl (by kernel_rfl) (by kernel_rfl) (by kernel_rfl) (fun _ _ _ h => h) (Or.inl ⟨by rfl, ?yqf1_27_26⟩) hHeld ?rqf1_27_26
                          case yqf1_27_26 => (intro wq hSw; clear hSw; go_simp; try with_reducible rfl)
                          try simp only [List.getElem_toArray, List.getElem_cons_zero, List.getElem_cons_succ, Act.put, List.setIfInBounds_toArray, List.set_cons_zero, List.set_cons_succ]
                          refine wpAnyH_take (i := 27) (v := ?vqf1_28_27) rfl (by kernel_rfl) (by kernel_rfl) (by kernel_rfl) (fun _ _ _ h => h) (Or.inl ⟨by rfl, ?yqf1_28_27⟩) hHeld ?rqf1_28_27
                          case yqf1_28_27 => (intro wq hSw; clear hSw; go_simp; try with_reducible rfl)
                          try simp only [List.getElem_toArray, List.getElem_cons_zero, List.getElem_cons_succ, Act.put, List.setIfInBounds_toArray, List.set_cons_zero, List.set_cons_succ]
                          refine wpAnyH_take (i := 28) (v := ?vqf1_29_28) rfl (by kernel_rfl) (by kernel_rfl) (by kernel_rfl) (fun _ _ _ h => h) (Or.inl ⟨by rfl, ?yqf1_29_28⟩) hHeld ?rqf1_29_28
                          case yqf1_29_28 => (intro wq hSw; have hq := hSw; clear hSw; go_simp; try with_reducible rfl)
                          try simp only [List.getElem_toArray, List.getElem_cons_zero, List.getElem_cons_succ, Act.put, List.setIfInBounds_toArray, List.set_cons_zero, List.set_cons_succ]
                          refine wpAnyH_take (i := 29) (v := ?vqf1_30_29) rfl (by kernel_rfl) (by kernel_rfl) (by kernel_rfl) (fun _ _ _ h => h) (Or.inl ⟨by rfl, ?yqf1_30_29⟩) hHeld ?rqf1_30_29
                          case yqf1_30_29 => (intro wq hSw; clear hSw; go_simp; try with_reducible rfl)
                          try simp only [List.getElem_toArray, List.getElem_cons_zero, List.getElem_cons_succ, Act.put, List.setIfInBounds_toArray, List.set_cons_zero, List.set_cons_succ]
                          refine wpAnyH_take (i := 30) (v := ?vqf1_31_30) rfl (by kernel_rfl) (by kernel_rfl) (by kernel_rfl) (fun _ _ _ h => h) (Or.inl ⟨by rfl, ?yqf1_31_30⟩) hHeld ?rqf1_31_30
                          case yqf1_31_30 => (intro wq hSw; clear hSw; go_simp; try with_reducible rfl)
                          try simp only [List.getElem_toArray, List.getElem_cons_zero, List.getElem_cons_succ, Act.put, List.setIfInBounds_toArray, List.set_cons_zero, List.set_cons_succ]
                          refine wpAnyH_take (i := 31) (v := ?vqf1_32_31) rfl (by kernel_rfl) (by kernel_rfl) (by kernel_rfl) (fun _ _ _ h => h) (Or.inl ⟨by rfl, ?yqf1_32_31⟩) hHeld ?rqf1_32_31
                          case yqf1_32_31 => (intro wq hSw; clear hSw; go_simp; try with_reducible rfl)
                          try simp only [List.getElem_toArray, List.getElem_cons_zero, List.getElem_cons_succ, Act.put, List.setIfInBounds_toArray, List.set_cons_zero, List.set_cons_succ]
                          refine wpAnyH_take (i := 32) (v := ?vqf1_33_32) rfl (by kernel_rfl) (by kernel_rfl) (by kernel_rfl) (fun _ _ _ h => h) (Or.inl ⟨by rfl, ?yqf1_33_32⟩) hHeld ?rqf1_33_32
                          case yqf1_33_32 => (intro wq hSw; clear hSw; go_simp; try with_reducible rfl)
                          try simp only [List.getElem_toArray, List.getElem_cons_zero, List.getElem_cons_succ, Act.put, List.setIfInBounds_toArray, List.set_cons_zero, List.set_cons_succ]
                          refine wpAnyH_take (i := 33) (v := ?vqf1_34_33) rfl (by kernel_rfl) (by kernel_rfl) (by kernel_rfl) (fun _ _ _ h => h) (Or.inl ⟨by rfl, ?yqf1_34_33⟩) hHeld ?rqf1_34_33
                          case yqf1_34_33 => (intro wq hSw; have hq := hSw; clear hSw; go_simp; try with_reducible rfl)
                          try simp only [List.getElem_toArray, List.getElem_cons_zero, List.getElem_cons_succ, Act.put, List.setIfInBounds_toArray, List.set_cons_zero, List.set_cons_succ]
                          refine wpAnyH_take (i := 34) (v := ?vqf1_35_34) rfl (by kernel_rfl) (by kernel_rfl) (by kernel_rfl) (fun _ _ _ h => h) (Or.inl ⟨by rfl, ?yqf1_35_34⟩) hHeld ?rqf1_35_34
                          case yqf1_35_34 => (intro wq hSw; clear hSw; go_simp; try with_reducible rfl)
                          try simp only [List.getElem_toArray, List.getElem_cons_zero, List.getElem_cons_succ, Act.put, List.setIfInBounds_toArray, List.set_cons_zero, List.set_cons_succ]
                          refine wpAnyH_take (i := 35) (v := ?vqf1_36_35) rfl (by kernel_rfl) (by kernel_rfl) (by kernel_rfl) (fun _ _ _ h => h) (Or.inl ⟨by rfl, ?yqf1_36_35⟩) hHeld ?rqf1_36_35
                          case yqf1_36_35 => (intro wq hSw; clear hSw; go_simp; try with_reducible rfl)
                          try simp only [List.getElem_toArray, List.getElem_cons_zero, List.getElem_cons_succ, Act.put, List.setIfInBounds_toArray, List.set_cons_zero, List.set_cons_succ]
                          refine wpAnyH_take (i := 36) (v := ?vqf1_37_36) rfl (by kernel_rfl) (by kernel_rfl) (by kernel_rfl) (fun _ _ _ h => h) (Or.inl ⟨by rfl, ?yqf1_37_36⟩) hHeld ?rqf1_37_36
                          case yqf1_37_36 => (intro wq hSw; clear hSw; go_simp; try with_reducible rfl)
                          try simp only [List.getElem_toArray, List.getElem_cons_zero, List.getElem_cons_succ, Act.put, List.setIfInBounds_toArray, List.set_cons_zero, List.set_cons_succ]
                          refine wpAnyH_take (i := 37) (v := ?vqf1_38_37) rfl (by kernel_rfl) (by kernel_rfl) (by kernel_rfl) (fun _ _ _ h => h) (Or.inl ⟨by rfl, ?yqf1_38_37⟩) hHeld ?rqf1_38_37
                          case yqf1_38_37 => (intro wq hSw; clear hSw; go_simp; try with_reducible rfl)
                          try simp only [List.getElem_toArray, List.getElem_cons_zero, List.getElem_cons_succ, Act.put, List.setIfInBounds_toArray, List.set_cons_zero, List.set_cons_succ]
                          refine wpAnyH_take (i := 38) (v := ?vqf1_39_38) rfl (by kernel_rfl) (by kernel_rfl) (by kernel_rfl) (fun _ _ _ h => h) (Or.inl ⟨by rfl, ?yqf1_39_38⟩) hHeld ?rqf1_39_38
                          case yqf1_39_38 => (intro wq hSw; have hq := hSw; clear hSw; go_simp; try with_reducible rfl)
                          try simp only [List.getElem_toArray, List.getElem_cons_zero, List.getElem_cons_succ, Act.put, List.setIfInBounds_toArray, List.set_cons_zero, List.set_cons_succ]
                          refine wpAnyH_take (i := 39) (v := ?vqf1_40_39) rfl (by kernel_rfl) (by kernel_rfl) (by kernel_rfl) (fun _ _ _ h => h) (Or.inl ⟨by rfl, ?yqf1_40_39⟩) hHeld ?rqf1_40_39
                          case yqf1_40_39 => (intro wq hSw; clear hSw; go_simp; try with_reducible rfl)
                          try simp only [List.getElem_toArray, List.getElem_cons_zero, List.getElem_cons_succ, Act.put, List.setIfInBounds_toArray, List.set_cons_zero, List.set_cons_succ]
                          refine wpAnyH_take (i := 40) (v := ?vqf1_41_40) rfl (by kernel_rfl) (by kernel_rfl) (by kernel_rfl) (fun _ _ _ h => h) (Or.inl ⟨by rfl, ?yqf1_41_40⟩) hHeld ?rqf1_41_40
                          case yqf1_41_40 => (intro wq hSw; clear hSw; go_simp; try with_reducible rfl)
                          try simp only [List.getElem_toArray, List.getElem_cons_zero, List.getElem_cons_succ, Act.put, List.setIfInBounds_toArray, List.set_cons_zero, List.set_cons_succ]
                          refine wpAnyH_take (i := 41) (v := ?vqf1_42_41) rfl (by kernel_rfl) (by kernel_rfl) (by kernel_rfl) (fun _ _ _ h => h) (Or.inl ⟨by rfl, ?yqf1_42_41⟩) hHeld ?rqf1_42_41
                          case yqf1_42_41 => (intro wq hSw; clear hSw; go_simp; try with_reducible rfl)
                          try simp only [List.getElem_toArray, List.getElem_cons_zero, List.getElem_cons_succ, Act.put, List.setIfInBounds_toArray, List.set_cons_zero, List.set_cons_succ]
                          refine wpAnyH_take (i := 42) (v := ?vqf1_43_42) rfl (by kernel_rfl) (by kernel_rfl) (by kernel_rfl) (fun _ _ _ h => h) (Or.inl ⟨by rfl, ?yqf1_43_42⟩) hHeld ?rqf1_43_42
                          case yqf1_43_42 => (intro wq hSw; clear hSw; go_simp; try with_reducible rfl)
                          try simp only [List.getElem_toArray, List.getElem_cons_zero, List.getElem_cons_succ, Act.put, List.setIfInBounds_toArray, List.set_cons_zero, List.set_cons_succ]
                          refine wpAnyH_take (i := 43) (v := ?vqf1_44_43) rfl (by kernel_rfl) (by kernel_rfl) (by kernel_rfl) (fun _ _ _ h => h) (Or.inl ⟨by rfl, ?yqf1_44_43⟩) hHeld ?rqf1_44_43
                          case yqf1_44_43 => (intro wq hSw; clear hSw; go_simp; try with_reducible rfl)
                          try simp only [List.getElem_toArray, List.getElem_cons_zero, List.getElem_cons_succ, Act.put, List.setIfInBounds_toArray, List.set_cons_zero, List.set_cons_succ]
                          refine wpAnyH_ready (rs := [44]) (by kernel_rfl) (by simp) ?_
                          refine AllReadyH.cons rfl (fun K hK => ?_) AllReadyH.nil
                          try simp only [List.getElem_toArray, List.getElem_cons_zero, List.getElem_cons_succ, Act.put, List.setIfInBounds_toArray, List.set_cons_zero, List.set_cons_succ]
                          rw [if_pos (by rfl)]
                          refine wp_buildSlice 25 9 10 _ rfl (tenV T e1 e2 e3 e4 e5) ib (.string ByteArray.empty) Tryd.underlying25 hib hz0 ?_ ?_ ?_ ?_
                          · rw [hz1]; decide
                          · rw [hz1]; decide
                          · simp only [hz1]; kernel_rfl
                          refine hK.out _ _ ((World.cell?_alloc_lt _ _ _ (World.block_lt_of_cell? _ _ hHeld)).trans hHeld) (fun hHeld => ?_)
                          clear hK K
                          try simp only [List.getElem_toArray, List.getElem_cons_zero, List.getElem_cons_succ, Act.put, List.setIfInBounds_toArray, List.set_cons_zero, List.set_cons_succ]
                          refine wpAnyH_take (i := 45) (v := ?vqf1_45_45) rfl (by kernel_rfl) (by kernel_rfl) (by kernel_rfl) (fun _ _ _ h => h) (Or.inl ⟨by rfl, ?yqf1_45_45⟩) hHeld ?rqf1_45_45
                          case yqf1_45_45 => (intro wq hSw; clear hSw; go_simp; try with_reducible rfl)
                          try simp only [List.getElem_toArray, List.getElem_cons_zero, List.getElem_cons_succ, Act.put, List.setIfInBounds_toArray, List.set_cons_zero, List.set_cons_succ]
                          refine wpAnyH_done (by kernel_rfl) ?_ _
                          go_wp2_with fail
                          go_ret
                          have hb := hbel.out
                          have hs0 := hb.size
                          refine ⟨W0.heap.size, rfl, fun k hk => ?_, hs0, by simp, (hb.trans ((drewN_below W0 q).mono hs0)).drew.alloc (by first | (simp; done) | (simp; omega)) _⟩
                          rw [cell_of_row _ _ k _ _ _ (heap_at _ _ W0.heap.size (by simp))]
                          exact hcells.out k hk
                  · have he3 : Shut (atB [61] T (1 + bn + cn + dn + 2) = true) := he2.out rfl
                    clear he1 he2
                    go_wp2_with fail
                    refine (hone.out proL (by decide) (1 + bn + cn + dn + 2 + 1) _ (by omega) q4).mono ?_
                    rintro e w1 ⟨rfl, q5, rfl⟩
                    have hr1 := isN_le proL T (1 + bn + cn + dn + 2 + 1)
                    have hr2 : Shut (isN proL T (1 + bn + cn + dn + 2 + 1) = 1 → prL T (1 + bn + cn + dn + 2) = 2) := fun h => by unfold prL; rw [he3.out, isN_one h]; rfl
                    generalize isN proL T (1 + bn + cn + dn + 2 + 1) = r0 at *
                    rcases (show r0 = 0 ∨ r0 = 1 by omega) with rfl | rfl
                    · clear hr1 hr2
                      have hpz0 : Shut ((0 : Int) = 2 → prL T (1 + bn + cn + dn + 2) = 2) := fun h => by omega
                      go_wp2_with fail
                      go_loopw [10] (fun pv wr => ∃ pz : Int, pv = .int .i64 pz ∧ (pz = 2 ∨ pz = 0 ∨ pz = -2) ∧ (pz = 2 → prL T (1 + bn + cn + dn + 2) = 2) ∧ (bn = b ∧ cn = c ∧ dn = d → 0 ≤ pz) ∧ ∃ q, wr = W0.drewN q) (fun pv _ => (intOf pv + 2).toNat)
                      case atStart => exact ⟨(0 : Int), rfl, by omega, hpz0.out, fun _ => by omega, q5, rfl⟩
                      case round =>
                        obtain ⟨pz, rfl, hp3, hp2, hps, q, rfl⟩ := hrel
                        have hp2s := qlay hp2
                        have hpss := qlay hps
                        clear hp2 hps
                        by_cases hpm : pz = -2
                        · subst hpm
                          have hno : Shut (bn = b ∧ cn = c → d + 1 ≤ dn) := by
                            intro e
                            have h1 := hstar.out e
                            by_cases e3 : dn = d
                            · have := hpss.out ⟨e.1, e.2, e3⟩; omega
                            · omega
                          go_wp2_with fail
                          go_roundw
                          case rel => first | exact ⟨(dn : Int) - 1, by go_num, by omega, by omega, fun e => by have := hno.out e; omega, fun e => by omega, q, rfl⟩ | ((repeat apply Exists.intro); exact ⟨⟨(dn : Int) - 1, by go_num, by omega, by omega, fun e => by have := hno.out e; omega, fun e => by omega, q, rfl⟩, rfl⟩)
                          case measure => first | (simp [intOf]; done) | (simp [intOf]; omega)
                        · obtain ⟨pn, rfl⟩ : ∃ pn : Nat, pz = (pn : Int) := ⟨pz.toNat, by omega⟩
                          have hcl := hcs.out q
                          have hpp : Shut (pn = 0 ∨ pn = prL T (1 + bn + cn + dn + 2)) := by
                            rcases hp3 with h | h | h
                            · right; rw [hp2s.out h]; omega
                            · left; omega
                            · omega
                          have hun : Shut (tailB (T.drop (1 + bn + cn + dn + 2 + pn)) = true → bn = b ∧ cn = c ∧ dn = d ∧ pn = 0) := fun h => hway.out bn cn dn pn hbn (by omega) (by omega) hokn.out hpp.out h
                          have hns : Shut (tailB (T.drop (1 + bn + cn + dn + 2 + pn)) = false → bn = b ∧ cn = c ∧ dn = d → False) := by
                            rintro h ⟨rfl, rfl, rfl⟩
                            have h2 := hst.out.2
                            rcases hpp.out with h3 | h3
                            · rw [h3, Nat.add_zero] at h; rw [h2.2] at h; cases h
                            · rw [h2.1] at h3; rw [h3, Nat.add_zero] at h; rw [h2.2] at h; cases h
                          go_wp2_with fail
                          refine (hzt.out (1 + bn + cn + dn + 2 + pn) (by omega) _ (by omega) _).mono ?_
                          rintro e w1 ⟨rfl, rfl⟩
                          cases ht : tailB (T.drop (1 + bn + cn + dn + 2 + pn)) with
                          | false =>
                            have hns2 := qlay (hns.out ht)
                            clear hns hun hpp hp2s hpss ht
                            go_wp2_with fail
                            go_roundw
                            case rel => first | exact ⟨(pn : Int) - 2, by go_num, by omega, fun e => by omega, fun e => (hns2.out e).elim, q, rfl⟩ | ((repeat apply Exists.intro); exact ⟨⟨(pn : Int) - 2, by go_num, by omega, fun e => by omega, fun e => (hns2.out e).elim, q, rfl⟩, rfl⟩)
                            case measure => first | (simp [intOf]; done) | (simp [intOf]; omega)
                          | true =>
                            obtain ⟨rfl, rfl, rfl, rfl⟩ := hun.out ht
                            have hsays := okC_says hokn.out
                            have hle : bn + cn + dn + 3 ≤ T.length := by have := hsays.2.2.2.2.1; omega
                            clear hsays
                            obtain ⟨e1, he1⟩ : ∃ e : Nat, 1 + bn = e := ⟨_, rfl⟩
                            obtain ⟨e2, he2⟩ : ∃ e : Nat, 1 + bn + cn = e := ⟨_, rfl⟩
                            obtain ⟨e3, he3⟩ : ∃ e : Nat, 1 + bn + cn + dn = e := ⟨_, rfl⟩
                            obtain ⟨e4, he4⟩ : ∃ e : Nat, e3 + 1 = e := ⟨_, rfl⟩
                            obtain ⟨e5, he5⟩ : ∃ e : Nat, e3 + 2 = e := ⟨_, rfl⟩
                            have l0 : (1 : Int) ≤ (T.length : Int) := by omega
                            have l1 : (1 : Int) ≤ (e1 : Int) := by omega
                            have l2 : (e1 : Int) ≤ (T.length : Int) := by omega
                            have l3 : (e1 : Int) ≤ (e2 : Int) := by omega
                            have l4 : (e2 : Int) ≤ (T.length : Int) := by omega
                            have l5 : (e2 : Int) ≤ (e3 : Int) := by omega
                            have l6 : (e3 : Int) ≤ (T.length : Int) := by omega
                            have l7 : (e3 : Int) ≤ (e4 : Int) := by omega
                            have l8 : (e4 : Int) ≤ (T.length : Int) := by omega
                            have l9 : (e4 : Int) ≤ (e5 : Int) := by omega
                            have l10 : (e5 : Int) ≤ (T.length : Int) := by omega
                            have v1 : IntKind.i64.wrap (1 + (bn : Int)) = (e1 : Int) := by rw [IntKind.wrap_i64]; omega
                            have v2 : IntKind.i64.wrap ((e1 : Int) + (cn : Int)) = (e2 : Int) := by rw [IntKind.wrap_i64]; omega
                            have v3 : IntKind.i64.wrap ((e3 : Int) + 1) = (e4 : Int) := by rw [IntKind.wrap_i64]; omega
                            have v4 : IntKind.i64.wrap (e5 : Int) = (e5 : Int) := by rw [IntKind.wrap_i64]; omega
                            have hes := qlay (And.intro he1 (And.intro he2 (And.intro he3 (And.intro he4 he5))))
                            have hcells := qlay (ten_cells T bn cn dn e1 e2 e3 e4 e5 he1 he2 he3 he4 he5 hst.out.2.1)
                            obtain ⟨ib, hib, hz0, hz1, hz2⟩ := info_parts (show (Tryd.prog.info? 9).map (fun i => (i.zero, i.size, i.bytes)) = some (some (.string ByteArray.empty), 1, 16) by kernel_rfl)
                            go_upto_region 23 with fail
                            rw [show (1 + (bn : Int) + (cn : Int) + (dn : Int) + 2) = (e5 : Int) by omega, show (1 + (bn : Int) + (cn : Int) + (dn : Int)) = (e3 : Int) by omega]
                            clear he1 he2 he3 he4 he5 hle
                            refine wp_region_held_drew (S := fun V : World => V.cell? ⟨w.heap.size, 0, none⟩ = some (.string (bs T))) (by kernel_rfl) (by show World.cell? _ _ = _; exact hcs.out q) (fun hHeld => ?_)
                            refine wpAnyH_take (i := 0) (v := ?vqf2_1_0) rfl (by kernel_rfl) (by kernel_rfl) (by kernel_rfl) (fun _ _ _ h => h) (Or.inl ⟨by rfl, ?yqf2_1_0⟩) hHeld ?rqf2_1_0
                            case yqf2_1_0 => (intro wq hSw; have hq := hSw; clear hSw; go_simp; try with_reducible rfl)
                            try simp only [List.getElem_toArray, List.getElem_cons_zero, List.getElem_cons_succ, Act.put, List.setIfInBounds_toArray, List.set_cons_zero, List.set_cons_succ]
                            refine wpAnyH_take (i := 1) (v := ?vqf2_2_1) rfl (by kernel_rfl) (by kernel_rfl) (by kernel_rfl) (fun _ _ _ h => h) (Or.inl ⟨by rfl, ?yqf2_2_1⟩) hHeld ?rqf2_2_1
                            case yqf2_2_1 => (intro wq hSw; have hq := hSw; clear hSw; go_simp; try with_reducible rfl)
                            try simp only [List.getElem_toArray, List.getElem_cons_zero, List.getElem_cons_succ, Act.put, List.setIfInBounds_toArray, List.set_cons_zero, List.set_cons_succ]
                            refine wpAnyH_take (i := 2) (v := ?vqf2_3_2) rfl (by kernel_rfl) (by kernel_rfl) (by kernel_rfl) (fun _ _ _ h => h) (Or.inl ⟨by rfl, ?yqf2_3_2⟩) hHeld ?rqf2_3_2
                            case yqf2_3_2 => (intro wq hSw; clear hSw; go_simp; try with_reducible rfl)
                            try simp only [List.getElem_toArray, List.getElem_cons_zero, List.getElem_cons_succ, Act.put, List.setIfInBounds_toArray, List.set_cons_zero, List.set_cons_succ]
                            refine wpAnyH_take (i := 3) (v := ?vqf2_4_3) rfl (by kernel_rfl) (by kernel_rfl) (by kernel_rfl) (fun _ _ _ h => h) (Or.inl ⟨by rfl, ?yqf2_4_3⟩) hHeld ?rqf2_4_3
                            case yqf2_4_3 => (intro wq hSw; clear hSw; go_simp; try with_reducible rfl)
                            try simp only [List.getElem_toArray, List.getElem_cons_zero, List.getElem_cons_succ, Act.put, List.setIfInBounds_toArray, List.set_cons_zero, List.set_cons_succ]
                            refine wpAnyH_take (i := 4) (v := ?vqf2_5_4) rfl (by kernel_rfl) (by kernel_rfl) (by kernel_rfl) (fun _ _ _ h => h) (Or.inl ⟨by rfl, ?yqf2_5_4⟩) hHeld ?rqf2_5_4
                            case yqf2_5_4 => (intro wq hSw; have hq := hSw; clear hSw; go_simp; try with_reducible rfl)
                            try simp only [List.getElem_toArray, List.getElem_cons_zero, List.getElem_cons_succ, Act.put, List.setIfInBounds_toArray, List.set_cons_zero, List.set_cons_succ]
                            refine wpAnyH_take (i := 5) (v := ?vqf2_6_5) rfl (by kernel_rfl) (by kernel_rfl) (by kernel_rfl) (fun _ _ _ h => h) (Or.inl ⟨by rfl, ?yqf2_6_5⟩) hHeld ?rqf2_6_5
                            case yqf2_6_5 => (intro wq hSw; clear hSw; go_simp; try with_reducible rfl)
                            try simp only [List.getElem_toArray, List.getElem_cons_zero, List.getElem_cons_succ, Act.put, List.setIfInBounds_toArray, List.set_cons_zero, List.set_cons_succ]
                            refine wpAnyH_take (i := 6) (v := ?vqf2_7_6) rfl (by kernel_rfl) (by kernel_rfl) (by kernel_rfl) (fun _ _ _ h => h) (Or.inl ⟨by rfl, ?yqf2_7_6⟩) hHeld ?rqf2_7_6
                            case yqf2_7_6 => (intro wq hSw; clear hSw; go_simp; try with_reducible rfl)
                            try simp only [List.getElem_toArray, List.getElem_cons_zero, List.getElem_cons_succ, Act.put, List.setIfInBounds_toArray, List.set_cons_zero, List.set_cons_succ]
                            refine wpAnyH_take (i := 7) (v := ?vqf2_8_7) rfl (by kernel_rfl) (by kernel_rfl) (by kernel_rfl) (fun _ _ _ h => h) (Or.inl ⟨by rfl, ?yqf2_8_7⟩) hHeld ?rqf2_8_7
                            case yqf2_8_7 => (intro wq hSw; clear hSw; go_simp; try with_reducible rfl)
                            try simp only [List.getElem_toArray, List.getElem_cons_zero, List.getElem_cons_succ, Act.put, List.setIfInBounds_toArray, List.set_cons_zero, List.set_cons_succ]
                            refine wpAnyH_take (i := 8) (v := ?vqf2_9_8) rfl (by kernel_rfl) (by kernel_rfl) (by kernel_rfl) (fun _ _ _ h => h) (Or.inl ⟨by rfl, ?yqf2_9_8⟩) hHeld ?rqf2_9_8
                            case yqf2_9_8 => (intro wq hSw; clear hSw; go_simp; try with_reducible rfl)
                            try simp only [List.getElem_toArray, List.getElem_cons_zero, List.getElem_cons_succ, Act.put, List.setIfInBounds_toArray, List.set_cons_zero, List.set_cons_succ]
                            refine wpAnyH_take (i := 9) (v := ?vqf2_10_9) rfl (by kernel_rfl) (by kernel_rfl) (by kernel_rfl) (fun _ _ _ h => h) (Or.inl ⟨by rfl, ?yqf2_10_9⟩) hHeld ?rqf2_10_9
                            case yqf2_10_9 => (intro wq hSw; clear hSw; go_simp; try with_reducible rfl)
                            try simp only [List.getElem_toArray, List.getElem_cons_zero, List.getElem_cons_succ, Act.put, List.setIfInBounds_toArray, List.set_cons_zero, List.set_cons_succ]
                            refine wpAnyH_take (i := 10) (v := ?vqf2_11_10) rfl (by kernel_rfl) (by kernel_rfl) (by kernel_rfl) (fun _ _ _ h => h) (Or.inl ⟨by rfl, ?yqf2_11_10⟩) hHeld ?rqf2_11_10
                            case yqf2_11_10 => (intro wq hSw; have hq := hSw; clear hSw; go_simp; try with_reducible rfl)
                            try simp only [List.getElem_toArray, List.getElem_cons_zero, List.getElem_cons_succ, Act.put, List.setIfInBounds_toArray, List.set_cons_zero, List.set_cons_succ]
                            refine wpAnyH_take (i := 11) (v := ?vqf2_12_11) rfl (by kernel_rfl) (by kernel_rfl) (by kernel_rfl) (fun _ _ _ h => h) (Or.inl ⟨by rfl, ?yqf2_12_11⟩) hHeld ?rqf2_12_11
                            case yqf2_12_11 => (intro wq hSw; clear hSw; go_simp; try with_reducible rfl)
                            try simp only [List.getElem_toArray, List.getElem_cons_zero, List.getElem_cons_succ, Act.put, List.setIfInBounds_toArray, List.set_cons_zero, List.set_cons_succ]
                            refine wpAnyH_take (i := 12) (v := ?vqf2_13_12) rfl (by kernel_rfl) (by kernel_rfl) (by kernel_rfl) (fun _ _ _ h => h) (Or.inl ⟨by rfl, ?yqf2_13_12⟩) hHeld ?rqf2_13_12
                            case yqf2_13_12 => (intro wq hSw; clear hSw; go_simp; try with_reducible rfl)
                            try simp only [List.getElem_toArray, List.getElem_cons_zero, List.getElem_cons_succ, Act.put, List.setIfInBounds_toArray, List.set_cons_zero, List.set_cons_succ]
                            refine wpAnyH_take (i := 13) (v := ?vqf2_14_13) rfl (by kernel_rfl) (by kernel_rfl) (by kernel_rfl) (fun _ _ _ h => h) (Or.inl ⟨by rfl, ?yqf2_14_13⟩) hHeld ?rqf2_14_13
                            case yqf2_14_13 => (intro wq hSw; clear hSw; go_simp; try with_reducible rfl)
                            try simp only [List.getElem_toArray, List.getElem_cons_zero, List.getElem_cons_succ, Act.put, List.setIfInBounds_toArray, List.set_cons_zero, List.set_cons_succ]
                            refine wpAnyH_take (i := 14) (v := ?vqf2_15_14) rfl (by kernel_rfl) (by kernel_rfl) (by kernel_rfl) (fun _ _ _ h => h) (Or.inl ⟨by rfl, ?yqf2_15_14⟩) hHeld ?rqf2_15_14
                            case yqf2_15_14 => (intro wq hSw; clear hSw; go_simp; try with_reducible rfl)
                            try simp only [List.getElem_toArray, List.getElem_cons_zero, List.getElem_cons_succ, Act.put, List.setIfInBounds_toArray, List.set_cons_zero, List.set_cons_succ]
                            refine wpAnyH_take (i := 15) (v := ?vqf2_16_15) rfl (by kernel_rfl) (by kernel_rfl) (by kernel_rfl) (fun _ _ _ h => h) (Or.inl ⟨by rfl, ?yqf2_16_15⟩) hHeld ?rqf2_16_15
                            case yqf2_16_15 => (intro wq hSw; clear hSw; go_simp; try with_reducible rfl)
                            try simp only [List.getElem_toArray, List.getElem_cons_zero, List.getElem_cons_succ, Act.put, List.setIfInBounds_toArray, List.set_cons_zero, List.set_cons_succ]
                            refine wpAnyH_take (i := 16) (v := ?vqf2_17_16) rfl (by kernel_rfl) (by kernel_rfl) (by kernel_rfl) (fun _ _ _ h => h) (Or.inl ⟨by rfl, ?yqf2_17_16⟩) hHeld ?rqf2_17_16
                            case yqf2_17_16 => (intro wq hSw; clear hSw; go_simp; try with_reducible rfl)
                            try simp only [List.getElem_toArray, List.getElem_cons_zero, List.getElem_cons_succ, Act.put, List.setIfInBounds_toArray, List.set_cons_zero, List.set_cons_succ]
                            refine wpAnyH_take (i := 17) (v := ?vqf2_18_17) rfl (by kernel_rfl) (by kernel_rfl) (by kernel_rfl) (fun _ _ _ h => h) (Or.inl ⟨by rfl, ?yqf2_18_17⟩) hHeld ?rqf2_18_17
                            case yqf2_18_17 => (intro wq hSw; clear hSw; go_simp; try with_reducible rfl)
                            try simp only [List.getElem_toArray, List.getElem_cons_zero, List.getElem_cons_succ, Act.put, List.setIfInBounds_toArray, List.set_cons_zero, List.set_cons_succ]
                            refine wpAnyH_take (i := 18) (v := ?vqf2_19_18) rfl (by kernel_rfl) (by kernel_rfl) (by kernel_rfl) (fun _ _ _ h => h) (Or.inl ⟨by rfl, ?yqf2_19_18⟩) hHeld ?rqf2_19_18
                            case yqf2_19_18 => (intro wq hSw; clear hSw; go_simp; try with_reducible rfl)
                            try simp only [List.getElem_toArray, List.getElem_cons_zero, List.getElem_cons_succ, Act.put, List.setIfInBounds_toArray, List.set_cons_zero, List.set_cons_succ]
                            refine wpAnyH_take (i := 19) (v := ?vqf2_20_19) rfl (by kernel_rfl) (by kernel_rfl) (by kernel_rfl) (fun _ _ _ h => h) (Or.inl ⟨by rfl, ?yqf2_20_19⟩) hHeld ?rqf2_20_19
                            case yqf2_20_19 => (intro wq hSw; clear hSw; go_simp; try with_reducible rfl)
                            try simp only [List.getElem_toArray, List.getElem_cons_zero, List.getElem_cons_succ, Act.put, List.setIfInBounds_toArray, List.set_cons_zero, List.set_cons_succ]
                            refine wpAnyH_take (i := 20) (v := ?vqf2_21_20) rfl (by kernel_rfl) (by kernel_rfl) (by kernel_rfl) (fun _ _ _ h => h) (Or.inl ⟨by rfl, ?yqf2_21_20⟩) hHeld ?rqf2_21_20
                            case yqf2_21_20 => (intro wq hSw; have hq := hSw; clear hSw; go_simp; try with_reducible rfl)
                            try simp only [List.getElem_toArray, List.getElem_cons_zero, List.getElem_cons_succ, Act.put, List.setIfInBounds_toArray, List.set_cons_zero, List.set_cons_succ]
                            refine wpAnyH_take (i := 21) (v := ?vqf2_22_21) rfl (by kernel_rfl) (by kernel_rfl) (by kernel_rfl) (fun _ _ _ h => h) (Or.inl ⟨by rfl, ?yqf2_22_21⟩) hHeld ?rqf2_22_21
                            case yqf2_22_21 => (intro wq hSw; clear hSw; go_simp; try with_reducible rfl)
                            try simp only [List.getElem_toArray, List.getElem_cons_zero, List.getElem_cons_succ, Act.put, List.setIfInBounds_toArray, List.set_cons_zero, List.set_cons_succ]
                            refine wpAnyH_take (i := 22) (v := ?vqf2_23_22) rfl (by kernel_rfl) (by kernel_rfl) (by kernel_rfl) (fun _ _ _ h => h) (Or.inl ⟨by rfl, ?yqf2_23_22⟩) hHeld ?rqf2_23_22
                            case yqf2_23_22 => (intro wq hSw; clear hSw; go_simp; try with_reducible rfl)
                            try simp only [List.getElem_toArray, List.getElem_cons_zero, List.getElem_cons_succ, Act.put, List.setIfInBounds_toArray, List.set_cons_zero, List.set_cons_succ]
                            refine wpAnyH_take (i := 23) (v := ?vqf2_24_23) rfl (by kernel_rfl) (by kernel_rfl) (by kernel_rfl) (fun _ _ _ h => h) (Or.inl ⟨by rfl, ?yqf2_24_23⟩) hHeld ?rqf2_24_23
                            case yqf2_24_23 => (intro wq hSw; clear hSw; go_simp; try with_reducible rfl)
                            try simp only [List.getElem_toArray, List.getElem_cons_zero, List.getElem_cons_succ, Act.put, List.setIfInBounds_toArray, List.set_cons_zero, List.set_cons_succ]
                            refine wpAnyH_take (i := 24) (v := ?vqf2_25_24) rfl (by kernel_rfl) (by kernel_rfl) (by kernel_rfl) (fun _ _ _ h => h) (Or.inl ⟨by rfl, ?yqf2_25_24⟩) hHeld ?rqf2_25_24
                            case yqf2_25_24 => (intro wq hSw; clear hSw; go_simp; try with_reducible rfl)
                            try simp only [List.getElem_toArray, List.getElem_cons_zero, List.getElem_cons_succ, Act.put, List.setIfInBounds_toArray, List.set_cons_zero, List.set_cons_succ]
                            refine wpAnyH_take (i := 25) (v := ?vqf2_26_25) rfl (by kernel_rfl) (by kernel_rfl) (by kernel_rfl) (fun _ _ _ h => h) (Or.inl ⟨by rfl, ?yqf2_26_25⟩) hHeld ?rqf2_26_25
                            case yqf2_26_25 => (intro wq hSw; clear hSw; go_simp; try with_reducible rfl)
                            try simp only [List.getElem_toArray, List.getElem_cons_zero, List.getElem_cons_succ, Act.put, List.setIfInBounds_toArray, List.set_cons_zero, List.set_cons_succ]
                            refine wpAnyH_take (i := 26) (v := ?vqf2_27_26) rfl (by kernel_rfl) (by kernel_rfl) (by kernel_rfl) (fun _ _ _ h => h) (Or.inl ⟨by rfl, ?yqf2_27_26⟩) hHeld ?rqf2_27_26
                            case yqf2_27_26 => (intro wq hSw; clear hSw; go_simp; try with_reducible rfl)
                            try simp only [List.getElem_toArray, List.getElem_cons_zero, List.getElem_cons_succ, Act.put, List.setIfInBounds_toArray, List.set_cons_zero, List.set_cons_succ]
                            refine wpAnyH_take (i := 27) (v := ?vqf2_28_27) rfl (by kernel_rfl) (by kernel_rfl) (by kernel_rfl) (fun _ _ _ h => h) (Or.inl ⟨by rfl, ?yqf2_28_27⟩) hHeld ?rqf2_28_27
                            case yqf2_28_27 => (intro wq hSw; clear hSw; go_simp; try with_reducible rfl)
                            try simp only [List.getElem_toArray, List.getElem_cons_zero, List.getElem_cons_succ, Act.put, List.setIfInBounds_toArray, List.set_cons_zero, List.set_cons_succ]
                            refine wpAnyH_take (i := 28) (v := ?vqf2_29_28) rfl (by kernel_rfl) (by kernel_rfl) (by kernel_rfl) (fun _ _ _ h => h) (Or.inl ⟨by rfl, ?yqf2_29_28⟩) hHeld ?rqf2_29_28
                            case yqf2_29_28 => (intro wq hSw; have hq := hSw; clear hSw; go_simp; try with_reducible rfl)
                            try simp only [List.getElem_toArray, List.getElem_cons_zero, List.getElem_cons_succ, Act.put, List.setIfInBounds_toArray, List.set_cons_zero, List.set_cons_succ]
                            refine wpAnyH_take (i := 29) (v := ?vqf2_30_29) rfl (by kernel_rfl) (by kernel_rfl) (by kernel_rfl) (fun _ _ _ h => h) (Or.inl ⟨by rfl, ?yqf2_30_29⟩) hHeld ?rqf2_30_29
                            case yqf2_30_29 => (intro wq hSw; clear hSw; go_simp; try with_reducible rfl)
                            try simp only [List.getElem_toArray, List.getElem_cons_zero, List.getElem_cons_succ, Act.put, List.setIfInBounds_toArray, List.set_cons_zero, List.set_cons_succ]
                            refine wpAnyH_take (i := 30) (v := ?vqf2_31_30) rfl (by kernel_rfl) (by kernel_rfl) (by kernel_rfl) (fun _ _ _ h => h) (Or.inl ⟨by rfl, ?yqf2_31_30⟩) hHeld ?rqf2_31_30
                            case yqf2_31_30 => (intro wq hSw; clear hSw; go_simp; try with_reducible rfl)
                            try simp only [List.getElem_toArray, List.getElem_cons_zero, List.getElem_cons_succ, Act.put, List.setIfInBounds_toArray, List.set_cons_zero, List.set_cons_succ]
                            refine wpAnyH_take (i := 31) (v := ?vqf2_32_31) rfl (by kernel_rfl) (by kernel_rfl) (by kernel_rfl) (fun _ _ _ h => h) (Or.inl ⟨by rfl, ?yqf2_32_31⟩) hHeld ?rqf2_32_31
                            case yqf2_32_31 => (intro wq hSw; clear hSw; go_simp; try with_reducible rfl)
                            try simp only [List.getElem_toArray, List.getElem_cons_zero, List.getElem_cons_succ, Act.put, List.setIfInBounds_toArray, List.set_cons_zero, List.set_cons_succ]
                            refine wpAnyH_take (i := 32) (v := ?vqf2_33_32) rfl (by kernel_rfl) (by kernel_rfl) (by kernel_rfl) (fun _ _ _ h => h) (Or.inl ⟨by rfl, ?yqf2_33_32⟩) hHeld ?rqf2_33_32
                            case yqf2_33_32 => (intro wq hSw; clear hSw; go_simp; try with_reducible rfl)
                            try simp only [List.getElem_toArray, List.getElem_cons_zero, List.getElem_cons_succ, Act.put, List.setIfInBounds_toArray, List.set_cons_zero, List.set_cons_succ]
                            refine wpAnyH_take (i := 33) (v := ?vqf2_34_33) rfl (by kernel_rfl) (by kernel_rfl) (by kernel_rfl) (fun _ _ _ h => h) (Or.inl ⟨by rfl, ?yqf2_34_33⟩) hHeld ?rqf2_34_33
                            case yqf2_34_33 => (intro wq hSw; have hq := hSw; clear hSw; go_simp; try with_reducible rfl)
                            try simp only [List.getElem_toArray, List.getElem_cons_zero, List.getElem_cons_succ, Act.put, List.setIfInBounds_toArray, List.set_cons_zero, List.set_cons_succ]
                            refine wpAnyH_take (i := 34) (v := ?vqf2_35_34) rfl (by kernel_rfl) (by kernel_rfl) (by kernel_rfl) (fun _ _ _ h => h) (Or.inl ⟨by rfl, ?yqf2_35_34⟩) hHeld ?rqf2_35_34
                            case yqf2_35_34 => (intro wq hSw; clear hSw; go_simp; try with_reducible rfl)
                            try simp only [List.getElem_toArray, List.getElem_cons_zero, List.getElem_cons_succ, Act.put, List.setIfInBounds_toArray, List.set_cons_zero, List.set_cons_succ]
                            refine wpAnyH_take (i := 35) (v := ?vqf2_36_35) rfl (by kernel_rfl) (by kernel_rfl) (by kernel_rfl) (fun _ _ _ h => h) (Or.inl ⟨by rfl, ?yqf2_36_35⟩) hHeld ?rqf2_36_35
                            case yqf2_36_35 => (intro wq hSw; clear hSw; go_simp; try with_reducible rfl)
                            try simp only [List.getElem_toArray, List.getElem_cons_zero, List.getElem_cons_succ, Act.put, List.setIfInBounds_toArray, List.set_cons_zero, List.set_cons_succ]
                            refine wpAnyH_take (i := 36) (v := ?vqf2_37_36) rfl (by kernel_rfl) (by kernel_rfl) (by kernel_rfl) (fun _ _ _ h => h) (Or.inl ⟨by rfl, ?yqf2_37_36⟩) hHeld ?rqf2_37_36
                            case yqf2_37_36 => (intro wq hSw; clear hSw; go_simp; try with_reducible rfl)
                            try simp only [List.getElem_toArray, List.getElem_cons_zero, List.getElem_cons_succ, Act.put, List.setIfInBounds_toArray, List.set_cons_zero, List.set_cons_succ]
                            refine wpAnyH_take (i := 37) (v := ?vqf2_38_37) rfl (by kernel_rfl) (by kernel_rfl) (by kernel_rfl) (fun _ _ _ h => h) (Or.inl ⟨by rfl, ?yqf2_38_37⟩) hHeld ?rqf2_38_37
                            case yqf2_38_37 => (intro wq hSw; clear hSw; go_simp; try with_reducible rfl)
                            try simp only [List.getElem_toArray, List.getElem_cons_zero, List.getElem_cons_succ, Act.put, List.setIfInBounds_toArray, List.set_cons_zero, List.set_cons_succ]
                            refine wpAnyH_take (i := 38) (v := ?vqf2_39_38) rfl (by kernel_rfl) (by kernel_rfl) (by kernel_rfl) (fun _ _ _ h => h) (Or.inl ⟨by rfl, ?yqf2_39_38⟩) hHeld ?rqf2_39_38
                            case yqf2_39_38 => (intro wq hSw; have hq := hSw; clear hSw; go_simp; try with_reducible rfl)
                            try simp only [List.getElem_toArray, List.getElem_cons_zero, List.getElem_cons_succ, Act.put, List.setIfInBounds_toArray, List.set_cons_zero, List.set_cons_succ]
                            refine wpAnyH_take (i := 39) (v := ?vqf2_40_39) rfl (by kernel_rfl) (by kernel_rfl) (by kernel_rfl) (fun _ _ _ h => h) (Or.inl ⟨by rfl, ?yqf2_40_39⟩) hHeld ?rqf2_40_39
                            case yqf2_40_39 => (intro wq hSw; clear hSw; go_simp; try with_reducible rfl)
                            try simp only [List.getElem_toArray, List.getElem_cons_zero, List.getElem_cons_succ, Act.put, List.setIfInBounds_toArray, List.set_cons_zero, List.set_cons_succ]
                            refine wpAnyH_take (i := 40) (v := ?vqf2_41_40) rfl (by kernel_rfl) (by kernel_rfl) (by kernel_rfl) (fun _ _ _ h => h) (Or.inl ⟨by rfl, ?yqf2_41_40⟩) hHeld ?rqf2_41_40
                            case yqf2_41_40 => (intro wq hSw; clear hSw; go_simp; try with_reducible rfl)
                            try simp only [List.getElem_toArray, List.getElem_cons_zero, List.getElem_cons_succ, Act.put, List.setIfInBounds_toArray, List.set_cons_zero, List.set_cons_succ]
                            refine wpAnyH_take (i := 41) (v := ?vqf2_42_41) rfl (by kernel_rfl) (by kernel_rfl) (by kernel_rfl) (fun _ _ _ h => h) (Or.inl ⟨by rfl, ?yqf2_42_41⟩) hHeld ?rqf2_42_41
                            case yqf2_42_41 => (intro wq hSw; clear hSw; go_simp; try with_reducible rfl)
                            try simp only [List.getElem_toArray, List.getElem_cons_zero, List.getElem_cons_succ, Act.put, List.setIfInBounds_toArray, List.set_cons_zero, List.set_cons_succ]
                            refine wpAnyH_take (i := 42) (v := ?vqf2_43_42) rfl (by kernel_rfl) (by kernel_rfl) (by kernel_rfl) (fun _ _ _ h => h) (Or.inl ⟨by rfl, ?yqf2_43_42⟩) hHeld ?rqf2_43_42
                            case yqf2_43_42 => (intro wq hSw; clear hSw; go_simp; try with_reducible rfl)
                            try simp only [List.getElem_toArray, List.getElem_cons_zero, List.getElem_cons_succ, Act.put, List.setIfInBounds_toArray, List.set_cons_zero, List.set_cons_succ]
                            refine wpAnyH_take (i := 43) (v := ?vqf2_44_43) rfl (by kernel_rfl) (by kernel_rfl) (by kernel_rfl) (fun _ _ _ h => h) (Or.inl ⟨by rfl, ?yqf2_44_43⟩) hHeld ?rqf2_44_43
                            case yqf2_44_43 => (intro wq hSw; clear hSw; go_simp; try with_reducible rfl)
                            try simp only [List.getElem_toArray, List.getElem_cons_zero, List.getElem_cons_succ, Act.put, List.setIfInBounds_toArray, List.set_cons_zero, List.set_cons_succ]
                            refine wpAnyH_ready (rs := [44]) (by kernel_rfl) (by simp) ?_
                            refine AllReadyH.cons rfl (fun K hK => ?_) AllReadyH.nil
                            try simp only [List.getElem_toArray, List.getElem_cons_zero, List.getElem_cons_succ, Act.put, List.setIfInBounds_toArray, List.set_cons_zero, List.set_cons_succ]
                            rw [if_pos (by rfl)]
                            refine wp_buildSlice 25 9 10 _ rfl (tenV T e1 e2 e3 e4 e5) ib (.string ByteArray.empty) Tryd.underlying25 hib hz0 ?_ ?_ ?_ ?_
                            · rw [hz1]; decide
                            · rw [hz1]; decide
                            · simp only [hz1]; kernel_rfl
                            refine hK.out _ _ ((World.cell?_alloc_lt _ _ _ (World.block_lt_of_cell? _ _ hHeld)).trans hHeld) (fun hHeld => ?_)
                            clear hK K
                            try simp only [List.getElem_toArray, List.getElem_cons_zero, List.getElem_cons_succ, Act.put, List.setIfInBounds_toArray, List.set_cons_zero, List.set_cons_succ]
                            refine wpAnyH_take (i := 45) (v := ?vqf2_45_45) rfl (by kernel_rfl) (by kernel_rfl) (by kernel_rfl) (fun _ _ _ h => h) (Or.inl ⟨by rfl, ?yqf2_45_45⟩) hHeld ?rqf2_45_45
                            case yqf2_45_45 => (intro wq hSw; clear hSw; go_simp; try with_reducible rfl)
                            try simp only [List.getElem_toArray, List.getElem_cons_zero, List.getElem_cons_succ, Act.put, List.setIfInBounds_toArray, List.set_cons_zero, List.set_cons_succ]
                            refine wpAnyH_done (by kernel_rfl) ?_ _
                            go_wp2_with fail
                            go_ret
                            have hb := hbel.out
                            have hs0 := hb.size
                            refine ⟨W0.heap.size, rfl, fun k hk => ?_, hs0, by simp, (hb.trans ((drewN_below W0 q).mono hs0)).drew.alloc (by first | (simp; done) | (simp; omega)) _⟩
                            rw [cell_of_row _ _ k _ _ _ (heap_at _ _ W0.heap.size (by simp))]
                            exact hcells.out k hk
                    · have hr3 := qlay (hr2.out rfl)
                      clear hr1 hr2
                      have hpz0 : Shut ((2 : Int) = 2 → prL T (1 + bn + cn + dn + 2) = 2) := fun _ => hr3.out
                      go_wp2_with fail
                      go_loopw [10] (fun pv wr => ∃ pz : Int, pv = .int .i64 pz ∧ (pz = 2 ∨ pz = 0 ∨ pz = -2) ∧ (pz = 2 → prL T (1 + bn + cn + dn + 2) = 2) ∧ (bn = b ∧ cn = c ∧ dn = d → 0 ≤ pz) ∧ ∃ q, wr = W0.drewN q) (fun pv _ => (intOf pv + 2).toNat)
                      case atStart => exact ⟨(2 : Int), rfl, by omega, fun _ => hr3.out, fun _ => by omega, q5, rfl⟩
                      case round =>
                        obtain ⟨pz, rfl, hp3, hp2, hps, q, rfl⟩ := hrel
                        have hp2s := qlay hp2
                        have hpss := qlay hps
                        clear hp2 hps
                        by_cases hpm : pz = -2
                        · subst hpm
                          have hno : Shut (bn = b ∧ cn = c → d + 1 ≤ dn) := by
                            intro e
                            have h1 := hstar.out e
                            by_cases e3 : dn = d
                            · have := hpss.out ⟨e.1, e.2, e3⟩; omega
                            · omega
                          go_wp2_with fail
                          go_roundw
                          case rel => first | exact ⟨(dn : Int) - 1, by go_num, by omega, by omega, fun e => by have := hno.out e; omega, fun e => by omega, q, rfl⟩ | ((repeat apply Exists.intro); exact ⟨⟨(dn : Int) - 1, by go_num, by omega, by omega, fun e => by have := hno.out e; omega, fun e => by omega, q, rfl⟩, rfl⟩)
                          case measure => first | (simp [intOf]; done) | (simp [intOf]; omega)
                        · obtain ⟨pn, rfl⟩ : ∃ pn : Nat, pz = (pn : Int) := ⟨pz.toNat, by omega⟩
                          have hcl := hcs.out q
                          have hpp : Shut (pn = 0 ∨ pn = prL T (1 + bn + cn + dn + 2)) := by
                            rcases hp3 with h | h | h
                            · right; rw [hp2s.out h]; omega
                            · left; omega
                            · omega
                          have hun : Shut (tailB (T.drop (1 + bn + cn + dn + 2 + pn)) = true → bn = b ∧ cn = c ∧ dn = d ∧ pn = 0) := fun h => hway.out bn cn dn pn hbn (by omega) (by omega) hokn.out hpp.out h
                          have hns : Shut (tailB (T.drop (1 + bn + cn + dn + 2 + pn)) = false → bn = b ∧ cn = c ∧ dn = d → False) := by
                            rintro h ⟨rfl, rfl, rfl⟩
                            have h2 := hst.out.2
                            rcases hpp.out with h3 | h3
                            · rw [h3, Nat.add_zero] at h; rw [h2.2] at h; cases h
                            · rw [h2.1] at h3; rw [h3, Nat.add_zero] at h; rw [h2.2] at h; cases h
                          go_wp2_with fail
                          refine (hzt.out (1 + bn + cn + dn + 2 + pn) (by omega) _ (by omega) _).mono ?_
                          rintro e w1 ⟨rfl, rfl⟩
                          cases ht : tailB (T.drop (1 + bn + cn + dn + 2 + pn)) with
                          | false =>
                            have hns2 := qlay (hns.out ht)
                            clear hns hun hpp hp2s hpss ht
                            go_wp2_with fail
                            go_roundw
                            case rel => first | exact ⟨(pn : Int) - 2, by go_num, by omega, fun e => by omega, fun e => (hns2.out e).elim, q, rfl⟩ | ((repeat apply Exists.intro); exact ⟨⟨(pn : Int) - 2, by go_num, by omega, fun e => by omega, fun e => (hns2.out e).elim, q, rfl⟩, rfl⟩)
                            case measure => first | (simp [intOf]; done) | (simp [intOf]; omega)
                          | true =>
                            obtain ⟨rfl, rfl, rfl, rfl⟩ := hun.out ht
                            have hsays := okC_says hokn.out
                            have hle : bn + cn + dn + 3 ≤ T.length := by have := hsays.2.2.2.2.1; omega
                            clear hsays
                            obtain ⟨e1, he1⟩ : ∃ e : Nat, 1 + bn = e := ⟨_, rfl⟩
                            obtain ⟨e2, he2⟩ : ∃ e : Nat, 1 + bn + cn = e := ⟨_, rfl⟩
                            obtain ⟨e3, he3⟩ : ∃ e : Nat, 1 + bn + cn + dn = e := ⟨_, rfl⟩
                            obtain ⟨e4, he4⟩ : ∃ e : Nat, e3 + 1 = e := ⟨_, rfl⟩
                            obtain ⟨e5, he5⟩ : ∃ e : Nat, e3 + 2 = e := ⟨_, rfl⟩
                            have l0 : (1 : Int) ≤ (T.length : Int) := by omega
                            have l1 : (1 : Int) ≤ (e1 : Int) := by omega
                            have l2 : (e1 : Int) ≤ (T.length : Int) := by omega
                            have l3 : (e1 : Int) ≤ (e2 : Int) := by omega
                            have l4 : (e2 : Int) ≤ (T.length : Int) := by omega
                            have l5 : (e2 : Int) ≤ (e3 : Int) := by omega
                            have l6 : (e3 : Int) ≤ (T.length : Int) := by omega
                            have l7 : (e3 : Int) ≤ (e4 : Int) := by omega
                            have l8 : (e4 : Int) ≤ (T.length : Int) := by omega
                            have l9 : (e4 : Int) ≤ (e5 : Int) := by omega
                            have l10 : (e5 : Int) ≤ (T.length : Int) := by omega
                            have v1 : IntKind.i64.wrap (1 + (bn : Int)) = (e1 : Int) := by rw [IntKind.wrap_i64]; omega
                            have v2 : IntKind.i64.wrap ((e1 : Int) + (cn : Int)) = (e2 : Int) := by rw [IntKind.wrap_i64]; omega
                            have v3 : IntKind.i64.wrap ((e3 : Int) + 1) = (e4 : Int) := by rw [IntKind.wrap_i64]; omega
                            have v4 : IntKind.i64.wrap (e5 : Int) = (e5 : Int) := by rw [IntKind.wrap_i64]; omega
                            have hes := qlay (And.intro he1 (And.intro he2 (And.intro he3 (And.intro he4 he5))))
                            have hcells := qlay (ten_cells T bn cn dn e1 e2 e3 e4 e5 he1 he2 he3 he4 he5 hst.out.2.1)
                            obtain ⟨ib, hib, hz0, hz1, hz2⟩ := info_parts (show (Tryd.prog.info? 9).map (fun i => (i.zero, i.size, i.bytes)) = some (some (.string ByteArray.empty), 1, 16) by kernel_rfl)
                            go_upto_region 23 with fail
                            rw [show (1 + (bn : Int) + (cn : Int) + (dn : Int) + 2) = (e5 : Int) by omega, show (1 + (bn : Int) + (cn : Int) + (dn : Int)) = (e3 : Int) by omega]
                            clear he1 he2 he3 he4 he5 hle
                            refine wp_region_held_drew (S := fun V : World => V.cell? ⟨w.heap.size, 0, none⟩ = some (.string (bs T))) (by kernel_rfl) (by show World.cell? _ _ = _; exact hcs.out q) (fun hHeld => ?_)
                            refine wpAnyH_take (i := 0) (v := ?vqf3_1_0) rfl (by kernel_rfl) (by kernel_rfl) (by kernel_rfl) (fun _ _ _ h => h) (Or.inl ⟨by rfl, ?yqf3_1_0⟩) hHeld ?rqf3_1_0
                            case yqf3_1_0 => (intro wq hSw; have hq := hSw; clear hSw; go_simp; try with_reducible rfl)
                            try simp only [List.getElem_toArray, List.getElem_cons_zero, List.getElem_cons_succ, Act.put, List.setIfInBounds_toArray, List.set_cons_zero, List.set_cons_succ]
                            refine wpAnyH_take (i := 1) (v := ?vqf3_2_1) rfl (by kernel_rfl) (by kernel_rfl) (by kernel_rfl) (fun _ _ _ h => h) (Or.inl ⟨by rfl, ?yqf3_2_1⟩) hHeld ?rqf3_2_1
                            case yqf3_2_1 => (intro wq hSw; have hq := hSw; clear hSw; go_simp; try with_reducible rfl)
                            try simp only [List.getElem_toArray, List.getElem_cons_zero, List.getElem_cons_succ, Act.put, List.setIfInBounds_toArray, List.set_cons_zero, List.set_cons_succ]
                            refine wpAnyH_take (i := 2) (v := ?vqf3_3_2) rfl (by kernel_rfl) (by kernel_rfl) (by kernel_rfl) (fun _ _ _ h => h) (Or.inl ⟨by rfl, ?yqf3_3_2⟩) hHeld ?rqf3_3_2
                            case yqf3_3_2 => (intro wq hSw; clear hSw; go_simp; try with_reducible rfl)
                            try simp only [List.getElem_toArray, List.getElem_cons_zero, List.getElem_cons_succ, Act.put, List.setIfInBounds_toArray, List.set_cons_zero, List.set_cons_succ]
                            refine wpAnyH_take (i := 3) (v := ?vqf3_4_3) rfl (by kernel_rfl) (by kernel_rfl) (by kernel_rfl) (fun _ _ _ h => h) (Or.inl ⟨by rfl, ?yqf3_4_3⟩) hHeld ?rqf3_4_3
                            case yqf3_4_3 => (intro wq hSw; clear hSw; go_simp; try with_reducible rfl)
                            try simp only [List.getElem_toArray, List.getElem_cons_zero, List.getElem_cons_succ, Act.put, List.setIfInBounds_toArray, List.set_cons_zero, List.set_cons_succ]
                            refine wpAnyH_take (i := 4) (v := ?vqf3_5_4) rfl (by kernel_rfl) (by kernel_rfl) (by kernel_rfl) (fun _ _ _ h => h) (Or.inl ⟨by rfl, ?yqf3_5_4⟩) hHeld ?rqf3_5_4
                            case yqf3_5_4 => (intro wq hSw; have hq := hSw; clear hSw; go_simp; try with_reducible rfl)
                            try simp only [List.getElem_toArray, List.getElem_cons_zero, List.getElem_cons_succ, Act.put, List.setIfInBounds_toArray, List.set_cons_zero, List.set_cons_succ]
                            refine wpAnyH_take (i := 5) (v := ?vqf3_6_5) rfl (by kernel_rfl) (by kernel_rfl) (by kernel_rfl) (fun _ _ _ h => h) (Or.inl ⟨by rfl, ?yqf3_6_5⟩) hHeld ?rqf3_6_5
                            case yqf3_6_5 => (intro wq hSw; clear hSw; go_simp; try with_reducible rfl)
                            try simp only [List.getElem_toArray, List.getElem_cons_zero, List.getElem_cons_succ, Act.put, List.setIfInBounds_toArray, List.set_cons_zero, List.set_cons_succ]
                            refine wpAnyH_take (i := 6) (v := ?vqf3_7_6) rfl (by kernel_rfl) (by kernel_rfl) (by kernel_rfl) (fun _ _ _ h => h) (Or.inl ⟨by rfl, ?yqf3_7_6⟩) hHeld ?rqf3_7_6
                            case yqf3_7_6 => (intro wq hSw; clear hSw; go_simp; try with_reducible rfl)
                            try simp only [List.getElem_toArray, List.getElem_cons_zero, List.getElem_cons_succ, Act.put, List.setIfInBounds_toArray, List.set_cons_zero, List.set_cons_succ]
                            refine wpAnyH_take (i := 7) (v := ?vqf3_8_7) rfl (by kernel_rfl) (by kernel_rfl) (by kernel_rfl) (fun _ _ _ h => h) (Or.inl ⟨by rfl, ?yqf3_8_7⟩) hHeld ?rqf3_8_7
                            case yqf3_8_7 => (intro wq hSw; clear hSw; go_simp; try with_reducible rfl)
                            try simp only [List.getElem_toArray, List.getElem_cons_zero, List.getElem_cons_succ, Act.put, List.setIfInBounds_toArray, List.set_cons_zero, List.set_cons_succ]
                            refine wpAnyH_take (i := 8) (v := ?vqf3_9_8) rfl (by kernel_rfl) (by kernel_rfl) (by kernel_rfl) (fun _ _ _ h => h) (Or.inl ⟨by rfl, ?yqf3_9_8⟩) hHeld ?rqf3_9_8
                            case yqf3_9_8 => (intro wq hSw; clear hSw; go_simp; try with_reducible rfl)
                            try simp only [List.getElem_toArray, List.getElem_cons_zero, List.getElem_cons_succ, Act.put, List.setIfInBounds_toArray, List.set_cons_zero, List.set_cons_succ]
                            refine wpAnyH_take (i := 9) (v := ?vqf3_10_9) rfl (by kernel_rfl) (by kernel_rfl) (by kernel_rfl) (fun _ _ _ h => h) (Or.inl ⟨by rfl, ?yqf3_10_9⟩) hHeld ?rqf3_10_9
                            case yqf3_10_9 => (intro wq hSw; clear hSw; go_simp; try with_reducible rfl)
                            try simp only [List.getElem_toArray, List.getElem_cons_zero, List.getElem_cons_succ, Act.put, List.setIfInBounds_toArray, List.set_cons_zero, List.set_cons_succ]
                            refine wpAnyH_take (i := 10) (v := ?vqf3_11_10) rfl (by kernel_rfl) (by kernel_rfl) (by kernel_rfl) (fun _ _ _ h => h) (Or.inl ⟨by rfl, ?yqf3_11_10⟩) hHeld ?rqf3_11_10
                            case yqf3_11_10 => (intro wq hSw; have hq := hSw; clear hSw; go_simp; try with_reducible rfl)
                            try simp only [List.getElem_toArray, List.getElem_cons_zero, List.getElem_cons_succ, Act.put, List.setIfInBounds_toArray, List.set_cons_zero, List.set_cons_succ]
                            refine wpAnyH_take (i := 11) (v := ?vqf3_12_11) rfl (by kernel_rfl) (by kernel_rfl) (by kernel_rfl) (fun _ _ _ h => h) (Or.inl ⟨by rfl, ?yqf3_12_11⟩) hHeld ?rqf3_12_11
                            case yqf3_12_11 => (intro wq hSw; clear hSw; go_simp; try with_reducible rfl)
                            try simp only [List.getElem_toArray, List.getElem_cons_zero, List.getElem_cons_succ, Act.put, List.setIfInBounds_toArray, List.set_cons_zero, List.set_cons_succ]
                            refine wpAnyH_take (i := 12) (v := ?vqf3_13_12) rfl (by kernel_rfl) (by kernel_rfl) (by kernel_rfl) (fun _ _ _ h => h) (Or.inl ⟨by rfl, ?yqf3_13_12⟩) hHeld ?rqf3_13_12
                            case yqf3_13_12 => (intro wq hSw; clear hSw; go_simp; try with_reducible rfl)
                            try simp only [List.getElem_toArray, List.getElem_cons_zero, List.getElem_cons_succ, Act.put, List.setIfInBounds_toArray, List.set_cons_zero, List.set_cons_succ]
                            refine wpAnyH_take (i := 13) (v := ?vqf3_14_13) rfl (by kernel_rfl) (by kernel_rfl) (by kernel_rfl) (fun _ _ _ h => h) (Or.inl ⟨by rfl, ?yqf3_14_13⟩) hHeld ?rqf3_14_13
                            case yqf3_14_13 => (intro wq hSw; clear hSw; go_simp; try with_reducible rfl)
                            try simp only [List.getElem_toArray, List.getElem_cons_zero, List.getElem_cons_succ, Act.put, List.setIfInBounds_toArray, List.set_cons_zero, List.set_cons_succ]
                            refine wpAnyH_take (i := 14) (v := ?vqf3_15_14) rfl (by kernel_rfl) (by kernel_rfl) (by kernel_rfl) (fun _ _ _ h => h) (Or.inl ⟨by rfl, ?yqf3_15_14⟩) hHeld ?rqf3_15_14
                            case yqf3_15_14 => (intro wq hSw; clear hSw; go_simp; try with_reducible rfl)
                            try simp only [List.getElem_toArray, List.getElem_cons_zero, List.getElem_cons_succ, Act.put, List.setIfInBounds_toArray, List.set_cons_zero, List.set_cons_succ]
                            refine wpAnyH_take (i := 15) (v := ?vqf3_16_15) rfl (by kernel_rfl) (by kernel_rfl) (by kernel_rfl) (fun _ _ _ h => h) (Or.inl ⟨by rfl, ?yqf3_16_15⟩) hHeld ?rqf3_16_15
                            case yqf3_16_15 => (intro wq hSw; clear hSw; go_simp; try with_reducible rfl)
                            try simp only [List.getElem_toArray, List.getElem_cons_zero, List.getElem_cons_succ, Act.put, List.setIfInBounds_toArray, List.set_cons_zero, List.set_cons_succ]
                            refine wpAnyH_take (i := 16) (v := ?vqf3_17_16) rfl (by kernel_rfl) (by kernel_rfl) (by kernel_rfl) (fun _ _ _ h => h) (Or.inl ⟨by rfl, ?yqf3_17_16⟩) hHeld ?rqf3_17_16
                            case yqf3_17_16 => (intro wq hSw; clear hSw; go_simp; try with_reducible rfl)
                            try simp only [List.getElem_toArray, List.getElem_cons_zero, List.getElem_cons_succ, Act.put, List.setIfInBounds_toArray, List.set_cons_zero, List.set_cons_succ]
                            refine wpAnyH_take (i := 17) (v := ?vqf3_18_17) rfl (by kernel_rfl) (by kernel_rfl) (by kernel_rfl) (fun _ _ _ h => h) (Or.inl ⟨by rfl, ?yqf3_18_17⟩) hHeld ?rqf3_18_17
                            case yqf3_18_17 => (intro wq hSw; clear hSw; go_simp; try with_reducible rfl)
                            try simp only [List.getElem_toArray, List.getElem_cons_zero, List.getElem_cons_succ, Act.put, List.setIfInBounds_toArray, List.set_cons_zero, List.set_cons_succ]
                            refine wpAnyH_take (i := 18) (v := ?vqf3_19_18) rfl (by kernel_rfl) (by kernel_rfl) (by kernel_rfl) (fun _ _ _ h => h) (Or.inl ⟨by rfl, ?yqf3_19_18⟩) hHeld ?rqf3_19_18
                            case yqf3_19_18 => (intro wq hSw; clear hSw; go_simp; try with_reducible rfl)
                            try simp only [List.getElem_toArray, List.getElem_cons_zero, List.getElem_cons_succ, Act.put, List.setIfInBounds_toArray, List.set_cons_zero, List.set_cons_succ]
                            refine wpAnyH_take (i := 19) (v := ?vqf3_20_19) rfl (by kernel_rfl) (by kernel_rfl) (by kernel_rfl) (fun _ _ _ h => h) (Or.inl ⟨by rfl, ?yqf3_20_19⟩) hHeld ?rqf3_20_19
                            case yqf3_20_19 => (intro wq hSw; clear hSw; go_simp; try with_reducible rfl)
                            try simp only [List.getElem_toArray, List.getElem_cons_zero, List.getElem_cons_succ, Act.put, List.setIfInBounds_toArray, List.set_cons_zero, List.set_cons_succ]
                            refine wpAnyH_take (i := 20) (v := ?vqf3_21_20) rfl (by kernel_rfl) (by kernel_rfl) (by kernel_rfl) (fun _ _ _ h => h) (Or.inl ⟨by rfl, ?yqf3_21_20⟩) hHeld ?rqf3_21_20
                            case yqf3_21_20 => (intro wq hSw; have hq := hSw; clear hSw; go_simp; try with_reducible rfl)
                            try simp only [List.getElem_toArray, List.getElem_cons_zero, List.getElem_cons_succ, Act.put, List.setIfInBounds_toArray, List.set_cons_zero, List.set_cons_succ]
                            refine wpAnyH_take (i := 21) (v := ?vqf3_22_21) rfl (by kernel_rfl) (by kernel_rfl) (by kernel_rfl) (fun _ _ _ h => h) (Or.inl ⟨by rfl, ?yqf3_22_21⟩) hHeld ?rqf3_22_21
                            case yqf3_22_21 => (intro wq hSw; clear hSw; go_simp; try with_reducible rfl)
                            try simp only [List.getElem_toArray, List.getElem_cons_zero, List.getElem_cons_succ, Act.put, List.setIfInBounds_toArray, List.set_cons_zero, List.set_cons_succ]
                            refine wpAnyH_take (i := 22) (v := ?vqf3_23_22) rfl (by kernel_rfl) (by kernel_rfl) (by kernel_rfl) (fun _ _ _ h => h) (Or.inl ⟨by rfl, ?yqf3_23_22⟩) hHeld ?rqf3_23_22
                            case yqf3_23_22 => (intro wq hSw; clear hSw; go_simp; try with_reducible rfl)
                            try simp only [List.getElem_toArray, List.getElem_cons_zero, List.getElem_cons_succ, Act.put, List.setIfInBounds_toArray, List.set_cons_zero, List.set_cons_succ]
                            refine wpAnyH_take (i := 23) (v := ?vqf3_24_23) rfl (by kernel_rfl) (by kernel_rfl) (by kernel_rfl) (fun _ _ _ h => h) (Or.inl ⟨by rfl, ?yqf3_24_23⟩) hHeld ?rqf3_24_23
                            case yqf3_24_23 => (intro wq hSw; clear hSw; go_simp; try with_reducible rfl)
                            try simp only [List.getElem_toArray, List.getElem_cons_zero, List.getElem_cons_succ, Act.put, List.setIfInBounds_toArray, List.set_cons_zero, List.set_cons_succ]
                            refine wpAnyH_take (i := 24) (v := ?vqf3_25_24) rfl (by kernel_rfl) (by kernel_rfl) (by kernel_rfl) (fun _ _ _ h => h) (Or.inl ⟨by rfl, ?yqf3_25_24⟩) hHeld ?rqf3_25_24
                            case yqf3_25_24 => (intro wq hSw; clear hSw; go_simp; try with_reducible rfl)
                            try simp only [List.getElem_toArray, List.getElem_cons_zero, List.getElem_cons_succ, Act.put, List.setIfInBounds_toArray, List.set_cons_zero, List.set_cons_succ]
                            refine wpAnyH_take (i := 25) (v := ?vqf3_26_25) rfl (by kernel_rfl) (by kernel_rfl) (by kernel_rfl) (fun _ _ _ h => h) (Or.inl ⟨by rfl, ?yqf3_26_25⟩) hHeld ?rqf3_26_25
                            case yqf3_26_25 => (intro wq hSw; clear hSw; go_simp; try with_reducible rfl)
                            try simp only [List.getElem_toArray, List.getElem_cons_zero, List.getElem_cons_succ, Act.put, List.setIfInBounds_toArray, List.set_cons_zero, List.set_cons_succ]
                            refine wpAnyH_take (i := 26) (v := ?vqf3_27_26) rfl (by kernel_rfl) (by kernel_rfl) (by kernel_rfl) (fun _ _ _ h => h) (Or.inl ⟨by rfl, ?yqf3_27_26⟩) hHeld ?rqf3_27_26
                            case yqf3_27_26 => (intro wq hSw; clear hSw; go_simp; try with_reducible rfl)
                            try simp only [List.getElem_toArray, List.getElem_cons_zero, List.getElem_cons_succ, Act.put, List.setIfInBounds_toArray, List.set_cons_zero, List.set_cons_succ]
                            refine wpAnyH_take (i := 27) (v := ?vqf3_28_27) rfl (by kernel_rfl) (by kernel_rfl) (by kernel_rfl) (fun _ _ _ h => h) (Or.inl ⟨by rfl, ?yqf3_28_27⟩) hHeld ?rqf3_28_27
                            case yqf3_28_27 => (intro wq hSw; clear hSw; go_simp; try with_reducible rfl)
                            try simp only [List.getElem_toArray, List.getElem_cons_zero, List.getElem_cons_succ, Act.put, List.setIfInBounds_toArray, List.set_cons_zero, List.set_cons_succ]
                            refine wpAnyH_take (i := 28) (v := ?vqf3_29_28) rfl (by kernel_rfl) (by kernel_rfl) (by kernel_rfl) (fun _ _ _ h => h) (Or.inl ⟨by rfl, ?yqf3_29_28⟩) hHeld ?rqf3_29_28
                            case yqf3_29_28 => (intro wq hSw; have hq := hSw; clear hSw; go_simp; try with_reducible rfl)
                            try simp only [List.getElem_toArray, List.getElem_cons_zero, List.getElem_cons_succ, Act.put, List.setIfInBounds_toArray, List.set_cons_zero, List.set_cons_succ]
                            refine wpAnyH_take (i := 29) (v := ?vqf3_30_29) rfl (by kernel_rfl) (by kernel_rfl) (by kernel_rfl) (fun _ _ _ h => h) (Or.inl ⟨by rfl, ?yqf3_30_29⟩) hHeld ?rqf3_30_29
                            case yqf3_30_29 => (intro wq hSw; clear hSw; go_simp; try with_reducible rfl)
                            try simp only [List.getElem_toArray, List.getElem_cons_zero, List.getElem_cons_succ, Act.put, List.setIfInBounds_toArray, List.set_cons_zero, List.set_cons_succ]
                            refine wpAnyH_take (i := 30) (v := ?vqf3_31_30) rfl (by kernel_rfl) (by kernel_rfl) (by kernel_rfl) (fun _ _ _ h => h) (Or.inl ⟨by rfl, ?yqf3_31_30⟩) hHeld ?rqf3_31_30
                            case yqf3_31_30 => (intro wq hSw; clear hSw; go_simp; try with_reducible rfl)
                            try simp only [List.getElem_toArray, List.getElem_cons_zero, List.getElem_cons_succ, Act.put, List.setIfInBounds_toArray, List.set_cons_zero, List.set_cons_succ]
                            refine wpAnyH_take (i := 31) (v := ?vqf3_32_31) rfl (by kernel_rfl) (by kernel_rfl) (by kernel_rfl) (fun _ _ _ h => h) (Or.inl ⟨by rfl, ?yqf3_32_31⟩) hHeld ?rqf3_32_31
                            case yqf3_32_31 => (intro wq hSw; clear hSw; go_simp; try with_reducible rfl)
                            try simp only [List.getElem_toArray, List.getElem_cons_zero, List.getElem_cons_succ, Act.put, List.setIfInBounds_toArray, List.set_cons_zero, List.set_cons_succ]
                            refine wpAnyH_take (i := 32) (v := ?vqf3_33_32) rfl (by kernel_rfl) (by kernel_rfl) (by kernel_rfl) (fun _ _ _ h => h) (Or.inl ⟨by rfl, ?yqf3_33_32⟩) hHeld ?rqf3_33_32
                            case yqf3_33_32 => (intro wq hSw; clear hSw; go_simp; try with_reducible rfl)
                            try simp only [List.getElem_toArray, List.getElem_cons_zero, List.getElem_cons_succ, Act.put, List.setIfInBounds_toArray, List.set_cons_zero, List.set_cons_succ]
                            refine wpAnyH_take (i := 33) (v := ?vqf3_34_33) rfl (by kernel_rfl) (by kernel_rfl) (by kernel_rfl) (fun _ _ _ h => h) (Or.inl ⟨by rfl, ?yqf3_34_33⟩) hHeld ?rqf3_34_33
                            case yqf3_34_33 => (intro wq hSw; have hq := hSw; clear hSw; go_simp; try with_reducible rfl)
                            try simp only [List.getElem_toArray, List.getElem_cons_zero, List.getElem_cons_succ, Act.put, List.setIfInBounds_toArray, List.set_cons_zero, List.set_cons_succ]
                            refine wpAnyH_take (i := 34) (v := ?vqf3_35_34) rfl (by kernel_rfl) (by kernel_rfl) (by kernel_rfl) (fun _ _ _ h => h) (Or.inl ⟨by rfl, ?yqf3_35_34⟩) hHeld ?rqf3_35_34
                            case yqf3_35_34 => (intro wq hSw; clear hSw; go_simp; try with_reducible rfl)
                            try simp only [List.getElem_toArray, List.getElem_cons_zero, List.getElem_cons_succ, Act.put, List.setIfInBounds_toArray, List.set_cons_zero, List.set_cons_succ]
                            refine wpAnyH_take (i := 35) (v := ?vqf3_36_35) rfl (by kernel_rfl) (by kernel_rfl) (by kernel_rfl) (fun _ _ _ h => h) (Or.inl ⟨by rfl, ?yqf3_36_35⟩) hHeld ?rqf3_36_35
                            case yqf3_36_35 => (intro wq hSw; clear hSw; go_simp; try with_reducible rfl)
                            try simp only [List.getElem_toArray, List.getElem_cons_zero, List.getElem_cons_succ, Act.put, List.setIfInBounds_toArray, List.set_cons_zero, List.set_cons_succ]
                            refine wpAnyH_take (i := 36) (v := ?vqf3_37_36) rfl (by kernel_rfl) (by kernel_rfl) (by kernel_rfl) (fun _ _ _ h => h) (Or.inl ⟨by rfl, ?yqf3_37_36⟩) hHeld ?rqf3_37_36
                            case yqf3_37_36 => (intro wq hSw; clear hSw; go_simp; try with_reducible rfl)
                            try simp only [List.getElem_toArray, List.getElem_cons_zero, List.getElem_cons_succ, Act.put, List.setIfInBounds_toArray, List.set_cons_zero, List.set_cons_succ]
                            refine wpAnyH_take (i := 37) (v := ?vqf3_38_37) rfl (by kernel_rfl) (by kernel_rfl) (by kernel_rfl) (fun _ _ _ h => h) (Or.inl ⟨by rfl, ?yqf3_38_37⟩) hHeld ?rqf3_38_37
                            case yqf3_38_37 => (intro wq hSw; clear hSw; go_simp; try with_reducible rfl)
                            try simp only [List.getElem_toArray, List.getElem_cons_zero, List.getElem_cons_succ, Act.put, List.setIfInBounds_toArray, List.set_cons_zero, List.set_cons_succ]
                            refine wpAnyH_take (i := 38) (v := ?vqf3_39_38) rfl (by kernel_rfl) (by kernel_rfl) (by kernel_rfl) (fun _ _ _ h => h) (Or.inl ⟨by rfl, ?yqf3_39_38⟩) hHeld ?rqf3_39_38
                            case yqf3_39_38 => (intro wq hSw; have hq := hSw; clear hSw; go_simp; try with_reducible rfl)
                            try simp only [List.getElem_toArray, List.getElem_cons_zero, List.getElem_cons_succ, Act.put, List.setIfInBounds_toArray, List.set_cons_zero, List.set_cons_succ]
                            refine wpAnyH_take (i := 39) (v := ?vqf3_40_39) rfl (by kernel_rfl) (by kernel_rfl) (by kernel_rfl) (fun _ _ _ h => h) (Or.inl ⟨by rfl, ?yqf3_40_39⟩) hHeld ?rqf3_40_39
                            case yqf3_40_39 => (intro wq hSw; clear hSw; go_simp; try with_reducible rfl)
                            try simp only [List.getElem_toArray, List.getElem_cons_zero, List.getElem_cons_succ, Act.put, List.setIfInBounds_toArray, List.set_cons_zero, List.set_cons_succ]
                            refine wpAnyH_take (i := 40) (v := ?vqf3_41_40) rfl (by kernel_rfl) (by kernel_rfl) (by kernel_rfl) (fun _ _ _ h => h) (Or.inl ⟨by rfl, ?yqf3_41_40⟩) hHeld ?rqf3_41_40
                            case yqf3_41_40 => (intro wq hSw; clear hSw; go_simp; try with_reducible rfl)
                            try simp only [List.getElem_toArray, List.getElem_cons_zero, List.getElem_cons_succ, Act.put, List.setIfInBounds_toArray, List.set_cons_zero, List.set_cons_succ]
                            refine wpAnyH_take (i := 41) (v := ?vqf3_42_41) rfl (by kernel_rfl) (by kernel_rfl) (by kernel_rfl) (fun _ _ _ h => h) (Or.inl ⟨by rfl, ?yqf3_42_41⟩) hHeld ?rqf3_42_41
                            case yqf3_42_41 => (intro wq hSw; clear hSw; go_simp; try with_reducible rfl)
                            try simp only [List.getElem_toArray, List.getElem_cons_zero, List.getElem_cons_succ, Act.put, List.setIfInBounds_toArray, List.set_cons_zero, List.set_cons_succ]
                            refine wpAnyH_take (i := 42) (v := ?vqf3_43_42) rfl (by kernel_rfl) (by kernel_rfl) (by kernel_rfl) (fun _ _ _ h => h) (Or.inl ⟨by rfl, ?yqf3_43_42⟩) hHeld ?rqf3_43_42
                            case yqf3_43_42 => (intro wq hSw; clear hSw; go_simp; try with_reducible rfl)
                            try simp only [List.getElem_toArray, List.getElem_cons_zero, List.getElem_cons_succ, Act.put, List.setIfInBounds_toArray, List.set_cons_zero, List.set_cons_succ]
                            refine wpAnyH_take (i := 43) (v := ?vqf3_44_43) rfl (by kernel_rfl) (by kernel_rfl) (by kernel_rfl) (fun _ _ _ h => h) (Or.inl ⟨by rfl, ?yqf3_44_43⟩) hHeld ?rqf3_44_43
                            case yqf3_44_43 => (intro wq hSw; clear hSw; go_simp; try with_reducible rfl)
                            try simp only [List.getElem_toArray, List.getElem_cons_zero, List.getElem_cons_succ, Act.put, List.setIfInBounds_toArray, List.set_cons_zero, List.set_cons_succ]
                            refine wpAnyH_ready (rs := [44]) (by kernel_rfl) (by simp) ?_
                            refine AllReadyH.cons rfl (fun K hK => ?_) AllReadyH.nil
                            try simp only [List.getElem_toArray, List.getElem_cons_zero, List.getElem_cons_succ, Act.put, List.setIfInBounds_toArray, List.set_cons_zero, List.set_cons_succ]
                            rw [if_pos (by rfl)]
                            refine wp_buildSlice 25 9 10 _ rfl (tenV T e1 e2 e3 e4 e5) ib (.string ByteArray.empty) Tryd.underlying25 hib hz0 ?_ ?_ ?_ ?_
                            · rw [hz1]; decide
                            · rw [hz1]; decide
                            · simp only [hz1]; kernel_rfl
                            refine hK.out _ _ ((World.cell?_alloc_lt _ _ _ (World.block_lt_of_cell? _ _ hHeld)).trans hHeld) (fun hHeld => ?_)
                            clear hK K
                            try simp only [List.getElem_toArray, List.getElem_cons_zero, List.getElem_cons_succ, Act.put, List.setIfInBounds_toArray, List.set_cons_zero, List.set_cons_succ]
                            refine wpAnyH_take (i := 45) (v := ?vqf3_45_45) rfl (by kernel_rfl) (by kernel_rfl) (by kernel_rfl) (fun _ _ _ h => h) (Or.inl ⟨by rfl, ?yqf3_45_45⟩) hHeld ?rqf3_45_45
                            case yqf3_45_45 => (intro wq hSw; clear hSw; go_simp; try with_reducible rfl)
                            try simp only [List.getElem_toArray, List.getElem_cons_zero, List.getElem_cons_succ, Act.put, List.setIfInBounds_toArray, List.set_cons_zero, List.set_cons_succ]
                            refine wpAnyH_done (by kernel_rfl) ?_ _
                            go_wp2_with fail
                            go_ret
                            have hb := hbel.out
                            have hs0 := hb.size
                            refine ⟨W0.heap.size, rfl, fun k hk => ?_, hs0, by simp, (hb.trans ((drewN_below W0 q).mono hs0)).drew.alloc (by first | (simp; done) | (simp; omega)) _⟩
                            rw [cell_of_row _ _ k _ _ _ (heap_at _ _ W0.heap.size (by simp))]
                            exact hcells.out k hk
end Go.Proofs.YtnpklkenjaambaaDoor
