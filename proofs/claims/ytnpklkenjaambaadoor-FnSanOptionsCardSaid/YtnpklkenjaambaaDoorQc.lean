/- The parts of a move's text as the reference has them: sanRest. For every text of at most 200 bytes. (Printed by gen_qc.py.) -/
import Derived.Test.YtnpklkenjaambaaDoorQb
import Derived.Deep.DeepCutAuto
namespace Go.Proofs.YtnpklkenjaambaaDoor
open Go Go.RowKit
set_option maxHeartbeats 8000000
set_option linter.unusedSimpArgs false
set_option linter.unusedVariables false
set_option maxRecDepth 100000

/-- Texts as the cells of an array. -/
def strsR (l : List (List UInt8)) : Array Value := (l.map fun x => Value.string (bs x)).toArray
theorem strsR_size (l : List (List UInt8)) : (strsR l).size = l.length := by simp [strsR]
theorem strsR_at (l : List (List UInt8)) (k : Nat) (h : k < l.length) : (strsR l)[k]? = some (.string (bs (l.getD k []))) := by simp [strsR, h]
theorem strsR_set (l : List (List UInt8)) (k : Nat) (x : List UInt8) : (strsR l).setIfInBounds k (.string (bs x)) = strsR (l.set k x) := by simp [strsR, List.map_set]
theorem strsR_one (l : List (List UInt8)) : (strsR l).all (·.oneCell') = true := by simp [strsR, Value.oneCell']
def e6 : List (List UInt8) := [[], [], [], [], [], []]
def setS (k : Nat) : ByteArray := match k with | 0 => bs fileL | 1 => bs digL | _ => bs [120]
structure QcSt (w0 : World) (l : List (List UInt8)) (W : World) : Prop where
  len : l.length = 6
  r0 : W.heap[w0.heap.size]? = some (.cells (strsR e6) 42 (0, 0))
  r1 : W.heap[w0.heap.size + 1]? = some (.cells (strsR l) 42 (0, 0))
  sl : ∀ k, k < 3 → W.cell? ⟨w0.heap.size + 1 + 1, k, none⟩ = some (.string (setS k))
  bel : Below w0.heap.size w0 W
  sz : W.heap.size = w0.heap.size + 3
theorem QcSt.set {w0 : World} {l : List (List UInt8)} {W : World} (h : QcSt w0 l W) (k : Nat) (x : List UInt8) : QcSt w0 (l.set k x) (W.setCell ⟨w0.heap.size + 1, k, none⟩ (.string (bs x))) :=
  ⟨by simp [h.len], (heap_setCell_other _ _ _ _ (by simp)).trans h.r0, by rw [heap_setCell_same _ _ _ _ _ _ h.r1, strsR_set], fun j hj => (World.cell?_of_block (a := ⟨w0.heap.size + 1 + 1, j, none⟩) (heap_setCell_other _ _ _ _ (by simp))).trans (h.sl j hj), h.bel.setCell (p := ⟨w0.heap.size + 1, k, none⟩) (by simp) _, by simpa using h.sz⟩
theorem QcSt.drew {w0 : World} {l : List (List UInt8)} {W : World} (h : QcSt w0 l W) : QcSt w0 l W.drew := ⟨h.len, h.r0, h.r1, h.sl, h.bel.trans ⟨rfl, rfl, rfl, Nat.le_refl _, fun _ _ => rfl⟩, h.sz⟩
theorem qc_start (w : World) : QcSt w e6 (((w.alloc (.cells (strsR e6) 42)).alloc (.cells (strsR e6) 42)).alloc (.cells #[.string ⟨#[97, 98, 99, 100, 101, 102, 103, 104]⟩, .string ⟨#[48, 49, 50, 51, 52, 53, 54, 55, 56, 57]⟩, .string ⟨#[120]⟩] 9)) := by
  refine ⟨rfl, heap_keep (heap_alloc2_old w _ _), heap_keep (heap_alloc2_new w _ _), fun k hk => ?_, ((((Below.refl _ _).alloc (Nat.le_refl _) _).alloc (by simp) _).alloc (by simp; omega) _), by simp⟩
  rw [cell_of_row _ _ _ _ _ _ (heap_at _ _ (w.heap.size + 1 + 1) (by simp))]
  match k, hk with
  | 0, _ => rfl
  | 1, _ => rfl
  | 2, _ => rfl
/-- The parts: file and rank of departure, x, file and rank, the promotion. -/
def partsL (T : List UInt8) (a b c d : Nat) : List (List UInt8) :=
  [(T.drop a).take b, (T.drop (a + b)).take c, (T.drop (a + b + c)).take d, (T.drop (a + b + c + d)).take 1, (T.drop (a + b + c + d + 1)).take 1, (T.drop (a + b + c + d + 2)).take (prL T (a + b + c + d + 2))]
theorem oneB_yes {L T : List UInt8} {i : Nat} (h : atB L T i = true) : oneB L T i = (T.drop i).take 1 ∧ ((bs (oneB L T i)).toList.isEmpty = false) ∧ i < T.length := by
  have hl : i < T.length := by simp [atB] at h; exact h.1
  unfold oneB
  rw [if_pos h]
  refine ⟨?_, by rw [bs_list]; rfl, hl⟩
  rw [List.drop_eq_getElem_cons hl]
  exact (by simp [hl] : [T.getD i 0] = [T[i]])
theorem oneB_no {L T : List UInt8} {i : Nat} (h : atB L T i = false) : oneB L T i = [] ∧ ((bs (oneB L T i)).toList.isEmpty = true) := by
  unfold oneB
  rw [if_neg (by simp [h])]
  exact ⟨rfl, by rw [bs_list]; rfl⟩
/-- What the call gives. -/
def RestPost (T : List UInt8) (a b c d : Nat) (w : World) : Ending → World → Prop := fun e w' => Below w.heap.size w w' ∧
  ((okC T a b c d = true ∧ e = .returned (.tuple #[.agg (strsR (partsL T a b c d)), .int .i64 ((a + b + c + d + 2 + prL T (a + b + c + d + 2) : Nat) : Int)])) ∨
   (okC T a b c d = false ∧ ∃ l : List (List UInt8), l.length = 6 ∧ e = .returned (.tuple #[.agg (strsR l), .int .i64 0])))

def posK (a b c d : Nat) : Nat → Nat
  | 0 => a
  | 1 => a + b
  | 2 => a + b + c
  | _ => a + b + c + d
def lstK (T : List UInt8) (a b c d kk : Nat) : List (List UInt8) :=
  [if 0 < kk then (T.drop a).take b else [], if 1 < kk then (T.drop (a + b)).take c else [], if 2 < kk then (T.drop (a + b + c)).take d else [], [], [], []]
def okK (T : List UInt8) (a b c d kk : Nat) : Prop := (0 < kk → b = 0 ∨ atB fileL T a = true) ∧ (1 < kk → c = 0 ∨ atB digL T (a + b) = true) ∧ (2 < kk → d = 0 ∨ atB [120] T (a + b + c) = true)
theorem qc_rest (T : List UInt8) (a b c d : Nat) (hb : b ≤ 1) (hc : c ≤ 1) (hd : d ≤ 1) (hl : T.length ≤ 200) (ha : a ≤ 10) (w : World) :
    Calls Tryd.prog 19 #[.string (bs T), .int .i64 (a : Int), .int .i64 ((b + 2 * c + 4 * d : Nat) : Int)] w (RestPost T a b c d w) := by
  have hsz := bs_size T
  have hst := qlay (qc_start w)
  have hset := qlay (fun (l : List (List UInt8)) (W : World) (h : QcSt w l W) (k : Nat) (x : List UInt8) => h.set k x)
  have h1s := qlay (fun L i hi hL V => qb_one T L i hl hi hL V)
  go_enter Tryd.func19, Tryd.ntmps19
  go_wp2_with fail
  have st0 : QcSt w e6 _ := hst.out
  clear hst
  change Code.wp _ _ _ _ (((w.alloc (.cells (strsR e6) 42)).alloc (.cells (strsR e6) 42)).alloc (.cells #[.string ⟨#[97, 98, 99, 100, 101, 102, 103, 104]⟩, .string ⟨#[48, 49, 50, 51, 52, 53, 54, 55, 56, 57]⟩, .string ⟨#[120]⟩] 9))
  generalize (((w.alloc (.cells (strsR e6) 42)).alloc (.cells (strsR e6) 42)).alloc (.cells #[.string ⟨#[97, 98, 99, 100, 101, 102, 103, 104]⟩, .string ⟨#[48, 49, 50, 51, 52, 53, 54, 55, 56, 57]⟩, .string ⟨#[120]⟩] 9)) = W0 at *
  go_loopw [1, 10] (fun at' k wr => ∃ kk : Nat, kk ≤ 3 ∧ k = .int .i64 (kk : Int) ∧ at' = .int .i64 ((posK a b c d kk : Nat) : Int) ∧ QcSt w (lstK T a b c d kk) wr ∧ okK T a b c d kk) (fun _ k _ => (3 - intOf k).toNat)
  case atStart => exact ⟨0, by omega, rfl, rfl, st0, by simp [okK]⟩
  case round =>
    clear st0
    obtain ⟨kk, hkk, rfl, rfl, st, hok⟩ := hrel
    by_cases hlt : kk < 3
    · rcases (show kk = 0 ∨ kk = 1 ∨ kk = 2 by omega) with rfl | rfl | rfl
      · rcases (show b = 0 ∨ b = 1 by omega) with rfl | rfl
        · have stn : Shut (QcSt w (lstK T a 0 c d 1) wr) := st
          have hokn : Shut (okK T a 0 c d 1) := ⟨fun _ => Or.inl rfl, fun h => absurd h (by omega), fun h => absurd h (by omega)⟩
          clear st hok
          simp only [posK]
          rcases (show c = 0 ∨ c = 1 by omega) with rfl | rfl <;> rcases (show d = 0 ∨ d = 1 by omega) with rfl | rfl <;>
          (go_wp2_with fail
           go_roundw
           case rel => first | exact ⟨1, by omega, rfl, by first | (simp [posK]; done) | (simp [posK]; omega), stn.out, hokn.out⟩ | ((repeat apply Exists.intro); exact ⟨⟨1, by omega, rfl, by first | rfl | (simp [posK]; done) | (simp [posK]; omega), stn.out, hokn.out⟩, rfl⟩)
           case measure => simp [intOf])
        · have cS := (cell_of_row _ _ 0 _ _ _ st.r1).trans (show _ = some (.string ⟨#[]⟩) from by rw [strsR_at _ _ (by rw [st.len]; omega)]; rfl)
          have fS := frozen_of_row _ _ 0 _ _ st.r1
          have sS : _ = some (Value.string (bs fileL)) := st.sl 0 (by omega)
          have sts := qlay st
          have hoks := qlay hok
          have h1 := qlay (h1s.out fileL a (by omega) (by decide))
          clear st hok
          simp only [posK]
          cases hk : atB fileL T a with
          | false =>
            have hno := qlay (show okC T a 1 c d = false from by rw [okC, hk]; simp)
            obtain ⟨ho, hem⟩ := oneB_no hk
            rw [ho] at hem h1
            have st2 := qlay (hset.out _ _ sts.out 0 [])
            clear hk ho
            generalize hls : (lstK T a 1 c d 0).set 0 [] = ls at *
            clear hls
            rcases (show c = 0 ∨ c = 1 by omega) with rfl | rfl <;> rcases (show d = 0 ∨ d = 1 by omega) with rfl | rfl <;>
            (go_wp2_with (first
               | (go_at_call 37; refine (h1.out _).mono ?_; rintro e1 w1 ⟨rfl, rfl⟩)
               | ((with_reducible refine at_load_row st2.out.r1 Tryd.underlying42 rfl ?_ ?_ ?_); rw [strsR_size, st2.out.len]; kernel_rfl; rfl)
               | ((with_reducible refine at_store_row (strsR (ls)) st2.out.r0 ?_ ?_ ?_ ?_ ?_ ?_); rw [strsR_size, st2.out.len]; kernel_rfl; rw [strsR_size, strsR_size, st2.out.len]; rfl; exact strsR_one _; rfl; rfl))
             exact bodyPost_ret (results_cell_tmp rfl _ _ w.heap.size 42 (strsR ls) (0, 0) _ rfl (setRow_heap _ _ _ _ _ _ st2.out.r0) Tryd.underlying42 rfl (by rw [strsR_size, st2.out.len]; kernel_rfl) (.int .i64 0) rfl) rfl ⟨below_setRow' st2.out.bel (Nat.le_refl _) _, Or.inr ⟨hno.out, _, st2.out.len, rfl⟩⟩)
          | true =>
            obtain ⟨ho, hem, hlt2⟩ := oneB_yes hk
            rw [ho] at hem h1
            have st2 : Shut (QcSt w (lstK T a 1 c d 1) (wr.setCell ⟨w.heap.size + 1, 0, none⟩ (.string (bs ((T.drop a).take 1))))) := by have h0 := hset.out _ _ sts.out 0 ((T.drop a).take 1); exact h0
            have hokn : Shut (okK T a 1 c d 1) := ⟨fun _ => Or.inr hk, fun h => absurd h (by omega), fun h => absurd h (by omega)⟩
            have hqn : posK a 1 c d 1 = a + 1 := by simp [posK]
            have hqb : a ≤ 12 := by omega
            clear ho sts hlt2 hk hoks
            generalize hps : (T.drop a).take 1 = ps at *
            rcases (show c = 0 ∨ c = 1 by omega) with rfl | rfl <;> rcases (show d = 0 ∨ d = 1 by omega) with rfl | rfl <;>
            (go_wp2_with (go_at_call 37; refine (h1.out _).mono ?_; rintro e1 w1 ⟨rfl, rfl⟩)
             go_roundw
             case rel => first | exact ⟨1, by omega, rfl, by first | (rw [hqn]; rfl) | (simp [posK]; done) | (simp [posK]; omega), st2.out, hokn.out⟩ | ((repeat apply Exists.intro); exact ⟨⟨1, by omega, rfl, by first | (rw [hqn]; rfl) | (simp [posK]; done) | (simp [posK]; omega), st2.out, hokn.out⟩, rfl⟩)
             case measure => simp [intOf])
      · rcases (show c = 0 ∨ c = 1 by omega) with rfl | rfl
        · have stn : Shut (QcSt w (lstK T a b 0 d 2) wr) := st
          have hokn : Shut (okK T a b 0 d 2) := ⟨fun _ => hok.1 (by omega), fun h => Or.inl rfl, fun h => absurd h (by omega)⟩
          clear st hok
          simp only [posK]
          rcases (show b = 0 ∨ b = 1 by omega) with rfl | rfl <;> rcases (show d = 0 ∨ d = 1 by omega) with rfl | rfl <;>
          (go_wp2_with fail
           go_roundw
           case rel => first | exact ⟨2, by omega, rfl, by first | (simp [posK]; done) | (simp [posK]; omega), stn.out, hokn.out⟩ | ((repeat apply Exists.intro); exact ⟨⟨2, by omega, rfl, by first | rfl | (simp [posK]; done) | (simp [posK]; omega), stn.out, hokn.out⟩, rfl⟩)
           case measure => simp [intOf])
        · have cS := (cell_of_row _ _ 1 _ _ _ st.r1).trans (show _ = some (.string ⟨#[]⟩) from by rw [strsR_at _ _ (by rw [st.len]; omega)]; rfl)
          have fS := frozen_of_row _ _ 1 _ _ st.r1
          have sS : _ = some (Value.string (bs digL)) := st.sl 1 (by omega)
          have sts := qlay st
          have hoks := qlay hok
          obtain ⟨q, hq⟩ : ∃ q : Nat, a + b = q := ⟨_, rfl⟩
          have h1 := qlay (h1s.out digL q (by omega) (by decide))
          clear st hok
          simp only [posK]
          rw [hq]
          cases hk : atB digL T q with
          | false =>
            have hno := qlay (show okC T a b 1 d = false from by rw [okC, hq, hk]; simp)
            obtain ⟨ho, hem⟩ := oneB_no hk
            rw [ho] at hem h1
            have st2 := qlay (hset.out _ _ sts.out 1 [])
            clear hk ho hq
            generalize hls : (lstK T a b 1 d 1).set 1 [] = ls at *
            clear hls
            rcases (show b = 0 ∨ b = 1 by omega) with rfl | rfl <;> rcases (show d = 0 ∨ d = 1 by omega) with rfl | rfl <;>
            (go_wp2_with (first
               | (go_at_call 37; refine (h1.out _).mono ?_; rintro e1 w1 ⟨rfl, rfl⟩)
               | ((with_reducible refine at_load_row st2.out.r1 Tryd.underlying42 rfl ?_ ?_ ?_); rw [strsR_size, st2.out.len]; kernel_rfl; rfl)
               | ((with_reducible refine at_store_row (strsR (ls)) st2.out.r0 ?_ ?_ ?_ ?_ ?_ ?_); rw [strsR_size, st2.out.len]; kernel_rfl; rw [strsR_size, strsR_size, st2.out.len]; rfl; exact strsR_one _; rfl; rfl))
             exact bodyPost_ret (results_cell_tmp rfl _ _ w.heap.size 42 (strsR ls) (0, 0) _ rfl (setRow_heap _ _ _ _ _ _ st2.out.r0) Tryd.underlying42 rfl (by rw [strsR_size, st2.out.len]; kernel_rfl) (.int .i64 0) rfl) rfl ⟨below_setRow' st2.out.bel (Nat.le_refl _) _, Or.inr ⟨hno.out, _, st2.out.len, rfl⟩⟩)
          | true =>
            obtain ⟨ho, hem, hlt2⟩ := oneB_yes hk
            rw [ho] at hem h1
            have st2 : Shut (QcSt w (lstK T a b 1 d 2) (wr.setCell ⟨w.heap.size + 1, 1, none⟩ (.string (bs ((T.drop q).take 1))))) := by have h0 := hset.out _ _ sts.out 1 ((T.drop q).take 1); subst hq; exact h0
            have hokn : Shut (okK T a b 1 d 2) := ⟨fun _ => hoks.out.1 (by omega), fun h => Or.inr (by rw [hq]; exact hk), fun h => absurd h (by omega)⟩
            have hqn : posK a b 1 d 2 = q + 1 := by rw [← hq]; simp [posK]
            have hqb : q ≤ 12 := by omega
            clear ho sts hlt2 hk hoks hq
            generalize hps : (T.drop q).take 1 = ps at *
            rcases (show b = 0 ∨ b = 1 by omega) with rfl | rfl <;> rcases (show d = 0 ∨ d = 1 by omega) with rfl | rfl <;>
            (go_wp2_with (go_at_call 37; refine (h1.out _).mono ?_; rintro e1 w1 ⟨rfl, rfl⟩)
             go_roundw
             case rel => first | exact ⟨2, by omega, rfl, by first | (rw [hqn]; rfl) | (simp [posK]; done) | (simp [posK]; omega), st2.out, hokn.out⟩ | ((repeat apply Exists.intro); exact ⟨⟨2, by omega, rfl, by first | (rw [hqn]; rfl) | (simp [posK]; done) | (simp [posK]; omega), st2.out, hokn.out⟩, rfl⟩)
             case measure => simp [intOf])
      · rcases (show d = 0 ∨ d = 1 by omega) with rfl | rfl
        · have stn : Shut (QcSt w (lstK T a b c 0 3) wr) := st
          have hokn : Shut (okK T a b c 0 3) := ⟨fun _ => hok.1 (by omega), fun h => hok.2.1 (by omega), fun h => Or.inl rfl⟩
          clear st hok
          simp only [posK]
          rcases (show b = 0 ∨ b = 1 by omega) with rfl | rfl <;> rcases (show c = 0 ∨ c = 1 by omega) with rfl | rfl <;>
          (go_wp2_with fail
           go_roundw
           case rel => first | exact ⟨3, by omega, rfl, by first | (simp [posK]; done) | (simp [posK]; omega), stn.out, hokn.out⟩ | ((repeat apply Exists.intro); exact ⟨⟨3, by omega, rfl, by first | rfl | (simp [posK]; done) | (simp [posK]; omega), stn.out, hokn.out⟩, rfl⟩)
           case measure => simp [intOf])
        · have cS := (cell_of_row _ _ 2 _ _ _ st.r1).trans (show _ = some (.string ⟨#[]⟩) from by rw [strsR_at _ _ (by rw [st.len]; omega)]; rfl)
          have fS := frozen_of_row _ _ 2 _ _ st.r1
          have sS : _ = some (Value.string (bs [120])) := st.sl 2 (by omega)
          have sts := qlay st
          have hoks := qlay hok
          obtain ⟨q, hq⟩ : ∃ q : Nat, a + b + c = q := ⟨_, rfl⟩
          have h1 := qlay (h1s.out [120] q (by omega) (by decide))
          clear st hok
          simp only [posK]
          rw [hq]
          cases hk : atB [120] T q with
          | false =>
            have hno := qlay (show okC T a b c 1 = false from by rw [okC, hq, hk]; simp)
            obtain ⟨ho, hem⟩ := oneB_no hk
            rw [ho] at hem h1
            have st2 := qlay (hset.out _ _ sts.out 2 [])
            clear hk ho hq
            generalize hls : (lstK T a b c 1 2).set 2 [] = ls at *
            clear hls
            rcases (show b = 0 ∨ b = 1 by omega) with rfl | rfl <;> rcases (show c = 0 ∨ c = 1 by omega) with rfl | rfl <;>
            (go_wp2_with (first
               | (go_at_call 37; refine (h1.out _).mono ?_; rintro e1 w1 ⟨rfl, rfl⟩)
               | ((with_reducible refine at_load_row st2.out.r1 Tryd.underlying42 rfl ?_ ?_ ?_); rw [strsR_size, st2.out.len]; kernel_rfl; rfl)
               | ((with_reducible refine at_store_row (strsR (ls)) st2.out.r0 ?_ ?_ ?_ ?_ ?_ ?_); rw [strsR_size, st2.out.len]; kernel_rfl; rw [strsR_size, strsR_size, st2.out.len]; rfl; exact strsR_one _; rfl; rfl))
             exact bodyPost_ret (results_cell_tmp rfl _ _ w.heap.size 42 (strsR ls) (0, 0) _ rfl (setRow_heap _ _ _ _ _ _ st2.out.r0) Tryd.underlying42 rfl (by rw [strsR_size, st2.out.len]; kernel_rfl) (.int .i64 0) rfl) rfl ⟨below_setRow' st2.out.bel (Nat.le_refl _) _, Or.inr ⟨hno.out, _, st2.out.len, rfl⟩⟩)
          | true =>
            obtain ⟨ho, hem, hlt2⟩ := oneB_yes hk
            rw [ho] at hem h1
            have st2 : Shut (QcSt w (lstK T a b c 1 3) (wr.setCell ⟨w.heap.size + 1, 2, none⟩ (.string (bs ((T.drop q).take 1))))) := by have h0 := hset.out _ _ sts.out 2 ((T.drop q).take 1); subst hq; exact h0
            have hokn : Shut (okK T a b c 1 3) := ⟨fun _ => hoks.out.1 (by omega), fun h => hoks.out.2.1 (by omega), fun h => Or.inr (by rw [hq]; exact hk)⟩
            have hqn : posK a b c 1 3 = q + 1 := by rw [← hq]; simp [posK]
            have hqb : q ≤ 12 := by omega
            clear ho sts hlt2 hk hoks hq
            generalize hps : (T.drop q).take 1 = ps at *
            rcases (show b = 0 ∨ b = 1 by omega) with rfl | rfl <;> rcases (show c = 0 ∨ c = 1 by omega) with rfl | rfl <;>
            (go_wp2_with (go_at_call 37; refine (h1.out _).mono ?_; rintro e1 w1 ⟨rfl, rfl⟩)
             go_roundw
             case rel => first | exact ⟨3, by omega, rfl, by first | (rw [hqn]; rfl) | (simp [posK]; done) | (simp [posK]; omega), st2.out, hokn.out⟩ | ((repeat apply Exists.intro); exact ⟨⟨3, by omega, rfl, by first | (rw [hqn]; rfl) | (simp [posK]; done) | (simp [posK]; omega), st2.out, hokn.out⟩, rfl⟩)
             case measure => simp [intOf])
    · obtain rfl : kk = 3 := by omega
      obtain ⟨q, hq⟩ : ∃ q : Nat, a + b + c + d = q := ⟨_, rfl⟩
      have hl3 : Shut (lstK T a b c d 3 = [(T.drop a).take b, (T.drop (a + b)).take c, (T.drop (a + b + c)).take d, [], [], []]) := by show _ = _; simp [lstK]
      have hok3 : Shut (okC T a b c d = (atB fileL T q && atB digL T (q + 1))) := by
        show _ = _
        obtain ⟨o1, o2, o3⟩ := hok
        have e1 : (b == 0 || atB fileL T a) = true := by simpa using o1 (by omega)
        have e2 : (c == 0 || atB digL T (a + b)) = true := by simpa using o2 (by omega)
        have e3 : (d == 0 || atB [120] T (a + b + c)) = true := by simpa using o3 (by omega)
        rw [okC, e1, e2, e3, hq]
        simp
      rw [show posK a b c d 3 = q from hq]
      have hqs : q ≤ 13 := by omega
      have hwq : IntKind.i64.wrap ((q : Int) + 1) = (q : Int) + 1 := by rw [IntKind.wrap_i64]; omega
      generalize lstK T a b c d 3 = ls at *
      have hA := qlay (h1s.out fileL q (by omega) (by decide))
      have hD : Shut (∀ V, Calls Tryd.prog 37 #[.string (bs T), .int .i64 ((q : Int) + 1), .string (bs digL)] V fun e w' => e = .returned (.string (bs (oneB digL T (q + 1)))) ∧ V = w') := by
        intro V
        have h := h1s.out digL (q + 1) (by omega) (by decide) V
        rw [show ((q + 1 : Nat) : Int) = (q : Int) + 1 by omega] at h
        exact h
      have hf3 : Shut (∀ h : atB fileL T q = true, oneB fileL T q = (T.drop q).take 1) := fun h => (oneB_yes h).1
      have hf4 : Shut (∀ h : atB digL T (q + 1) = true, oneB digL T (q + 1) = (T.drop (q + 1)).take 1) := fun h => (oneB_yes h).1
      have hem3 : Shut ((bs (oneB fileL T q)).toList.isEmpty = !atB fileL T q) := by
        show _ = _
        cases h : atB fileL T q
        · exact (oneB_no h).2
        · exact (oneB_yes h).2.1
      have hem4 : Shut ((bs (oneB digL T (q + 1))).toList.isEmpty = !atB digL T (q + 1)) := by
        show _ = _
        cases h : atB digL T (q + 1)
        · exact (oneB_no h).2
        · exact (oneB_yes h).2.1
      have ls_len6 := st.len
      clear h1s hok
      generalize hx3 : oneB fileL T q = x3 at *
      generalize hx4 : oneB digL T (q + 1) = x4 at *
      clear hx3 hx4
      have std := qlay st.drew
      clear st
      go_upto_region 11 with fail
      have d0 : wr.drew.cell? ⟨w.heap.size + 1 + 1, 0, none⟩ = some (.string (bs fileL)) := std.out.sl 0 (by omega)
      have d1 : wr.drew.cell? ⟨w.heap.size + 1 + 1, 1, none⟩ = some (.string (bs digL)) := std.out.sl 1 (by omega)
      refine wp_region_held_drew (S := fun V : World => V.cell? ⟨w.heap.size + 1 + 1, 0, none⟩ = some (.string (bs fileL)) ∧ V.cell? ⟨w.heap.size + 1 + 1, 1, none⟩ = some (.string (bs digL))) (by kernel_rfl) ⟨d0, d1⟩ (fun hHeld => ?_)
      refine wpAnyH_take (i := 0) (v := ?vqc_1_0) rfl (by kernel_rfl) (by kernel_rfl) (by kernel_rfl) (fun _ _ _ h => h) (Or.inl ⟨by rfl, ?yqc_1_0⟩) hHeld ?rqc_1_0
      case yqc_1_0 => (intro wq hSw; clear hSw; go_simp; try with_reducible rfl)
      try simp only [List.getElem_toArray, List.getElem_cons_zero, List.getElem_cons_succ, Act.put, List.setIfInBounds_toArray, List.set_cons_zero, List.set_cons_succ]
      refine wpAnyH_take (i := 1) (v := ?vqc_2_1) rfl (by kernel_rfl) (by kernel_rfl) (by kernel_rfl) (fun _ _ _ h => h) (Or.inl ⟨by rfl, ?yqc_2_1⟩) hHeld ?rqc_2_1
      case yqc_2_1 => (intro wq hSw; clear hSw; go_simp; try with_reducible rfl)
      try simp only [List.getElem_toArray, List.getElem_cons_zero, List.getElem_cons_succ, Act.put, List.setIfInBounds_toArray, List.set_cons_zero, List.set_cons_succ]
      refine wpAnyH_take (i := 2) (v := ?vqc_3_2) rfl (by kernel_rfl) (by kernel_rfl) (by kernel_rfl) (fun _ _ _ h => h) (Or.inl ⟨by rfl, ?yqc_3_2⟩) hHeld ?rqc_3_2
      case yqc_3_2 => (intro wq hSw; clear hSw; go_simp; try with_reducible rfl)
      try simp only [List.getElem_toArray, List.getElem_cons_zero, List.getElem_cons_succ, Act.put, List.setIfInBounds_toArray, List.set_cons_zero, List.set_cons_succ]
      refine wpAnyH_take (i := 3) (v := ?vqc_4_3) rfl (by kernel_rfl) (by kernel_rfl) (by kernel_rfl) (fun _ _ _ h => h) (Or.inl ⟨by rfl, ?yqc_4_3⟩) hHeld ?rqc_4_3
      case yqc_4_3 => (intro wq hSw; clear hSw; go_simp; try with_reducible rfl)
      try simp only [List.getElem_toArray, List.getElem_cons_zero, List.getElem_cons_succ, Act.put, List.setIfInBounds_toArray, List.set_cons_zero, List.set_cons_succ]
      refine wpAnyH_take (i := 4) (v := ?vqc_5_4) rfl (by kernel_rfl) (by kernel_rfl) (by kernel_rfl) (fun _ _ _ h => h) (Or.inl ⟨by rfl, ?yqc_5_4⟩) hHeld ?rqc_5_4
      case yqc_5_4 => (intro wq hSw; have q1 := hSw.1; have q2 := hSw.2; clear hSw; go_simp; try with_reducible rfl)
      try simp only [List.getElem_toArray, List.getElem_cons_zero, List.getElem_cons_succ, Act.put, List.setIfInBounds_toArray, List.set_cons_zero, List.set_cons_succ]
      refine wpAnyH_take (i := 6) (v := ?vqc_6_6) rfl (by kernel_rfl) (by kernel_rfl) (by kernel_rfl) (fun _ _ _ h => h) (Or.inl ⟨by rfl, ?yqc_6_6⟩) hHeld ?rqc_6_6
      case yqc_6_6 => (intro wq hSw; clear hSw; go_simp; try with_reducible rfl)
      try simp only [List.getElem_toArray, List.getElem_cons_zero, List.getElem_cons_succ, Act.put, List.setIfInBounds_toArray, List.set_cons_zero, List.set_cons_succ]
      refine wpAnyH_take (i := 7) (v := ?vqc_7_7) rfl (by kernel_rfl) (by kernel_rfl) (by kernel_rfl) (fun _ _ _ h => h) (Or.inl ⟨by rfl, ?yqc_7_7⟩) hHeld ?rqc_7_7
      case yqc_7_7 => (intro wq hSw; clear hSw; go_simp; try with_reducible rfl)
      try simp only [List.getElem_toArray, List.getElem_cons_zero, List.getElem_cons_succ, Act.put, List.setIfInBounds_toArray, List.set_cons_zero, List.set_cons_succ]
      refine wpAnyH_take (i := 8) (v := ?vqc_8_8) rfl (by kernel_rfl) (by kernel_rfl) (by kernel_rfl) (fun _ _ _ h => h) (Or.inl ⟨by rfl, ?yqc_8_8⟩) hHeld ?rqc_8_8
      case yqc_8_8 => (intro wq hSw; clear hSw; go_simp; try with_reducible rfl)
      try simp only [List.getElem_toArray, List.getElem_cons_zero, List.getElem_cons_succ, Act.put, List.setIfInBounds_toArray, List.set_cons_zero, List.set_cons_succ]
      refine wpAnyH_take (i := 9) (v := ?vqc_9_9) rfl (by kernel_rfl) (by kernel_rfl) (by kernel_rfl) (fun _ _ _ h => h) (Or.inl ⟨by rfl, ?yqc_9_9⟩) hHeld ?rqc_9_9
      case yqc_9_9 => (intro wq hSw; clear hSw; go_simp; try with_reducible rfl)
      try simp only [List.getElem_toArray, List.getElem_cons_zero, List.getElem_cons_succ, Act.put, List.setIfInBounds_toArray, List.set_cons_zero, List.set_cons_succ]
      refine wpAnyH_take (i := 10) (v := ?vqc_10_10) rfl (by kernel_rfl) (by kernel_rfl) (by kernel_rfl) (fun _ _ _ h => h) (Or.inl ⟨by rfl, ?yqc_10_10⟩) hHeld ?rqc_10_10
      case yqc_10_10 => (intro wq hSw; clear hSw; go_simp; try with_reducible rfl)
      try simp only [List.getElem_toArray, List.getElem_cons_zero, List.getElem_cons_succ, Act.put, List.setIfInBounds_toArray, List.set_cons_zero, List.set_cons_succ]
      refine wpAnyH_take (i := 11) (v := ?vqc_11_11) rfl (by kernel_rfl) (by kernel_rfl) (by kernel_rfl) (fun _ _ _ h => h) (Or.inl ⟨by rfl, ?yqc_11_11⟩) hHeld ?rqc_11_11
      case yqc_11_11 => (intro wq hSw; have q1 := hSw.1; have q2 := hSw.2; clear hSw; go_simp; try with_reducible rfl)
      try simp only [List.getElem_toArray, List.getElem_cons_zero, List.getElem_cons_succ, Act.put, List.setIfInBounds_toArray, List.set_cons_zero, List.set_cons_succ]
      refine wpAnyH_ready (rs := [5]) (by kernel_rfl) (by simp) ?_
      refine AllReadyH.cons rfl (fun K hK => ?_) AllReadyH.nil
      try simp only [List.getElem_toArray, List.getElem_cons_zero, List.getElem_cons_succ, Act.put, List.setIfInBounds_toArray, List.set_cons_zero, List.set_cons_succ]
      try rw [if_pos (by rfl)]
      go_simp
      refine (hA.out _).mono ?_
      rintro e1 w1 ⟨rfl, rfl⟩
      go_wp2_with fail
      refine hK.out _ _ (⟨d0, d1⟩) (fun hHeld => ?_)
      clear hK K
      try simp only [List.getElem_toArray, List.getElem_cons_zero, List.getElem_cons_succ, Act.put, List.setIfInBounds_toArray, List.set_cons_zero, List.set_cons_succ]
      refine wpAnyH_take (i := 13) (v := ?vqc_12_13) rfl (by kernel_rfl) (by kernel_rfl) (by kernel_rfl) (fun _ _ _ h => h) (Or.inl ⟨by rfl, ?yqc_12_13⟩) hHeld ?rqc_12_13
      case yqc_12_13 => (intro wq hSw; clear hSw; go_simp; try with_reducible rfl)
      try simp only [List.getElem_toArray, List.getElem_cons_zero, List.getElem_cons_succ, Act.put, List.setIfInBounds_toArray, List.set_cons_zero, List.set_cons_succ]
      refine wpAnyH_ready (rs := [12]) (by kernel_rfl) (by simp) ?_
      refine AllReadyH.cons rfl (fun K hK => ?_) AllReadyH.nil
      try simp only [List.getElem_toArray, List.getElem_cons_zero, List.getElem_cons_succ, Act.put, List.setIfInBounds_toArray, List.set_cons_zero, List.set_cons_succ]
      try rw [if_pos (by rfl)]
      go_simp
      refine (hD.out _).mono ?_
      rintro e1 w1 ⟨rfl, rfl⟩
      go_wp2_with fail
      refine hK.out _ _ (⟨d0, d1⟩) (fun hHeld => ?_)
      clear hK K
      try simp only [List.getElem_toArray, List.getElem_cons_zero, List.getElem_cons_succ, Act.put, List.setIfInBounds_toArray, List.set_cons_zero, List.set_cons_succ]
      refine wpAnyH_ready (rs := [14]) (by kernel_rfl) (by simp) ?_
      refine AllReadyH.cons rfl (fun K hK => ?_) AllReadyH.nil
      try simp only [List.getElem_toArray, List.getElem_cons_zero, List.getElem_cons_succ, Act.put, List.setIfInBounds_toArray, List.set_cons_zero, List.set_cons_succ]
      rw [if_pos (by rfl)]
      refine wp_store_one 9 _ _ rfl (w.heap.size + 1) 3 (.string (bs x3)) (by rfl) (by rfl) rfl rfl 42 _ std.out.r1 (by rw [strsR_size, std.out.len]; omega) (by kernel_rfl) ?_
      have st3 := qlay (std.out.set 3 x3)
      have d0 := st3.out.sl 0 (by omega)
      have d1 := st3.out.sl 1 (by omega)
      generalize World.setCell _ _ _ = W3 at *
      clear hHeld
      refine hK.out _ _ ⟨d0, d1⟩ (fun hHeld => ?_)
      clear hK K
      try simp only [List.getElem_toArray, List.getElem_cons_zero, List.getElem_cons_succ, Act.put, List.setIfInBounds_toArray, List.set_cons_zero, List.set_cons_succ]
      refine wpAnyH_take (i := 15) (v := ?vqc_13_15) rfl (by kernel_rfl) (by kernel_rfl) (by kernel_rfl) (fun _ _ _ h => h) (Or.inl ⟨by rfl, ?yqc_13_15⟩) hHeld ?rqc_13_15
      case yqc_13_15 => (intro wq hSw; clear hSw; go_simp; try with_reducible rfl)
      try simp only [List.getElem_toArray, List.getElem_cons_zero, List.getElem_cons_succ, Act.put, List.setIfInBounds_toArray, List.set_cons_zero, List.set_cons_succ]
      refine wpAnyH_ready (rs := [16]) (by kernel_rfl) (by simp) ?_
      refine AllReadyH.cons rfl (fun K hK => ?_) AllReadyH.nil
      try simp only [List.getElem_toArray, List.getElem_cons_zero, List.getElem_cons_succ, Act.put, List.setIfInBounds_toArray, List.set_cons_zero, List.set_cons_succ]
      rw [if_pos (by rfl)]
      refine wp_store_one 9 _ _ rfl (w.heap.size + 1) 4 (.string (bs x4)) (by rfl) (by rfl) rfl rfl 42 _ st3.out.r1 (by rw [strsR_size, st3.out.len]; omega) (by kernel_rfl) ?_
      have st4 := qlay (st3.out.set 4 x4)
      have d0 := st4.out.sl 0 (by omega)
      have d1 := st4.out.sl 1 (by omega)
      generalize World.setCell _ _ _ = W4 at *
      clear hHeld
      refine hK.out _ _ ⟨d0, d1⟩ (fun hHeld => ?_)
      clear hK K
      try simp only [List.getElem_toArray, List.getElem_cons_zero, List.getElem_cons_succ, Act.put, List.setIfInBounds_toArray, List.set_cons_zero, List.set_cons_succ]
      refine wpAnyH_done (by kernel_rfl) ?_ _
      clear hHeld std st3 d0 d1 hA hD
      have c3 := (cell_of_row _ _ 3 _ _ _ st4.out.r1).trans (show _ = some (.string (bs x3)) from by rw [strsR_at _ _ (by rw [st4.out.len]; omega)]; simp [ls_len6])
      have c4 := (cell_of_row _ _ 4 _ _ _ st4.out.r1).trans (show _ = some (.string (bs x4)) from by rw [strsR_at _ _ (by rw [st4.out.len]; omega)]; simp [ls_len6])
      have hl4 : Shut ((ls.set 3 x3).set 4 x4 = [(T.drop a).take b, (T.drop (a + b)).take c, (T.drop (a + b + c)).take d, x3, x4, []]) := by show _ = _; rw [hl3.out]; rfl
      generalize (ls.set 3 x3).set 4 x4 = l4 at *
      have hem3 := hem3.out
      have hem4 := hem4.out
      cases hA3 : atB fileL T q with
      | false =>
        rw [hA3] at hem3
        have HK := qlay (show okC T a b c d = false from by rw [hok3.out, hA3]; rfl)
        clear hf3 hf4 hl3 hl4 hok3 hA3 hq
        simp only [Bool.not_false] at hem3
        go_wp2_with (first | ((with_reducible refine at_load_row st4.out.r1 Tryd.underlying42 rfl ?_ ?_ ?_); rw [strsR_size, st4.out.len]; kernel_rfl; rfl) | ((with_reducible refine at_store_row (strsR (l4)) st4.out.r0 ?_ ?_ ?_ ?_ ?_ ?_); rw [strsR_size, st4.out.len]; kernel_rfl; rw [strsR_size, strsR_size, st4.out.len]; rfl; exact strsR_one _; rfl; rfl))
        exact bodyPost_ret (results_cell_tmp rfl _ _ w.heap.size 42 (strsR (l4)) (0, 0) _ rfl (setRow_heap _ _ _ _ _ _ st4.out.r0) Tryd.underlying42 rfl (by rw [strsR_size, st4.out.len]; kernel_rfl) (.int .i64 0) rfl) rfl ⟨below_setRow' st4.out.bel (Nat.le_refl _) _, Or.inr ⟨HK.out, _, st4.out.len, rfl⟩⟩
      | true =>
        rw [hA3] at hem3
        simp only [Bool.not_true] at hem3
        cases hA4 : atB digL T (q + 1) with
        | false =>
          rw [hA4] at hem4
          have HK := qlay (show okC T a b c d = false from by rw [hok3.out, hA4]; simp)
          clear hf3 hf4 hl3 hl4 hok3 hA3 hA4 hq
          simp only [Bool.not_false] at hem4
          go_wp2_with (first | ((with_reducible refine at_load_row st4.out.r1 Tryd.underlying42 rfl ?_ ?_ ?_); rw [strsR_size, st4.out.len]; kernel_rfl; rfl) | ((with_reducible refine at_store_row (strsR (l4)) st4.out.r0 ?_ ?_ ?_ ?_ ?_ ?_); rw [strsR_size, st4.out.len]; kernel_rfl; rw [strsR_size, strsR_size, st4.out.len]; rfl; exact strsR_one _; rfl; rfl))
          exact bodyPost_ret (results_cell_tmp rfl _ _ w.heap.size 42 (strsR (l4)) (0, 0) _ rfl (setRow_heap _ _ _ _ _ _ st4.out.r0) Tryd.underlying42 rfl (by rw [strsR_size, st4.out.len]; kernel_rfl) (.int .i64 0) rfl) rfl ⟨below_setRow' st4.out.bel (Nat.le_refl _) _, Or.inr ⟨HK.out, _, st4.out.len, rfl⟩⟩
        | true =>
          rw [hA4] at hem4
          simp only [Bool.not_true] at hem4
          have HK := qlay (show okC T a b c d = true from by rw [hok3.out, hA3, hA4]; rfl)
          have e3 := hf3.out hA3
          have e4 := hf4.out hA4
          have hfin : Shut (∀ pr, partsL T a b c d = (if prL T (q + 2) = pr then l4.set 5 ((T.drop (q + 2)).take pr) else partsL T a b c d)) := by
            intro pr
            split
            · rename_i hpr
              rw [hl4.out, partsL, hq, hpr, e3, e4]
              rfl
            · rfl
          have hlq : q + 1 < T.length := by simp [atB] at hA4; exact hA4.1
          clear hf3 hf4 hl3 hok3 hA3 hA4 e3 e4
          have hget : Shut (∀ (k : Nat) (h : k < (bs T).size), (bs T)[k]'h = T.getD k 0) := bs_get T
          have hll : l4.length = 6 := st4.out.len
          have hset0 : Shut (l4.set 5 [] = l4) := by show _ = _; rw [hl4.out]; rfl
          have hnone : Shut (prL T (q + 2) = 0 → partsL T a b c d = l4) := fun h => by have := hfin.out 0; rw [if_pos h, List.take_zero, hset0.out] at this; exact this
          have hsome : Shut (prL T (q + 2) = 2 → partsL T a b c d = l4.set 5 ((T.drop (q + 2)).take 2)) := fun h => by have := hfin.out 2; rw [if_pos h] at this; exact this
          have hprl : Shut (prL T (q + 2) = if atB [61] T (q + 2) && atB proL T (q + 3) then 2 else 0) := by show _ = _; rfl
          clear hfin hl4 hset0
          have hqq : a + b + c + d + 2 = q + 2 := by rw [hq]
          have hPost : Shut (∀ (l : List (List UInt8)) (n : Nat) (W : World), partsL T a b c d = l → q + 2 + prL T (q + 2) = n → Below w.heap.size w W → RestPost T a b c d w (.returned (.tuple #[.agg (strsR l), .int .i64 (n : Int)])) W) := by
            intro l n W h1 h2 h3
            refine ⟨h3, Or.inl ⟨HK.out, ?_⟩⟩
            rw [h1, hqq, h2]
          clear HK hq hqq
          obtain ⟨e, he⟩ : ∃ e : Nat, q + 2 = e := ⟨_, rfl⟩
          rw [he] at hnone hsome hprl hPost
          rw [show q + 3 = e + 1 by omega] at hprl
          have heq2 : (q : Int) + 2 = (e : Int) := by omega
          go_upto_region 15 with fail
          try simp only [heq2]
          by_cases hl1 : e + 1 < T.length
          · have hx1 := hget.out e (by rw [hsz]; omega)
            have hx2 := hget.out (e + 1) (by rw [hsz]; omega)
            have hins := qlay (fun V => qb_in proL (T.getD (e + 1) 0) (by decide) V)
            have hex : (bs T).extract e (e + 2) = bs ((T.drop e).take 2) := by rw [bs_extract, List.drop_take]; congr 2; omega
            have hpr2 : Shut (prL T e = if T.getD e 0 = 61 ∧ proL.contains (T.getD (e + 1) 0) = true then 2 else 0) := by
              show _ = _
              rw [hprl.out]
              have h1 : e < T.length := by omega
              simp only [atB, h1, hl1, decide_true, Bool.true_and]
              simp
            generalize T.getD e 0 = x1 at *
            generalize T.getD (e + 1) 0 = x2 at *
            have hlz : (e : Int) + 1 < (T.length : Int) := by omega
            clear hprl hget
            by_cases h61 : x1 = 61
            · subst h61
              have h61t : (((61 : UInt8).toNat : Int) == 61) = true := rfl
              cases hc : proL.contains x2 with
              | true =>
                have hp2 : Shut (prL T e = 2) := by show _ = _; rw [hpr2.out, if_pos ⟨rfl, hc⟩]
                rw [hc] at hins
                have c5 := (cell_of_row _ _ 5 _ _ _ st4.out.r1).trans (strsR_at _ _ (by rw [hll]; omega))
                have f5 := frozen_of_row _ _ 5 _ _ st4.out.r1
                have st5 := qlay (st4.out.set 5 ((T.drop e).take 2))
                clear hpr2 hc
                generalize (T.drop e).take 2 = pw at *
                go_wp2_with (first
                  | (go_at_call 18; refine (hins.out _).mono ?_; rintro e1 w1 ⟨rfl, rfl⟩)
                  | ((with_reducible refine at_load_row st5.out.r1 Tryd.underlying42 rfl ?_ ?_ ?_); rw [strsR_size, st5.out.len]; kernel_rfl; rfl)
                  | ((with_reducible refine at_store_row (strsR (l4.set 5 pw)) st5.out.r0 ?_ ?_ ?_ ?_ ?_ ?_); rw [strsR_size, st5.out.len]; kernel_rfl; rw [strsR_size, strsR_size, st5.out.len]; rfl; exact strsR_one _; rfl; rfl))
                exact bodyPost_ret (results_cell_tmp rfl _ _ w.heap.size 42 (strsR (l4.set 5 pw)) (0, 0) _ rfl (setRow_heap _ _ _ _ _ _ st5.out.r0) Tryd.underlying42 rfl (by rw [strsR_size, st5.out.len]; kernel_rfl) (.int .i64 ((e + 2 : Nat) : Int)) rfl) rfl (hPost.out _ _ _ (hsome.out hp2.out) (by rw [hp2.out]) (below_setRow' st5.out.bel (Nat.le_refl _) _))
              | false =>
                have hp2 : Shut (prL T e = 0) := by show _ = _; rw [hpr2.out, if_neg (by rw [hc]; simp)]
                rw [hc] at hins
                clear hpr2 hc
                go_wp2_with (first
                  | (go_at_call 18; refine (hins.out _).mono ?_; rintro e1 w1 ⟨rfl, rfl⟩)
                  | ((with_reducible refine at_load_row st4.out.r1 Tryd.underlying42 rfl ?_ ?_ ?_); rw [strsR_size, st4.out.len]; kernel_rfl; rfl)
                  | ((with_reducible refine at_store_row (strsR l4) st4.out.r0 ?_ ?_ ?_ ?_ ?_ ?_); rw [strsR_size, st4.out.len]; kernel_rfl; rw [strsR_size, strsR_size, st4.out.len]; rfl; exact strsR_one _; rfl; rfl))
                exact bodyPost_ret (results_cell_tmp rfl _ _ w.heap.size 42 (strsR l4) (0, 0) _ rfl (setRow_heap _ _ _ _ _ _ st4.out.r0) Tryd.underlying42 rfl (by rw [strsR_size, st4.out.len]; kernel_rfl) (.int .i64 (e : Int)) rfl) rfl (hPost.out _ _ _ (hnone.out hp2.out) (by rw [hp2.out, Nat.add_zero]) (below_setRow' st4.out.bel (Nat.le_refl _) _))
            · have h61f : ((x1.toNat : Int) == 61) = false := by
                simp
                intro e9
                exact h61 (UInt8.toNat_inj.1 (by simp; omega))
              have hp2 : Shut (prL T e = 0) := by show _ = _; rw [hpr2.out, if_neg (fun h => h61 h.1)]
              clear hpr2 h61 hins
              go_wp2_with (first
                | ((with_reducible refine at_load_row st4.out.r1 Tryd.underlying42 rfl ?_ ?_ ?_); rw [strsR_size, st4.out.len]; kernel_rfl; rfl)
                | ((with_reducible refine at_store_row (strsR l4) st4.out.r0 ?_ ?_ ?_ ?_ ?_ ?_); rw [strsR_size, st4.out.len]; kernel_rfl; rw [strsR_size, strsR_size, st4.out.len]; rfl; exact strsR_one _; rfl; rfl))
              exact bodyPost_ret (results_cell_tmp rfl _ _ w.heap.size 42 (strsR l4) (0, 0) _ rfl (setRow_heap _ _ _ _ _ _ st4.out.r0) Tryd.underlying42 rfl (by rw [strsR_size, st4.out.len]; kernel_rfl) (.int .i64 (e : Int)) rfl) rfl (hPost.out _ _ _ (hnone.out hp2.out) (by rw [hp2.out, Nat.add_zero]) (below_setRow' st4.out.bel (Nat.le_refl _) _))
          · have hp2 : Shut (prL T e = 0) := by
              show _ = _
              rw [hprl.out]
              simp [atB, hl1]
            have hlz : ¬ (e : Int) + 1 < (T.length : Int) := by omega
            clear hprl hget
            go_wp2_with (first
              | ((with_reducible refine at_load_row st4.out.r1 Tryd.underlying42 rfl ?_ ?_ ?_); rw [strsR_size, st4.out.len]; kernel_rfl; rfl)
              | ((with_reducible refine at_store_row (strsR l4) st4.out.r0 ?_ ?_ ?_ ?_ ?_ ?_); rw [strsR_size, st4.out.len]; kernel_rfl; rw [strsR_size, strsR_size, st4.out.len]; rfl; exact strsR_one _; rfl; rfl))
            exact bodyPost_ret (results_cell_tmp rfl _ _ w.heap.size 42 (strsR l4) (0, 0) _ rfl (setRow_heap _ _ _ _ _ _ st4.out.r0) Tryd.underlying42 rfl (by rw [strsR_size, st4.out.len]; kernel_rfl) (.int .i64 (e : Int)) rfl) rfl (hPost.out _ _ _ (hnone.out hp2.out) (by rw [hp2.out, Nat.add_zero]) (below_setRow' st4.out.bel (Nat.le_refl _) _))
end Go.Proofs.YtnpklkenjaambaaDoor
