/- The masks of a square: the tables, and the thin package's functions that read them. -/
import Derived.Test.YtgebocnomapchaaDoorLaid
import Derived.Test.YtgebocnomapchaaDoorSb
namespace Go.Proofs.YtgebocnomapchaaDoor
open Go Go.RowKit
set_option maxHeartbeats 4000000
set_option linter.unusedSimpArgs false
set_option linter.unusedVariables false
set_option maxRecDepth 100000

/-- A table of numbers of 64 bits, and its places. -/
def tabZ (l : List Nat) : List Int := l.map Int.ofNat
def tabB (l : List Nat) (s : Nat) : BitVec 64 := BitVec.ofNat 64 (l.getD s 0)
theorem tab_get (l : List Nat) (hl : ∀ x ∈ l, x < 18446744073709551616) (i : Nat) (hi : i < l.length) : Value.int .u64 ((tabZ l).getD i 0) = bbv (tabB l i) := by
  have h := hl (l.getD i 0) (by simp [hi])
  have e : (tabZ l).getD i 0 = ((l.getD i 0 : Nat) : Int) := by simp [tabZ, hi]
  rw [e]
  exact bbv_lit _ h
theorem mk_square (s : Int) (w : World) (h0 : 0 ≤ s) (h1 : s ≤ 63) :
    Calls Tryd.prog 42 #[.int .i64 s] w fun e w' => e = .returned (.int .i8 s) ∧ w = w' := by
  go_enter Tryd.func42, Tryd.ntmps42
  go_wp2
  go_ret
  exact ⟨rfl, rfl⟩
theorem mk_small (n : Int) (w : World) (h0 : -128 ≤ n) (h1 : n ≤ 127) :
    Calls Tryd.prog 33 #[.int .i64 n] w fun e w' => e = .returned (.int .i8 n) ∧ w = w' := by
  go_enter Tryd.func33, Tryd.ntmps33
  go_wp2
  go_ret
  exact ⟨rfl, rfl⟩

def bbKingMovesL : List Nat := [4665729213955833856, 11592265440851656704, 5796132720425828352, 2898066360212914176, 1449033180106457088, 724516590053228544, 362258295026614272, 144959613005987840, 13853283560024178688, 16186183351374184448, 8093091675687092224, 4046545837843546112, 2023272918921773056, 1011636459460886528, 505818229730443264, 216739030602088448, 54114388906344448, 63227278716305408, 31613639358152704, 15806819679076352, 7903409839538176, 3951704919769088, 1975852459884544, 846636838289408, 211384331665408, 246981557485568, 123490778742784, 61745389371392, 30872694685696, 15436347342848, 7718173671424, 3307175149568, 825720045568, 964771708928, 482385854464, 241192927232, 120596463616, 60298231808, 30149115904, 12918652928, 3225468928, 3768639488, 1884319744, 942159872, 471079936, 235539968, 117769984, 50463488, 12599488, 14721248, 7360624, 3680312, 1840156, 920078, 460039, 197123, 49216, 57504, 28752, 14376, 7188, 3594, 1797, 770]
theorem bbKingMoves_lt : ∀ x ∈ bbKingMovesL, x < 18446744073709551616 := by decide
def bbKnightMovesL : List Nat := [9077567998918656, 4679521487814656, 38368557762871296, 19184278881435648, 9592139440717824, 4796069720358912, 2257297371824128, 1128098930098176, 2305878468463689728, 1152939783987658752, 9799982666336960512, 4899991333168480256, 2449995666584240128, 1224997833292120064, 576469569871282176, 288234782788157440, 4620693356194824192, 11533718717099671552, 5802888705324613632, 2901444352662306816, 1450722176331153408, 725361088165576704, 362539804446949376, 145241105196122112, 18049583422636032, 45053588738670592, 22667534005174272, 11333767002587136, 5666883501293568, 2833441750646784, 1416171111120896, 567348067172352, 70506185244672, 175990581010432, 88545054707712, 44272527353856, 22136263676928, 11068131838464, 5531918402816, 2216203387392, 275414786112, 687463207072, 345879119952, 172939559976, 86469779988, 43234889994, 21609056261, 8657044482, 1075839008, 2685403152, 1351090312, 675545156, 337772578, 168886289, 84410376, 33816580, 4202496, 10489856, 5277696, 2638848, 1319424, 659712, 329728, 132096]
theorem bbKnightMoves_lt : ∀ x ∈ bbKnightMovesL, x < 18446744073709551616 := by decide
def bbDiagonalsL : List Nat := [9241421688590303745, 4620710844295151872, 2310355422147575808, 1155177711073755136, 577588855528488960, 288794425616760832, 144396663052566528, 72057594037927936, 36099303471055874, 9241421688590303745, 4620710844295151872, 2310355422147575808, 1155177711073755136, 577588855528488960, 288794425616760832, 144396663052566528, 141012904183812, 36099303471055874, 9241421688590303745, 4620710844295151872, 2310355422147575808, 1155177711073755136, 577588855528488960, 288794425616760832, 550831656968, 141012904183812, 36099303471055874, 9241421688590303745, 4620710844295151872, 2310355422147575808, 1155177711073755136, 577588855528488960, 2151686160, 550831656968, 141012904183812, 36099303471055874, 9241421688590303745, 4620710844295151872, 2310355422147575808, 1155177711073755136, 8405024, 2151686160, 550831656968, 141012904183812, 36099303471055874, 9241421688590303745, 4620710844295151872, 2310355422147575808, 32832, 8405024, 2151686160, 550831656968, 141012904183812, 36099303471055874, 9241421688590303745, 4620710844295151872, 128, 32832, 8405024, 2151686160, 550831656968, 141012904183812, 36099303471055874, 9241421688590303745]
theorem bbDiagonals_lt : ∀ x ∈ bbDiagonalsL, x < 18446744073709551616 := by decide
def bbAntiDiagonalsL : List Nat := [9223372036854775808, 4647714815446351872, 2323998145211531264, 1161999622361579520, 580999813328273408, 290499906672525312, 145249953336295424, 72624976668147840, 4647714815446351872, 2323998145211531264, 1161999622361579520, 580999813328273408, 290499906672525312, 145249953336295424, 72624976668147840, 283691315109952, 2323998145211531264, 1161999622361579520, 580999813328273408, 290499906672525312, 145249953336295424, 72624976668147840, 283691315109952, 1108169199648, 1161999622361579520, 580999813328273408, 290499906672525312, 145249953336295424, 72624976668147840, 283691315109952, 1108169199648, 4328785936, 580999813328273408, 290499906672525312, 145249953336295424, 72624976668147840, 283691315109952, 1108169199648, 4328785936, 16909320, 290499906672525312, 145249953336295424, 72624976668147840, 283691315109952, 1108169199648, 4328785936, 16909320, 66052, 145249953336295424, 72624976668147840, 283691315109952, 1108169199648, 4328785936, 16909320, 66052, 258, 72624976668147840, 283691315109952, 1108169199648, 4328785936, 16909320, 66052, 258, 1]
theorem bbAntiDiagonals_lt : ∀ x ∈ bbAntiDiagonalsL, x < 18446744073709551616 := by decide
def bbFilesL : List Nat := [9259542123273814144, 4629771061636907072, 2314885530818453536, 1157442765409226768, 578721382704613384, 289360691352306692, 144680345676153346, 72340172838076673]
theorem bbFiles_lt : ∀ x ∈ bbFilesL, x < 18446744073709551616 := by decide
def bbRanksL : List Nat := [18374686479671623680, 71776119061217280, 280375465082880, 1095216660480, 4278190080, 16711680, 65280, 255]
theorem bbRanks_lt : ∀ x ∈ bbRanksL, x < 18446744073709551616 := by decide
theorem mksq_idle (p q : Addr) (w : World) :
    CallsD Tryd.prog 40 #[.pointer (some p), .pointer (some q)] .returning w fun e u' w' => e = .returned (.tuple #[]) ∧ u' = .returning ∧ w = w' := by
  refine callsD_of_wpS Tryd.func40 rfl fun c₀ cs hu => ?_
  apply wpS_seq
  apply wpS_region
  simp [wpOpsS, go_sem, recoverD, hu, Tryd.ntmps40, Exit.thenS]
  refine wpS_cond (t := false) (by simp [Act.eval, Array.replicate]) ?_
  simp only [Bool.false_eq_true, if_false]
  refine wpS_of_wp (wp_skip ?_)
  cases c₀
  simp_all [bodyPostS, results, Tryd.results40]
theorem mksq_door (s : Int) (w : World) (h0 : 0 ≤ s) (h1 : s ≤ 63) :
    Calls Tryd.prog 41 #[.int .i8 s] w fun e w' => e = .returned (bbv (sqBit s.toNat)) ∧ w = w' := by
  go_enter Tryd.func41, Tryd.ntmps41
  go_wp2_with fail
  refine (sq_bit _ _ h0 h1).mono ?_
  rintro e w1 ⟨rfl, rfl⟩
  go_wp2
  go_ret
  exact ⟨rfl, rfl⟩
theorem mksq_impl (s : Int) (w : World) (h0 : 0 ≤ s) (h1 : s ≤ 63) :
    Calls Tryd.prog 14 #[.int .i64 s] w fun e w' => e = .returned (.tuple #[bbv (sqBit s.toNat), .bool true]) ∧ Below w.heap.size w w' := by
  have hmf := makeFunc_run Tryd.prog
  go_enter_defers Tryd.func14, Tryd.ntmps14
  go_wp2_with fail
  refine (mk_square _ _ (by omega) (by omega)).mono ?_
  rintro e w1 ⟨rfl, rfl⟩
  go_wp2_with fail
  refine (mksq_door s _ h0 h1).mono ?_
  rintro e w1 ⟨rfl, rfl⟩
  go_wp2
  go_simp
  go_wp2
  refine leaves_cons (f := 40) (args := #[.pointer (some ⟨w.heap.size, 0, none⟩), .pointer (some ⟨w.heap.size + 1, 0, none⟩)]) (by simp) (by simp [go_sem]) ?_
  refine (mksq_idle _ _ _).mono ?_
  rintro e u' w'' ⟨rfl, rfl, rfl⟩
  simp [Leaves, settle, results, Tryd.results14, go_sem]
  exact ((Below.refl _ _).alloc (Nat.le_refl _) _).alloc (by simp) _

theorem mkki_idle (p q : Addr) (w : World) :
    CallsD Tryd.prog 43 #[.pointer (some p), .pointer (some q)] .returning w fun e u' w' => e = .returned (.tuple #[]) ∧ u' = .returning ∧ w = w' := by
  refine callsD_of_wpS Tryd.func43 rfl fun c₀ cs hu => ?_
  apply wpS_seq
  apply wpS_region
  simp [wpOpsS, go_sem, recoverD, hu, Tryd.ntmps43, Exit.thenS]
  refine wpS_cond (t := false) (by simp [Act.eval, Array.replicate]) ?_
  simp only [Bool.false_eq_true, if_false]
  refine wpS_of_wp (wp_skip ?_)
  cases c₀
  simp_all [bodyPostS, results, Tryd.results43]
theorem mkki_door (s : Int) (w : World) (h0 : 0 ≤ s) (h1 : s ≤ 63) (hg : IntTab w 3 .u64 (tabZ bbKingMovesL)) :
    Calls Tryd.prog 44 #[.int .i8 s] w fun e w' => e = .returned (bbv (tabB bbKingMovesL s.toNat)) ∧ w = w' := by
  obtain ⟨s, rfl⟩ := Int.eq_ofNat_of_zero_le h0
  have hc := hg.cell s (by show s < 64; omega)
  rw [tab_get _ bbKingMoves_lt s (by show s < 64; omega)] at hc
  clear hg
  go_enter Tryd.func44, Tryd.ntmps44
  go_wp2
  go_ret
  exact ⟨rfl, rfl⟩
theorem mkki_impl (s : Int) (w : World) (h0 : 0 ≤ s) (h1 : s ≤ 63) (hg : IntTab w 3 .u64 (tabZ bbKingMovesL)) :
    Calls Tryd.prog 15 #[.int .i64 s] w fun e w' => e = .returned (.tuple #[bbv (tabB bbKingMovesL s.toNat), .bool true]) ∧ Below w.heap.size w w' := by
  have hmf := makeFunc_run Tryd.prog
  go_enter_defers Tryd.func15, Tryd.ntmps15
  go_wp2_with fail
  refine (mk_square _ _ (by omega) (by omega)).mono ?_
  rintro e w1 ⟨rfl, rfl⟩
  go_wp2_with fail
  refine (mkki_door s _ h0 h1 (hg.below (((Below.refl _ _).alloc (Nat.le_refl _) _).alloc (by simp) _))).mono ?_
  rintro e w1 ⟨rfl, rfl⟩
  go_wp2
  go_simp
  go_wp2
  refine leaves_cons (f := 43) (args := #[.pointer (some ⟨w.heap.size, 0, none⟩), .pointer (some ⟨w.heap.size + 1, 0, none⟩)]) (by simp) (by simp [go_sem]) ?_
  refine (mkki_idle _ _ _).mono ?_
  rintro e u' w'' ⟨rfl, rfl, rfl⟩
  simp [Leaves, settle, results, Tryd.results15, go_sem]
  exact ((Below.refl _ _).alloc (Nat.le_refl _) _).alloc (by simp) _

theorem mkkn_idle (p q : Addr) (w : World) :
    CallsD Tryd.prog 45 #[.pointer (some p), .pointer (some q)] .returning w fun e u' w' => e = .returned (.tuple #[]) ∧ u' = .returning ∧ w = w' := by
  refine callsD_of_wpS Tryd.func45 rfl fun c₀ cs hu => ?_
  apply wpS_seq
  apply wpS_region
  simp [wpOpsS, go_sem, recoverD, hu, Tryd.ntmps45, Exit.thenS]
  refine wpS_cond (t := false) (by simp [Act.eval, Array.replicate]) ?_
  simp only [Bool.false_eq_true, if_false]
  refine wpS_of_wp (wp_skip ?_)
  cases c₀
  simp_all [bodyPostS, results, Tryd.results45]
theorem mkkn_door (s : Int) (w : World) (h0 : 0 ≤ s) (h1 : s ≤ 63) (hg : IntTab w 4 .u64 (tabZ bbKnightMovesL)) :
    Calls Tryd.prog 46 #[.int .i8 s] w fun e w' => e = .returned (bbv (tabB bbKnightMovesL s.toNat)) ∧ w = w' := by
  obtain ⟨s, rfl⟩ := Int.eq_ofNat_of_zero_le h0
  have hc := hg.cell s (by show s < 64; omega)
  rw [tab_get _ bbKnightMoves_lt s (by show s < 64; omega)] at hc
  clear hg
  go_enter Tryd.func46, Tryd.ntmps46
  go_wp2
  go_ret
  exact ⟨rfl, rfl⟩
theorem mkkn_impl (s : Int) (w : World) (h0 : 0 ≤ s) (h1 : s ≤ 63) (hg : IntTab w 4 .u64 (tabZ bbKnightMovesL)) :
    Calls Tryd.prog 16 #[.int .i64 s] w fun e w' => e = .returned (.tuple #[bbv (tabB bbKnightMovesL s.toNat), .bool true]) ∧ Below w.heap.size w w' := by
  have hmf := makeFunc_run Tryd.prog
  go_enter_defers Tryd.func16, Tryd.ntmps16
  go_wp2_with fail
  refine (mk_square _ _ (by omega) (by omega)).mono ?_
  rintro e w1 ⟨rfl, rfl⟩
  go_wp2_with fail
  refine (mkkn_door s _ h0 h1 (hg.below (((Below.refl _ _).alloc (Nat.le_refl _) _).alloc (by simp) _))).mono ?_
  rintro e w1 ⟨rfl, rfl⟩
  go_wp2
  go_simp
  go_wp2
  refine leaves_cons (f := 45) (args := #[.pointer (some ⟨w.heap.size, 0, none⟩), .pointer (some ⟨w.heap.size + 1, 0, none⟩)]) (by simp) (by simp [go_sem]) ?_
  refine (mkkn_idle _ _ _).mono ?_
  rintro e u' w'' ⟨rfl, rfl, rfl⟩
  simp [Leaves, settle, results, Tryd.results16, go_sem]
  exact ((Below.refl _ _).alloc (Nat.le_refl _) _).alloc (by simp) _

theorem mkdi_idle (p q : Addr) (w : World) :
    CallsD Tryd.prog 47 #[.pointer (some p), .pointer (some q)] .returning w fun e u' w' => e = .returned (.tuple #[]) ∧ u' = .returning ∧ w = w' := by
  refine callsD_of_wpS Tryd.func47 rfl fun c₀ cs hu => ?_
  apply wpS_seq
  apply wpS_region
  simp [wpOpsS, go_sem, recoverD, hu, Tryd.ntmps47, Exit.thenS]
  refine wpS_cond (t := false) (by simp [Act.eval, Array.replicate]) ?_
  simp only [Bool.false_eq_true, if_false]
  refine wpS_of_wp (wp_skip ?_)
  cases c₀
  simp_all [bodyPostS, results, Tryd.results47]
theorem mkdi_door (s : Int) (w : World) (h0 : 0 ≤ s) (h1 : s ≤ 63) (hg : IntTab w 5 .u64 (tabZ bbDiagonalsL)) :
    Calls Tryd.prog 48 #[.int .i8 s] w fun e w' => e = .returned (bbv (tabB bbDiagonalsL s.toNat)) ∧ w = w' := by
  obtain ⟨s, rfl⟩ := Int.eq_ofNat_of_zero_le h0
  have hc := hg.cell s (by show s < 64; omega)
  rw [tab_get _ bbDiagonals_lt s (by show s < 64; omega)] at hc
  clear hg
  go_enter Tryd.func48, Tryd.ntmps48
  go_wp2
  go_ret
  exact ⟨rfl, rfl⟩
theorem mkdi_impl (s : Int) (w : World) (h0 : 0 ≤ s) (h1 : s ≤ 63) (hg : IntTab w 5 .u64 (tabZ bbDiagonalsL)) :
    Calls Tryd.prog 17 #[.int .i64 s] w fun e w' => e = .returned (.tuple #[bbv (tabB bbDiagonalsL s.toNat), .bool true]) ∧ Below w.heap.size w w' := by
  have hmf := makeFunc_run Tryd.prog
  go_enter_defers Tryd.func17, Tryd.ntmps17
  go_wp2_with fail
  refine (mk_square _ _ (by omega) (by omega)).mono ?_
  rintro e w1 ⟨rfl, rfl⟩
  go_wp2_with fail
  refine (mkdi_door s _ h0 h1 (hg.below (((Below.refl _ _).alloc (Nat.le_refl _) _).alloc (by simp) _))).mono ?_
  rintro e w1 ⟨rfl, rfl⟩
  go_wp2
  go_simp
  go_wp2
  refine leaves_cons (f := 47) (args := #[.pointer (some ⟨w.heap.size, 0, none⟩), .pointer (some ⟨w.heap.size + 1, 0, none⟩)]) (by simp) (by simp [go_sem]) ?_
  refine (mkdi_idle _ _ _).mono ?_
  rintro e u' w'' ⟨rfl, rfl, rfl⟩
  simp [Leaves, settle, results, Tryd.results17, go_sem]
  exact ((Below.refl _ _).alloc (Nat.le_refl _) _).alloc (by simp) _

theorem mkan_idle (p q : Addr) (w : World) :
    CallsD Tryd.prog 49 #[.pointer (some p), .pointer (some q)] .returning w fun e u' w' => e = .returned (.tuple #[]) ∧ u' = .returning ∧ w = w' := by
  refine callsD_of_wpS Tryd.func49 rfl fun c₀ cs hu => ?_
  apply wpS_seq
  apply wpS_region
  simp [wpOpsS, go_sem, recoverD, hu, Tryd.ntmps49, Exit.thenS]
  refine wpS_cond (t := false) (by simp [Act.eval, Array.replicate]) ?_
  simp only [Bool.false_eq_true, if_false]
  refine wpS_of_wp (wp_skip ?_)
  cases c₀
  simp_all [bodyPostS, results, Tryd.results49]
theorem mkan_door (s : Int) (w : World) (h0 : 0 ≤ s) (h1 : s ≤ 63) (hg : IntTab w 6 .u64 (tabZ bbAntiDiagonalsL)) :
    Calls Tryd.prog 50 #[.int .i8 s] w fun e w' => e = .returned (bbv (tabB bbAntiDiagonalsL s.toNat)) ∧ w = w' := by
  obtain ⟨s, rfl⟩ := Int.eq_ofNat_of_zero_le h0
  have hc := hg.cell s (by show s < 64; omega)
  rw [tab_get _ bbAntiDiagonals_lt s (by show s < 64; omega)] at hc
  clear hg
  go_enter Tryd.func50, Tryd.ntmps50
  go_wp2
  go_ret
  exact ⟨rfl, rfl⟩
theorem mkan_impl (s : Int) (w : World) (h0 : 0 ≤ s) (h1 : s ≤ 63) (hg : IntTab w 6 .u64 (tabZ bbAntiDiagonalsL)) :
    Calls Tryd.prog 18 #[.int .i64 s] w fun e w' => e = .returned (.tuple #[bbv (tabB bbAntiDiagonalsL s.toNat), .bool true]) ∧ Below w.heap.size w w' := by
  have hmf := makeFunc_run Tryd.prog
  go_enter_defers Tryd.func18, Tryd.ntmps18
  go_wp2_with fail
  refine (mk_square _ _ (by omega) (by omega)).mono ?_
  rintro e w1 ⟨rfl, rfl⟩
  go_wp2_with fail
  refine (mkan_door s _ h0 h1 (hg.below (((Below.refl _ _).alloc (Nat.le_refl _) _).alloc (by simp) _))).mono ?_
  rintro e w1 ⟨rfl, rfl⟩
  go_wp2
  go_simp
  go_wp2
  refine leaves_cons (f := 49) (args := #[.pointer (some ⟨w.heap.size, 0, none⟩), .pointer (some ⟨w.heap.size + 1, 0, none⟩)]) (by simp) (by simp [go_sem]) ?_
  refine (mkan_idle _ _ _).mono ?_
  rintro e u' w'' ⟨rfl, rfl, rfl⟩
  simp [Leaves, settle, results, Tryd.results18, go_sem]
  exact ((Below.refl _ _).alloc (Nat.le_refl _) _).alloc (by simp) _

theorem mkfi_idle (p q : Addr) (w : World) :
    CallsD Tryd.prog 51 #[.pointer (some p), .pointer (some q)] .returning w fun e u' w' => e = .returned (.tuple #[]) ∧ u' = .returning ∧ w = w' := by
  refine callsD_of_wpS Tryd.func51 rfl fun c₀ cs hu => ?_
  apply wpS_seq
  apply wpS_region
  simp [wpOpsS, go_sem, recoverD, hu, Tryd.ntmps51, Exit.thenS]
  refine wpS_cond (t := false) (by simp [Act.eval, Array.replicate]) ?_
  simp only [Bool.false_eq_true, if_false]
  refine wpS_of_wp (wp_skip ?_)
  cases c₀
  simp_all [bodyPostS, results, Tryd.results51]
theorem mkfi_door (s : Int) (w : World) (h0 : 0 ≤ s) (h1 : s ≤ 7) (hg : IntTab w 7 .u64 (tabZ bbFilesL)) :
    Calls Tryd.prog 52 #[.int .i8 s] w fun e w' => e = .returned (bbv (tabB bbFilesL s.toNat)) ∧ w = w' := by
  obtain ⟨s, rfl⟩ := Int.eq_ofNat_of_zero_le h0
  have hc := hg.cell s (by show s < 8; omega)
  rw [tab_get _ bbFiles_lt s (by show s < 8; omega)] at hc
  clear hg
  go_enter Tryd.func52, Tryd.ntmps52
  go_wp2
  go_ret
  exact ⟨rfl, rfl⟩
theorem mkfi_impl (s : Int) (w : World) (h0 : 0 ≤ s) (h1 : s ≤ 7) (hg : IntTab w 7 .u64 (tabZ bbFilesL)) :
    Calls Tryd.prog 19 #[.int .i64 s] w fun e w' => e = .returned (.tuple #[bbv (tabB bbFilesL s.toNat), .bool true]) ∧ Below w.heap.size w w' := by
  have hmf := makeFunc_run Tryd.prog
  go_enter_defers Tryd.func19, Tryd.ntmps19
  go_wp2_with fail
  refine (mk_small _ _ (by omega) (by omega)).mono ?_
  rintro e w1 ⟨rfl, rfl⟩
  go_wp2_with fail
  refine (mkfi_door s _ h0 h1 (hg.below (((Below.refl _ _).alloc (Nat.le_refl _) _).alloc (by simp) _))).mono ?_
  rintro e w1 ⟨rfl, rfl⟩
  go_wp2
  go_simp
  go_wp2
  refine leaves_cons (f := 51) (args := #[.pointer (some ⟨w.heap.size, 0, none⟩), .pointer (some ⟨w.heap.size + 1, 0, none⟩)]) (by simp) (by simp [go_sem]) ?_
  refine (mkfi_idle _ _ _).mono ?_
  rintro e u' w'' ⟨rfl, rfl, rfl⟩
  simp [Leaves, settle, results, Tryd.results19, go_sem]
  exact ((Below.refl _ _).alloc (Nat.le_refl _) _).alloc (by simp) _

theorem mkra_idle (p q : Addr) (w : World) :
    CallsD Tryd.prog 53 #[.pointer (some p), .pointer (some q)] .returning w fun e u' w' => e = .returned (.tuple #[]) ∧ u' = .returning ∧ w = w' := by
  refine callsD_of_wpS Tryd.func53 rfl fun c₀ cs hu => ?_
  apply wpS_seq
  apply wpS_region
  simp [wpOpsS, go_sem, recoverD, hu, Tryd.ntmps53, Exit.thenS]
  refine wpS_cond (t := false) (by simp [Act.eval, Array.replicate]) ?_
  simp only [Bool.false_eq_true, if_false]
  refine wpS_of_wp (wp_skip ?_)
  cases c₀
  simp_all [bodyPostS, results, Tryd.results53]
theorem mkra_door (s : Int) (w : World) (h0 : 0 ≤ s) (h1 : s ≤ 7) (hg : IntTab w 8 .u64 (tabZ bbRanksL)) :
    Calls Tryd.prog 54 #[.int .i8 s] w fun e w' => e = .returned (bbv (tabB bbRanksL s.toNat)) ∧ w = w' := by
  obtain ⟨s, rfl⟩ := Int.eq_ofNat_of_zero_le h0
  have hc := hg.cell s (by show s < 8; omega)
  rw [tab_get _ bbRanks_lt s (by show s < 8; omega)] at hc
  clear hg
  go_enter Tryd.func54, Tryd.ntmps54
  go_wp2
  go_ret
  exact ⟨rfl, rfl⟩
theorem mkra_impl (s : Int) (w : World) (h0 : 0 ≤ s) (h1 : s ≤ 7) (hg : IntTab w 8 .u64 (tabZ bbRanksL)) :
    Calls Tryd.prog 20 #[.int .i64 s] w fun e w' => e = .returned (.tuple #[bbv (tabB bbRanksL s.toNat), .bool true]) ∧ Below w.heap.size w w' := by
  have hmf := makeFunc_run Tryd.prog
  go_enter_defers Tryd.func20, Tryd.ntmps20
  go_wp2_with fail
  refine (mk_small _ _ (by omega) (by omega)).mono ?_
  rintro e w1 ⟨rfl, rfl⟩
  go_wp2_with fail
  refine (mkra_door s _ h0 h1 (hg.below (((Below.refl _ _).alloc (Nat.le_refl _) _).alloc (by simp) _))).mono ?_
  rintro e w1 ⟨rfl, rfl⟩
  go_wp2
  go_simp
  go_wp2
  refine leaves_cons (f := 53) (args := #[.pointer (some ⟨w.heap.size, 0, none⟩), .pointer (some ⟨w.heap.size + 1, 0, none⟩)]) (by simp) (by simp [go_sem]) ?_
  refine (mkra_idle _ _ _).mono ?_
  rintro e u' w'' ⟨rfl, rfl, rfl⟩
  simp [Leaves, settle, results, Tryd.results20, go_sem]
  exact ((Below.refl _ _).alloc (Nat.le_refl _) _).alloc (by simp) _

end Go.Proofs.YtgebocnomapchaaDoor
