/- linearAttack: bits in reverse, and what is seen along one line. For all numbers.
Tables of numbers of 64 bits (printed by gen_mk.py).
Along one line: what is seen along a line's two ways. The plain law, for all numbers.
The engine's small words: what is seen along slants and lines, the piece of a kind and a colour, the other colour.
The engine's test: whether one of several squares is attacked.
The engine's isInCheck.
The engine's position made of its parts.
The one king: found from the front and from the back. The plain law.
The engine's test of an attack is the rules' own. The plain law: for every position of pieces from 0 to 12.
impl.position: the engine's position of a plain one. (Printed by gen_pz.py.) -/
import Derived.Test.YtnjdgooljnbebaaGreatDoorG0
import Derived.Deep.QuietTactic
import Derived.BigQuiet
import Derived.Test.YtnjdgooljnbebaaGreatDoorGa
import Derived.Test.YtnjdgooljnbebaaGreatDoorGb
import Derived.Test.YtnjdgooljnbebaaGreatDoorGc
import Derived.Test.YtnjdgooljnbebaaGreatDoorGh
namespace Go.Proofs.YtnjdgooljnbebaaGreatDoor
open Go Go.RowKit
open List renaming getElem_toArray → zA, getElem_cons_zero → zB, getElem_cons_succ → zC, setIfInBounds_toArray → zD, set_cons_zero → zE, set_cons_succ → zF
set_option maxHeartbeats 4000000
set_option linter.unusedSimpArgs false
set_option linter.unusedVariables false
set_option maxRecDepth 100000

def swapB (k : Nat) (m x : BitVec 64) : BitVec 64 := x >>> k &&& m ||| (x &&& m) <<< k
def swapOk (k : Nat) (m : BitVec 64) : Bool := (List.range 64).all fun i => if m.getLsbD i then (decide (i < k) || !m.getLsbD (i - k)) && decide (i + k < 64) else decide (k ≤ i) && m.getLsbD (i - k)
def sw (k : Nat) (m : BitVec 64) (i : Nat) : Nat := if m.getLsbD i then i + k else i - k
theorem swap_get (k : Nat) (m x : BitVec 64) (h : swapOk k m = true) (i : Nat) (hi : i < 64) : (swapB k m x).getLsbD i = x.getLsbD (sw k m i) := by
 have h := List.all_eq_true.1 h i (by simpa using hi)
 unfold swapB sw
 simp only [BitVec.getLsbD_or, BitVec.getLsbD_and, BitVec.getLsbD_ushiftRight, BitVec.getLsbD_shiftLeft]
 cases hm : m.getLsbD i with
 | true =>
  rw [hm] at h
  simp only [if_true, Bool.and_eq_true, Bool.or_eq_true, decide_eq_true_eq, Bool.not_eq_true'] at h
  rw [Nat.add_comm k i]
  rcases h.1 with h1 | h1
  ·simp [h1]
  ·simp [h1]
 | false =>
  rw [hm] at h
  simp only [Bool.false_eq_true, if_false, Bool.and_eq_true, decide_eq_true_eq] at h
  have h2 : ¬ i < k := by omega
  simp [h.2, h2, hi]
def m1 : BitVec 64 := BitVec.ofInt 64 6148914691236517205
def m2 : BitVec 64 := BitVec.ofInt 64 3689348814741910323
def m4 : BitVec 64 := BitVec.ofInt 64 1085102592571150095
def m8 : BitVec 64 := BitVec.ofInt 64 71777214294589695
def m16 : BitVec 64 := BitVec.ofInt 64 281470681808895
def m32 : BitVec 64 := BitVec.ofInt 64 4294967295
/-- The bytes in reverse, the bits in reverse. -/
def bytesRev (x : BitVec 64) : BitVec 64 := swapB 16 m16 (swapB 8 m8 x) >>> 32 ||| swapB 16 m16 (swapB 8 m8 x) <<< 32
def brev (x : BitVec 64) : BitVec 64 := bytesRev (swapB 4 m4 (swapB 2 m2 (swapB 1 m1 x)))
theorem swap_last (x : BitVec 64) (i : Nat) (hi : i < 64) : (x >>> 32 ||| x <<< 32).getLsbD i = x.getLsbD (sw 32 m32 i) := by
 have e : x >>> 32 ||| x <<< 32 = swapB 32 m32 x := by
  unfold swapB
  apply BitVec.eq_of_getLsbD_eq
  intro j hj
  have hm : m32.getLsbD j = decide (j < 32) := by
   have : ∀ j < 64, m32.getLsbD j = decide (j < 32) := by decide
   exact this j hj
  simp only [BitVec.getLsbD_or, BitVec.getLsbD_and, BitVec.getLsbD_ushiftRight, BitVec.getLsbD_shiftLeft, hm]
  by_cases h : j < 32
  ·simp [h]
  ·have h2 : m32.getLsbD (j - 32) = true := by
    have : ∀ j < 64, 32 ≤ j → m32.getLsbD (j - 32) = true := by decide
    exact this j hj (by omega)
   have h3 : x.getLsbD (32 + j) = false := BitVec.getLsbD_of_ge _ _ (by omega)
   simp [h, h2, h3]
 rw [e]
 exact swap_get 32 m32 x (by decide) i hi
theorem brev_get (x : BitVec 64) (i : Nat) (hi : i < 64) : (brev x).getLsbD i = x.getLsbD (63 - i) := by
 unfold brev bytesRev
 have a1 : ∀ i < 64, sw 32 m32 i < 64 := by decide
 have a2 : ∀ i < 64, sw 16 m16 i < 64 := by decide
 have a3 : ∀ i < 64, sw 8 m8 i < 64 := by decide
 have a4 : ∀ i < 64, sw 4 m4 i < 64 := by decide
 have a5 : ∀ i < 64, sw 2 m2 i < 64 := by decide
 have a6 : ∀ i < 64, sw 1 m1 (sw 2 m2 (sw 4 m4 (sw 8 m8 (sw 16 m16 (sw 32 m32 i))))) = 63 - i := by decide
 rw [swap_last _ i hi, swap_get 16 m16 _ (by decide) _ (a1 _ hi), swap_get 8 m8 _ (by decide) _ (a2 _ (a1 _ hi)), swap_get 4 m4 _ (by decide) _ (a3 _ (a2 _ (a1 _ hi))),
  swap_get 2 m2 _ (by decide) _ (a4 _ (a3 _ (a2 _ (a1 _ hi)))), swap_get 1 m1 _ (by decide) _ (a5 _ (a4 _ (a3 _ (a2 _ (a1 _ hi))))), a6 i hi]

theorem la_bytes (x : BitVec 64) (w : World) :
  Calls Tryz.prog 173 #[bbv x] w fun e w' => e = .returned (bbv (bytesRev x)) ∧ w = w' := by
 go_enter Tryz.func173, Tryz.ntmps173
 go_wp2
 go_ret
 exact ⟨rfl, rfl⟩
theorem la_rev64 (x : BitVec 64) (w : World) :
  Calls Tryz.prog 172 #[bbv x] w fun e w' => e = .returned (bbv (brev x)) ∧ w = w' := by
 go_enter Tryz.func172, Tryz.ntmps172
 go_wp2_with fail
 refine (la_bytes _ _).mono ?_
 rintro e w1 ⟨rfl, rfl⟩
 go_wp2
 go_ret
 exact ⟨rfl, rfl⟩
theorem la_rev (x : BitVec 64) (w : World) :
  Calls Tryz.prog 166 #[bbv x] w fun e w' => e = .returned (bbv (brev x)) ∧ w = w' := by
 go_enter Tryz.func166, Tryz.ntmps166
 go_wp2_with fail
 refine (la_rev64 _ _).mono ?_
 rintro e w1 ⟨rfl, rfl⟩
 go_wp2
 go_ret
 exact ⟨rfl, rfl⟩
/-- What is seen along one line. -/
def linB (o p m : BitVec 64) : BitVec 64 := ((o &&& m) - 2#64 * p ^^^ brev (brev (o &&& m) - 2#64 * brev p)) &&& m
theorem la_linear (o p m : BitVec 64) (w : World) :
  Calls Tryz.prog 157 #[bbv o, bbv p, bbv m] w fun e w' => e = .returned (bbv (linB o p m)) ∧ w = w' := by
 go_enter Tryz.func157, Tryz.ntmps157
 go_wp2_with (first | (go_at_call 166; refine (la_rev _ _).mono ?_; rintro e w1 ⟨rfl, rfl⟩))
 go_ret
 exact ⟨rfl, rfl⟩
end Go.Proofs.YtnjdgooljnbebaaGreatDoor
namespace Go.Proofs.YtnjdgooljnbebaaGreatDoor
open Go Go.RowKit
open List renaming getElem_toArray → zA, getElem_cons_zero → zB, getElem_cons_succ → zC, setIfInBounds_toArray → zD, set_cons_zero → zE, set_cons_succ → zF
set_option maxHeartbeats 4000000
set_option linter.unusedSimpArgs false
set_option linter.unusedVariables false
set_option maxRecDepth 100000

/-- A table of numbers of 64 bits, and its places. -/
def tabZ (l : List Nat) : List Int := l.map Int.ofNat
def tabB (l : List Nat) (s : Nat) : BitVec 64 := BitVec.ofNat 64 (l.getD s 0)
theorem tab_get (l : List Nat) (hl : ∀ x ∈ l, x < 18446744073709551616) (i : Nat) (hi : i < l.length) : Value.int .u64 ((tabZ l).getD i 0) = bbv (tabB l i) := by
 have h := hl (l.getD i 0) (by simp [hi])
 have e : (tabZ l).getD i 0 = ((l.getD i 0 : Nat) : Int) := by simp [tabZ, hi]
 rw [e]
 exact bbv_lit _ h
def bbKingMovesL : List Nat := [4665729213955833856, 11592265440851656704, 5796132720425828352, 2898066360212914176, 1449033180106457088, 724516590053228544, 362258295026614272, 144959613005987840, 13853283560024178688, 16186183351374184448, 8093091675687092224, 4046545837843546112, 2023272918921773056, 1011636459460886528, 505818229730443264, 216739030602088448, 54114388906344448, 63227278716305408, 31613639358152704, 15806819679076352, 7903409839538176, 3951704919769088, 1975852459884544, 846636838289408, 211384331665408, 246981557485568, 123490778742784, 61745389371392, 30872694685696, 15436347342848, 7718173671424, 3307175149568, 825720045568, 964771708928, 482385854464, 241192927232, 120596463616, 60298231808, 30149115904, 12918652928, 3225468928, 3768639488, 1884319744, 942159872, 471079936, 235539968, 117769984, 50463488, 12599488, 14721248, 7360624, 3680312, 1840156, 920078, 460039, 197123, 49216, 57504, 28752, 14376, 7188, 3594, 1797, 770]
theorem bbKingMoves_lt : ∀ x ∈ bbKingMovesL, x < 18446744073709551616 := by decide
def bbKnightMovesL : List Nat := [9077567998918656, 4679521487814656, 38368557762871296, 19184278881435648, 9592139440717824, 4796069720358912, 2257297371824128, 1128098930098176, 2305878468463689728, 1152939783987658752, 9799982666336960512, 4899991333168480256, 2449995666584240128, 1224997833292120064, 576469569871282176, 288234782788157440, 4620693356194824192, 11533718717099671552, 5802888705324613632, 2901444352662306816, 1450722176331153408, 725361088165576704, 362539804446949376, 145241105196122112, 18049583422636032, 45053588738670592, 22667534005174272, 11333767002587136, 5666883501293568, 2833441750646784, 1416171111120896, 567348067172352, 70506185244672, 175990581010432, 88545054707712, 44272527353856, 22136263676928, 11068131838464, 5531918402816, 2216203387392, 275414786112, 687463207072, 345879119952, 172939559976, 86469779988, 43234889994, 21609056261, 8657044482, 1075839008, 2685403152, 1351090312, 675545156, 337772578, 168886289, 84410376, 33816580, 4202496, 10489856, 5277696, 2638848, 1319424, 659712, 329728, 132096]
theorem bbKnightMoves_lt : ∀ x ∈ bbKnightMovesL, x < 18446744073709551616 := by decide
def bbDiagonalsL : List Nat := [9241421688590303745, 4620710844295151872, 2310355422147575808, 1155177711073755136, 577588855528488960, 288794425616760832, 144396663052566528, 72057594037927936, 36099303471055874, 9241421688590303745, 4620710844295151872, 2310355422147575808, 1155177711073755136, 577588855528488960, 288794425616760832, 144396663052566528, 141012904183812, 36099303471055874, 9241421688590303745, 4620710844295151872, 2310355422147575808, 1155177711073755136, 577588855528488960, 288794425616760832, 550831656968, 141012904183812, 36099303471055874, 9241421688590303745, 4620710844295151872, 2310355422147575808, 1155177711073755136, 577588855528488960, 2151686160, 550831656968, 141012904183812, 36099303471055874, 9241421688590303745, 4620710844295151872, 2310355422147575808, 1155177711073755136, 8405024, 2151686160, 550831656968, 141012904183812, 36099303471055874, 9241421688590303745, 4620710844295151872, 2310355422147575808, 32832, 8405024, 2151686160, 550831656968, 141012904183812, 36099303471055874, 9241421688590303745, 4620710844295151872, 128, 32832, 8405024, 2151686160, 550831656968, 141012904183812, 36099303471055874, 9241421688590303745]
theorem bbDiagonals_lt : ∀ x ∈ bbDiagonalsL, x < 18446744073709551616 := by decide
def bbAntiDiagonalsL : List Nat := [9223372036854775808, 4647714815446351872, 2323998145211531264, 1161999622361579520, 580999813328273408, 290499906672525312, 145249953336295424, 72624976668147840, 4647714815446351872, 2323998145211531264, 1161999622361579520, 580999813328273408, 290499906672525312, 145249953336295424, 72624976668147840, 283691315109952, 2323998145211531264, 1161999622361579520, 580999813328273408, 290499906672525312, 145249953336295424, 72624976668147840, 283691315109952, 1108169199648, 1161999622361579520, 580999813328273408, 290499906672525312, 145249953336295424, 72624976668147840, 283691315109952, 1108169199648, 4328785936, 580999813328273408, 290499906672525312, 145249953336295424, 72624976668147840, 283691315109952, 1108169199648, 4328785936, 16909320, 290499906672525312, 145249953336295424, 72624976668147840, 283691315109952, 1108169199648, 4328785936, 16909320, 66052, 145249953336295424, 72624976668147840, 283691315109952, 1108169199648, 4328785936, 16909320, 66052, 258, 72624976668147840, 283691315109952, 1108169199648, 4328785936, 16909320, 66052, 258, 1]
theorem bbAntiDiagonals_lt : ∀ x ∈ bbAntiDiagonalsL, x < 18446744073709551616 := by decide
def bbFilesL : List Nat := [9259542123273814144, 4629771061636907072, 2314885530818453536, 1157442765409226768, 578721382704613384, 289360691352306692, 144680345676153346, 72340172838076673]
theorem bbFiles_lt : ∀ x ∈ bbFilesL, x < 18446744073709551616 := by decide
def bbRanksL : List Nat := [18374686479671623680, 71776119061217280, 280375465082880, 1095216660480, 4278190080, 16711680, 65280, 255]
theorem bbRanks_lt : ∀ x ∈ bbRanksL, x < 18446744073709551616 := by decide
end Go.Proofs.YtnjdgooljnbebaaGreatDoor
namespace Go.Proofs.YtnjdgooljnbebaaGreatDoor
open Go Go.RowKit
open List renaming getElem_toArray → zA, getElem_cons_zero → zB, getElem_cons_succ → zC, setIfInBounds_toArray → zD, set_cons_zero → zE, set_cons_succ → zF
set_option maxHeartbeats 4000000
set_option linter.unusedSimpArgs false
set_option linter.unusedVariables false
set_option maxRecDepth 100000

/-- Subtracting one bit flips the bits from it on up to the first one that is set. -/
def clearFrom (x : BitVec 64) (k b : Nat) : Bool := (List.range 64).all fun c => !(decide (k ≤ c) && decide (c < b) && x.getLsbD c)
theorem clearFrom_iff (x : BitVec 64) (k b : Nat) : clearFrom x k b = true ↔ ∀ c, k ≤ c → c < b → x.getLsbD c = false := by
 unfold clearFrom
 rw [List.all_eq_true]
 constructor
 ·intro h c h1 h2
  by_cases hc : c < 64
  ·have := h c (by simpa using hc)
   simpa [h1, h2] using this
  ·exact BitVec.getLsbD_of_ge _ _ (by omega)
 ·intro h c _
  by_cases h1 : k ≤ c
  ·by_cases h2 : c < b
   ·simp [h c h1 h2]
   ·simp [h2]
  ·simp [h1]
theorem one_bit (k b : Nat) (hb : b < 64) : (1#64 <<< k).getLsbD b = decide (b = k) := by
 rw [BitVec.getLsbD_shiftLeft]
 by_cases h : b = k
 ·subst h; simp [hb]
 ·by_cases h2 : b < k
  ·simp [h, h2]
  ·have : (1#64).getLsbD (b - k) = false := by rw [BitVec.getLsbD_one]; simp; omega
   simp [h, this]
theorem sub_bit (x : BitVec 64) : ∀ n k : Nat, k + n = 64 → ∀ b, b < 64 → (x - (1#64 <<< k)).getLsbD b = (x.getLsbD b ^^ (decide (k ≤ b) && clearFrom x k b))
 | 0, k, h, b, hb => by
  have : k = 64 := by omega
  subst this
  have e : (1#64 <<< 64) = 0#64 := by decide
  have h2 : ¬ 64 ≤ b := by omega
  rw [e]; simp [h2]
 | n + 1, k, h, b, hb => by
  have ih := sub_bit x n (k + 1) (by omega)
  cases hk : x.getLsbD k with
  | true =>
   have e : x - (1#64 <<< k) = x &&& ~~~(1#64 <<< k) := by
    have h1 : (x &&& ~~~(1#64 <<< k)) + (1#64 <<< k) = x := by
     rw [BitVec.add_eq_or_of_and_eq_zero]
     ·apply BitVec.eq_of_getLsbD_eq
      intro i hi
      rw [BitVec.getLsbD_or, BitVec.getLsbD_and, BitVec.getLsbD_not, one_bit k i hi]
      by_cases hik : i = k
      ·subst hik; simp [hk]
      ·simp [hik, hi]
     ·apply BitVec.eq_of_getLsbD_eq
      intro i hi
      rw [BitVec.getLsbD_and, BitVec.getLsbD_and, BitVec.getLsbD_not, one_bit k i hi]
      simp
    rw [← h1]
    rw [BitVec.add_sub_cancel]
    rw [h1]
   rw [e, BitVec.getLsbD_and, BitVec.getLsbD_not, one_bit k b hb]
   by_cases hbk : b = k
   ·subst hbk
    have : clearFrom x b b = true := (clearFrom_iff _ _ _).2 (fun c h1 h2 => by omega)
    simp [hk, this, hb]
   ·by_cases hlt : b < k
    ·have h2 : ¬ k ≤ b := by omega
     simp [hbk, h2, hb]
    ·have : clearFrom x k b = false := by
      cases hc : clearFrom x k b with
      | false => rfl
      | true => have := (clearFrom_iff _ _ _).1 hc k (Nat.le_refl _) (by omega); rw [hk] at this; cases this
     simp [hbk, this, hb]
  | false =>
   have e1 : x - (1#64 <<< k) = (x - (1#64 <<< (k + 1))) + (1#64 <<< k) := by
    have h2 : (1#64 <<< (k + 1)) = (1#64 <<< k) + (1#64 <<< k) := by
     apply BitVec.eq_of_toNat_eq
     rw [BitVec.toNat_add, BitVec.toNat_shiftLeft, BitVec.toNat_shiftLeft]
     simp only [Nat.shiftLeft_eq, BitVec.toNat_ofNat]
     omega
    rw [h2]
    generalize (1#64 <<< k) = a
    apply BitVec.eq_of_toNat_eq
    rw [BitVec.toNat_add, BitVec.toNat_sub, BitVec.toNat_sub, BitVec.toNat_add]
    have := x.isLt
    have := a.isLt
    omega
   have hy : (x - (1#64 <<< (k + 1))).getLsbD k = false := by
    rw [ih k (by omega), hk]
    have : ¬ k + 1 ≤ k := by omega
    simp [this]
   have e2 : (x - (1#64 <<< (k + 1))) + (1#64 <<< k) = (x - (1#64 <<< (k + 1))) ||| (1#64 <<< k) := by
    apply BitVec.add_eq_or_of_and_eq_zero
    apply BitVec.eq_of_getLsbD_eq
    intro i hi
    rw [BitVec.getLsbD_and, one_bit k i hi]
    by_cases hik : i = k
    ·subst hik; simp [hy]
    ·simp [hik]
   rw [e1, e2, BitVec.getLsbD_or, one_bit k b hb]
   by_cases hbk : b = k
   ·subst hbk
    have : clearFrom x b b = true := (clearFrom_iff _ _ _).2 (fun c h1 h2 => by omega)
    simp [hk, this]
   ·rw [ih b hb]
    by_cases hlt : b < k
    ·have h2 : ¬ k ≤ b := by omega
     have h3 : ¬ k + 1 ≤ b := by omega
     simp [hbk, h2, h3]
    ·have h2 : k ≤ b := by omega
     have h3 : k + 1 ≤ b := by omega
     have : clearFrom x k b = clearFrom x (k + 1) b := by
      rw [Bool.eq_iff_iff, clearFrom_iff, clearFrom_iff]
      constructor
      ·intro h c h1 h2; exact h c (by omega) h2
      ·intro h c h1 h2
       by_cases hck : c = k
       ·subst hck; exact hk
       ·exact h c (by omega) h2
     simp [hbk, h2, h3, this]

theorem two_shift (k : Nat) (h : k ≤ 63) : 2#64 * (1#64 <<< k) = 1#64 <<< (k + 1) := by
 apply BitVec.eq_of_toNat_eq
 rw [BitVec.toNat_mul, BitVec.toNat_shiftLeft, BitVec.toNat_shiftLeft]
 simp only [Nat.shiftLeft_eq, BitVec.toNat_ofNat]
 omega
theorem brev_sq (s : Nat) (h : s < 64) : brev (sqBit s) = 1#64 <<< s := by
 apply BitVec.eq_of_getLsbD_eq
 intro i hi
 rw [brev_get _ i hi, one_bit s i hi]
 unfold sqBit
 rw [one_bit _ _ (by omega)]
 by_cases h1 : i = s
 ·subst h1; simp
 ·have : ¬ 63 - i = 63 - s := by omega
  simp [h1, this]
/-- A bit of what is seen along a line: b is its place, a that of the square. -/
theorem linB_bit (t m : BitVec 64) (s b : Nat) (hs : s < 64) (hb : b < 64) :
  (linB t (sqBit s) m).getLsbD b = (((decide (64 - s ≤ b) && clearFrom (t &&& m) (64 - s) b) ^^ (decide (s + 1 ≤ 63 - b) && clearFrom (brev (t &&& m)) (s + 1) (63 - b))) && m.getLsbD b) := by
 unfold linB
 rw [BitVec.getLsbD_and, BitVec.getLsbD_xor, brev_get _ _ hb, brev_sq s hs, two_shift s (by omega)]
 unfold sqBit
 rw [two_shift (63 - s) (by omega), show 63 - s + 1 = 64 - s by omega, sub_bit _ s (64 - s) (by omega) b hb, sub_bit _ (63 - s) (s + 1) (by omega) (63 - b) (by omega), brev_get _ (63 - b) (by omega), show 63 - (63 - b) = b by omega]
 congr 1
 generalize (decide (64 - s ≤ b) && clearFrom (t &&& m) (64 - s) b) = p
 generalize (decide (s + 1 ≤ 63 - b) && clearFrom (brev (t &&& m)) (s + 1) (63 - b)) = q
 cases (t &&& m).getLsbD b <;> cases p <;> cases q <;> rfl
/-- The squares of a list up to the first that is taken. -/
def cut (B : Int → Int) : List Int → List Int
 | [] => []
 | q :: l => if B q ≠ 0 then [q] else q :: cut B l
theorem cut_mem (B : Int → Int) (R : Int → Int → Prop) (irr : ∀ a, ¬ R a a) (asy : ∀ a b, R a b → ¬ R b a) : ∀ l : List Int, l.Pairwise R → ∀ j, (j ∈ cut B l ↔ j ∈ l ∧ ∀ q ∈ l, R q j → B q = 0)
 | [], _, j => by simp [cut]
 | q :: l, h, j => by
  obtain ⟨h1, h2⟩ := List.pairwise_cons.1 h
  have ih := cut_mem B R irr asy l h2 j
  unfold cut
  by_cases hq : B q = 0
  ·rw [if_neg (by simp [hq]), List.mem_cons, List.mem_cons, ih]
   constructor
   ·rintro (rfl | ⟨ha, hb⟩)
    ·exact ⟨Or.inl rfl, fun x hx hr => by
      rcases List.mem_cons.1 hx with rfl | hx
      ·exact hq
      ·exact absurd hr (asy _ _ (h1 x hx))⟩
    ·exact ⟨Or.inr ha, fun x hx hr => by
      rcases List.mem_cons.1 hx with rfl | hx
      ·exact hq
      ·exact hb x hx hr⟩
   ·rintro ⟨rfl | ha, hb⟩
    ·exact Or.inl rfl
    ·exact Or.inr ⟨ha, fun x hx hr => hb x (List.mem_cons_of_mem _ hx) hr⟩
  ·rw [if_pos hq, List.mem_singleton, List.mem_cons]
   constructor
   ·rintro rfl
    exact ⟨Or.inl rfl, fun x hx hr => by
     rcases List.mem_cons.1 hx with rfl | hx
     ·exact absurd hr (irr _)
     ·exact absurd hr (asy _ _ (h1 x hx))⟩
   ·rintro ⟨rfl | ha, hb⟩
    ·rfl
    ·exact absurd (hb q (List.mem_cons_self ..) (h1 j ha)) hq
theorem ray_cut (B : Int → Int) (f r df dr : Int) : ∀ n m, ray B true f r df dr n m = cut B (ray (fun _ => 0) true f r df dr n m)
 | _, 0 => by simp [ray, cut]
 | n, m + 1 => by
  have ih := ray_cut B f r df dr (n + 1) m
  unfold ray
  by_cases h : atSq (f + n * df) (r + n * dr) < 0
  ·rw [if_pos h, if_pos h]; rfl
  ·rw [if_neg h, if_neg h]
   by_cases hb : B (atSq (f + n * df) (r + n * dr)) = 0
   ·rw [if_neg (by simp [hb]), if_neg (by simp), cut, if_neg (by simp [hb]), ih]
   ·rw [if_pos (Or.inr hb), if_neg (by simp), cut, if_pos hb]
/-- The squares of a line above and below a square. -/
def upL (m : BitVec 64) (s : Nat) : List Nat := (List.range 64).filter fun j => decide (s < j) && m.getLsbD (63 - j)
def downL (m : BitVec 64) (s : Nat) : List Nat := ((List.range 64).filter fun j => decide (j < s) && m.getLsbD (63 - j)).reverse
def asInts (l : List Nat) : List Int := l.map Int.ofNat

theorem up_pair (m : BitVec 64) (s : Nat) : (asInts (upL m s)).Pairwise (· < ·) := by
 unfold asInts upL
 rw [List.pairwise_map]
 refine List.Pairwise.imp ?_ (List.Pairwise.filter _ List.pairwise_lt_range)
 intro a b h; show (a : Int) < b; omega
theorem down_pair (m : BitVec 64) (s : Nat) : (asInts (downL m s)).Pairwise (· > ·) := by
 unfold asInts downL
 rw [List.pairwise_map, List.pairwise_reverse]
 refine List.Pairwise.imp ?_ (List.Pairwise.filter _ List.pairwise_lt_range)
 intro a b h; show (b : Int) > a; omega
theorem up_mem (m : BitVec 64) (s : Nat) (j : Nat) : (j : Int) ∈ asInts (upL m s) ↔ s < j ∧ j < 64 ∧ m.getLsbD (63 - j) = true := by
 unfold asInts upL
 simp only [List.mem_map, List.mem_filter, List.mem_range, Bool.and_eq_true, decide_eq_true_eq]
 constructor
 ·rintro ⟨a, ⟨h1, h2, h3⟩, h4⟩
  have : a = j := Int.ofNat.inj h4
  subst this; exact ⟨h2, h1, h3⟩
 ·rintro ⟨h1, h2, h3⟩
  exact ⟨j, ⟨h2, h1, h3⟩, rfl⟩
theorem down_mem (m : BitVec 64) (s : Nat) (j : Nat) : (j : Int) ∈ asInts (downL m s) ↔ j < s ∧ j < 64 ∧ m.getLsbD (63 - j) = true := by
 unfold asInts downL
 simp only [List.mem_map, List.mem_reverse, List.mem_filter, List.mem_range, Bool.and_eq_true, decide_eq_true_eq]
 constructor
 ·rintro ⟨a, ⟨h1, h2, h3⟩, h4⟩
  have : a = j := Int.ofNat.inj h4
  subst this; exact ⟨h2, h1, h3⟩
 ·rintro ⟨h1, h2, h3⟩
  exact ⟨j, ⟨h2, h1, h3⟩, rfl⟩
theorem asInts_nat (l : List Nat) (q : Int) (h : q ∈ asInts l) : ∃ c : Nat, q = c := by
 unfold asInts at h
 obtain ⟨c, _, rfl⟩ := List.mem_map.1 h
 exact ⟨c, rfl⟩

/-- A bit of what is seen along a line: the square of the bit is seen on one of the two ways. -/
theorem linB_cut (t m : BitVec 64) (s : Nat) (hs : s < 64) (B : Int → Int) (hB : ∀ q : Nat, q < 64 → q ≠ s → (B q = 0 ↔ occ t q = false)) (j : Nat) (hj : j < 64) :
  (linB t (sqBit s) m).getLsbD (63 - j) = true ↔ (j : Int) ∈ cut B (asInts (upL m s)) ∨ (j : Int) ∈ cut B (asInts (downL m s)) := by
 rw [linB_bit t m s _ hs (by omega), cut_mem B (· < ·) (fun a => by omega) (fun a b => by omega) _ (up_pair m s), cut_mem B (· > ·) (fun a => by omega) (fun a b => by omega) _ (down_pair m s), up_mem, down_mem]
 rw [show 63 - (63 - j) = j by omega]
 have hup : clearFrom (brev (t &&& m)) (s + 1) j = true ↔ ∀ q ∈ asInts (upL m s), q < (j : Int) → B q = 0 := by
  rw [clearFrom_iff]
  constructor
  ·intro h q hq hqj
   obtain ⟨c, rfl⟩ := asInts_nat _ _ hq
   obtain ⟨h1, h2, h3⟩ := (up_mem m s c).1 hq
   rw [hB c h2 (by omega)]
   have := h c (by omega) (by omega)
   rw [brev_get _ c h2, BitVec.getLsbD_and, h3, Bool.and_true] at this
   exact this
  ·intro h c h1 h2
   rw [brev_get _ c (by omega), BitVec.getLsbD_and]
   cases hm : m.getLsbD (63 - c) with
   | false => simp
   | true =>
    have := h c ((up_mem m s c).2 ⟨by omega, by omega, hm⟩) (by omega)
    have := (hB c (by omega) (by omega)).1 this
    unfold occ at this
    simp [this]
 have hdn : clearFrom (t &&& m) (64 - s) (63 - j) = true ↔ ∀ q ∈ asInts (downL m s), q > (j : Int) → B q = 0 := by
  rw [clearFrom_iff]
  constructor
  ·intro h q hq hqj
   obtain ⟨c, rfl⟩ := asInts_nat _ _ hq
   obtain ⟨h1, h2, h3⟩ := (down_mem m s c).1 hq
   rw [hB c h2 (by omega)]
   have := h (63 - c) (by omega) (by omega)
   rw [BitVec.getLsbD_and, h3, Bool.and_true] at this
   exact this
  ·intro h c h1 h2
   rw [BitVec.getLsbD_and]
   cases hm : m.getLsbD c with
   | false => simp
   | true =>
    have := h ((63 - c : Nat) : Int) ((down_mem m s (63 - c)).2 ⟨by omega, by omega, by rw [show 63 - (63 - c) = c by omega]; exact hm⟩) (by omega)
    have := (hB (63 - c) (by omega) (by omega)).1 this
    unfold occ at this
    rw [show 63 - (63 - c) = c by omega] at this
    simp [this]
 rw [← hup, ← hdn]
 cases m.getLsbD (63 - j) with
 | false => simp
 | true =>
  cases clearFrom (brev (t &&& m)) (s + 1) j <;> cases clearFrom (t &&& m) (64 - s) (63 - j) <;> simp <;> omega

theorem eq_of_squares (x y : BitVec 64) (h : ∀ j, j < 64 → (x.getLsbD (63 - j) = true ↔ y.getLsbD (63 - j) = true)) : x = y := by
 apply BitVec.eq_of_getLsbD_eq
 intro i hi
 have := h (63 - i) (by omega)
 rw [show 63 - (63 - i) = i by omega] at this
 exact Bool.eq_iff_iff.2 this

def pL (df dr : Int) (s : Nat) : List Int := ray (fun _ => 0) true ((s : Int) % 8) ((s : Int) / 8) df dr 1 7
set_option maxRecDepth 1000000 in
theorem dia_up : ∀ s < 64, pL 1 1 s = asInts (upL (tabB bbDiagonalsL s) s) := by decide +kernel
set_option maxRecDepth 1000000 in
theorem dia_down : ∀ s < 64, pL (-1) (-1) s = asInts (downL (tabB bbDiagonalsL s) s) := by decide +kernel
theorem ant_up : ∀ s < 64, pL (-1) 1 s = asInts (upL (tabB bbAntiDiagonalsL s) s) := by decide +kernel
theorem ant_down : ∀ s < 64, pL 1 (-1) s = asInts (downL (tabB bbAntiDiagonalsL s) s) := by decide +kernel
theorem fil_up : ∀ s < 64, pL 0 1 s = asInts (upL (tabB bbFilesL (s % 8)) s) := by decide +kernel
theorem fil_down : ∀ s < 64, pL 0 (-1) s = asInts (downL (tabB bbFilesL (s % 8)) s) := by decide +kernel
theorem ran_up : ∀ s < 64, pL 1 0 s = asInts (upL (tabB bbRanksL (s / 8)) s) := by decide +kernel
theorem ran_down : ∀ s < 64, pL (-1) 0 s = asInts (downL (tabB bbRanksL (s / 8)) s) := by decide +kernel

end Go.Proofs.YtnjdgooljnbebaaGreatDoor
namespace Go.Proofs.YtnjdgooljnbebaaGreatDoor
open Go Go.RowKit
open List renaming getElem_toArray → zA, getElem_cons_zero → zB, getElem_cons_succ → zC, setIfInBounds_toArray → zD, set_cons_zero → zE, set_cons_succ → zF
set_option maxHeartbeats 4000000
set_option linter.unusedSimpArgs false
set_option linter.unusedVariables false
set_option maxRecDepth 100000

/-- The engine's tables. -/
structure Tabs (w : World) : Prop where
 ki : IntTab w 3 .u64 (tabZ bbKingMovesL)
 kn : IntTab w 2 .u64 (tabZ bbKnightMovesL)
 di : IntTab w 4 .u64 (tabZ bbDiagonalsL)
 an : IntTab w 5 .u64 (tabZ bbAntiDiagonalsL)
 fi : IntTab w 7 .u64 (tabZ bbFilesL)
 ra : IntTab w 6 .u64 (tabZ bbRanksL)
theorem Tabs.below {w w' : World} {B : Nat} (h : Tabs w) (hb : Below B w w') (hB : w.heap.size ≤ B) : Tabs w' :=
 have hb' := hb.mono hB
 ⟨h.ki.below hb', h.kn.below hb', h.di.below hb', h.an.below hb', h.fi.below hb', h.ra.below hb'⟩
theorem da_file (s : Int) (w : World) (h0 : 0 ≤ s) (h1 : s ≤ 63) :
  Calls Tryz.prog 158 #[.int .i8 s] w fun e w' => e = .returned (.int .i8 (s % 8)) ∧ w = w' := by
 go_enter Tryz.func158, Tryz.ntmps158
 go_wp2
 go_ret
 exact ⟨rfl, rfl⟩
theorem da_rank (s : Int) (w : World) (h0 : 0 ≤ s) (h1 : s ≤ 63) :
  Calls Tryz.prog 124 #[.int .i8 s] w fun e w' => e = .returned (.int .i8 (s / 8)) ∧ w = w' := by
 have ht : s.tdiv 8 = s / 8 := Int.tdiv_eq_ediv_of_nonneg h0
 have hd0 : 0 ≤ s / 8 := by omega
 have hd1 : s / 8 ≤ 7 := by omega
 go_enter Tryz.func124, Tryz.ntmps124
 go_wp2
 go_ret
 exact ⟨rfl, rfl⟩
/-- What a bishop, a rook sees of the taken squares t. -/
def diaB (t : BitVec 64) (s : Nat) : BitVec 64 := linB t (sqBit s) (tabB bbDiagonalsL s) ||| linB t (sqBit s) (tabB bbAntiDiagonalsL s)
def hvB (t : BitVec 64) (s : Nat) : BitVec 64 := linB t (sqBit s) (tabB bbRanksL (s / 8)) ||| linB t (sqBit s) (tabB bbFilesL (s % 8))
theorem da_dia (t : BitVec 64) (s : Nat) (w : World) (h : s < 64) (hT : Tabs w) :
  Calls Tryz.prog 142 #[bbv t, .int .i8 (s : Int)] w fun e w' => e = .returned (bbv (diaB t s)) ∧ w = w' := by
 have c1 := hT.di.cell s h
 have c2 := hT.an.cell s h
 rw [tab_get _ bbDiagonals_lt s h] at c1
 rw [tab_get _ bbAntiDiagonals_lt s h] at c2
 clear hT
 go_enter Tryz.func142, Tryz.ntmps142
 go_wp2_with (first
  | (go_at_call 107; refine (sq_bit _ _ (by omega) (by omega)).mono ?_; rintro e1 w1 ⟨rfl, rfl⟩)
  | (go_at_call 157; refine (la_linear _ _ _ _).mono ?_; rintro e1 w1 ⟨rfl, rfl⟩))
 go_ret
 exact ⟨rfl, rfl⟩
theorem da_hv (t : BitVec 64) (s : Nat) (w : World) (h : s < 64) (hT : Tabs w) :
  Calls Tryz.prog 143 #[bbv t, .int .i8 (s : Int)] w fun e w' => e = .returned (bbv (hvB t s)) ∧ w = w' := by
 have c1 := hT.fi.cell (s % 8) (show s % 8 < 8 by omega)
 have c2 := hT.ra.cell (s / 8) (show s / 8 < 8 by omega)
 rw [tab_get _ bbFiles_lt _ (show s % 8 < 8 by omega)] at c1
 rw [tab_get _ bbRanks_lt _ (show s / 8 < 8 by omega)] at c2
 clear hT
 have e1 : ((s : Int) % 8).toNat = s % 8 := by omega
 have e2 : ((s : Int) / 8).toNat = s / 8 := by omega
 have q1 : 0 ≤ (s : Int) % 8 := by omega
 have q2 : (s : Int) % 8 < 8 := by omega
 have q3 : 0 ≤ (s : Int) / 8 := by omega
 have q4 : (s : Int) / 8 < 8 := by omega
 go_enter Tryz.func143, Tryz.ntmps143
 go_wp2_with (first
  | (go_at_call 107; refine (sq_bit _ _ (by omega) (by omega)).mono ?_; rintro e1 w1 ⟨rfl, rfl⟩)
  | (go_at_call 158; refine (da_file _ _ (by omega) (by omega)).mono ?_; rintro e1 w1 ⟨rfl, rfl⟩)
  | (go_at_call 124; refine (da_rank _ _ (by omega) (by omega)).mono ?_; rintro e1 w1 ⟨rfl, rfl⟩)
  | (go_at_call 157; refine (la_linear _ _ _ _).mono ?_; rintro e1 w1 ⟨rfl, rfl⟩))
 go_ret
 exact ⟨rfl, rfl⟩
theorem da_color (k : Nat) (h : k < 12) (w : World) :
  Calls Tryz.prog 110 #[.int .i8 ((k : Int) + 1)] w fun e w' => e = .returned (.int .i8 ((k : Int) / 6 + 1)) ∧ w = w' := by
 go_enter Tryz.func110, Tryz.ntmps110
 rcases twelve h with rfl | rfl | rfl | rfl | rfl | rfl | rfl | rfl | rfl | rfl | rfl | rfl
 all_goals (
  go_wp2
  go_ret
  exact ⟨rfl, rfl⟩)
theorem da_type (k : Nat) (h : k < 12) (w : World) :
  Calls Tryz.prog 84 #[.int .i8 ((k : Int) + 1)] w fun e w' => e = .returned (.int .i8 ((k : Int) % 6 + 1)) ∧ w = w' := by
 go_enter Tryz.func84, Tryz.ntmps84
 rcases twelve h with rfl | rfl | rfl | rfl | rfl | rfl | rfl | rfl | rfl | rfl | rfl | rfl
 all_goals (
  go_wp2
  go_ret
  exact ⟨rfl, rfl⟩)
theorem da_other (c : Int) (w : World) (h0 : 0 ≤ c) (h1 : c ≤ 1) :
  Calls Tryz.prog 81 #[.int .i8 (c + 1)] w fun e w' => e = .returned (.int .i8 (2 - c)) ∧ w = w' := by
 obtain rfl | rfl : c = 0 ∨ c = 1 := by omega
 all_goals (
  go_enter Tryz.func81, Tryz.ntmps81
  go_wp2
  go_ret
  exact ⟨rfl, rfl⟩)
theorem da_turn (g : Nat) (v : Value) (w : World) (hc : w.cell? ⟨g, 5, none⟩ = some v) :
  Calls Tryz.prog 77 #[.pointer (some ⟨g, 0, none⟩)] w fun e w' => e = .returned v ∧ w = w' := by
 go_enter Tryz.func77, Tryz.ntmps77
 go_wp2
 go_ret
 exact ⟨rfl, rfl⟩
/-- The piece of a kind and a colour. -/
theorem da_piece (t c : Nat) (ht : t < 6) (hc : c < 2) (w : World) (hA : IntSl w 0 .i8 allL) :
  Calls Tryz.prog 109 #[.int .i8 ((t : Int) + 1), .int .i8 ((c : Int) + 1)] w fun e w' => e = .returned (.int .i8 ((t : Int) + 6 * c + 1)) ∧ w = w' := by
 obtain ⟨⟨q, hq, hqb, hc0, hci⟩, _⟩ := hA
 simp only [show allL.length = 12 from rfl] at hc0 hci
 go_enter Tryz.func109, Tryz.ntmps109
 go_wp2_with fail
 go_loopw [9] (fun i wr => ∃ k : Nat, k ≤ t + 6 * c ∧ i = .int .i64 (k : Int) ∧ wr = w) (fun i _ => (12 - intOf i).toNat)
 case atStart => exact ⟨0, by omega, rfl, rfl⟩
 case round =>
  obtain ⟨k, hk, rfl, rfl⟩ := hrel
  have hlt : k < 12 := by omega
  have hck := hci k hlt
  rw [allL_get k hlt, ← add_at hq] at hck
  clear hci
  by_cases hcol : k / 6 = c
  ·have hcb : ((k : Int) / 6 + 1 == (c : Int) + 1) = true := by simp; omega
   by_cases htyp : k % 6 = t
   ·have htb : ((k : Int) % 6 + 1 == (t : Int) + 1) = true := by simp; omega
    go_wp2_with (first
     | (go_at_call 110; refine (da_color k hlt _).mono ?_; rintro e1 w1 ⟨rfl, rfl⟩)
     | (go_at_call 84; refine (da_type k hlt _).mono ?_; rintro e1 w1 ⟨rfl, rfl⟩))
    go_ret
    refine ⟨?_, rfl⟩
    have e : (k : Int) = t + 6 * c := by omega
    rw [e]
    rfl
   ·have htb : ((k : Int) % 6 + 1 == (t : Int) + 1) = false := by simp; omega
    go_wp2_with (first
     | (go_at_call 110; refine (da_color k hlt _).mono ?_; rintro e1 w1 ⟨rfl, rfl⟩)
     | (go_at_call 84; refine (da_type k hlt _).mono ?_; rintro e1 w1 ⟨rfl, rfl⟩))
    go_roundw
    case rel => exact ⟨k + 1, by omega, by go_num, trivial⟩
    case measure => simp [intOf]; omega
  ·have hcb : ((k : Int) / 6 + 1 == (c : Int) + 1) = false := by simp; omega
   go_wp2_with (first
    | (go_at_call 110; refine (da_color k hlt _).mono ?_; rintro e1 w1 ⟨rfl, rfl⟩)
    | (go_at_call 84; refine (da_type k hlt _).mono ?_; rintro e1 w1 ⟨rfl, rfl⟩))
   go_roundw
   case rel => exact ⟨k + 1, by omega, by go_num, trivial⟩
   case measure => simp [intOf]; omega
end Go.Proofs.YtnjdgooljnbebaaGreatDoor
namespace Go.Proofs.YtnjdgooljnbebaaGreatDoor
open Go Go.RowKit
open List renaming getElem_toArray → zA, getElem_cons_zero → zB, getElem_cons_succ → zC, setIfInBounds_toArray → zD, set_cons_zero → zE, set_cons_succ → zF
set_option maxHeartbeats 8000000
set_option linter.unusedSimpArgs false
set_option linter.unusedVariables false
set_option maxRecDepth 100000

theorem Tabs.drewN {w : World} (h : Tabs w) (n : Nat) : Tabs (w.drewN n) := h.below (B := w.heap.size) ⟨rfl, rfl, rfl, Nat.le_refl _, fun _ _ => rfl⟩ (Nat.le_refl _)
/-- What the engine reads of a position in block pg: its board (block bg), its turn; its tables. -/
structure EngAt (p : List Int) (tn pg bg : Nat) (w : World) : Prop where
 c0 : w.cell? ⟨pg, 0, none⟩ = some (.pointer (some ⟨bg, 0, none⟩))
 c5 : w.cell? ⟨pg, 5, none⟩ = some (.int .i8 ((tn : Int) + 1))
 bd : w.heap[bg]? = some (.cells (brd p) 144 (0, 0))
 tb : Tabs w
 al : IntSl w 0 .i8 allL
/-- All taken squares, those of the other side, what the other side's piece of kind t+1 stands on. -/
def empB (p : List Int) : BitVec 64 := ~~~(whiteB p ||| blackB p)
def takB (p : List Int) : BitVec 64 := ~~~(empB p)
def othB (p : List Int) (tn : Nat) : BitVec 64 := if tn = 1 then whiteB p else blackB p
def kinB (p : List Int) (tn t : Nat) : BitVec 64 := bbF p (t + 6 * (1 - tn))
def hotB (p : List Int) (tn s : Nat) : BitVec 64 := (diaB (takB p) s ||| hvB (takB p) s) &&& othB p tn ||| tabB bbKnightMovesL s &&& othB p tn
def pawB (p : List Int) (tn s : Nat) : BitVec 64 := if tn = 0 then ((bbF p 11 &&& 18374403900871474942#64 &&& 72057594037927935#64) <<< 7 ||| (bbF p 11 &&& 9187201950435737471#64 &&& 72057594037927935#64) <<< 9) &&& sqBit s
 else ((bbF p 5 &&& 18374403900871474942#64 &&& 18446744073709551360#64) >>> 9 ||| (bbF p 5 &&& 9187201950435737471#64 &&& 18446744073709551360#64) >>> 7) &&& sqBit s
def engB (p : List Int) (tn s : Nat) : Bool :=
 if hotB p tn s = 0#64 then false
 else if (diaB (takB p) s ||| hvB (takB p) s) &&& kinB p tn 1 ≠ 0#64 then true
 else if hvB (takB p) s &&& kinB p tn 2 ≠ 0#64 then true
 else if diaB (takB p) s &&& kinB p tn 3 ≠ 0#64 then true
 else if tabB bbKnightMovesL s &&& kinB p tn 4 ≠ 0#64 then true
 else if pawB p tn s ≠ 0#64 then true
 else decide (tabB bbKingMovesL s &&& kinB p tn 0 ≠ 0#64)

theorem EngAt.turn {p : List Int} {tn pg bg : Nat} {w : World} (h : EngAt p tn pg bg w) (n : Nat) : (w.drewN n).cell? ⟨pg, 5, none⟩ = some (.int .i8 ((tn : Int) + 1)) := by
 rw [World.cell?_drewN]; exact h.c5
theorem brd_white (p : List Int) : (brd p)[12]? = some (bbv (whiteB p)) := rfl
theorem brd_black (p : List Int) : (brd p)[13]? = some (bbv (blackB p)) := rfl
theorem brd_emp (p : List Int) : (brd p)[14]? = some (bbv (empB p)) := rfl
theorem brd_11 (p : List Int) : (brd p)[11]? = some (bbv (bbF p 11)) := rfl
theorem brd_5 (p : List Int) : (brd p)[5]? = some (bbv (bbF p 5)) := rfl
theorem sa_turn {p : List Int} {tn pg bg : Nat} {w : World} (h : EngAt p tn pg bg w) (n : Nat) : Calls Tryz.prog 77 #[.pointer (some ⟨pg, 0, none⟩)] (w.drewN n) fun e w' => e = .returned (.int .i8 ((tn : Int) + 1)) ∧ w.drewN n = w' := da_turn pg _ _ (h.turn n)
theorem sa_dia {p : List Int} {tn pg bg : Nat} {w : World} (h : EngAt p tn pg bg w) (n s : Nat) (hs : s < 64) : Calls Tryz.prog 142 #[bbv (~~~(empB p)), .int .i8 (s : Int)] (w.drewN n) fun e w' => e = .returned (bbv (diaB (~~~(empB p)) s)) ∧ w.drewN n = w' := da_dia _ s _ hs (h.tb.drewN n)
theorem sa_hv {p : List Int} {tn pg bg : Nat} {w : World} (h : EngAt p tn pg bg w) (n s : Nat) (hs : s < 64) : Calls Tryz.prog 143 #[bbv (~~~(empB p)), .int .i8 (s : Int)] (w.drewN n) fun e w' => e = .returned (bbv (hvB (~~~(empB p)) s)) ∧ w.drewN n = w' := da_hv _ s _ hs (h.tb.drewN n)
theorem sa_np {p : List Int} {tn pg bg : Nat} {w : World} (h : EngAt p tn pg bg w) (n t c : Nat) (ht : t < 6) (hc : c < 2) (a b r : Int) (ha : a = (t : Int) + 1) (hb : b = (c : Int) + 1) (hr : r = (t : Int) + 6 * c + 1) :
  Calls Tryz.prog 109 #[.int .i8 a, .int .i8 b] (w.drewN n) fun e w' => e = .returned (.int .i8 r) ∧ w.drewN n = w' := by
 subst ha; subst hb; subst hr
 exact da_piece t c ht hc _ ⟨h.al.ex, h.al.lt⟩
theorem sa_get {p : List Int} {tn pg bg : Nat} {w : World} (h : EngAt p tn pg bg w) (n k : Nat) (hk : k < 12) (a : Int) (ha : a = (k : Int) + 1) :
  Calls Tryz.prog 105 #[.pointer (some ⟨bg, 0, none⟩), .int .i8 a] (w.drewN n) fun e w' => e = .returned (bbv (bbF p k)) ∧ w.drewN n = w' := by
 subst ha
 exact bo_get _ _ _ _ _ _ bg k _ h.bd hk
theorem engB_eq0 (p : List Int) (s : Nat) : engB p 0 s =
  if ((diaB (~~~empB p) s ||| hvB (~~~empB p) s) &&& blackB p ||| tabB bbKnightMovesL s &&& blackB p) = 0#64 then false
  else if ((diaB (~~~empB p) s ||| hvB (~~~empB p) s) &&& bbF p 7) ≠ 0#64 then true
  else if (hvB (~~~empB p) s &&& bbF p 8) ≠ 0#64 then true
  else if (diaB (~~~empB p) s &&& bbF p 9) ≠ 0#64 then true
  else if (tabB bbKnightMovesL s &&& bbF p 10) ≠ 0#64 then true
  else if (((bbF p 11 &&& 18374403900871474942#64 &&& 72057594037927935#64) <<< 7 ||| (bbF p 11 &&& 9187201950435737471#64 &&& 72057594037927935#64) <<< 9) &&& sqBit s) ≠ 0#64 then true
  else decide ((tabB bbKingMovesL s &&& bbF p 6) ≠ 0#64) := rfl
theorem engB_eq1 (p : List Int) (s : Nat) : engB p 1 s =
  if ((diaB (~~~empB p) s ||| hvB (~~~empB p) s) &&& whiteB p ||| tabB bbKnightMovesL s &&& whiteB p) = 0#64 then false
  else if ((diaB (~~~empB p) s ||| hvB (~~~empB p) s) &&& bbF p 1) ≠ 0#64 then true
  else if (hvB (~~~empB p) s &&& bbF p 2) ≠ 0#64 then true
  else if (diaB (~~~empB p) s &&& bbF p 3) ≠ 0#64 then true
  else if (tabB bbKnightMovesL s &&& bbF p 4) ≠ 0#64 then true
  else if (((bbF p 5 &&& 18374403900871474942#64 &&& 18446744073709551360#64) >>> 9 ||| (bbF p 5 &&& 9187201950435737471#64 &&& 18446744073709551360#64) >>> 7) &&& sqBit s) ≠ 0#64 then true
  else decide ((tabB bbKingMovesL s &&& bbF p 0) ≠ 0#64) := rfl
theorem no_more {f : Nat → Bool} {l : List Nat} {k s : Nat} (h : ∀ j, j < k → f (l.getD j 0) = false) (e : l.getD k 0 = s) (hs : f s = false) : ∀ j, j < k + 1 → f (l.getD j 0) = false := fun j hj => by
 by_cases q : j = k
 ·subst q; rw [e]; exact hs
 ·exact h j (by omega)
theorem yes_any {f : Nat → Bool} {l : List Nat} {k s : Nat} (e : l.getD k 0 = s) (hk : k < l.length) (hs : f s = true) : l.any f = true := by
 refine List.any_eq_true.2 ⟨s, ?_, hs⟩
 rw [← e]
 simp [hk]
theorem no_any {f : Nat → Bool} {l : List Nat} (h : ∀ j, j < l.length → f (l.getD j 0) = false) : l.any f = false := by
 rw [List.any_eq_false]
 intro x hx
 obtain ⟨j, hj, rfl⟩ := List.getElem_of_mem hx
 have := h j hj
 simp [hj] at this
 simp [this]
theorem lay {p : Prop} (h : p) : Shut p := h
theorem sa_attacked (p : List Int) (tn : Nat) (htn : tn ≤ 1) (pg bg : Nat) (w : World) (hE : EngAt p tn pg bg w) (l : List Nat) (hl : ∀ s ∈ l, s < 64) (hll : l.length ≤ 64) (sg : Nat) (cap : Nat)
  (hs : ∀ i, i < l.length → w.cell? ⟨sg, i, none⟩ = some (.int .i8 ((l.getD i 0 : Nat) : Int))) :
  Calls Tryz.prog 122 #[.pointer (some ⟨pg, 0, none⟩), .slice (some ⟨sg, 0, none⟩) l.length cap] w fun e w' => e = .returned (.bool (l.any (engB p tn))) ∧ ∃ m, w' = w.drewN m := by
 have hT0 := lay (da_turn pg _ w hE.c5)
 have hTu := lay (fun n => sa_turn hE n)
 have hDi := lay (fun n s hs => sa_dia hE n s hs)
 have hHv := lay (fun n s hs => sa_hv hE n s hs)
 have c14 := (cell_of_row w bg 14 _ _ _ hE.bd).trans (brd_emp p)
 have c12 := (cell_of_row w bg 12 _ _ _ hE.bd).trans (brd_white p)
 have c13 := (cell_of_row w bg 13 _ _ _ hE.bd).trans (brd_black p)
 have c11 := (cell_of_row w bg 11 _ _ _ hE.bd).trans (brd_11 p)
 have c5 := (cell_of_row w bg 5 _ _ _ hE.bd).trans (brd_5 p)
 have hp0 := hE.c0
 have hEs := show Shut _ from hE
 have htd : (1 : Int) ≤ (tn : Int) + 1 ∧ (tn : Int) + 1 ≤ 2 := by omega
 clear hE
 have hsS := show Shut _ from hs
 have hlS := show Shut _ from hl
 clear hs hl htd
 go_enter Tryz.func122, Tryz.ntmps122
 go_wp2_with (first
  | (go_at_call 77; refine hT0.out.mono ?_; rintro e1 w1 ⟨rfl, rfl⟩)
  | (go_at_call 81; refine (da_other (tn : Int) _ (by omega) (by omega)).mono ?_; rintro e1 w1 ⟨rfl, rfl⟩))
 go_loopw [33] (fun i wr => ∃ k n : Nat, k ≤ l.length ∧ i = .int .i64 (k : Int) ∧ wr = w.drewN n ∧ ∀ j, j < k → engB p tn (l.getD j 0) = false) (fun i _ => (l.length - intOf i).toNat)
 case atStart => exact ⟨0, 0, by omega, rfl, rfl, fun j hj => by omega⟩
 case round =>
  obtain ⟨k, n, hk, rfl, rfl, hall⟩ := hrel
  have hals := lay hall
  clear hall
  by_cases hlt : k < l.length
  ·have hck := hsS.out k hlt
   have hs64 : l.getD k 0 < 64 := hlS.out _ (by simp [hlt])
   have hkn := ((hEs.out.tb.kn.cell (l.getD k 0) hs64).trans (by rw [tab_get _ bbKnightMoves_lt _ hs64]))
   have hki := ((hEs.out.tb.ki.cell (l.getD k 0) hs64).trans (by rw [tab_get _ bbKingMoves_lt _ hs64]))
   generalize hsd : l.getD k 0 = s at *
   have hid := lay hsd
   clear hsd
   rcases (show tn = 0 ∨ tn = 1 by omega) with rfl | rfl
   all_goals go_wp2_with (first
    | (go_at_call 77; refine Calls.mono (hTu.out n) ?_; rintro e1 w1 ⟨rfl, rfl⟩))
   ·have hEng := lay (engB_eq0 p s)
    have hNq := lay (fun n => sa_np hEs.out n 1 1 (by decide) (by decide) 2 2 8 rfl rfl rfl)
    have hGq := lay (fun n => sa_get hEs.out n 7 (by decide) 8 rfl)
    have hNr := lay (fun n => sa_np hEs.out n 2 1 (by decide) (by decide) 3 2 9 rfl rfl rfl)
    have hGr := lay (fun n => sa_get hEs.out n 8 (by decide) 9 rfl)
    have hNb := lay (fun n => sa_np hEs.out n 3 1 (by decide) (by decide) 4 2 10 rfl rfl rfl)
    have hGb := lay (fun n => sa_get hEs.out n 9 (by decide) 10 rfl)
    have hNn := lay (fun n => sa_np hEs.out n 4 1 (by decide) (by decide) 5 2 11 rfl rfl rfl)
    have hGn := lay (fun n => sa_get hEs.out n 10 (by decide) 11 rfl)
    have hNk := lay (fun n => sa_np hEs.out n 0 1 (by decide) (by decide) 1 2 7 rfl rfl rfl)
    have hGk := lay (fun n => sa_get hEs.out n 6 (by decide) 7 rfl)
    by_cases g0 : ((diaB (~~~empB p) s ||| hvB (~~~empB p) s) &&& blackB p ||| tabB bbKnightMovesL s &&& blackB p) = 0#64
    ·have g0b : ((diaB (~~~empB p) s ||| hvB (~~~empB p) s) &&& blackB p ||| tabB bbKnightMovesL s &&& blackB p == 0#64) = true := by rw [g0]; rfl
     have g0s := lay g0
     clear g0
     go_quiet (first
      | (go_at_call 142; (with_reducible exact quiet_add_left (hDi.out _ s hs64)))
      | (go_at_call 143; (with_reducible exact quiet_add_left (hHv.out _ s hs64))))
     go_wp2_with fail
     go_roundw
     case rel =>
      first
      | exact ⟨k + 1, _, by omega, by go_num, rfl, no_more hals.out hid.out (by rw [hEng.out, if_pos g0s.out])⟩
      | ((repeat apply Exists.intro); exact ⟨⟨k + 1, _, by omega, by go_num, rfl, no_more hals.out hid.out (by rw [hEng.out, if_pos g0s.out])⟩, rfl⟩)
     case measure => simp [intOf]; omega
    ·have g0b : ((diaB (~~~empB p) s ||| hvB (~~~empB p) s) &&& blackB p ||| tabB bbKnightMovesL s &&& blackB p == 0#64) = false := by simpa using g0
     have g0s := lay g0
     clear g0
     go_quiet (first
      | (go_at_call 142; (with_reducible exact quiet_add_left (hDi.out _ s hs64)))
      | (go_at_call 143; (with_reducible exact quiet_add_left (hHv.out _ s hs64))))
     go_wp2_with fail
     clear g0b
     by_cases gq : ((diaB (~~~empB p) s ||| hvB (~~~empB p) s) &&& bbF p 7) ≠ 0#64
     ·have gqb : ((diaB (~~~empB p) s ||| hvB (~~~empB p) s) &&& bbF p 7 != 0#64) = true := by simpa using gq
      have gqs := lay gq
      clear gq
      go_quiet (first
       | (go_at_call 109; (with_reducible exact quiet_add_left (hNq.out _)))
       | (go_at_call 105; (with_reducible exact quiet_add_left (hGq.out _))))
      go_wp2_with (first | (go_at_call 142; refine Calls.mono (hDi.out _ s hs64) ?_; rintro e1 w1 ⟨rfl, rfl⟩) | (go_at_call 143; refine Calls.mono (hHv.out _ s hs64) ?_; rintro e1 w1 ⟨rfl, rfl⟩) | (go_at_call 77; refine Calls.mono (hTu.out _) ?_; rintro e1 w1 ⟨rfl, rfl⟩) | (go_at_call 107; refine (sq_bit _ _ (by omega) (by omega)).mono ?_; rintro e1 w1 ⟨rfl, rfl⟩))
      go_ret
      exact ⟨by rw [yes_any hid.out hlt (by rw [hEng.out, if_neg g0s.out, if_pos gqs.out])]; rfl, _, rfl⟩
     ·have gqb : ((diaB (~~~empB p) s ||| hvB (~~~empB p) s) &&& bbF p 7 != 0#64) = false := by simpa using gq
      have gqs := lay gq
      clear gq
      go_quiet (first
       | (go_at_call 109; (with_reducible exact quiet_add_left (hNq.out _)))
       | (go_at_call 105; (with_reducible exact quiet_add_left (hGq.out _))))
      go_wp2_with (first | (go_at_call 142; refine Calls.mono (hDi.out _ s hs64) ?_; rintro e1 w1 ⟨rfl, rfl⟩) | (go_at_call 143; refine Calls.mono (hHv.out _ s hs64) ?_; rintro e1 w1 ⟨rfl, rfl⟩) | (go_at_call 77; refine Calls.mono (hTu.out _) ?_; rintro e1 w1 ⟨rfl, rfl⟩) | (go_at_call 107; refine (sq_bit _ _ (by omega) (by omega)).mono ?_; rintro e1 w1 ⟨rfl, rfl⟩))
      clear gqb
      by_cases gr : (hvB (~~~empB p) s &&& bbF p 8) ≠ 0#64
      ·have grb : (hvB (~~~empB p) s &&& bbF p 8 != 0#64) = true := by simpa using gr
       have grs := lay gr
       clear gr
       go_quiet (first
        | (go_at_call 109; (with_reducible exact quiet_add_left (hNr.out _)))
        | (go_at_call 105; (with_reducible exact quiet_add_left (hGr.out _))))
       go_wp2_with (first | (go_at_call 142; refine Calls.mono (hDi.out _ s hs64) ?_; rintro e1 w1 ⟨rfl, rfl⟩) | (go_at_call 143; refine Calls.mono (hHv.out _ s hs64) ?_; rintro e1 w1 ⟨rfl, rfl⟩) | (go_at_call 77; refine Calls.mono (hTu.out _) ?_; rintro e1 w1 ⟨rfl, rfl⟩) | (go_at_call 107; refine (sq_bit _ _ (by omega) (by omega)).mono ?_; rintro e1 w1 ⟨rfl, rfl⟩))
       go_ret
       exact ⟨by rw [yes_any hid.out hlt (by rw [hEng.out, if_neg g0s.out, if_neg gqs.out, if_pos grs.out])]; rfl, _, rfl⟩
      ·have grb : (hvB (~~~empB p) s &&& bbF p 8 != 0#64) = false := by simpa using gr
       have grs := lay gr
       clear gr
       go_quiet (first
        | (go_at_call 109; (with_reducible exact quiet_add_left (hNr.out _)))
        | (go_at_call 105; (with_reducible exact quiet_add_left (hGr.out _))))
       go_wp2_with (first | (go_at_call 142; refine Calls.mono (hDi.out _ s hs64) ?_; rintro e1 w1 ⟨rfl, rfl⟩) | (go_at_call 143; refine Calls.mono (hHv.out _ s hs64) ?_; rintro e1 w1 ⟨rfl, rfl⟩) | (go_at_call 77; refine Calls.mono (hTu.out _) ?_; rintro e1 w1 ⟨rfl, rfl⟩) | (go_at_call 107; refine (sq_bit _ _ (by omega) (by omega)).mono ?_; rintro e1 w1 ⟨rfl, rfl⟩))
       clear grb
       by_cases gb : (diaB (~~~empB p) s &&& bbF p 9) ≠ 0#64
       ·have gbb : (diaB (~~~empB p) s &&& bbF p 9 != 0#64) = true := by simpa using gb
        have gbs := lay gb
        clear gb
        go_quiet (first
         | (go_at_call 109; (with_reducible exact quiet_add_left (hNb.out _)))
         | (go_at_call 105; (with_reducible exact quiet_add_left (hGb.out _))))
        go_wp2_with (first | (go_at_call 142; refine Calls.mono (hDi.out _ s hs64) ?_; rintro e1 w1 ⟨rfl, rfl⟩) | (go_at_call 143; refine Calls.mono (hHv.out _ s hs64) ?_; rintro e1 w1 ⟨rfl, rfl⟩) | (go_at_call 77; refine Calls.mono (hTu.out _) ?_; rintro e1 w1 ⟨rfl, rfl⟩) | (go_at_call 107; refine (sq_bit _ _ (by omega) (by omega)).mono ?_; rintro e1 w1 ⟨rfl, rfl⟩))
        go_ret
        exact ⟨by rw [yes_any hid.out hlt (by rw [hEng.out, if_neg g0s.out, if_neg gqs.out, if_neg grs.out, if_pos gbs.out])]; rfl, _, rfl⟩
       ·have gbb : (diaB (~~~empB p) s &&& bbF p 9 != 0#64) = false := by simpa using gb
        have gbs := lay gb
        clear gb
        go_quiet (first
         | (go_at_call 109; (with_reducible exact quiet_add_left (hNb.out _)))
         | (go_at_call 105; (with_reducible exact quiet_add_left (hGb.out _))))
        go_wp2_with (first | (go_at_call 142; refine Calls.mono (hDi.out _ s hs64) ?_; rintro e1 w1 ⟨rfl, rfl⟩) | (go_at_call 143; refine Calls.mono (hHv.out _ s hs64) ?_; rintro e1 w1 ⟨rfl, rfl⟩) | (go_at_call 77; refine Calls.mono (hTu.out _) ?_; rintro e1 w1 ⟨rfl, rfl⟩) | (go_at_call 107; refine (sq_bit _ _ (by omega) (by omega)).mono ?_; rintro e1 w1 ⟨rfl, rfl⟩))
        clear gbb
        by_cases gn : (tabB bbKnightMovesL s &&& bbF p 10) ≠ 0#64
        ·have gnb : (tabB bbKnightMovesL s &&& bbF p 10 != 0#64) = true := by simpa using gn
         have gns := lay gn
         clear gn
         go_quiet (first
          | (go_at_call 109; (with_reducible exact quiet_add_left (hNn.out _)))
          | (go_at_call 105; (with_reducible exact quiet_add_left (hGn.out _))))
         go_wp2_with (first | (go_at_call 142; refine Calls.mono (hDi.out _ s hs64) ?_; rintro e1 w1 ⟨rfl, rfl⟩) | (go_at_call 143; refine Calls.mono (hHv.out _ s hs64) ?_; rintro e1 w1 ⟨rfl, rfl⟩) | (go_at_call 77; refine Calls.mono (hTu.out _) ?_; rintro e1 w1 ⟨rfl, rfl⟩) | (go_at_call 107; refine (sq_bit _ _ (by omega) (by omega)).mono ?_; rintro e1 w1 ⟨rfl, rfl⟩))
         go_ret
         exact ⟨by rw [yes_any hid.out hlt (by rw [hEng.out, if_neg g0s.out, if_neg gqs.out, if_neg grs.out, if_neg gbs.out, if_pos gns.out])]; rfl, _, rfl⟩
        ·have gnb : (tabB bbKnightMovesL s &&& bbF p 10 != 0#64) = false := by simpa using gn
         have gns := lay gn
         clear gn
         by_cases gp : (((bbF p 11 &&& 18374403900871474942#64 &&& 72057594037927935#64) <<< 7 ||| (bbF p 11 &&& 9187201950435737471#64 &&& 72057594037927935#64) <<< 9) &&& sqBit s) ≠ 0#64
         ·have gpb : (((bbF p 11 &&& 18374403900871474942#64 &&& 72057594037927935#64) <<< 7 ||| (bbF p 11 &&& 9187201950435737471#64 &&& 72057594037927935#64) <<< 9) &&& sqBit s != 0#64) = true := by simpa using gp
          have gps := lay gp
          clear gp
          go_quiet (first
           | (go_at_call 109; (with_reducible exact quiet_add_left (hNn.out _)))
           | (go_at_call 105; (with_reducible exact quiet_add_left (hGn.out _))))
          go_wp2_with (first | (go_at_call 142; refine Calls.mono (hDi.out _ s hs64) ?_; rintro e1 w1 ⟨rfl, rfl⟩) | (go_at_call 143; refine Calls.mono (hHv.out _ s hs64) ?_; rintro e1 w1 ⟨rfl, rfl⟩) | (go_at_call 77; refine Calls.mono (hTu.out _) ?_; rintro e1 w1 ⟨rfl, rfl⟩) | (go_at_call 107; refine (sq_bit _ _ (by omega) (by omega)).mono ?_; rintro e1 w1 ⟨rfl, rfl⟩))
          go_ret
          exact ⟨by rw [yes_any hid.out hlt (by rw [hEng.out, if_neg g0s.out, if_neg gqs.out, if_neg grs.out, if_neg gbs.out, if_neg gns.out, if_pos gps.out])]; rfl, _, rfl⟩
         ·have gpb : (((bbF p 11 &&& 18374403900871474942#64 &&& 72057594037927935#64) <<< 7 ||| (bbF p 11 &&& 9187201950435737471#64 &&& 72057594037927935#64) <<< 9) &&& sqBit s != 0#64) = false := by simpa using gp
          have gps := lay gp
          clear gp
          go_quiet (first
           | (go_at_call 109; (with_reducible exact quiet_add_left (hNn.out _)))
           | (go_at_call 105; (with_reducible exact quiet_add_left (hGn.out _))))
          go_wp2_with (first | (go_at_call 142; refine Calls.mono (hDi.out _ s hs64) ?_; rintro e1 w1 ⟨rfl, rfl⟩) | (go_at_call 143; refine Calls.mono (hHv.out _ s hs64) ?_; rintro e1 w1 ⟨rfl, rfl⟩) | (go_at_call 77; refine Calls.mono (hTu.out _) ?_; rintro e1 w1 ⟨rfl, rfl⟩) | (go_at_call 107; refine (sq_bit _ _ (by omega) (by omega)).mono ?_; rintro e1 w1 ⟨rfl, rfl⟩))
          clear gnb
          clear gpb
          by_cases gk : (tabB bbKingMovesL s &&& bbF p 6) ≠ 0#64
          ·have gkb : (tabB bbKingMovesL s &&& bbF p 6 != 0#64) = true := by simpa using gk
           have gks := lay gk
           clear gk
           go_quiet (first
            | (go_at_call 109; (with_reducible exact quiet_add_left (hNk.out _)))
            | (go_at_call 105; (with_reducible exact quiet_add_left (hGk.out _))))
           go_wp2_with (first | (go_at_call 142; refine Calls.mono (hDi.out _ s hs64) ?_; rintro e1 w1 ⟨rfl, rfl⟩) | (go_at_call 143; refine Calls.mono (hHv.out _ s hs64) ?_; rintro e1 w1 ⟨rfl, rfl⟩) | (go_at_call 77; refine Calls.mono (hTu.out _) ?_; rintro e1 w1 ⟨rfl, rfl⟩) | (go_at_call 107; refine (sq_bit _ _ (by omega) (by omega)).mono ?_; rintro e1 w1 ⟨rfl, rfl⟩))
           go_ret
           exact ⟨by rw [yes_any hid.out hlt (by rw [hEng.out, if_neg g0s.out, if_neg gqs.out, if_neg grs.out, if_neg gbs.out, if_neg gns.out, if_neg gps.out, decide_eq_true gks.out])]; rfl, _, rfl⟩
          ·have gkb : (tabB bbKingMovesL s &&& bbF p 6 != 0#64) = false := by simpa using gk
           have gks := lay gk
           clear gk
           go_quiet (first
            | (go_at_call 109; (with_reducible exact quiet_add_left (hNk.out _)))
            | (go_at_call 105; (with_reducible exact quiet_add_left (hGk.out _))))
           go_wp2_with (first | (go_at_call 142; refine Calls.mono (hDi.out _ s hs64) ?_; rintro e1 w1 ⟨rfl, rfl⟩) | (go_at_call 143; refine Calls.mono (hHv.out _ s hs64) ?_; rintro e1 w1 ⟨rfl, rfl⟩) | (go_at_call 77; refine Calls.mono (hTu.out _) ?_; rintro e1 w1 ⟨rfl, rfl⟩) | (go_at_call 107; refine (sq_bit _ _ (by omega) (by omega)).mono ?_; rintro e1 w1 ⟨rfl, rfl⟩))
           go_roundw
           case rel =>
            first
            | exact ⟨k + 1, _, by omega, by go_num, rfl, no_more hals.out hid.out (by rw [hEng.out, if_neg g0s.out, if_neg gqs.out, if_neg grs.out, if_neg gbs.out, if_neg gns.out, if_neg gps.out, decide_eq_false gks.out])⟩
            | ((repeat apply Exists.intro); exact ⟨⟨k + 1, _, by omega, by go_num, rfl, no_more hals.out hid.out (by rw [hEng.out, if_neg g0s.out, if_neg gqs.out, if_neg grs.out, if_neg gbs.out, if_neg gns.out, if_neg gps.out, decide_eq_false gks.out])⟩, rfl⟩)
           case measure => simp [intOf]; omega
   ·have hEng := lay (engB_eq1 p s)
    have hNq := lay (fun n => sa_np hEs.out n 1 0 (by decide) (by decide) 2 1 2 rfl rfl rfl)
    have hGq := lay (fun n => sa_get hEs.out n 1 (by decide) 2 rfl)
    have hNr := lay (fun n => sa_np hEs.out n 2 0 (by decide) (by decide) 3 1 3 rfl rfl rfl)
    have hGr := lay (fun n => sa_get hEs.out n 2 (by decide) 3 rfl)
    have hNb := lay (fun n => sa_np hEs.out n 3 0 (by decide) (by decide) 4 1 4 rfl rfl rfl)
    have hGb := lay (fun n => sa_get hEs.out n 3 (by decide) 4 rfl)
    have hNn := lay (fun n => sa_np hEs.out n 4 0 (by decide) (by decide) 5 1 5 rfl rfl rfl)
    have hGn := lay (fun n => sa_get hEs.out n 4 (by decide) 5 rfl)
    have hNk := lay (fun n => sa_np hEs.out n 0 0 (by decide) (by decide) 1 1 1 rfl rfl rfl)
    have hGk := lay (fun n => sa_get hEs.out n 0 (by decide) 1 rfl)
    by_cases g0 : ((diaB (~~~empB p) s ||| hvB (~~~empB p) s) &&& whiteB p ||| tabB bbKnightMovesL s &&& whiteB p) = 0#64
    ·have g0b : ((diaB (~~~empB p) s ||| hvB (~~~empB p) s) &&& whiteB p ||| tabB bbKnightMovesL s &&& whiteB p == 0#64) = true := by rw [g0]; rfl
     have g0s := lay g0
     clear g0
     go_quiet (first
      | (go_at_call 142; (with_reducible exact quiet_add_left (hDi.out _ s hs64)))
      | (go_at_call 143; (with_reducible exact quiet_add_left (hHv.out _ s hs64))))
     go_wp2_with fail
     go_roundw
     case rel =>
      first
      | exact ⟨k + 1, _, by omega, by go_num, rfl, no_more hals.out hid.out (by rw [hEng.out, if_pos g0s.out])⟩
      | ((repeat apply Exists.intro); exact ⟨⟨k + 1, _, by omega, by go_num, rfl, no_more hals.out hid.out (by rw [hEng.out, if_pos g0s.out])⟩, rfl⟩)
     case measure => simp [intOf]; omega
    ·have g0b : ((diaB (~~~empB p) s ||| hvB (~~~empB p) s) &&& whiteB p ||| tabB bbKnightMovesL s &&& whiteB p == 0#64) = false := by simpa using g0
     have g0s := lay g0
     clear g0
     go_quiet (first
      | (go_at_call 142; (with_reducible exact quiet_add_left (hDi.out _ s hs64)))
      | (go_at_call 143; (with_reducible exact quiet_add_left (hHv.out _ s hs64))))
     go_wp2_with fail
     clear g0b
     by_cases gq : ((diaB (~~~empB p) s ||| hvB (~~~empB p) s) &&& bbF p 1) ≠ 0#64
     ·have gqb : ((diaB (~~~empB p) s ||| hvB (~~~empB p) s) &&& bbF p 1 != 0#64) = true := by simpa using gq
      have gqs := lay gq
      clear gq
      go_quiet (first
       | (go_at_call 109; (with_reducible exact quiet_add_left (hNq.out _)))
       | (go_at_call 105; (with_reducible exact quiet_add_left (hGq.out _))))
      go_wp2_with (first | (go_at_call 142; refine Calls.mono (hDi.out _ s hs64) ?_; rintro e1 w1 ⟨rfl, rfl⟩) | (go_at_call 143; refine Calls.mono (hHv.out _ s hs64) ?_; rintro e1 w1 ⟨rfl, rfl⟩) | (go_at_call 77; refine Calls.mono (hTu.out _) ?_; rintro e1 w1 ⟨rfl, rfl⟩) | (go_at_call 107; refine (sq_bit _ _ (by omega) (by omega)).mono ?_; rintro e1 w1 ⟨rfl, rfl⟩))
      go_ret
      exact ⟨by rw [yes_any hid.out hlt (by rw [hEng.out, if_neg g0s.out, if_pos gqs.out])]; rfl, _, rfl⟩
     ·have gqb : ((diaB (~~~empB p) s ||| hvB (~~~empB p) s) &&& bbF p 1 != 0#64) = false := by simpa using gq
      have gqs := lay gq
      clear gq
      go_quiet (first
       | (go_at_call 109; (with_reducible exact quiet_add_left (hNq.out _)))
       | (go_at_call 105; (with_reducible exact quiet_add_left (hGq.out _))))
      go_wp2_with (first | (go_at_call 142; refine Calls.mono (hDi.out _ s hs64) ?_; rintro e1 w1 ⟨rfl, rfl⟩) | (go_at_call 143; refine Calls.mono (hHv.out _ s hs64) ?_; rintro e1 w1 ⟨rfl, rfl⟩) | (go_at_call 77; refine Calls.mono (hTu.out _) ?_; rintro e1 w1 ⟨rfl, rfl⟩) | (go_at_call 107; refine (sq_bit _ _ (by omega) (by omega)).mono ?_; rintro e1 w1 ⟨rfl, rfl⟩))
      clear gqb
      by_cases gr : (hvB (~~~empB p) s &&& bbF p 2) ≠ 0#64
      ·have grb : (hvB (~~~empB p) s &&& bbF p 2 != 0#64) = true := by simpa using gr
       have grs := lay gr
       clear gr
       go_quiet (first
        | (go_at_call 109; (with_reducible exact quiet_add_left (hNr.out _)))
        | (go_at_call 105; (with_reducible exact quiet_add_left (hGr.out _))))
       go_wp2_with (first | (go_at_call 142; refine Calls.mono (hDi.out _ s hs64) ?_; rintro e1 w1 ⟨rfl, rfl⟩) | (go_at_call 143; refine Calls.mono (hHv.out _ s hs64) ?_; rintro e1 w1 ⟨rfl, rfl⟩) | (go_at_call 77; refine Calls.mono (hTu.out _) ?_; rintro e1 w1 ⟨rfl, rfl⟩) | (go_at_call 107; refine (sq_bit _ _ (by omega) (by omega)).mono ?_; rintro e1 w1 ⟨rfl, rfl⟩))
       go_ret
       exact ⟨by rw [yes_any hid.out hlt (by rw [hEng.out, if_neg g0s.out, if_neg gqs.out, if_pos grs.out])]; rfl, _, rfl⟩
      ·have grb : (hvB (~~~empB p) s &&& bbF p 2 != 0#64) = false := by simpa using gr
       have grs := lay gr
       clear gr
       go_quiet (first
        | (go_at_call 109; (with_reducible exact quiet_add_left (hNr.out _)))
        | (go_at_call 105; (with_reducible exact quiet_add_left (hGr.out _))))
       go_wp2_with (first | (go_at_call 142; refine Calls.mono (hDi.out _ s hs64) ?_; rintro e1 w1 ⟨rfl, rfl⟩) | (go_at_call 143; refine Calls.mono (hHv.out _ s hs64) ?_; rintro e1 w1 ⟨rfl, rfl⟩) | (go_at_call 77; refine Calls.mono (hTu.out _) ?_; rintro e1 w1 ⟨rfl, rfl⟩) | (go_at_call 107; refine (sq_bit _ _ (by omega) (by omega)).mono ?_; rintro e1 w1 ⟨rfl, rfl⟩))
       clear grb
       by_cases gb : (diaB (~~~empB p) s &&& bbF p 3) ≠ 0#64
       ·have gbb : (diaB (~~~empB p) s &&& bbF p 3 != 0#64) = true := by simpa using gb
        have gbs := lay gb
        clear gb
        go_quiet (first
         | (go_at_call 109; (with_reducible exact quiet_add_left (hNb.out _)))
         | (go_at_call 105; (with_reducible exact quiet_add_left (hGb.out _))))
        go_wp2_with (first | (go_at_call 142; refine Calls.mono (hDi.out _ s hs64) ?_; rintro e1 w1 ⟨rfl, rfl⟩) | (go_at_call 143; refine Calls.mono (hHv.out _ s hs64) ?_; rintro e1 w1 ⟨rfl, rfl⟩) | (go_at_call 77; refine Calls.mono (hTu.out _) ?_; rintro e1 w1 ⟨rfl, rfl⟩) | (go_at_call 107; refine (sq_bit _ _ (by omega) (by omega)).mono ?_; rintro e1 w1 ⟨rfl, rfl⟩))
        go_ret
        exact ⟨by rw [yes_any hid.out hlt (by rw [hEng.out, if_neg g0s.out, if_neg gqs.out, if_neg grs.out, if_pos gbs.out])]; rfl, _, rfl⟩
       ·have gbb : (diaB (~~~empB p) s &&& bbF p 3 != 0#64) = false := by simpa using gb
        have gbs := lay gb
        clear gb
        go_quiet (first
         | (go_at_call 109; (with_reducible exact quiet_add_left (hNb.out _)))
         | (go_at_call 105; (with_reducible exact quiet_add_left (hGb.out _))))
        go_wp2_with (first | (go_at_call 142; refine Calls.mono (hDi.out _ s hs64) ?_; rintro e1 w1 ⟨rfl, rfl⟩) | (go_at_call 143; refine Calls.mono (hHv.out _ s hs64) ?_; rintro e1 w1 ⟨rfl, rfl⟩) | (go_at_call 77; refine Calls.mono (hTu.out _) ?_; rintro e1 w1 ⟨rfl, rfl⟩) | (go_at_call 107; refine (sq_bit _ _ (by omega) (by omega)).mono ?_; rintro e1 w1 ⟨rfl, rfl⟩))
        clear gbb
        by_cases gn : (tabB bbKnightMovesL s &&& bbF p 4) ≠ 0#64
        ·have gnb : (tabB bbKnightMovesL s &&& bbF p 4 != 0#64) = true := by simpa using gn
         have gns := lay gn
         clear gn
         go_quiet (first
          | (go_at_call 109; (with_reducible exact quiet_add_left (hNn.out _)))
          | (go_at_call 105; (with_reducible exact quiet_add_left (hGn.out _))))
         go_wp2_with (first | (go_at_call 142; refine Calls.mono (hDi.out _ s hs64) ?_; rintro e1 w1 ⟨rfl, rfl⟩) | (go_at_call 143; refine Calls.mono (hHv.out _ s hs64) ?_; rintro e1 w1 ⟨rfl, rfl⟩) | (go_at_call 77; refine Calls.mono (hTu.out _) ?_; rintro e1 w1 ⟨rfl, rfl⟩) | (go_at_call 107; refine (sq_bit _ _ (by omega) (by omega)).mono ?_; rintro e1 w1 ⟨rfl, rfl⟩))
         go_ret
         exact ⟨by rw [yes_any hid.out hlt (by rw [hEng.out, if_neg g0s.out, if_neg gqs.out, if_neg grs.out, if_neg gbs.out, if_pos gns.out])]; rfl, _, rfl⟩
        ·have gnb : (tabB bbKnightMovesL s &&& bbF p 4 != 0#64) = false := by simpa using gn
         have gns := lay gn
         clear gn
         by_cases gp : (((bbF p 5 &&& 18374403900871474942#64 &&& 18446744073709551360#64) >>> 9 ||| (bbF p 5 &&& 9187201950435737471#64 &&& 18446744073709551360#64) >>> 7) &&& sqBit s) ≠ 0#64
         ·have gpb : (((bbF p 5 &&& 18374403900871474942#64 &&& 18446744073709551360#64) >>> 9 ||| (bbF p 5 &&& 9187201950435737471#64 &&& 18446744073709551360#64) >>> 7) &&& sqBit s != 0#64) = true := by simpa using gp
          have gps := lay gp
          clear gp
          go_quiet (first
           | (go_at_call 109; (with_reducible exact quiet_add_left (hNn.out _)))
           | (go_at_call 105; (with_reducible exact quiet_add_left (hGn.out _))))
          go_wp2_with (first | (go_at_call 142; refine Calls.mono (hDi.out _ s hs64) ?_; rintro e1 w1 ⟨rfl, rfl⟩) | (go_at_call 143; refine Calls.mono (hHv.out _ s hs64) ?_; rintro e1 w1 ⟨rfl, rfl⟩) | (go_at_call 77; refine Calls.mono (hTu.out _) ?_; rintro e1 w1 ⟨rfl, rfl⟩) | (go_at_call 107; refine (sq_bit _ _ (by omega) (by omega)).mono ?_; rintro e1 w1 ⟨rfl, rfl⟩))
          go_ret
          exact ⟨by rw [yes_any hid.out hlt (by rw [hEng.out, if_neg g0s.out, if_neg gqs.out, if_neg grs.out, if_neg gbs.out, if_neg gns.out, if_pos gps.out])]; rfl, _, rfl⟩
         ·have gpb : (((bbF p 5 &&& 18374403900871474942#64 &&& 18446744073709551360#64) >>> 9 ||| (bbF p 5 &&& 9187201950435737471#64 &&& 18446744073709551360#64) >>> 7) &&& sqBit s != 0#64) = false := by simpa using gp
          have gps := lay gp
          clear gp
          go_quiet (first
           | (go_at_call 109; (with_reducible exact quiet_add_left (hNn.out _)))
           | (go_at_call 105; (with_reducible exact quiet_add_left (hGn.out _))))
          go_wp2_with (first | (go_at_call 142; refine Calls.mono (hDi.out _ s hs64) ?_; rintro e1 w1 ⟨rfl, rfl⟩) | (go_at_call 143; refine Calls.mono (hHv.out _ s hs64) ?_; rintro e1 w1 ⟨rfl, rfl⟩) | (go_at_call 77; refine Calls.mono (hTu.out _) ?_; rintro e1 w1 ⟨rfl, rfl⟩) | (go_at_call 107; refine (sq_bit _ _ (by omega) (by omega)).mono ?_; rintro e1 w1 ⟨rfl, rfl⟩))
          clear gnb
          clear gpb
          by_cases gk : (tabB bbKingMovesL s &&& bbF p 0) ≠ 0#64
          ·have gkb : (tabB bbKingMovesL s &&& bbF p 0 != 0#64) = true := by simpa using gk
           have gks := lay gk
           clear gk
           go_quiet (first
            | (go_at_call 109; (with_reducible exact quiet_add_left (hNk.out _)))
            | (go_at_call 105; (with_reducible exact quiet_add_left (hGk.out _))))
           go_wp2_with (first | (go_at_call 142; refine Calls.mono (hDi.out _ s hs64) ?_; rintro e1 w1 ⟨rfl, rfl⟩) | (go_at_call 143; refine Calls.mono (hHv.out _ s hs64) ?_; rintro e1 w1 ⟨rfl, rfl⟩) | (go_at_call 77; refine Calls.mono (hTu.out _) ?_; rintro e1 w1 ⟨rfl, rfl⟩) | (go_at_call 107; refine (sq_bit _ _ (by omega) (by omega)).mono ?_; rintro e1 w1 ⟨rfl, rfl⟩))
           go_ret
           exact ⟨by rw [yes_any hid.out hlt (by rw [hEng.out, if_neg g0s.out, if_neg gqs.out, if_neg grs.out, if_neg gbs.out, if_neg gns.out, if_neg gps.out, decide_eq_true gks.out])]; rfl, _, rfl⟩
          ·have gkb : (tabB bbKingMovesL s &&& bbF p 0 != 0#64) = false := by simpa using gk
           have gks := lay gk
           clear gk
           go_quiet (first
            | (go_at_call 109; (with_reducible exact quiet_add_left (hNk.out _)))
            | (go_at_call 105; (with_reducible exact quiet_add_left (hGk.out _))))
           go_wp2_with (first | (go_at_call 142; refine Calls.mono (hDi.out _ s hs64) ?_; rintro e1 w1 ⟨rfl, rfl⟩) | (go_at_call 143; refine Calls.mono (hHv.out _ s hs64) ?_; rintro e1 w1 ⟨rfl, rfl⟩) | (go_at_call 77; refine Calls.mono (hTu.out _) ?_; rintro e1 w1 ⟨rfl, rfl⟩) | (go_at_call 107; refine (sq_bit _ _ (by omega) (by omega)).mono ?_; rintro e1 w1 ⟨rfl, rfl⟩))
           go_roundw
           case rel =>
            first
            | exact ⟨k + 1, _, by omega, by go_num, rfl, no_more hals.out hid.out (by rw [hEng.out, if_neg g0s.out, if_neg gqs.out, if_neg grs.out, if_neg gbs.out, if_neg gns.out, if_neg gps.out, decide_eq_false gks.out])⟩
            | ((repeat apply Exists.intro); exact ⟨⟨k + 1, _, by omega, by go_num, rfl, no_more hals.out hid.out (by rw [hEng.out, if_neg g0s.out, if_neg gqs.out, if_neg grs.out, if_neg gbs.out, if_neg gns.out, if_neg gps.out, decide_eq_false gks.out])⟩, rfl⟩)
           case measure => simp [intOf]; omega
  ·obtain rfl : k = l.length := by omega
   go_wp2_with fail
   go_ret
   exact ⟨by rw [no_any hals.out]; rfl, _, rfl⟩
end Go.Proofs.YtnjdgooljnbebaaGreatDoor
namespace Go.Proofs.YtnjdgooljnbebaaGreatDoor
open Go Go.RowKit
open List renaming getElem_toArray → zA, getElem_cons_zero → zB, getElem_cons_succ → zC, setIfInBounds_toArray → zD, set_cons_zero → zE, set_cons_succ → zF
set_option maxHeartbeats 8000000
set_option linter.unusedSimpArgs false
set_option linter.unusedVariables false
set_option maxRecDepth 100000

theorem EngAt.below {p : List Int} {tn pg bg : Nat} {w w' : World} {B : Nat} (h : EngAt p tn pg bg w) (hpg : pg < w.heap.size) (hb : Below B w w') (hB : w.heap.size ≤ B) : EngAt p tn pg bg w' :=
 have hb' := hb.mono hB
 ⟨(hb'.cell (p := ⟨pg, 0, none⟩) hpg).trans h.c0, (hb'.cell (p := ⟨pg, 5, none⟩) hpg).trans h.c5, (hb'.block bg (Array.getElem?_eq_some_iff.1 h.bd).1).trans h.bd, h.tb.below hb' (Nat.le_refl _), h.al.below hb'⟩
theorem brd_15 (p : List Int) : (brd p)[15]? = some (.int .i8 (lastK p 1 64)) := rfl
theorem brd_16 (p : List Int) : (brd p)[16]? = some (.int .i8 (lastK p 7 64)) := rfl
theorem ic_check (p : List Int) (tn : Nat) (htn : tn ≤ 1) (pg bg : Nat) (w : World) (hE : EngAt p tn pg bg w) (hpg : pg < w.heap.size) (k0 k1 : Nat) (hk0 : lastK p 1 64 = (k0 : Int)) (hk1 : lastK p 7 64 = (k1 : Int)) (h0 : k0 < 64) (h1 : k1 < 64) :
  Calls Tryz.prog 98 #[.pointer (some ⟨pg, 0, none⟩)] w fun e w' => e = .returned (.bool (engB p tn (if tn = 1 then k1 else k0))) ∧ Below w.heap.size w w' := by
 have hT := lay (da_turn pg _ w hE.c5)
 have c15 := (cell_of_row w bg 15 _ _ _ hE.bd).trans (brd_15 p)
 have c16 := (cell_of_row w bg 16 _ _ _ hE.bd).trans (brd_16 p)
 rw [hk0] at c15
 rw [hk1] at c16
 have hp0 := hE.c0
 have hS : ∀ s : Nat, s < 64 → Calls Tryz.prog 122 #[.pointer (some ⟨pg, 0, none⟩), .slice (some ⟨w.heap.size, 0, none⟩) 1 1] (w.alloc (.cells #[.int .i8 (s : Int)] 70)) fun e w' => e = .returned (.bool (engB p tn s)) ∧ Below w.heap.size w w' := fun s hs => by
  have hb : Below w.heap.size w (w.alloc (.cells #[.int .i8 (s : Int)] 70)) := (Below.refl _ _).alloc (Nat.le_refl _) _
  refine (sa_attacked p tn htn pg bg _ (hE.below hpg hb (Nat.le_refl _)) [s] (by simpa using hs) (by simp) w.heap.size 1 (fun i hi => ?_)).mono ?_
  ·obtain rfl : i = 0 := by simp at hi; omega
   exact (cell_of_row _ _ _ _ _ _ (heap_alloc_new w _)).trans rfl
  ·rintro e w' ⟨rfl, m, rfl⟩
   exact ⟨by simp, below_drewN hb m⟩
 have hSs := lay hS
 have hEs := lay hE
 have hp0s := hp0
 clear hS hE hk0 hk1
 have kb0 : ((k0 : Int) == -1) = false := by simp
 have kb1 : ((k1 : Int) == -1) = false := by simp
 rcases (show tn = 0 ∨ tn = 1 by omega) with rfl | rfl
 all_goals (
  go_enter Tryz.func98, Tryz.ntmps98
  go_wp2_with (first
   | (go_at_call 77; refine Calls.mono hT.out ?_; rintro e1 w1 ⟨rfl, rfl⟩)
   | (go_at_call 122; refine Calls.mono (hSs.out _ (by assumption)) ?_; rintro e2 w2 ⟨rfl, hb2⟩))
  go_ret
  exact ⟨rfl, hb2⟩)
end Go.Proofs.YtnjdgooljnbebaaGreatDoor
namespace Go.Proofs.YtnjdgooljnbebaaGreatDoor
open Go Go.RowKit
open List renaming getElem_toArray → zA, getElem_cons_zero → zB, getElem_cons_succ → zC, setIfInBounds_toArray → zD, set_cons_zero → zE, set_cons_succ → zF
set_option maxHeartbeats 8000000
set_option linter.unusedSimpArgs false
set_option linter.unusedVariables false
set_option maxRecDepth 100000

/-- The cells of a position of the engine. -/
def posC (bg : Nat) (cas : ByteArray) (half full tn ep : Int) (chk : Bool) : Array Value :=
 #[.pointer (some ⟨bg, 0, none⟩), .string cas, .slice none 0 0, .int .i64 half, .int .i64 full, .int .i8 (tn + 1), .int .i8 ep, .bool chk]
theorem dp_position (p : List Int) (tn : Nat) (htn : tn ≤ 1) (bg : Nat) (w : World) (cas : ByteArray) (half full ep : Int) (hbd : w.heap[bg]? = some (.cells (brd p) 144 (0, 0))) (hT : Tabs w) (hA : IntSl w 0 .i8 allL) (k0 k1 : Nat) (hk0 : lastK p 1 64 = (k0 : Int)) (hk1 : lastK p 7 64 = (k1 : Int)) (h0 : k0 < 64) (h1 : k1 < 64) (cb : Bool) (hcb : engB p tn (if tn = 1 then k1 else k0) = cb) :
  Calls Tryz.prog 62 #[.pointer (some ⟨bg, 0, none⟩), .int .i8 ((tn : Int) + 1), .string cas, .int .i8 ep, .int .i64 half, .int .i64 full] w fun e w' => e = .returned (.pointer (some ⟨w.heap.size, 0, none⟩)) ∧ w'.heap[w.heap.size]? = some (.cells (posC bg cas half full tn ep cb) 103 (0, 0)) ∧ Below w.heap.size w w' := by
 have hcbS := show Shut _ from hcb
 go_enter Tryz.func62, Tryz.ntmps62
 go_wp2_with fail
 have hb : Below w.heap.size w (w.alloc (.cells (posC bg cas half full tn ep false) 103)) := (Below.refl _ _).alloc (Nat.le_refl _) _
 have hrow : (w.alloc (.cells (posC bg cas half full tn ep false) 103)).heap[w.heap.size]? = some (.cells (posC bg cas half full tn ep false) 103 (0, 0)) := heap_alloc_new w _
 have hE : EngAt p tn w.heap.size bg (w.alloc (.cells (posC bg cas half full tn ep false) 103)) :=
  ⟨(cell_of_row _ _ 0 _ _ _ hrow).trans rfl, (cell_of_row _ _ 5 _ _ _ hrow).trans rfl, (hb.block bg (Array.getElem?_eq_some_iff.1 hbd).1).trans hbd, hT.below hb (Nat.le_refl _), hA.below hb⟩
 have hic := ic_check p tn htn w.heap.size bg _ hE (by simp) k0 k1 hk0 hk1 h0 h1
 rw [hcb] at hic
 refine hic.mono ?_
 clear hic
 rintro e1 w1 ⟨rfl, hb1⟩
 have hr1 : w1.heap[w.heap.size]? = some (.cells (posC bg cas half full tn ep false) 103 (0, 0)) := (hb1.block w.heap.size (by simp)).trans hrow
 have hc1 : w1.cell? ⟨w.heap.size, 7, none⟩ = some (.bool false) := (cell_of_row _ _ 7 _ _ _ hr1).trans rfl
 have hf1 := frozen_of_row w1 w.heap.size 7 _ _ hr1
 have hbb := hb.trans (hb1.mono (by simp))
 go_wp2_with fail
 go_ret
 refine ⟨rfl, ?_, Below.setCell hbb (p := ⟨w.heap.size, 7, none⟩) (Nat.le_refl _) _⟩
 rw [heap_setCell_same w1 w.heap.size 7 _ _ _ hr1]
 rfl
end Go.Proofs.YtnjdgooljnbebaaGreatDoor
namespace Go.Proofs.YtnjdgooljnbebaaGreatDoor
open Go Go.RowKit
open List renaming getElem_toArray → zA, getElem_cons_zero → zB, getElem_cons_succ → zC, setIfInBounds_toArray → zD, set_cons_zero → zE, set_cons_succ → zF
theorem cnt_zero (p : List Int) (k : Int) : ∀ n, cnt p k n = 0 → ∀ i, i < n → p.getD i 0 ≠ k
 | 0, _, i, hi => by omega
 | n + 1, h, i, hi => by
  by_cases e : p.getD n 0 = k
  ·rw [cnt_yes p k n e] at h; omega
  ·rw [cnt_no p k n e] at h
   by_cases q : i = n
   ·subst q; exact e
   ·exact cnt_zero p k n h i (by omega)
theorem cnt_one (p : List Int) (k : Int) : ∀ n, cnt p k n = 1 → ∀ i j, i < n → j < n → p.getD i 0 = k → p.getD j 0 = k → i = j
 | 0, h, _, _, _, _, _, _ => by simp [cnt] at h
 | n + 1, h, i, j, hi, hj, a, b => by
  by_cases e : p.getD n 0 = k
  ·rw [cnt_yes p k n e] at h
   have hz := cnt_zero p k n (by omega)
   by_cases q : i = n
   ·by_cases r : j = n
    ·omega
    ·exact absurd b (hz j (by omega))
   ·exact absurd a (hz i (by omega))
  ·rw [cnt_no p k n e] at h
   refine cnt_one p k n h i j ?_ ?_ a b
   ·by_cases q : i = n
    ·subst q; exact absurd a e
    ·omega
   ·by_cases q : j = n
    ·subst q; exact absurd b e
    ·omega
theorem lastK_spec (p : List Int) (k : Int) : ∀ n, 0 < cnt p k n → ∃ j : Nat, lastK p k n = (j : Int) ∧ j < n ∧ p.getD j 0 = k
 | 0, h => by simp [cnt] at h
 | n + 1, h => by
  by_cases e : p.getD n 0 = k
  ·exact ⟨n, by simp only [lastK]; rw [if_pos e], by omega, e⟩
  ·rw [cnt_no p k n e] at h
   obtain ⟨j, h1, h2, h3⟩ := lastK_spec p k n h
   exact ⟨j, by simp only [lastK]; rw [if_neg e]; exact h1, by omega, h3⟩
theorem firstK_spec (p : List Int) (k : Int) : ∀ n i, 0 ≤ firstK p k i n → ∃ j : Nat, firstK p k i n = (j : Int) ∧ i ≤ j ∧ j < i + n ∧ p.getD j 0 = k
 | 0, i, h => by simp [firstK] at h
 | n + 1, i, h => by
  rw [firstK] at h ⊢
  by_cases e : p.getD i 0 = k
  ·rw [if_pos e]; exact ⟨i, rfl, by omega, by omega, e⟩
  ·rw [if_neg e] at h ⊢
   obtain ⟨j, h1, h2, h3, h4⟩ := firstK_spec p k n (i + 1) h
   exact ⟨j, h1, by omega, by omega, h4⟩
/-- The one king stands where both find it. -/
theorem king_both (p : List Int) (c : Int) (h1 : cnt p (1 + 6 * c) 64 = 1) : ∃ j : Nat, lastK p (1 + 6 * c) 64 = (j : Int) ∧ kingAt p c = (j : Int) ∧ j < 64 ∧ p.getD j 0 = 1 + 6 * c := by
 obtain ⟨j, a, b, d⟩ := lastK_spec p (1 + 6 * c) 64 (by omega)
 obtain ⟨i, e, f, g, h⟩ := firstK_spec p (1 + 6 * c) 64 0 (kingAt_some p c (by omega))
 obtain rfl := cnt_one p _ 64 h1 i j (by omega) b h d
 exact ⟨i, a, e, b, d⟩
end Go.Proofs.YtnjdgooljnbebaaGreatDoor
namespace Go.Proofs.YtnjdgooljnbebaaGreatDoor
open Go Go.RowKit
open List renaming getElem_toArray → zA, getElem_cons_zero → zB, getElem_cons_succ → zC, setIfInBounds_toArray → zD, set_cons_zero → zE, set_cons_succ → zF
set_option maxHeartbeats 4000000
set_option linter.unusedSimpArgs false
set_option linter.unusedVariables false
set_option maxRecDepth 100000

def runL (way : Int) : Nat → Int → List Int
 | 0, _ => []
 | n + 1, i => i :: runL way n (i + way)
theorem clear_runL (p : List Int) (way : Int) : ∀ n i, clearRun p way n i = true ↔ ∀ x ∈ runL way n i, pcAt p x = 0
 | 0, i => by simp [clearRun, runL]
 | n + 1, i => by
  rw [clear_step, Bool.and_eq_true, decide_eq_true_eq, clear_runL p way n]
  simp [runL]
/-- The squares between j and s, from j on. -/
def backL (j s : Int) : List Int := runL (wayOf j s) (lineN j s) (j + wayOf j s)
def seesB (p : List Int) (j s : Int) : Bool := clearRun p (wayOf j s) (lineN j s) (j + wayOf j s)
def rayOk (up : Bool) (df dr : Int) (s : Nat) : Bool := (pL df dr s).all fun j => backL j s == ((pL df dr s).filter fun q => if up then decide (q < j) else decide (j < q)).reverse
theorem ok_1 : ∀ s < 64, rayOk true 1 1 s = true := by decide +kernel
theorem ok_2 : ∀ s < 64, rayOk false (-1) (-1) s = true := by decide +kernel
theorem ok_3 : ∀ s < 64, rayOk true (-1) 1 s = true := by decide +kernel
theorem ok_4 : ∀ s < 64, rayOk false 1 (-1) s = true := by decide +kernel
theorem ok_5 : ∀ s < 64, rayOk true 0 1 s = true := by decide +kernel
theorem ok_6 : ∀ s < 64, rayOk false 0 (-1) s = true := by decide +kernel
theorem ok_7 : ∀ s < 64, rayOk true 1 0 s = true := by decide +kernel
theorem ok_8 : ∀ s < 64, rayOk false (-1) 0 s = true := by decide +kernel
theorem cut_up (p : List Int) (df dr : Int) (s : Nat) (m : BitVec 64) (hm : pL df dr s = asInts (upL m s)) (ok : rayOk true df dr s = true) (j : Int) : j ∈ cut (pcAt p) (pL df dr s) ↔ j ∈ pL df dr s ∧ seesB p j s = true := by
 have hpw : (pL df dr s).Pairwise (· < ·) := by rw [hm]; exact up_pair m s
 rw [cut_mem (pcAt p) (· < ·) (fun a => by omega) (fun a b => by omega) _ hpw, seesB, clear_runL]
 constructor
 ·rintro ⟨h1, h2⟩
  refine ⟨h1, fun x hx => ?_⟩
  have h3 := List.all_eq_true.1 ok j h1
  rw [beq_iff_eq] at h3
  have hx' : x ∈ backL j s := hx
  rw [h3] at hx'
  simp only [if_true, List.mem_reverse, List.mem_filter, decide_eq_true_eq] at hx'
  exact h2 x hx'.1 hx'.2
 ·rintro ⟨h1, h2⟩
  refine ⟨h1, fun x hx hr => h2 x ?_⟩
  have h3 := List.all_eq_true.1 ok j h1
  rw [beq_iff_eq] at h3
  show x ∈ backL j s
  rw [h3]
  simp only [if_true, List.mem_reverse, List.mem_filter, decide_eq_true_eq]
  exact ⟨hx, hr⟩
theorem cut_down (p : List Int) (df dr : Int) (s : Nat) (m : BitVec 64) (hm : pL df dr s = asInts (downL m s)) (ok : rayOk false df dr s = true) (j : Int) : j ∈ cut (pcAt p) (pL df dr s) ↔ j ∈ pL df dr s ∧ seesB p j s = true := by
 have hpw : (pL df dr s).Pairwise (· > ·) := by rw [hm]; exact down_pair m s
 rw [cut_mem (pcAt p) (· > ·) (fun a => by omega) (fun a b => by omega) _ hpw, seesB, clear_runL]
 constructor
 ·rintro ⟨h1, h2⟩
  refine ⟨h1, fun x hx => ?_⟩
  have h3 := List.all_eq_true.1 ok j h1
  rw [beq_iff_eq] at h3
  have hx' : x ∈ backL j s := hx
  rw [h3] at hx'
  simp only [Bool.false_eq_true, if_false, List.mem_reverse, List.mem_filter, decide_eq_true_eq] at hx'
  exact h2 x hx'.1 hx'.2
 ·rintro ⟨h1, h2⟩
  refine ⟨h1, fun x hx hr => h2 x ?_⟩
  have h3 := List.all_eq_true.1 ok j h1
  rw [beq_iff_eq] at h3
  show x ∈ backL j s
  rw [h3]
  simp only [Bool.false_eq_true, if_false, List.mem_reverse, List.mem_filter, decide_eq_true_eq]
  exact ⟨hx, hr⟩
set_option maxRecDepth 1000000 in
theorem slant_all : ∀ s < 64, ∀ j < 64, (decide (j ≠ s) && inSlant (j : Nat) (s : Nat)) = ((pL 1 1 s).contains ((j : Nat) : Int) || (pL (-1) (-1) s).contains ((j : Nat) : Int) || ((pL (-1) 1 s).contains ((j : Nat) : Int) || (pL 1 (-1) s).contains ((j : Nat) : Int))) := by decide +kernel
set_option maxRecDepth 1000000 in
theorem line_all : ∀ s < 64, ∀ j < 64, (decide (j ≠ s) && inLine (j : Nat) (s : Nat)) = ((pL 1 0 s).contains ((j : Nat) : Int) || (pL (-1) 0 s).contains ((j : Nat) : Int) || ((pL 0 1 s).contains ((j : Nat) : Int) || (pL 0 (-1) s).contains ((j : Nat) : Int))) := by decide +kernel

theorem occ_or (x y : BitVec 64) (j : Nat) : occ (x ||| y) j = (occ x j || occ y j) := BitVec.getLsbD_or
theorem occ_and (x y : BitVec 64) (j : Nat) : occ (x &&& y) j = (occ x j && occ y j) := BitVec.getLsbD_and
theorem occ_not (x : BitVec 64) (j : Nat) (hj : j < 64) : occ (~~~x) j = !occ x j := by
 unfold occ
 rw [BitVec.getLsbD_not]
 have : 63 - j < 64 := by omega
 simp [this]
theorem occ_white (p : List Int) (j : Nat) (hj : j < 64) : occ (whiteB p) j = (decide (1 ≤ p.getD j 0) && decide (p.getD j 0 ≤ 6)) := by
 unfold whiteB
 simp only [occ_or, occ_bb p _ j hj]
 rw [Bool.eq_iff_iff]
 simp only [Bool.or_eq_true, Bool.and_eq_true, decide_eq_true_eq]
 omega
theorem occ_black (p : List Int) (j : Nat) (hj : j < 64) : occ (blackB p) j = (decide (7 ≤ p.getD j 0) && decide (p.getD j 0 ≤ 12)) := by
 unfold blackB
 simp only [occ_or, occ_bb p _ j hj]
 rw [Bool.eq_iff_iff]
 simp only [Bool.or_eq_true, Bool.and_eq_true, decide_eq_true_eq]
 omega
theorem occ_tak (p : List Int) (hp : Pos p) (j : Nat) (hj : j < 64) : occ (takB p) j = decide (p.getD j 0 ≠ 0) := by
 unfold takB empB
 rw [occ_not _ j hj, occ_not _ j hj, occ_or, occ_white p j hj, occ_black p j hj, Bool.not_not]
 have := hp.lo j hj
 have := hp.hi j hj
 rw [Bool.eq_iff_iff]
 simp only [Bool.or_eq_true, Bool.and_eq_true, decide_eq_true_eq]
 omega
theorem tak_free (p : List Int) (hp : Pos p) (s : Nat) : ∀ q : Nat, q < 64 → q ≠ s → (pcAt p q = 0 ↔ occ (takB p) q = false) := fun q hq _ => by
 rw [occ_tak p hp q hq, pcAt_nat]
 simp
theorem dia_occ (p : List Int) (hp : Pos p) (s j : Nat) (hs : s < 64) (hj : j < 64) : occ (diaB (takB p) s) j = true ↔ (j ≠ s ∧ inSlant j s = true) ∧ seesB p j s = true := by
 have hB := tak_free p hp s
 have hsl := slant_all s hs j hj
 unfold occ diaB
 rw [BitVec.getLsbD_or, Bool.or_eq_true, linB_cut _ _ s hs _ hB j hj, linB_cut _ _ s hs _ hB j hj, ← dia_up s hs, ← dia_down s hs, ← ant_up s hs, ← ant_down s hs,
  cut_up p 1 1 s _ (dia_up s hs) (ok_1 s hs), cut_down p (-1) (-1) s _ (dia_down s hs) (ok_2 s hs), cut_up p (-1) 1 s _ (ant_up s hs) (ok_3 s hs), cut_down p 1 (-1) s _ (ant_down s hs) (ok_4 s hs)]
 have e : (j ≠ s ∧ inSlant j s = true) ↔ (((j : Int) ∈ pL 1 1 s ∨ (j : Int) ∈ pL (-1) (-1) s) ∨ ((j : Int) ∈ pL (-1) 1 s ∨ (j : Int) ∈ pL 1 (-1) s)) := by
  rw [Bool.eq_iff_iff] at hsl
  simpa using hsl
 rw [e]
 constructor
 ·rintro ((h | h) | (h | h)) <;> simp [h.1, h.2]
 ·rintro ⟨((h | h) | (h | h)), h2⟩ <;> simp [h, h2]
theorem hv_occ (p : List Int) (hp : Pos p) (s j : Nat) (hs : s < 64) (hj : j < 64) : occ (hvB (takB p) s) j = true ↔ (j ≠ s ∧ inLine j s = true) ∧ seesB p j s = true := by
 have hB := tak_free p hp s
 have hsl := line_all s hs j hj
 unfold occ hvB
 rw [BitVec.getLsbD_or, Bool.or_eq_true, linB_cut _ _ s hs _ hB j hj, linB_cut _ _ s hs _ hB j hj, ← ran_up s hs, ← ran_down s hs, ← fil_up s hs, ← fil_down s hs,
  cut_up p 1 0 s _ (ran_up s hs) (ok_7 s hs), cut_down p (-1) 0 s _ (ran_down s hs) (ok_8 s hs), cut_up p 0 1 s _ (fil_up s hs) (ok_5 s hs), cut_down p 0 (-1) s _ (fil_down s hs) (ok_6 s hs)]
 have e : (j ≠ s ∧ inLine j s = true) ↔ (((j : Int) ∈ pL 1 0 s ∨ (j : Int) ∈ pL (-1) 0 s) ∨ ((j : Int) ∈ pL 0 1 s ∨ (j : Int) ∈ pL 0 (-1) s)) := by
  rw [Bool.eq_iff_iff] at hsl
  simpa using hsl
 rw [e]
 constructor
 ·rintro ((h | h) | (h | h)) <;> simp [h.1, h.2]
 ·rintro ⟨((h | h) | (h | h)), h2⟩ <;> simp [h, h2]
theorem and_ne (x y : BitVec 64) : x &&& y ≠ 0#64 ↔ ∃ j, j < 64 ∧ occ x j = true ∧ occ y j = true := by
 constructor
 ·intro h
  refine Classical.byContradiction fun hn => h (eq_of_squares _ _ fun j hj => ?_)
  constructor
  ·intro h1
   rw [BitVec.getLsbD_and, Bool.and_eq_true] at h1
   exact absurd ⟨j, hj, h1⟩ hn
  ·intro h1; simp at h1
 ·rintro ⟨j, hj, h1, h2⟩ h
  have := congrArg (fun z => occ z j) h
  simp only [occ_and, h1, h2] at this
  simp [occ] at this
theorem occ_kin (p : List Int) (tn t j : Nat) (hj : j < 64) : occ (kinB p tn t) j = decide (p.getD j 0 = (t : Int) + 6 * ((1 - tn : Nat) : Int) + 1) := by
 unfold kinB bbF
 rw [occ_bb p _ j hj]
 congr 2
set_option maxRecDepth 1000000 in
theorem knight_all : ∀ s < 64, ∀ j < 64, occ (tabB bbKnightMovesL s) j = decide (((s : Nat) % 8 - (j : Nat) % 8 : Int) * ((s : Nat) % 8 - (j : Nat) % 8 : Int) + ((s : Nat) / 8 - (j : Nat) / 8 : Int) * ((s : Nat) / 8 - (j : Nat) / 8 : Int) = 5) := by decide +kernel
set_option maxRecDepth 1000000 in
theorem king_all : ∀ s < 64, ∀ j < 64, occ (tabB bbKingMovesL s) j = (decide (j ≠ s) && (decide (((s : Nat) % 8 - (j : Nat) % 8 : Int) * ((s : Nat) % 8 - (j : Nat) % 8 : Int) ≤ 1) && decide (((s : Nat) / 8 - (j : Nat) / 8 : Int) * ((s : Nat) / 8 - (j : Nat) / 8 : Int) ≤ 1))) := by decide +kernel
set_option maxRecDepth 1000000 in
/-- Squares beside one another lie in one line or slant, with nothing between. -/
theorem near_all : ∀ s < 64, ∀ j < 64, (decide (j ≠ s) && (decide (((s : Nat) % 8 - (j : Nat) % 8 : Int) * ((s : Nat) % 8 - (j : Nat) % 8 : Int) ≤ 1) && decide (((s : Nat) / 8 - (j : Nat) / 8 : Int) * ((s : Nat) / 8 - (j : Nat) / 8 : Int) ≤ 1))) = true → ((inLine (j : Nat) (s : Nat) || inSlant (j : Nat) (s : Nat)) && decide (lineN (j : Nat) (s : Nat) = 0)) = true := by decide +kernel
theorem near_sees (p : List Int) (hp : Pos p) (s j : Nat) (hs : s < 64) (hj : j < 64) (h : (decide (j ≠ s) && (decide (((s : Nat) % 8 - (j : Nat) % 8 : Int) * ((s : Nat) % 8 - (j : Nat) % 8 : Int) ≤ 1) && decide (((s : Nat) / 8 - (j : Nat) / 8 : Int) * ((s : Nat) / 8 - (j : Nat) / 8 : Int) ≤ 1))) = true) : occ (diaB (takB p) s ||| hvB (takB p) s) j = true := by
 have hn := near_all s hs j hj h
 rw [Bool.and_eq_true, Bool.or_eq_true, decide_eq_true_eq] at hn
 rw [Bool.and_eq_true, decide_eq_true_eq] at h
 have hsee : seesB p j s = true := by unfold seesB; rw [hn.2]; rfl
 rw [occ_or, Bool.or_eq_true, dia_occ p hp s j hs hj, hv_occ p hp s j hs hj]
 rcases hn.1 with h1 | h1
 ·exact Or.inr ⟨⟨h.1, h1⟩, hsee⟩
 ·exact Or.inl ⟨⟨h.1, h1⟩, hsee⟩
set_option maxRecDepth 1000000 in
theorem maskH : ∀ j < 64, occ 18374403900871474942#64 j = decide (j % 8 ≠ 7) := by decide +kernel
theorem maskA : ∀ j < 64, occ 9187201950435737471#64 j = decide (j % 8 ≠ 0) := by decide +kernel
theorem mask1 : ∀ j < 64, occ 72057594037927935#64 j = decide (8 ≤ j) := by decide +kernel
theorem mask8 : ∀ j < 64, occ 18446744073709551360#64 j = decide (j < 56) := by decide +kernel
theorem occ_shl (x : BitVec 64) (k j : Nat) (hj : j < 64) : occ (x <<< k) j = (decide (j + k < 64) && occ x (j + k)) := by
 unfold occ
 rw [BitVec.getLsbD_shiftLeft]
 by_cases h : j + k < 64
 ·have h1 : 63 - j < 64 := by omega
  have h2 : ¬ 63 - j < k := by omega
  have h3 : 63 - j - k = 63 - (j + k) := by omega
  simp [h, h1, h2, h3]
 ·have h2 : 63 - j < k := by omega
  simp [h, h2]
theorem occ_shr (x : BitVec 64) (k j : Nat) (hj : j < 64) : occ (x >>> k) j = (decide (k ≤ j) && occ x (j - k)) := by
 unfold occ
 rw [BitVec.getLsbD_ushiftRight]
 by_cases h : k ≤ j
 ·have h3 : k + (63 - j) = 63 - (j - k) := by omega
  simp [h, h3]
 ·have h3 : x.getLsbD (k + (63 - j)) = false := BitVec.getLsbD_of_ge _ _ (by omega)
  simp [h, h3]
theorem occ_sq (s j : Nat) (hs : s < 64) (hj : j < 64) : occ (sqBit s) j = decide (j = s) := by
 unfold occ sqBit
 rw [one_bit _ _ (by omega)]
 rw [Bool.eq_iff_iff, decide_eq_true_eq, decide_eq_true_eq]
 omega
theorem paw_occ (p : List Int) (tn s : Nat) (htn : tn ≤ 1) (hs : s < 64) : pawB p tn s ≠ 0#64 ↔ ∃ j, j < 64 ∧ p.getD j 0 = 6 + 6 * ((1 - tn : Nat) : Int) ∧ ((s : Int) % 8 - (j : Int) % 8) * ((s : Int) % 8 - (j : Int) % 8) = 1 ∧ (s : Int) / 8 - (j : Int) / 8 = upOf (1 - tn) := by
 have key : ∀ a b c : Int, a = 1 ∨ a = -1 → a * a = 1 := by rintro a _ _ (rfl | rfl) <;> rfl
 have yek : ∀ a : Int, -7 ≤ a → a ≤ 7 → a * a = 1 → a = 1 ∨ a = -1 := by
  intro a h0 h1 h
  have : a = -7 ∨ a = -6 ∨ a = -5 ∨ a = -4 ∨ a = -3 ∨ a = -2 ∨ a = -1 ∨ a = 0 ∨ a = 1 ∨ a = 2 ∨ a = 3 ∨ a = 4 ∨ a = 5 ∨ a = 6 ∨ a = 7 := by omega
  rcases this with rfl | rfl | rfl | rfl | rfl | rfl | rfl | rfl | rfl | rfl | rfl | rfl | rfl | rfl | rfl <;> simp_all
 obtain rfl | rfl : tn = 0 ∨ tn = 1 := by omega
 ·unfold pawB
  rw [if_pos rfl, and_ne]
  constructor
  ·rintro ⟨j, hj, h1, h2⟩
   rw [occ_sq s j hs hj, decide_eq_true_eq] at h2
   subst h2
   rw [occ_or, occ_shl _ 7 j hj, occ_shl _ 9 j hj, Bool.or_eq_true, Bool.and_eq_true, Bool.and_eq_true, decide_eq_true_eq, decide_eq_true_eq] at h1
   rcases h1 with ⟨a, b⟩ | ⟨a, b⟩
   ·rw [occ_and, occ_and, Bool.and_eq_true, Bool.and_eq_true, maskH _ a, mask1 _ a, decide_eq_true_eq, decide_eq_true_eq] at b
    unfold bbF at b
    rw [occ_bb p _ _ a, decide_eq_true_eq] at b
    exact ⟨j + 7, a, by have := b.1.1; simpa using this, key _ 0 0 (by omega), by unfold upOf; omega⟩
   ·rw [occ_and, occ_and, Bool.and_eq_true, Bool.and_eq_true, maskA _ a, mask1 _ a, decide_eq_true_eq, decide_eq_true_eq] at b
    unfold bbF at b
    rw [occ_bb p _ _ a, decide_eq_true_eq] at b
    exact ⟨j + 9, a, by have := b.1.1; simpa using this, key _ 0 0 (by omega), by unfold upOf; omega⟩
  ·rintro ⟨j, hj, h1, h2, h3⟩
   refine ⟨s, hs, ?_, by rw [occ_sq s s hs hs]; simp⟩
   unfold upOf at h3
   rw [occ_or, occ_shl _ 7 s hs, occ_shl _ 9 s hs, Bool.or_eq_true, Bool.and_eq_true, Bool.and_eq_true, decide_eq_true_eq, decide_eq_true_eq]
   rcases yek _ (by omega) (by omega) h2 with h | h
   ·have e : s + 7 = j := by omega
    left
    rw [e]
    refine ⟨hj, ?_⟩
    rw [occ_and, occ_and, Bool.and_eq_true, Bool.and_eq_true, maskH _ hj, mask1 _ hj, decide_eq_true_eq, decide_eq_true_eq]
    unfold bbF
    rw [occ_bb p _ _ hj, decide_eq_true_eq]
    exact ⟨⟨by simpa using h1, by omega⟩, by omega⟩
   ·have e : s + 9 = j := by omega
    right
    rw [e]
    refine ⟨hj, ?_⟩
    rw [occ_and, occ_and, Bool.and_eq_true, Bool.and_eq_true, maskA _ hj, mask1 _ hj, decide_eq_true_eq, decide_eq_true_eq]
    unfold bbF
    rw [occ_bb p _ _ hj, decide_eq_true_eq]
    exact ⟨⟨by simpa using h1, by omega⟩, by omega⟩
 ·unfold pawB
  rw [if_neg (by omega), and_ne]
  constructor
  ·rintro ⟨j, hj, h1, h2⟩
   rw [occ_sq s j hs hj, decide_eq_true_eq] at h2
   subst h2
   rw [occ_or, occ_shr _ 9 j hj, occ_shr _ 7 j hj, Bool.or_eq_true, Bool.and_eq_true, Bool.and_eq_true, decide_eq_true_eq, decide_eq_true_eq] at h1
   rcases h1 with ⟨a, b⟩ | ⟨a, b⟩
   ·have hj9 : j - 9 < 64 := by omega
    rw [occ_and, occ_and, Bool.and_eq_true, Bool.and_eq_true, maskH _ hj9, mask8 _ hj9, decide_eq_true_eq, decide_eq_true_eq] at b
    unfold bbF at b
    rw [occ_bb p _ _ hj9, decide_eq_true_eq] at b
    exact ⟨j - 9, hj9, by have := b.1.1; simpa using this, key _ 0 0 (by omega), by unfold upOf; omega⟩
   ·have hj7 : j - 7 < 64 := by omega
    rw [occ_and, occ_and, Bool.and_eq_true, Bool.and_eq_true, maskA _ hj7, mask8 _ hj7, decide_eq_true_eq, decide_eq_true_eq] at b
    unfold bbF at b
    rw [occ_bb p _ _ hj7, decide_eq_true_eq] at b
    exact ⟨j - 7, hj7, by have := b.1.1; simpa using this, key _ 0 0 (by omega), by unfold upOf; omega⟩
  ·rintro ⟨j, hj, h1, h2, h3⟩
   refine ⟨s, hs, ?_, by rw [occ_sq s s hs hs]; simp⟩
   unfold upOf at h3
   rw [occ_or, occ_shr _ 9 s hs, occ_shr _ 7 s hs, Bool.or_eq_true, Bool.and_eq_true, Bool.and_eq_true, decide_eq_true_eq, decide_eq_true_eq]
   rcases yek _ (by omega) (by omega) h2 with h | h
   ·have e : s - 9 = j := by omega
    left
    rw [e]
    refine ⟨by omega, ?_⟩
    rw [occ_and, occ_and, Bool.and_eq_true, Bool.and_eq_true, maskH _ hj, mask8 _ hj, decide_eq_true_eq, decide_eq_true_eq]
    unfold bbF
    rw [occ_bb p _ _ hj, decide_eq_true_eq]
    exact ⟨⟨by simpa using h1, by omega⟩, by omega⟩
   ·have e : s - 7 = j := by omega
    right
    rw [e]
    refine ⟨by omega, ?_⟩
    rw [occ_and, occ_and, Bool.and_eq_true, Bool.and_eq_true, maskA _ hj, mask8 _ hj, decide_eq_true_eq, decide_eq_true_eq]
    unfold bbF
    rw [occ_bb p _ _ hj, decide_eq_true_eq]
    exact ⟨⟨by simpa using h1, by omega⟩, by omega⟩
/-- What an attacker of a kind is. -/
theorem hits_kind (p : List Int) (s j t c : Nat) (ht : t < 6) (hc : c ≤ 1) (hx : pcAt p j = (t : Int) + 6 * c + 1) : hitsB p j s =
  (decide (j ≠ s) && (if t = 0 then decide (((s : Int) % 8 - (j : Int) % 8) * ((s : Int) % 8 - (j : Int) % 8) ≤ 1) && decide (((s : Int) / 8 - (j : Int) / 8) * ((s : Int) / 8 - (j : Int) / 8) ≤ 1)
   else if t = 1 then (inLine j s || inSlant j s) && seesB p j s
   else if t = 2 then inLine j s && seesB p j s
   else if t = 3 then inSlant j s && seesB p j s
   else if t = 4 then decide (((s : Int) % 8 - (j : Int) % 8) * ((s : Int) % 8 - (j : Int) % 8) + ((s : Int) / 8 - (j : Int) / 8) * ((s : Int) / 8 - (j : Int) / 8) = 5)
   else decide (((s : Int) % 8 - (j : Int) % 8) * ((s : Int) % 8 - (j : Int) % 8) = 1) && decide ((s : Int) / 8 - (j : Int) / 8 = upOf c))) := by
 have hk : kindOf ((t : Int) + 6 * c + 1) = (t : Int) + 1 := by unfold kindOf; split <;> omega
 have hsd : sideOf ((t : Int) + 6 * c + 1) = (c : Int) := by unfold sideOf; split <;> omega
 rw [hitsB, hx, hk, hsd]
 by_cases hjs : j = s
 ·subst hjs; rw [if_pos (Or.inl rfl)]; simp
 ·rw [if_neg (by omega)]
  have hd : decide (j ≠ s) = true := decide_eq_true hjs
  rw [hd, Bool.true_and]
  show _ = _
  have hsee : clearRun p (wayOf j s) (lineN j s) (j + wayOf j s) = seesB p j s := rfl
  rw [hsee]
  rcases (show t = 0 ∨ t = 1 ∨ t = 2 ∨ t = 3 ∨ t = 4 ∨ t = 5 by omega) with rfl | rfl | rfl | rfl | rfl | rfl
  ·simp
  ·cases inLine j s <;> cases inSlant j s <;> simp
  ·cases inLine j s <;> cases inSlant j s <;> simp
  ·cases inLine j s <;> cases inSlant j s <;> simp
  ·simp
  ·simp
theorem eng_attacked (p : List Int) (hp : Pos p) (tn : Nat) (htn : tn ≤ 1) (s : Nat) (hs : s < 64) : engB p tn s = attackedB p s (1 - (tn : Int)) := by
 have hc1 : ((1 - tn : Nat) : Int) = 1 - (tn : Int) := by omega
 have hatt : attackedB p s (1 - (tn : Int)) = true ↔ ∃ j t : Nat, j < 64 ∧ t < 6 ∧ p.getD j 0 = (t : Int) + 6 * ((1 - tn : Nat) : Int) + 1 ∧ hitsB p j s = true := by
  unfold attackedB
  rw [List.any_eq_true]
  constructor
  ·rintro ⟨j, hj, h⟩
   rw [List.mem_range] at hj
   unfold atkOne at h
   rw [Bool.and_eq_true, Bool.and_eq_true, decide_eq_true_eq, decide_eq_true_eq, pcAt_nat] at h
   have h0 := hp.lo j hj
   have h1 := hp.hi j hj
   have h2 := h.2.1
   have h3 := h.1
   unfold sideOf at h2
   refine ⟨j, (p.getD j 0 - 6 * ((1 - tn : Nat) : Int) - 1).toNat, hj, ?_, ?_, h.2.2⟩
   ·split at h2 <;> omega
   ·split at h2 <;> omega
  ·rintro ⟨j, t, hj, ht, hx, h⟩
   refine ⟨j, List.mem_range.2 hj, ?_⟩
   unfold atkOne
   rw [pcAt_nat, hx, h]
   have : sideOf ((t : Int) + 6 * ((1 - tn : Nat) : Int) + 1) = 1 - (tn : Int) := by unfold sideOf; split <;> omega
   rw [this]
   simp
   omega
 have hot : ∀ j t : Nat, j < 64 → t < 6 → p.getD j 0 = (t : Int) + 6 * ((1 - tn : Nat) : Int) + 1 → (occ (diaB (takB p) s ||| hvB (takB p) s) j = true ∨ occ (tabB bbKnightMovesL s) j = true) → hotB p tn s ≠ 0#64 := by
  intro j t hj ht hx h
  have ho : occ (othB p tn) j = true := by
   unfold othB
   split
   ·rw [occ_white p j hj, Bool.and_eq_true, decide_eq_true_eq, decide_eq_true_eq]; omega
   ·rw [occ_black p j hj, Bool.and_eq_true, decide_eq_true_eq, decide_eq_true_eq]; omega
  intro h0
  have := congrArg (fun z => occ z j) h0
  unfold hotB at this
  simp only [occ_or, occ_and, ho, Bool.and_true] at this
  rw [occ_or] at h
  have hz : occ 0#64 j = false := by simp [occ]
  rw [hz] at this
  rcases h with h | h
  ·rw [h] at this; simp at this
  ·rw [h] at this; simp at this
 have hk : ∀ (m : BitVec 64) (t : Nat), m &&& kinB p tn t ≠ 0#64 ↔ ∃ j, j < 64 ∧ occ m j = true ∧ p.getD j 0 = (t : Int) + 6 * ((1 - tn : Nat) : Int) + 1 := by
  intro m t
  rw [and_ne]
  constructor
  ·rintro ⟨j, hj, h1, h2⟩
   rw [occ_kin p tn t j hj, decide_eq_true_eq] at h2
   exact ⟨j, hj, h1, h2⟩
  ·rintro ⟨j, hj, h1, h2⟩
   exact ⟨j, hj, h1, by rw [occ_kin p tn t j hj, decide_eq_true_eq]; exact h2⟩
 have hup : upOf ((1 - tn : Nat) : Int) = upOf (1 - (tn : Int)) := by rw [hc1]
 have heng : engB p tn s = true ↔ hotB p tn s ≠ 0#64 ∧ ((diaB (takB p) s ||| hvB (takB p) s) &&& kinB p tn 1 ≠ 0#64 ∨ hvB (takB p) s &&& kinB p tn 2 ≠ 0#64 ∨ diaB (takB p) s &&& kinB p tn 3 ≠ 0#64 ∨ tabB bbKnightMovesL s &&& kinB p tn 4 ≠ 0#64 ∨ pawB p tn s ≠ 0#64 ∨ tabB bbKingMovesL s &&& kinB p tn 0 ≠ 0#64) := by
  unfold engB
  by_cases h0 : hotB p tn s = 0#64
  ·simp [h0]
  rw [if_neg h0]
  by_cases h1 : (diaB (takB p) s ||| hvB (takB p) s) &&& kinB p tn 1 ≠ 0#64
  ·simp [h0, h1]
  rw [if_neg h1]
  by_cases h2 : hvB (takB p) s &&& kinB p tn 2 ≠ 0#64
  ·simp [h0, h2]
  rw [if_neg h2]
  by_cases h3 : diaB (takB p) s &&& kinB p tn 3 ≠ 0#64
  ·simp [h0, h3]
  rw [if_neg h3]
  by_cases h4 : tabB bbKnightMovesL s &&& kinB p tn 4 ≠ 0#64
  ·simp [h0, h4]
  rw [if_neg h4]
  by_cases h5 : pawB p tn s ≠ 0#64
  ·simp [h0, h5]
  rw [if_neg h5, decide_eq_true_eq]
  constructor
  ·exact fun h => ⟨h0, Or.inr (Or.inr (Or.inr (Or.inr (Or.inr h))))⟩
  ·rintro ⟨_, h | h | h | h | h | h⟩
   ·exact absurd h h1
   ·exact absurd h h2
   ·exact absurd h h3
   ·exact absurd h h4
   ·exact absurd h h5
   ·exact h
 rw [Bool.eq_iff_iff, hatt, heng, hk, hk, hk, hk, hk, paw_occ p tn s htn hs]
 constructor
 ·rintro ⟨_, ⟨j, hj, h, hx⟩ | ⟨j, hj, h, hx⟩ | ⟨j, hj, h, hx⟩ | ⟨j, hj, h, hx⟩ | ⟨j, hj, hx, h, h2⟩ | ⟨j, hj, h, hx⟩⟩
  ·refine ⟨j, 1, hj, by omega, hx, ?_⟩
   rw [hits_kind p s j 1 (1 - tn) (by omega) (by omega) (by rw [pcAt_nat]; exact hx)]
   rw [occ_or, Bool.or_eq_true, dia_occ p hp s j hs hj, hv_occ p hp s j hs hj] at h
   rcases h with h | h <;> simp [h.1.1, h.1.2, h.2]
  ·refine ⟨j, 2, hj, by omega, hx, ?_⟩
   rw [hits_kind p s j 2 (1 - tn) (by omega) (by omega) (by rw [pcAt_nat]; exact hx)]
   rw [hv_occ p hp s j hs hj] at h
   simp [h.1.1, h.1.2, h.2]
  ·refine ⟨j, 3, hj, by omega, hx, ?_⟩
   rw [hits_kind p s j 3 (1 - tn) (by omega) (by omega) (by rw [pcAt_nat]; exact hx)]
   rw [dia_occ p hp s j hs hj] at h
   simp [h.1.1, h.1.2, h.2]
  ·refine ⟨j, 4, hj, by omega, hx, ?_⟩
   rw [hits_kind p s j 4 (1 - tn) (by omega) (by omega) (by rw [pcAt_nat]; exact hx)]
   rw [knight_all s hs j hj, decide_eq_true_eq] at h
   have hne : j ≠ s := by rintro rfl; simp at h
   simp [h, hne]
  ·refine ⟨j, 5, hj, by omega, by rw [hx]; omega, ?_⟩
   rw [hits_kind p s j 5 (1 - tn) (by omega) (by omega) (by rw [pcAt_nat, hx]; omega)]
   have hne : j ≠ s := by rintro rfl; simp at h
   rw [← hup] at h2
   simp [h, h2, hne]
  ·refine ⟨j, 0, hj, by omega, hx, ?_⟩
   rw [hits_kind p s j 0 (1 - tn) (by omega) (by omega) (by rw [pcAt_nat]; exact hx)]
   rw [king_all s hs j hj] at h
   simpa using h
 ·rintro ⟨j, t, hj, ht, hx, h⟩
  rw [hits_kind p s j t (1 - tn) ht (by omega) (by rw [pcAt_nat]; exact hx), Bool.and_eq_true, decide_eq_true_eq] at h
  obtain ⟨hne, h⟩ := h
  have hd := dia_occ p hp s j hs hj
  have hv := hv_occ p hp s j hs hj
  rcases (show t = 0 ∨ t = 1 ∨ t = 2 ∨ t = 3 ∨ t = 4 ∨ t = 5 by omega) with rfl | rfl | rfl | rfl | rfl | rfl
  ·have h' : (decide (j ≠ s) && (decide (((s : Nat) % 8 - (j : Nat) % 8 : Int) * ((s : Nat) % 8 - (j : Nat) % 8 : Int) ≤ 1) && decide (((s : Nat) / 8 - (j : Nat) / 8 : Int) * ((s : Nat) / 8 - (j : Nat) / 8 : Int) ≤ 1))) = true := by
    rw [decide_eq_true hne, Bool.true_and]; simpa using h
   refine ⟨hot j 0 hj (by omega) hx (Or.inl (near_sees p hp s j hs hj h')), Or.inr (Or.inr (Or.inr (Or.inr (Or.inr ⟨j, hj, ?_, hx⟩))))⟩
   rw [king_all s hs j hj]; exact h'
  ·have h1 : occ (diaB (takB p) s ||| hvB (takB p) s) j = true := by
    simp only [Nat.one_ne_zero, if_false, if_true, Bool.and_eq_true, Bool.or_eq_true] at h
    rw [occ_or, Bool.or_eq_true, hd, hv]
    rcases h.1 with q | q
    ·exact Or.inr ⟨⟨hne, q⟩, h.2⟩
    ·exact Or.inl ⟨⟨hne, q⟩, h.2⟩
   exact ⟨hot j 1 hj (by omega) hx (Or.inl h1), Or.inl ⟨j, hj, h1, hx⟩⟩
  ·have h1 : occ (hvB (takB p) s) j = true := by
    have h : inLine j s = true ∧ seesB p j s = true := by simpa using h
    exact hv.2 ⟨⟨hne, h.1⟩, h.2⟩
   exact ⟨hot j 2 hj (by omega) hx (Or.inl (by rw [occ_or, h1, Bool.or_true])), Or.inr (Or.inl ⟨j, hj, h1, hx⟩)⟩
  ·have h1 : occ (diaB (takB p) s) j = true := by
    have h : inSlant j s = true ∧ seesB p j s = true := by simpa using h
    exact hd.2 ⟨⟨hne, h.1⟩, h.2⟩
   exact ⟨hot j 3 hj (by omega) hx (Or.inl (by rw [occ_or, h1, Bool.true_or])), Or.inr (Or.inr (Or.inl ⟨j, hj, h1, hx⟩))⟩
  ·have h1 : occ (tabB bbKnightMovesL s) j = true := by
    rw [knight_all s hs j hj]
    simpa using h
   exact ⟨hot j 4 hj (by omega) hx (Or.inr h1), Or.inr (Or.inr (Or.inr (Or.inl ⟨j, hj, h1, hx⟩)))⟩
  ·have h1 : ((s : Int) % 8 - (j : Int) % 8) * ((s : Int) % 8 - (j : Int) % 8) = 1 ∧ (s : Int) / 8 - (j : Int) / 8 = upOf ((1 - tn : Nat) : Int) := by simpa using h
   have h' : (decide (j ≠ s) && (decide (((s : Nat) % 8 - (j : Nat) % 8 : Int) * ((s : Nat) % 8 - (j : Nat) % 8 : Int) ≤ 1) && decide (((s : Nat) / 8 - (j : Nat) / 8 : Int) * ((s : Nat) / 8 - (j : Nat) / 8 : Int) ≤ 1))) = true := by
    rw [decide_eq_true hne, Bool.true_and, Bool.and_eq_true, decide_eq_true_eq, decide_eq_true_eq, h1.1, h1.2]
    refine ⟨by omega, ?_⟩
    unfold upOf
    obtain rfl | rfl : tn = 0 ∨ tn = 1 := by omega
    ·decide
    ·decide
   refine ⟨hot j 5 hj (by omega) hx (Or.inl (near_sees p hp s j hs hj h')), Or.inr (Or.inr (Or.inr (Or.inr (Or.inl ⟨j, hj, ?_, h1.1, ?_⟩))))⟩
   ·rw [hx]; omega
   ·rw [h1.2, hup]
/-- The board alone serves as well. -/
theorem take_getD (p : List Int) (i : Nat) (h : i < 64) : (p.take 64).getD i 0 = p.getD i 0 := by
 simp [List.getD, h]
theorem bb_take (p : List Int) (k : Int) : bb (p.take 64) k = bb p k := by
 apply eq_of_squares
 intro j hj
 have h1 := occ_bb (p.take 64) k j hj
 have h2 := occ_bb p k j hj
 unfold occ at h1 h2
 rw [h1, h2, take_getD p j hj]
theorem lastK_take (p : List Int) (k : Int) : ∀ n, n ≤ 64 → lastK (p.take 64) k n = lastK p k n
 | 0, _ => rfl
 | n + 1, h => by
  rw [lastK, lastK, take_getD p n (by omega), lastK_take p k n (by omega)]
theorem brd_take (p : List Int) : brd (p.take 64) = brd p := by
 unfold brd whiteB blackB
 have e : bbF (p.take 64) = bbF p := by funext i; exact bb_take p _
 rw [e, lastK_take p 1 64 (by omega), lastK_take p 7 64 (by omega)]
 simp only [bb_take]
theorem Pos.board {p : List Int} (hp : Pos p) : Brd (p.take 64) where
 len := by simp [hp.len]
 lo := fun s => by
  by_cases h : s < 64
  ·rw [take_getD p s h]; exact hp.lo s h
  ·have e : (p.take 64).getD s 0 = 0 := by
    rw [List.getD_eq_getElem?_getD, List.getElem?_eq_none (by simp; omega)]; rfl
   rw [e]; omega
 hi := fun s => by
  by_cases h : s < 64
  ·rw [take_getD p s h]; exact hp.hi s h
  ·have e : (p.take 64).getD s 0 = 0 := by
    rw [List.getD_eq_getElem?_getD, List.getElem?_eq_none (by simp; omega)]; rfl
   rw [e]; omega
end Go.Proofs.YtnjdgooljnbebaaGreatDoor
namespace Go.Proofs.YtnjdgooljnbebaaGreatDoor
open Go Go.RowKit
open List renaming getElem_toArray → zA, getElem_cons_zero → zB, getElem_cons_succ → zC, setIfInBounds_toArray → zD, set_cons_zero → zE, set_cons_succ → zF
set_option maxHeartbeats 8000000
set_option linter.unusedSimpArgs false
set_option linter.unusedVariables false
set_option maxRecDepth 100000

def letB : Nat → ByteArray
 | 0 => ⟨#[75]⟩
 | 1 => ⟨#[81]⟩
 | 2 => ⟨#[107]⟩
 | _ => ⟨#[113]⟩
def letC : Array Value := #[.string ⟨#[75]⟩, .string ⟨#[81]⟩, .string ⟨#[107]⟩, .string ⟨#[113]⟩]
/-- The rights to castle as a text, without the sign for none. -/
def casTo (c : Int) : Nat → ByteArray
 | 0 => ByteArray.empty
 | n + 1 => if c / 2 ^ n % 2 = 1 then casTo c n ++ letB n else casTo c n
theorem and_small : ∀ n < 16, bits .and .i64 ((n : Nat) : Int) 1 = ((n : Nat) : Int) % 2 := by decide
theorem cas_bit (ca : Int) (k : Nat) (h0 : 0 ≤ ca) (h1 : ca ≤ 15) : bits .and .i64 (ca / 2 ^ k) 1 = ca / 2 ^ k % 2 := by
 obtain ⟨c, rfl⟩ := Int.eq_ofNat_of_zero_le h0
 have e : ((c : Int) / 2 ^ k) = ((c / 2 ^ k : Nat) : Int) := by rw [Int.natCast_ediv, Int.natCast_pow]; rfl
 rw [e]
 exact and_small _ (by have := Nat.div_le_self c (2 ^ k); omega)
theorem letB_size (k : Nat) : (letB k).size = 1 := by unfold letB; split <;> rfl
theorem casTo_size (c : Int) : ∀ k, (casTo c k).size ≤ k
 | 0 => by simp [casTo]
 | k + 1 => by
  have := casTo_size c k
  rw [casTo]
  split
  ·rw [ByteArray.size_append, letB_size]; omega
  ·omega
/-- The rights to castle as a text. -/
def casText (c : Int) : ByteArray := if casTo c 4 = ByteArray.empty then ⟨#[45]⟩ else casTo c 4
theorem wrap_i8 (n : Int) (h0 : -128 ≤ n) (h1 : n ≤ 127) : IntKind.i8.wrap n = n := by
 unfold IntKind.wrap
 simp only [show IntKind.i8.bits = 8 from rfl, show IntKind.i8.signed = true from rfl, Bool.true_and]
 split <;> rename_i h <;> simp at h <;> omega
theorem txt_empty {s : ByteArray} (h : s = ByteArray.empty) : s.toList.isEmpty = true := by rw [h, ByteArray.toList_eq]; rfl
theorem txt_some {s : ByteArray} (h : ¬ s = ByteArray.empty) : s.toList.isEmpty = false := by
 rw [ByteArray.toList_eq]
 cases hd : s.data.toList with
 | nil => exact absurd (ByteArray.ext (Array.ext' (by rw [hd]; rfl))) h
 | cons a l => rfl
/-- The engine's position, in block pg, its board in block bg. -/
structure EngPos (p : List Int) (tn pg bg : Nat) (w : World) : Prop where
 ps : w.heap[pg]? = some (.cells (posC bg (casText (p.getD 65 0)) (p.getD 67 0) (p.getD 68 0) tn (p.getD 66 0) (checkedB p tn)) 103 (0, 0))
 bd : w.heap[bg]? = some (.cells (brd p) 144 (0, 0))
theorem EngPos.below {p : List Int} {tn pg bg : Nat} {w w' : World} (h : EngPos p tn pg bg w) (hb : Below w.heap.size w w') : EngPos p tn pg bg w' :=
 ⟨(hb.block _ (Array.getElem?_eq_some_iff.1 h.ps).1).trans h.ps, (hb.block _ (Array.getElem?_eq_some_iff.1 h.bd).1).trans h.bd⟩
/-- The board's cells of a position. -/
def brdV (p : List Int) : List Value := (p.take 64).map (Value.int .i64)
theorem range64 {p : List Int} {g : Nat} {w : World} (h : PosAt p g w) : w.rangeAt g 0 (brdV p) := fun j v hj => by
 unfold brdV at hj
 have hr := h.range j v
 simp only [List.getElem?_map, List.getElem?_take] at hj
 simp only [List.getElem?_map] at hr
 by_cases hlt : j < 64
 ·rw [if_pos hlt] at hj; exact hr hj
 ·rw [if_neg hlt] at hj; simp at hj
theorem info64 (p : List Int) (hl : p.length = 69) : (Tryz.prog.info? 22).map (·.size) = some (brdV p).length := by
 unfold brdV
 rw [List.length_map, List.length_take, hl]; kernel_rfl
/-- Both kings, and whether the side to move is in check. -/
theorem Sound.kings {p : List Int} {tn : Nat} (hs : Sound p tn) : ∃ k0 k1 : Nat, lastK p 1 64 = (k0 : Int) ∧ lastK p 7 64 = (k1 : Int) ∧ k0 < 64 ∧ k1 < 64 ∧ kingAt p 0 = (k0 : Int) ∧ kingAt p 1 = (k1 : Int) ∧ engB p tn (if tn = 1 then k1 else k0) = checkedB p tn := by
 obtain ⟨k0, a0, b0, c0, -⟩ := king_both p 0 hs.n1
 obtain ⟨k1, a1, b1, c1, -⟩ := king_both p 1 hs.n7
 refine ⟨k0, k1, a0, a1, c0, c1, b0, b1, ?_⟩
 have h1 := hs.one
 rw [eng_attacked p hs.pos tn h1 _ (by split <;> omega)]
 unfold checkedB
 obtain rfl | rfl : tn = 0 ∨ tn = 1 := by omega
 ·rw [show ((0 : Nat) : Int) = 0 from rfl, b0]; simp
 ·rw [show ((1 : Nat) : Int) = 1 from rfl, b1]; simp
theorem pz_board (p : List Int) (hp : Pos p) (w : World) (hA : IntSl w 0 .i8 allL) :
  Calls Tryz.prog 63 #[.agg (brdV p).toArray] w fun e' w' => ∃ g, e' = .returned (.pointer (some ⟨g, 0, none⟩)) ∧ w.heap.size ≤ g ∧ w'.heap[g]? = some (.cells (brd (p.take 64)) 144 (0, 0)) ∧ Below w.heap.size w w' := bp_board (p.take 64) hp.board w hA
theorem dp_pos (p : List Int) (tn : Nat) (hs : Sound p tn) (bg : Nat) (w : World) (cas : ByteArray) (half full ep tv : Int) (htv : tv = (tn : Int) + 1) (hbd : w.heap[bg]? = some (.cells (brd (p.take 64)) 144 (0, 0))) (hT : Tabs w) (hA : IntSl w 0 .i8 allL) :
  Calls Tryz.prog 62 #[.pointer (some ⟨bg, 0, none⟩), .int .i8 tv, .string cas, .int .i8 ep, .int .i64 half, .int .i64 full] w fun e w' => e = .returned (.pointer (some ⟨w.heap.size, 0, none⟩)) ∧ w'.heap[w.heap.size]? = some (.cells (posC bg cas half full tn ep (checkedB p tn)) 103 (0, 0)) ∧ Below w.heap.size w w' := by
 subst htv
 rw [brd_take] at hbd
 obtain ⟨k0, k1, h0, h1, l0, l1, -, -, hc⟩ := hs.kings
 exact dp_position p tn hs.one bg w cas half full ep hbd hT hA k0 k1 h0 h1 l0 l1 _ hc
theorem pz_end {p : List Int} {tn g : Nat} {w w0 w1 w2 : World} {cas : ByteArray} (hc : casText (p.getD 65 0) = cas) (hB : Below w.heap.size w w0) (hg : w0.heap.size ≤ g) (hbd : w1.heap[g]? = some (.cells (brd (p.take 64)) 144 (0, 0))) (hb1 : Below w0.heap.size w0 w1)
  (hps : w2.heap[w1.heap.size]? = some (.cells (posC g cas (p.getD 67 0) (p.getD 68 0) tn (p.getD 66 0) (checkedB p tn)) 103 (0, 0))) (hb2 : Below w1.heap.size w1 w2) : ∃ pg bg, Value.pointer (some ⟨w1.heap.size, 0, none⟩) = .pointer (some ⟨pg, 0, none⟩) ∧ w.heap.size ≤ pg ∧ EngPos p tn pg bg w2 ∧ Below w.heap.size w w2 := by
 have s1 := hB.size
 have s2 := hb1.size
 rw [brd_take] at hbd
 refine ⟨w1.heap.size, g, rfl, by omega, ⟨by rw [hc]; exact hps, (hb2.block g (Array.getElem?_eq_some_iff.1 hbd).1).trans hbd⟩, hB.trans ((hb1.trans (hb2.mono s2)).mono s1)⟩
theorem pz_position (p : List Int) (tn : Nat) (hs : Sound p tn) (hh : p.getD 67 0 ≤ 1000000) (hf : p.getD 68 0 ≤ 1000000) (w : World) (hT : Tabs w) (hA : IntSl w 0 .i8 allL) :
  Calls Tryz.prog 29 #[.agg (ints p)] w fun e w' => ∃ v, e = .returned v ∧ ∃ pg bg, v = .pointer (some ⟨pg, 0, none⟩) ∧ w.heap.size ≤ pg ∧ EngPos p tn pg bg w' ∧ Below w.heap.size w w' := by
 have hl := hs.pos.len
 have hrow0 : PosAt p w.heap.size (w.alloc (.cells (ints p) 24)) := heap_alloc_new w (.cells (ints p) 24)
 have hBW : Below w.heap.size w (w.alloc (.cells (ints p) 24)) := (Below.refl _ _).alloc (Nat.le_refl _) _
 have hTs := lay (hT.below hBW (Nat.le_refl _))
 have hAs := lay (hA.below hBW)
 clear hT hA
 have c64 := hrow0.cell 64 (by omega)
 have c65 := hrow0.cell 65 (by omega)
 rw [hs.turn] at c64
 have hss := lay hs
 have hfin := lay (fun (cas : ByteArray) (w0 w1 w2 : World) (g : Nat) hc hB hg hbd hb1 hps hb2 => pz_end (p := p) (tn := tn) (g := g) (w := w) (w0 := w0) (w1 := w1) (w2 := w2) (cas := cas) hc hB hg hbd hb1 hps hb2)
 have hdp := lay (fun (bg : Nat) (W : World) (cas : ByteArray) (half full ep tv : Int) htv hbd hT hA => dp_pos p tn hs bg W cas half full ep tv htv hbd hT hA)
 have hbp := lay (fun (W : World) hA => pz_board p hs.pos W hA)
 have hr0 := lay hrow0
 have hB0 := lay hBW
 have hcT := lay (show casText (p.getD 65 0) = if casTo (p.getD 65 0) 4 = ByteArray.empty then ⟨#[45]⟩ else casTo (p.getD 65 0) 4 from rfl)
 have hinf := lay (info64 p hl)
 clear hs hrow0 hBW
 go_enter Tryz.func29, Tryz.ntmps29
 go_upto_region 1 with (fail)
 generalize w.alloc (.cells (ints p) 24) = W at *
 have hca0 := hss.out.ca0
 have hca1 := hss.out.ca1
 have hcell := lay (fun (V : World) (hV : PosAt p w.heap.size V) => hV.cell 65 (by omega))
 obtain ⟨ep0, ep1⟩ := hss.out.ep
 have hhf0 := hss.out.hf
 have hfu0 := hss.out.fu
 have hce6 := lay (fun (V : World) (hV : PosAt p w.heap.size V) => hV.cell 66 (by omega))
 have hce7 := lay (fun (V : World) (hV : PosAt p w.heap.size V) => hV.cell 67 (by omega))
 have hce8 := lay (fun (V : World) (hV : PosAt p w.heap.size V) => hV.cell 68 (by omega))
 generalize p.getD 65 0 = ca at *
 generalize p.getD 66 0 = ep at *
 generalize p.getD 67 0 = ha at *
 generalize p.getD 68 0 = fu at *
 rcases (show tn = 0 ∨ tn = 1 by have := hss.out.one; omega) with rfl | rfl
 ·go_wp2_with fail
  have hW1 : (W.alloc (.cells letC 9)).heap[W.heap.size]? = some (.cells letC 9 (0, 0)) := heap_alloc_new W _
  have hBl : Below W.heap.size W (W.alloc (.cells letC 9)) := (Below.refl W.heap.size W).alloc (Nat.le_refl _) _
  have hP1 : PosAt p w.heap.size (W.alloc (.cells letC 9)) := hr0.out.below hBl
  have hS0 := lay (show PosAt p w.heap.size (W.alloc (.cells letC 9)).drew ∧ Tabs (W.alloc (.cells letC 9)).drew ∧ IntSl (W.alloc (.cells letC 9)).drew 0 .i8 allL from ⟨hP1, hTs.out.below hBl.drew (Nat.le_refl _), hAs.out.below hBl.drew⟩)
  have hBr := lay (show Below w.heap.size w (W.alloc (.cells letC 9)).drew from hB0.out.trans (hBl.drew.mono hB0.out.size))
  have c65w := hcell.out _ hP1
  clear c65 hBl
  change Code.wp _ _ _ _ (W.alloc (.cells letC 9))
  generalize W.alloc (.cells letC 9) = W1 at *
  go_loopw [4, 12] (fun t i wr => ∃ k : Nat, k ≤ 4 ∧ i = .int .i64 (k : Int) ∧ t = .string (casTo ca k) ∧ wr = W1) (fun _ i _ => (4 - intOf i).toNat)
  case atStart => exact ⟨0, by omega, rfl, rfl, rfl⟩
  case round =>
   obtain ⟨k, hk, rfl, rfl, rfl⟩ := hrel
   have hlet : ∀ j : Nat, j < 4 → wr.cell? ⟨W.heap.size, j, none⟩ = some (.string (letB j)) := fun j hj => by
    rw [cell_of_row _ _ _ _ _ _ hW1]
    rcases (show j = 0 ∨ j = 1 ∨ j = 2 ∨ j = 3 by omega) with rfl | rfl | rfl | rfl <;> rfl
   by_cases hlt : k < 4
   ·have hc := hlet k hlt
    have hcas := lay (show casTo ca (k + 1) = if ca / 2 ^ k % 2 = 1 then casTo ca k ++ letB k else casTo ca k from rfl)
    have hbit := cas_bit ca k hca0 hca1
    have hz1 := casTo_size ca k
    have hz2 := letB_size k
    have hls := lay hlet
    clear hlet
    by_cases hb : ca / 2 ^ k % 2 = 1
    ·have hb1 : (bits .and .i64 (ca / 2 ^ k) 1 == 1) = true := by rw [hbit, hb]; rfl
     have hbs := lay hb
     clear hbit hb
     have hsz : ((casTo ca k).size : Int) + (letB k).size ≤ 9223372036854775807 := by omega
     go_wp2_with fail
     go_roundw
     case rel => exact ⟨k + 1, by omega, by go_num, by rw [hcas.out, if_pos hbs.out], trivial⟩
     case measure => simp [intOf]; omega
    ·have hb1 : (bits .and .i64 (ca / 2 ^ k) 1 == 1) = false := by rw [hbit]; simpa using hb
     have hbs := lay hb
     clear hbit hb
     go_wp2_with fail
     go_roundw
     case rel => exact ⟨k + 1, by omega, by go_num, by rw [hcas.out, if_neg hbs.out], trivial⟩
     case measure => simp [intOf]; omega
   ·obtain rfl : k = 4 := by omega
    have c64w := (PosAt.below (p := p) (w := wr) (w' := wr) hP1 (Below.refl _ _)).cell 64 (by omega)
    have c66 := hce6.out _ hP1
    have c67 := hce7.out _ hP1
    have c68 := hce8.out _ hP1
    rw [hss.out.turn] at c64w
    have b1 : decide (ca < 0) = false := decide_eq_false (by omega)
    have b2 : decide (15 < ca) = false := decide_eq_false (by omega)
    have b3 : decide (ep < -1) = false := decide_eq_false (by omega)
    have b4 : decide (63 < ep) = false := decide_eq_false (by omega)
    have b5 : decide (ha < 0) = false := decide_eq_false (by omega)
    have b6 : decide (fu < 0) = false := decide_eq_false (by omega)
    have hwep : IntKind.i8.wrap ep = ep := wrap_i8 ep (by omega) (by omega)
    clear hlet
    by_cases hc : casTo ca 4 = ByteArray.empty
    ·have hcb : (casTo ca 4).toList.isEmpty = true := txt_empty hc
     have hcs := lay hc
     clear hc
     go_wp2_with fail
     clear c64w c66 c67 c68 c65w
     refine wp_region_held_drew (S := fun w' : World => PosAt p w.heap.size w' ∧ Tabs w' ∧ IntSl w' 0 .i8 allL) (by kernel_rfl) ⟨hS0.out.1, hS0.out.2.1, hS0.out.2.2⟩ (fun hHeld => ?_)
     refine takeC (i := 0) rfl hHeld ?_
     try simp only [zA, zB, zC, Act.put, zD, zE, zF]
     refine' takeA (i := 1) (v := _) rfl (yieldsIf_load_mid (by rfl) _ _ rfl _ _ rfl _ _ (fun _ h => range64 h.1) Tryz.underlying22 rfl hinf.out) hHeld ?_
     try simp only [zA, zB, zC, Act.put, zD, zE, zF]
     refine takeC (i := 3) rfl hHeld ?_
     try simp only [zA, zB, zC, Act.put, zD, zE, zF]
     refine takeC (i := 4) rfl hHeld ?_
     try simp only [zA, zB, zC, Act.put, zD, zE, zF]
     refine takeC (i := 5) rfl hHeld ?_
     try simp only [zA, zB, zC, Act.put, zD, zE, zF]
     refine takeA (i := 6) (v := ?vpa0_6_6) rfl (Or.inl ⟨by rfl, ?ypa0_6_6⟩) hHeld ?rpa0_6_6
     case ypa0_6_6 => (intro wq hSw; have hq := hce6.out _ hSw.1; clear hSw; go_simp; try with_reducible rfl)
     try simp only [zA, zB, zC, Act.put, zD, zE, zF]
     refine takeC (i := 7) rfl hHeld ?_
     try simp only [zA, zB, zC, Act.put, zD, zE, zF]
     refine takeC (i := 8) rfl hHeld ?_
     try simp only [zA, zB, zC, Act.put, zD, zE, zF]
     refine takeA (i := 9) (v := ?vpa0_9_9) rfl (Or.inl ⟨by rfl, ?ypa0_9_9⟩) hHeld ?rpa0_9_9
     case ypa0_9_9 => (intro wq hSw; have hq := hce7.out _ hSw.1; clear hSw; go_simp; try with_reducible rfl)
     try simp only [zA, zB, zC, Act.put, zD, zE, zF]
     refine takeC (i := 10) rfl hHeld ?_
     try simp only [zA, zB, zC, Act.put, zD, zE, zF]
     refine takeA (i := 11) (v := ?vpa0_11_11) rfl (Or.inl ⟨by rfl, ?ypa0_11_11⟩) hHeld ?rpa0_11_11
     case ypa0_11_11 => (intro wq hSw; have hq := hce8.out _ hSw.1; clear hSw; go_simp; try with_reducible rfl)
     try simp only [zA, zB, zC, Act.put, zD, zE, zF]
     refine wpAnyH_ready (rs := [2]) (by kernel_rfl) (by simp) ?_
     refine AllReadyH.cons rfl (fun K hK => ?_) AllReadyH.nil
     try simp only [zA, zB, zC, Act.put, zD, zE, zF]
     try rw [if_pos (by rfl)]
     go_simp
     refine (hbp.out _ hHeld.2.2).mono ?_
     rintro e1 w1 ⟨g, rfl, hge, hbd, hb1⟩
     go_wp2_with fail
     refine hK.out _ _ (⟨hHeld.1.below hb1, hHeld.2.1.below hb1 (Nat.le_refl _), hHeld.2.2.below hb1⟩) (fun hHeld => ?_)
     clear hK K
     try simp only [zA, zB, zC, Act.put, zD, zE, zF]
     refine wpAnyH_ready (rs := [12]) (by kernel_rfl) (by simp) ?_
     refine AllReadyH.cons rfl (fun K hK => ?_) AllReadyH.nil
     try simp only [zA, zB, zC, Act.put, zD, zE, zF]
     try rw [if_pos (by rfl)]
     go_simp
     refine (hdp.out g w1 (⟨#[45]⟩) ha fu ep 1 rfl hbd hHeld.2.1 hHeld.2.2).mono ?_
     rintro e2 w2 ⟨rfl, hps, hb2⟩
     go_wp2_with fail
     refine hK.out _ _ (⟨hHeld.1.below hb2, hHeld.2.1.below hb2 (Nat.le_refl _), hHeld.2.2.below hb2⟩) (fun hHeld => ?_)
     clear hK K
     try simp only [zA, zB, zC, Act.put, zD, zE, zF]
     refine takeC (i := 13) rfl hHeld ?_
     try simp only [zA, zB, zC, Act.put, zD, zE, zF]
     refine wpAnyH_done (by kernel_rfl) ?_ _
     have hE := lay (hfin.out (⟨#[45]⟩) _ w1 w2 g (by rw [hcT.out, if_pos hcs.out]) hBr.out hge hbd hb1 hps hb2)
     clear hHeld hbd hb1 hps hb2 hge
     go_wp2_with fail
     go_ret
     exact ⟨_, rfl, hE.out⟩
    ·have hcb : (casTo ca 4).toList.isEmpty = false := txt_some hc
     have hcs := lay hc
     clear hc
     go_wp2_with fail
     clear c64w c66 c67 c68 c65w
     refine wp_region_held_drew (S := fun w' : World => PosAt p w.heap.size w' ∧ Tabs w' ∧ IntSl w' 0 .i8 allL) (by kernel_rfl) ⟨hS0.out.1, hS0.out.2.1, hS0.out.2.2⟩ (fun hHeld => ?_)
     refine takeC (i := 0) rfl hHeld ?_
     try simp only [zA, zB, zC, Act.put, zD, zE, zF]
     refine' takeA (i := 1) (v := _) rfl (yieldsIf_load_mid (by rfl) _ _ rfl _ _ rfl _ _ (fun _ h => range64 h.1) Tryz.underlying22 rfl hinf.out) hHeld ?_
     try simp only [zA, zB, zC, Act.put, zD, zE, zF]
     refine takeC (i := 3) rfl hHeld ?_
     try simp only [zA, zB, zC, Act.put, zD, zE, zF]
     refine takeC (i := 4) rfl hHeld ?_
     try simp only [zA, zB, zC, Act.put, zD, zE, zF]
     refine takeC (i := 5) rfl hHeld ?_
     try simp only [zA, zB, zC, Act.put, zD, zE, zF]
     refine takeA (i := 6) (v := ?vpb0_6_6) rfl (Or.inl ⟨by rfl, ?ypb0_6_6⟩) hHeld ?rpb0_6_6
     case ypb0_6_6 => (intro wq hSw; have hq := hce6.out _ hSw.1; clear hSw; go_simp; try with_reducible rfl)
     try simp only [zA, zB, zC, Act.put, zD, zE, zF]
     refine takeC (i := 7) rfl hHeld ?_
     try simp only [zA, zB, zC, Act.put, zD, zE, zF]
     refine takeC (i := 8) rfl hHeld ?_
     try simp only [zA, zB, zC, Act.put, zD, zE, zF]
     refine takeA (i := 9) (v := ?vpb0_9_9) rfl (Or.inl ⟨by rfl, ?ypb0_9_9⟩) hHeld ?rpb0_9_9
     case ypb0_9_9 => (intro wq hSw; have hq := hce7.out _ hSw.1; clear hSw; go_simp; try with_reducible rfl)
     try simp only [zA, zB, zC, Act.put, zD, zE, zF]
     refine takeC (i := 10) rfl hHeld ?_
     try simp only [zA, zB, zC, Act.put, zD, zE, zF]
     refine takeA (i := 11) (v := ?vpb0_11_11) rfl (Or.inl ⟨by rfl, ?ypb0_11_11⟩) hHeld ?rpb0_11_11
     case ypb0_11_11 => (intro wq hSw; have hq := hce8.out _ hSw.1; clear hSw; go_simp; try with_reducible rfl)
     try simp only [zA, zB, zC, Act.put, zD, zE, zF]
     refine wpAnyH_ready (rs := [2]) (by kernel_rfl) (by simp) ?_
     refine AllReadyH.cons rfl (fun K hK => ?_) AllReadyH.nil
     try simp only [zA, zB, zC, Act.put, zD, zE, zF]
     try rw [if_pos (by rfl)]
     go_simp
     refine (hbp.out _ hHeld.2.2).mono ?_
     rintro e1 w1 ⟨g, rfl, hge, hbd, hb1⟩
     go_wp2_with fail
     refine hK.out _ _ (⟨hHeld.1.below hb1, hHeld.2.1.below hb1 (Nat.le_refl _), hHeld.2.2.below hb1⟩) (fun hHeld => ?_)
     clear hK K
     try simp only [zA, zB, zC, Act.put, zD, zE, zF]
     refine wpAnyH_ready (rs := [12]) (by kernel_rfl) (by simp) ?_
     refine AllReadyH.cons rfl (fun K hK => ?_) AllReadyH.nil
     try simp only [zA, zB, zC, Act.put, zD, zE, zF]
     try rw [if_pos (by rfl)]
     go_simp
     refine (hdp.out g w1 (casTo ca 4) ha fu ep 1 rfl hbd hHeld.2.1 hHeld.2.2).mono ?_
     rintro e2 w2 ⟨rfl, hps, hb2⟩
     go_wp2_with fail
     refine hK.out _ _ (⟨hHeld.1.below hb2, hHeld.2.1.below hb2 (Nat.le_refl _), hHeld.2.2.below hb2⟩) (fun hHeld => ?_)
     clear hK K
     try simp only [zA, zB, zC, Act.put, zD, zE, zF]
     refine takeC (i := 13) rfl hHeld ?_
     try simp only [zA, zB, zC, Act.put, zD, zE, zF]
     refine wpAnyH_done (by kernel_rfl) ?_ _
     have hE := lay (hfin.out (casTo ca 4) _ w1 w2 g (by rw [hcT.out, if_neg hcs.out]) hBr.out hge hbd hb1 hps hb2)
     clear hHeld hbd hb1 hps hb2 hge
     go_wp2_with fail
     go_ret
     exact ⟨_, rfl, hE.out⟩
 ·go_wp2_with fail
  have hW1 : (W.alloc (.cells letC 9)).heap[W.heap.size]? = some (.cells letC 9 (0, 0)) := heap_alloc_new W _
  have hBl : Below W.heap.size W (W.alloc (.cells letC 9)) := (Below.refl W.heap.size W).alloc (Nat.le_refl _) _
  have hP1 : PosAt p w.heap.size (W.alloc (.cells letC 9)) := hr0.out.below hBl
  have hS0 := lay (show PosAt p w.heap.size (W.alloc (.cells letC 9)).drew ∧ Tabs (W.alloc (.cells letC 9)).drew ∧ IntSl (W.alloc (.cells letC 9)).drew 0 .i8 allL from ⟨hP1, hTs.out.below hBl.drew (Nat.le_refl _), hAs.out.below hBl.drew⟩)
  have hBr := lay (show Below w.heap.size w (W.alloc (.cells letC 9)).drew from hB0.out.trans (hBl.drew.mono hB0.out.size))
  have c65w := hcell.out _ hP1
  clear c65 hBl
  change Code.wp _ _ _ _ (W.alloc (.cells letC 9))
  generalize W.alloc (.cells letC 9) = W1 at *
  go_loopw [4, 12] (fun t i wr => ∃ k : Nat, k ≤ 4 ∧ i = .int .i64 (k : Int) ∧ t = .string (casTo ca k) ∧ wr = W1) (fun _ i _ => (4 - intOf i).toNat)
  case atStart => exact ⟨0, by omega, rfl, rfl, rfl⟩
  case round =>
   obtain ⟨k, hk, rfl, rfl, rfl⟩ := hrel
   have hlet : ∀ j : Nat, j < 4 → wr.cell? ⟨W.heap.size, j, none⟩ = some (.string (letB j)) := fun j hj => by
    rw [cell_of_row _ _ _ _ _ _ hW1]
    rcases (show j = 0 ∨ j = 1 ∨ j = 2 ∨ j = 3 by omega) with rfl | rfl | rfl | rfl <;> rfl
   by_cases hlt : k < 4
   ·have hc := hlet k hlt
    have hcas := lay (show casTo ca (k + 1) = if ca / 2 ^ k % 2 = 1 then casTo ca k ++ letB k else casTo ca k from rfl)
    have hbit := cas_bit ca k hca0 hca1
    have hz1 := casTo_size ca k
    have hz2 := letB_size k
    have hls := lay hlet
    clear hlet
    by_cases hb : ca / 2 ^ k % 2 = 1
    ·have hb1 : (bits .and .i64 (ca / 2 ^ k) 1 == 1) = true := by rw [hbit, hb]; rfl
     have hbs := lay hb
     clear hbit hb
     have hsz : ((casTo ca k).size : Int) + (letB k).size ≤ 9223372036854775807 := by omega
     go_wp2_with fail
     go_roundw
     case rel => exact ⟨k + 1, by omega, by go_num, by rw [hcas.out, if_pos hbs.out], trivial⟩
     case measure => simp [intOf]; omega
    ·have hb1 : (bits .and .i64 (ca / 2 ^ k) 1 == 1) = false := by rw [hbit]; simpa using hb
     have hbs := lay hb
     clear hbit hb
     go_wp2_with fail
     go_roundw
     case rel => exact ⟨k + 1, by omega, by go_num, by rw [hcas.out, if_neg hbs.out], trivial⟩
     case measure => simp [intOf]; omega
   ·obtain rfl : k = 4 := by omega
    have c64w := (PosAt.below (p := p) (w := wr) (w' := wr) hP1 (Below.refl _ _)).cell 64 (by omega)
    have c66 := hce6.out _ hP1
    have c67 := hce7.out _ hP1
    have c68 := hce8.out _ hP1
    rw [hss.out.turn] at c64w
    have b1 : decide (ca < 0) = false := decide_eq_false (by omega)
    have b2 : decide (15 < ca) = false := decide_eq_false (by omega)
    have b3 : decide (ep < -1) = false := decide_eq_false (by omega)
    have b4 : decide (63 < ep) = false := decide_eq_false (by omega)
    have b5 : decide (ha < 0) = false := decide_eq_false (by omega)
    have b6 : decide (fu < 0) = false := decide_eq_false (by omega)
    have hwep : IntKind.i8.wrap ep = ep := wrap_i8 ep (by omega) (by omega)
    clear hlet
    by_cases hc : casTo ca 4 = ByteArray.empty
    ·have hcb : (casTo ca 4).toList.isEmpty = true := txt_empty hc
     have hcs := lay hc
     clear hc
     go_wp2_with fail
     clear c64w c66 c67 c68 c65w
     refine wp_region_held_drew (S := fun w' : World => PosAt p w.heap.size w' ∧ Tabs w' ∧ IntSl w' 0 .i8 allL) (by kernel_rfl) ⟨hS0.out.1, hS0.out.2.1, hS0.out.2.2⟩ (fun hHeld => ?_)
     refine takeC (i := 0) rfl hHeld ?_
     try simp only [zA, zB, zC, Act.put, zD, zE, zF]
     refine' takeA (i := 1) (v := _) rfl (yieldsIf_load_mid (by rfl) _ _ rfl _ _ rfl _ _ (fun _ h => range64 h.1) Tryz.underlying22 rfl hinf.out) hHeld ?_
     try simp only [zA, zB, zC, Act.put, zD, zE, zF]
     refine takeC (i := 3) rfl hHeld ?_
     try simp only [zA, zB, zC, Act.put, zD, zE, zF]
     refine takeC (i := 4) rfl hHeld ?_
     try simp only [zA, zB, zC, Act.put, zD, zE, zF]
     refine takeC (i := 5) rfl hHeld ?_
     try simp only [zA, zB, zC, Act.put, zD, zE, zF]
     refine takeA (i := 6) (v := ?vpa1_6_6) rfl (Or.inl ⟨by rfl, ?ypa1_6_6⟩) hHeld ?rpa1_6_6
     case ypa1_6_6 => (intro wq hSw; have hq := hce6.out _ hSw.1; clear hSw; go_simp; try with_reducible rfl)
     try simp only [zA, zB, zC, Act.put, zD, zE, zF]
     refine takeC (i := 7) rfl hHeld ?_
     try simp only [zA, zB, zC, Act.put, zD, zE, zF]
     refine takeC (i := 8) rfl hHeld ?_
     try simp only [zA, zB, zC, Act.put, zD, zE, zF]
     refine takeA (i := 9) (v := ?vpa1_9_9) rfl (Or.inl ⟨by rfl, ?ypa1_9_9⟩) hHeld ?rpa1_9_9
     case ypa1_9_9 => (intro wq hSw; have hq := hce7.out _ hSw.1; clear hSw; go_simp; try with_reducible rfl)
     try simp only [zA, zB, zC, Act.put, zD, zE, zF]
     refine takeC (i := 10) rfl hHeld ?_
     try simp only [zA, zB, zC, Act.put, zD, zE, zF]
     refine takeA (i := 11) (v := ?vpa1_11_11) rfl (Or.inl ⟨by rfl, ?ypa1_11_11⟩) hHeld ?rpa1_11_11
     case ypa1_11_11 => (intro wq hSw; have hq := hce8.out _ hSw.1; clear hSw; go_simp; try with_reducible rfl)
     try simp only [zA, zB, zC, Act.put, zD, zE, zF]
     refine wpAnyH_ready (rs := [2]) (by kernel_rfl) (by simp) ?_
     refine AllReadyH.cons rfl (fun K hK => ?_) AllReadyH.nil
     try simp only [zA, zB, zC, Act.put, zD, zE, zF]
     try rw [if_pos (by rfl)]
     go_simp
     refine (hbp.out _ hHeld.2.2).mono ?_
     rintro e1 w1 ⟨g, rfl, hge, hbd, hb1⟩
     go_wp2_with fail
     refine hK.out _ _ (⟨hHeld.1.below hb1, hHeld.2.1.below hb1 (Nat.le_refl _), hHeld.2.2.below hb1⟩) (fun hHeld => ?_)
     clear hK K
     try simp only [zA, zB, zC, Act.put, zD, zE, zF]
     refine wpAnyH_ready (rs := [12]) (by kernel_rfl) (by simp) ?_
     refine AllReadyH.cons rfl (fun K hK => ?_) AllReadyH.nil
     try simp only [zA, zB, zC, Act.put, zD, zE, zF]
     try rw [if_pos (by rfl)]
     go_simp
     refine (hdp.out g w1 (⟨#[45]⟩) ha fu ep 2 rfl hbd hHeld.2.1 hHeld.2.2).mono ?_
     rintro e2 w2 ⟨rfl, hps, hb2⟩
     go_wp2_with fail
     refine hK.out _ _ (⟨hHeld.1.below hb2, hHeld.2.1.below hb2 (Nat.le_refl _), hHeld.2.2.below hb2⟩) (fun hHeld => ?_)
     clear hK K
     try simp only [zA, zB, zC, Act.put, zD, zE, zF]
     refine takeC (i := 13) rfl hHeld ?_
     try simp only [zA, zB, zC, Act.put, zD, zE, zF]
     refine wpAnyH_done (by kernel_rfl) ?_ _
     have hE := lay (hfin.out (⟨#[45]⟩) _ w1 w2 g (by rw [hcT.out, if_pos hcs.out]) hBr.out hge hbd hb1 hps hb2)
     clear hHeld hbd hb1 hps hb2 hge
     go_wp2_with fail
     go_ret
     exact ⟨_, rfl, hE.out⟩
    ·have hcb : (casTo ca 4).toList.isEmpty = false := txt_some hc
     have hcs := lay hc
     clear hc
     go_wp2_with fail
     clear c64w c66 c67 c68 c65w
     refine wp_region_held_drew (S := fun w' : World => PosAt p w.heap.size w' ∧ Tabs w' ∧ IntSl w' 0 .i8 allL) (by kernel_rfl) ⟨hS0.out.1, hS0.out.2.1, hS0.out.2.2⟩ (fun hHeld => ?_)
     refine takeC (i := 0) rfl hHeld ?_
     try simp only [zA, zB, zC, Act.put, zD, zE, zF]
     refine' takeA (i := 1) (v := _) rfl (yieldsIf_load_mid (by rfl) _ _ rfl _ _ rfl _ _ (fun _ h => range64 h.1) Tryz.underlying22 rfl hinf.out) hHeld ?_
     try simp only [zA, zB, zC, Act.put, zD, zE, zF]
     refine takeC (i := 3) rfl hHeld ?_
     try simp only [zA, zB, zC, Act.put, zD, zE, zF]
     refine takeC (i := 4) rfl hHeld ?_
     try simp only [zA, zB, zC, Act.put, zD, zE, zF]
     refine takeC (i := 5) rfl hHeld ?_
     try simp only [zA, zB, zC, Act.put, zD, zE, zF]
     refine takeA (i := 6) (v := ?vpb1_6_6) rfl (Or.inl ⟨by rfl, ?ypb1_6_6⟩) hHeld ?rpb1_6_6
     case ypb1_6_6 => (intro wq hSw; have hq := hce6.out _ hSw.1; clear hSw; go_simp; try with_reducible rfl)
     try simp only [zA, zB, zC, Act.put, zD, zE, zF]
     refine takeC (i := 7) rfl hHeld ?_
     try simp only [zA, zB, zC, Act.put, zD, zE, zF]
     refine takeC (i := 8) rfl hHeld ?_
     try simp only [zA, zB, zC, Act.put, zD, zE, zF]
     refine takeA (i := 9) (v := ?vpb1_9_9) rfl (Or.inl ⟨by rfl, ?ypb1_9_9⟩) hHeld ?rpb1_9_9
     case ypb1_9_9 => (intro wq hSw; have hq := hce7.out _ hSw.1; clear hSw; go_simp; try with_reducible rfl)
     try simp only [zA, zB, zC, Act.put, zD, zE, zF]
     refine takeC (i := 10) rfl hHeld ?_
     try simp only [zA, zB, zC, Act.put, zD, zE, zF]
     refine takeA (i := 11) (v := ?vpb1_11_11) rfl (Or.inl ⟨by rfl, ?ypb1_11_11⟩) hHeld ?rpb1_11_11
     case ypb1_11_11 => (intro wq hSw; have hq := hce8.out _ hSw.1; clear hSw; go_simp; try with_reducible rfl)
     try simp only [zA, zB, zC, Act.put, zD, zE, zF]
     refine wpAnyH_ready (rs := [2]) (by kernel_rfl) (by simp) ?_
     refine AllReadyH.cons rfl (fun K hK => ?_) AllReadyH.nil
     try simp only [zA, zB, zC, Act.put, zD, zE, zF]
     try rw [if_pos (by rfl)]
     go_simp
     refine (hbp.out _ hHeld.2.2).mono ?_
     rintro e1 w1 ⟨g, rfl, hge, hbd, hb1⟩
     go_wp2_with fail
     refine hK.out _ _ (⟨hHeld.1.below hb1, hHeld.2.1.below hb1 (Nat.le_refl _), hHeld.2.2.below hb1⟩) (fun hHeld => ?_)
     clear hK K
     try simp only [zA, zB, zC, Act.put, zD, zE, zF]
     refine wpAnyH_ready (rs := [12]) (by kernel_rfl) (by simp) ?_
     refine AllReadyH.cons rfl (fun K hK => ?_) AllReadyH.nil
     try simp only [zA, zB, zC, Act.put, zD, zE, zF]
     try rw [if_pos (by rfl)]
     go_simp
     refine (hdp.out g w1 (casTo ca 4) ha fu ep 2 rfl hbd hHeld.2.1 hHeld.2.2).mono ?_
     rintro e2 w2 ⟨rfl, hps, hb2⟩
     go_wp2_with fail
     refine hK.out _ _ (⟨hHeld.1.below hb2, hHeld.2.1.below hb2 (Nat.le_refl _), hHeld.2.2.below hb2⟩) (fun hHeld => ?_)
     clear hK K
     try simp only [zA, zB, zC, Act.put, zD, zE, zF]
     refine takeC (i := 13) rfl hHeld ?_
     try simp only [zA, zB, zC, Act.put, zD, zE, zF]
     refine wpAnyH_done (by kernel_rfl) ?_ _
     have hE := lay (hfin.out (casTo ca 4) _ w1 w2 g (by rw [hcT.out, if_neg hcs.out]) hBr.out hge hbd hb1 hps hb2)
     clear hHeld hbd hb1 hps hb2 hge
     go_wp2_with fail
     go_ret
     exact ⟨_, rfl, hE.out⟩
end Go.Proofs.YtnjdgooljnbebaaGreatDoor
