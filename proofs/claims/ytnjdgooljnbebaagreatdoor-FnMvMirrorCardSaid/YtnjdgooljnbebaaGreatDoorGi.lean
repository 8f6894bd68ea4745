/- Bytes as a text. For every list of bytes.
zzIndex and zzContains at a text of one byte. For every text of at most 1000 bytes.
CanCastle: whether a text of rights holds the letter of a colour and a side. For every text of at most 1000 bytes. -/
import Derived.Test.YtnjdgooljnbebaaGreatDoorGa
import Derived.Test.YtnjdgooljnbebaaGreatDoorShelf
import Derived.Test.YtnjdgooljnbebaaGreatDoorGe
namespace Go.Proofs.YtnjdgooljnbebaaGreatDoor
open Go Go.RowKit
set_option linter.unusedSimpArgs false
set_option linter.unusedVariables false
set_option maxRecDepth 100000

/-- Bytes as a text. -/
def bs (l : List UInt8) : ByteArray := ⟨l.toArray⟩
theorem bs_of (s : ByteArray) : s = bs s.data.toList := by cases s; simp [bs]
theorem bs_size (l : List UInt8) : (bs l).size = l.length := by simp [bs, ByteArray.size]
theorem bs_extract (l : List UInt8) (a b : Nat) : (bs l).extract a b = bs ((l.take b).drop a) := by
  apply ByteArray.ext
  apply Array.ext'
  simp [bs, ByteArray.data_extract, List.extract_eq_take_drop, List.drop_take]
theorem bs_list (l : List UInt8) : (bs l).toList = l := by
  rw [ByteArray.toList_eq]
  simp [bs]
end Go.Proofs.YtnjdgooljnbebaaGreatDoor
namespace Go.Proofs.YtnjdgooljnbebaaGreatDoor
open Go Go.RowKit
set_option maxHeartbeats 4000000
set_option linter.unusedSimpArgs false
set_option linter.unusedVariables false
set_option maxRecDepth 100000

/-- The place of a byte, -1 without one. -/
def idxB : List UInt8 → UInt8 → Int
  | [], _ => -1
  | x :: l, c => if x = c then 0 else if idxB l c < 0 then -1 else idxB l c + 1
theorem idxB_range : ∀ (l : List UInt8) (c : UInt8), -1 ≤ idxB l c ∧ idxB l c < l.length
  | [], c => by simp [idxB]
  | x :: l, c => by
    have := idxB_range l c
    rw [idxB]
    simp only [List.length_cons]
    split
    · omega
    · split <;> omega
/-- From the place k on. -/
def idxFrom (z : Int) (k : Nat) : Int := if z < 0 then -1 else z + k
theorem ix_index (l : List UInt8) (c : UInt8) (w : World) (hl : l.length ≤ 1000) :
    Calls Tryz.prog 133 #[.string (bs l), .string (bs [c])] w fun e w' => e = .returned (.int .i64 (idxB l c)) ∧ w = w' := by
  have hsz := bs_size l
  have hs1 : (bs [c]).size = 1 := rfl
  go_enter Tryz.func133, Tryz.ntmps133
  go_wp2_with fail
  go_loop [5] (fun i => ∃ k : Nat, k ≤ l.length ∧ i = .int .i64 (k : Int) ∧ idxB l c = idxFrom (idxB (l.drop k) c) k) (fun i => (l.length - (intOf i).toNat))
  case atStart => exact ⟨0, by omega, rfl, by have := (idxB_range l c).1; rw [List.drop_zero, idxFrom]; split <;> omega⟩
  case round =>
    obtain ⟨k, hk, rfl, ht⟩ := hrel
    by_cases hk' : k < l.length
    · have hex : (bs l).extract k (k + 1) = bs [l.getD k 0] := by
        rw [bs_extract, List.take_add_one, List.drop_append_of_le_length (by simp; omega)]
        simp [hk']
      have hdr : l.drop k = l.getD k 0 :: l.drop (k + 1) := by rw [List.drop_eq_getElem_cons hk']; simp [hk']
      rw [hdr] at ht
      generalize l.getD k 0 = x at *
      have hts := show Shut _ from ht
      clear ht hdr
      by_cases hc : x = c
      · subst hc
        have hR : Shut (idxB l x = (k : Int)) := by
          show _ = _
          rw [hts.out, idxB, if_pos rfl, idxFrom, if_neg (by omega)]; omega
        go_wp2_with fail
        go_ret
        exact ⟨by rw [hR.out]; rfl, rfl⟩
      · have hcf : ((bs [x]).toList == (bs [c]).toList) = false := by
          rw [bs_list, bs_list]
          simp [hc]
        have hR : Shut (idxB l c = idxFrom (idxB (l.drop (k + 1)) c) (k + 1)) := by
          show _ = _
          rw [hts.out, idxB, if_neg hc]
          unfold idxFrom
          by_cases h : idxB (l.drop (k + 1)) c < 0
          · rw [if_pos h, if_pos (by omega), if_pos h]
          · rw [if_neg h, if_neg (by omega), if_neg h]
            omega
        go_wp2_with fail
        go_round
        case rel => exact ⟨k + 1, by omega, by go_num, hR.out⟩
        case measure => simp [intOf]; omega
    · obtain rfl : k = l.length := by omega
      have hR : Shut (idxB l c = -1) := by
        show _ = _
        rw [ht, List.drop_length, idxB, idxFrom, if_pos (by omega)]
      clear ht
      go_wp2_with fail
      go_ret
      exact ⟨by rw [hR.out]; rfl, rfl⟩
theorem ix_contains (l : List UInt8) (c : UInt8) (w : World) (hl : l.length ≤ 1000) :
    Calls Tryz.prog 103 #[.string (bs l), .string (bs [c])] w fun e w' => e = .returned (.bool (decide (0 ≤ idxB l c))) ∧ w = w' := by
  go_enter Tryz.func103, Tryz.ntmps103
  go_wp2_with (go_at_call 133; refine (ix_index l c _ hl).mono ?_; rintro e1 w1 ⟨rfl, rfl⟩)
  go_ret
  exact ⟨rfl, rfl⟩
end Go.Proofs.YtnjdgooljnbebaaGreatDoor
namespace Go.Proofs.YtnjdgooljnbebaaGreatDoor
open Go Go.RowKit
set_option maxHeartbeats 4000000
set_option linter.unusedSimpArgs false
set_option linter.unusedVariables false
set_option maxRecDepth 100000

/-- The letter of a right. -/
def rightC (k : Nat) : UInt8 := if k = 0 then 75 else if k = 1 then 81 else if k = 2 then 107 else 113
theorem up_k : Lib.toUpperA [107] = [75] := by decide
theorem up_q : Lib.toUpperA [113] = [81] := by decide
theorem cc_upper (c d : UInt8) (h : Lib.toUpperA [c] = [d]) (hc : c.toNat < 128) (w : World) :
    Calls Tryz.prog 102 #[.string (bs [c])] w fun e w' => e = .returned (.string (bs [d])) ∧ Below w.heap.size w w' := by
  have := Tryz.strings_ToUpper_ascii (bs [c]) w (by rw [bs_size]; show 1 ≤ _; omega) (fun j b hj => by
    cases j with
    | zero => simp [bs] at hj; subst hj; exact hc
    | succ j => simp [bs] at hj)
  have e : (bs [c]).data.toList = [c] := rfl
  rw [e, h] at this
  exact this
theorem cc_can (l : List UInt8) (hl : l.length ≤ 1000) (k : Nat) (hk : k < 4) (a b : Int) (ha : a = (k : Int) / 2 + 1) (hb : b = (k : Int) % 2 + 1) (w : World) :
    Calls Tryz.prog 79 #[.string (bs l), .int .i8 a, .int .i64 b] w fun e w' => e = .returned (.bool (decide (0 ≤ idxB l (rightC k)))) ∧ Below w.heap.size w w' := by
  subst ha; subst hb
  have h1 := lay (cc_upper 107 75 up_k (by decide) w)
  have h2 := lay (cc_upper 113 81 up_q (by decide) w)
  have hc := lay (fun c V => ix_contains l c V hl)
  have b0 : (⟨#[107]⟩ : ByteArray) = bs [107] := rfl
  have b1 : (⟨#[113]⟩ : ByteArray) = bs [113] := rfl
  rcases (show k = 0 ∨ k = 1 ∨ k = 2 ∨ k = 3 by omega) with rfl | rfl | rfl | rfl
  · go_enter Tryz.func79, Tryz.ntmps79
    go_wp2_with fail
    refine h1.out.mono ?_
    rintro e1 w1 ⟨rfl, hb1⟩
    go_wp2_with fail
    refine (hc.out 75 _).mono ?_
    rintro e2 w2 ⟨rfl, rfl⟩
    go_wp2_with fail
    go_ret
    exact ⟨rfl, hb1⟩
  · go_enter Tryz.func79, Tryz.ntmps79
    go_wp2_with fail
    refine h2.out.mono ?_
    rintro e1 w1 ⟨rfl, hb1⟩
    go_wp2_with fail
    refine (hc.out 81 _).mono ?_
    rintro e2 w2 ⟨rfl, rfl⟩
    go_wp2_with fail
    go_ret
    exact ⟨rfl, hb1⟩
  · go_enter Tryz.func79, Tryz.ntmps79
    go_wp2_with fail
    refine (hc.out 107 _).mono ?_
    rintro e2 w2 ⟨rfl, rfl⟩
    go_wp2_with fail
    go_ret
    exact ⟨rfl, Below.refl _ _⟩
  · go_enter Tryz.func79, Tryz.ntmps79
    go_wp2_with fail
    refine (hc.out 113 _).mono ?_
    rintro e2 w2 ⟨rfl, rfl⟩
    go_wp2_with fail
    go_ret
    exact ⟨rfl, Below.refl _ _⟩
theorem bit_all : ∀ a < 16, ∀ k < 4, decide (0 ≤ idxB (casText ((a : Nat) : Int)).data.toList (rightC k)) = decide (a / 2 ^ k % 2 = 1) := by decide +kernel
theorem cas_bs : ∀ a < 16, (casText ((a : Nat) : Int)).data.toList.length ≤ 4 := by decide +kernel
/-- The rights of a position. -/
theorem cc_right (ca : Int) (h0 : 0 ≤ ca) (h1 : ca ≤ 15) (k : Nat) (hk : k < 4) (a b : Int) (ha : a = (k : Int) / 2 + 1) (hb : b = (k : Int) % 2 + 1) (w : World) :
    Calls Tryz.prog 79 #[.string (casText ca), .int .i8 a, .int .i64 b] w fun e w' => e = .returned (.bool (decide (ca.toNat / 2 ^ k % 2 = 1))) ∧ Below w.heap.size w w' := by
  obtain ⟨n, rfl⟩ := Int.eq_ofNat_of_zero_le h0
  have hl := cas_bs n (by omega)
  have hb2 := bit_all n (by omega) k hk
  have h := cc_can (casText ((n : Nat) : Int)).data.toList (by omega) k hk a b ha hb w
  rw [← bs_of, hb2] at h
  exact h
end Go.Proofs.YtnjdgooljnbebaaGreatDoor
