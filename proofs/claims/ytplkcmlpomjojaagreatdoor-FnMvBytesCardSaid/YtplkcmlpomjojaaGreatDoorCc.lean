/- CanCastle: whether a text of rights holds the letter of a colour and a side. For every text of at most 1000 bytes. -/
import Derived.Test.YtplkcmlpomjojaaGreatDoorIx
import Derived.Test.YtplkcmlpomjojaaGreatDoorShelf
import Derived.Test.YtplkcmlpomjojaaGreatDoorGe
namespace Go.Proofs.YtplkcmlpomjojaaGreatDoor
open Go Go.RowKit
set_option maxHeartbeats 4000000
set_option linter.unusedSimpArgs false
set_option linter.unusedVariables false
set_option maxRecDepth 100000

/-- The letter of a right. -/
def rightC (k : Nat) : UInt8 := if k = 0 then 75 else if k = 1 then 81 else if k = 2 then 107 else 113
theorem up_k : Lib.toUpperA [107] = [75] := by decide
theorem up_q : Lib.toUpperA [113] = [81] := by decide
theorem cc_upper (c d : UInt8) (h : Lib.toUpperA [c] = [d]) (hc : c.toNat < 128) (w : World) :
    Calls Tryz.prog 114 #[.string (bs [c])] w fun e w' => e = .returned (.string (bs [d])) ∧ Below w.heap.size w w' := by
  have := Tryz.strings_ToUpper_ascii (bs [c]) w (by rw [bs_size]; show 1 ≤ _; omega) (fun j b hj => by
    cases j with
    | zero => simp [bs] at hj; subst hj; exact hc
    | succ j => simp [bs] at hj)
  have e : (bs [c]).data.toList = [c] := rfl
  rw [e, h] at this
  exact this
theorem cc_can (l : List UInt8) (hl : l.length ≤ 1000) (k : Nat) (hk : k < 4) (a b : Int) (ha : a = (k : Int) / 2 + 1) (hb : b = (k : Int) % 2 + 1) (w : World) :
    Calls Tryz.prog 79 #[.string (bs l), .int .i8 a, .int .i64 b] w fun e w' => e = .returned (.bool (decide (0 ≤ idxB l (rightC k)))) ∧ Below w.heap.size w w' := by
  subst ha; subst hb
  have h1 := lay (cc_upper 107 75 up_k (by decide) w)
  have h2 := lay (cc_upper 113 81 up_q (by decide) w)
  have hc := lay (fun c V => ix_contains l c V hl)
  have b0 : (⟨#[107]⟩ : ByteArray) = bs [107] := rfl
  have b1 : (⟨#[113]⟩ : ByteArray) = bs [113] := rfl
  rcases (show k = 0 ∨ k = 1 ∨ k = 2 ∨ k = 3 by omega) with rfl | rfl | rfl | rfl
  · go_enter Tryz.func79, Tryz.ntmps79
    go_wp2_with fail
    refine h1.out.mono ?_
    rintro e1 w1 ⟨rfl, hb1⟩
    go_wp2_with fail
    refine (hc.out 75 _).mono ?_
    rintro e2 w2 ⟨rfl, rfl⟩
    go_wp2_with fail
    go_ret
    exact ⟨rfl, hb1⟩
  · go_enter Tryz.func79, Tryz.ntmps79
    go_wp2_with fail
    refine h2.out.mono ?_
    rintro e1 w1 ⟨rfl, hb1⟩
    go_wp2_with fail
    refine (hc.out 81 _).mono ?_
    rintro e2 w2 ⟨rfl, rfl⟩
    go_wp2_with fail
    go_ret
    exact ⟨rfl, hb1⟩
  · go_enter Tryz.func79, Tryz.ntmps79
    go_wp2_with fail
    refine (hc.out 107 _).mono ?_
    rintro e2 w2 ⟨rfl, rfl⟩
    go_wp2_with fail
    go_ret
    exact ⟨rfl, Below.refl _ _⟩
  · go_enter Tryz.func79, Tryz.ntmps79
    go_wp2_with fail
    refine (hc.out 113 _).mono ?_
    rintro e2 w2 ⟨rfl, rfl⟩
    go_wp2_with fail
    go_ret
    exact ⟨rfl, Below.refl _ _⟩
theorem bit_all : ∀ a < 16, ∀ k < 4, decide (0 ≤ idxB (casText ((a : Nat) : Int)).data.toList (rightC k)) = decide (a / 2 ^ k % 2 = 1) := by decide +kernel
theorem cas_bs : ∀ a < 16, (casText ((a : Nat) : Int)).data.toList.length ≤ 4 := by decide +kernel
/-- The rights of a position. -/
theorem cc_right (ca : Int) (h0 : 0 ≤ ca) (h1 : ca ≤ 15) (k : Nat) (hk : k < 4) (a b : Int) (ha : a = (k : Int) / 2 + 1) (hb : b = (k : Int) % 2 + 1) (w : World) :
    Calls Tryz.prog 79 #[.string (casText ca), .int .i8 a, .int .i64 b] w fun e w' => e = .returned (.bool (decide (ca.toNat / 2 ^ k % 2 = 1))) ∧ Below w.heap.size w w' := by
  obtain ⟨n, rfl⟩ := Int.eq_ofNat_of_zero_le h0
  have hl := cas_bs n (by omega)
  have hb2 := bit_all n (by omega) k hk
  have h := cc_can (casText ((n : Nat) : Int)).data.toList (by omega) k hk a b ha hb w
  rw [← bs_of, hb2] at h
  exact h
end Go.Proofs.YtplkcmlpomjojaaGreatDoor
