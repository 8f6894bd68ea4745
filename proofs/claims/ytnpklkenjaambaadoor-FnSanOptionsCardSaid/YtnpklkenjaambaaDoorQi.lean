/- The other texts that a text of a piece's move may stand for: through the package's door and the thin package. For every text of at most 200 bytes that begins with a piece's letter and has its parts in one way, without a promotion. -/
import Derived.Test.YtnpklkenjaambaaDoorQh
namespace Go.Proofs.YtnpklkenjaambaaDoor
open Go Go.RowKit
set_option maxHeartbeats 8000000
set_option linter.unusedSimpArgs false
set_option linter.unusedVariables false
set_option maxRecDepth 100000

/-- The three texts. -/
def optsL (l : List (List UInt8)) : List (List UInt8) :=
  [l.getD 0 [] ++ l.getD 3 [] ++ l.getD 4 [] ++ l.getD 5 [] ++ l.getD 6 [] ++ l.getD 7 [], l.getD 0 [] ++ l.getD 2 [] ++ l.getD 3 [] ++ l.getD 4 [] ++ l.getD 5 [] ++ l.getD 6 [] ++ l.getD 7 [], l.getD 0 [] ++ l.getD 1 [] ++ l.getD 3 [] ++ l.getD 4 [] ++ l.getD 5 [] ++ l.getD 6 [] ++ l.getD 7 []]
theorem eight_sum (T : List UInt8) (b c d : Nat) (hb : b ≤ 1) (hc : c ≤ 1) (hd : d ≤ 1) (hpr : prL T (1 + b + c + d + 2) = 0) : ∃ p0 p1 p2 p3 p4 p5 p6 p7, eightL T b c d = [p0, p1, p2, p3, p4, p5, p6, p7] ∧ p0 = T.take 1 ∧ p0.length + p1.length + p2.length + p3.length + p4.length + p5.length + p6.length + p7.length ≤ 1000 := by
  refine ⟨_, _, _, _, _, _, _, _, rfl, rfl, ?_⟩
  rw [hpr]
  simp only [List.length_take, List.length_drop, List.length_nil]
  omega
theorem qi_door (T : List UInt8) (b c d : Nat) (hl : T.length ≤ 200) (hb : b ≤ 1) (hc : c ≤ 1) (hd : d ≤ 1) (hp : atB pcsL T 0 = true) (hok : okC T 1 b c d = true) (hpr : prL T (1 + b + c + d + 2) = 0) (htl : tailB (T.drop (1 + b + c + d + 2)) = true) (w : World) :
    Calls Tryd.prog 21 #[.string (bs T)] w fun e w' => ∃ v, e = .returned (.tuple #[v, .nilIface]) ∧ w'.ownsRow w.heap.size 9 1 v 3 (strsV (optsL (eightL T b c d))) ∧ Below w.heap.size w w' := by
  have hparts := qlay (qg_parts T b c d hl hb hc hd hp hok hpr htl)
  obtain ⟨p0, p1, p2, p3, p4, p5, p6, p7, he, h0, hsum⟩ := eight_sum T b c d hb hc hd hpr
  have hne : p0 ≠ [] := by
    rw [h0]
    have : 0 < T.length := by simp [atB] at hp; exact hp.1
    intro h
    have hh := congrArg List.length h
    rw [List.length_take, List.length_nil] at hh
    omega
  rw [he] at hparts ⊢
  have hopt := qlay (qh_options p0 p1 p2 p3 p4 p5 p6 p7 hne (by omega))
  clear hp hok hpr htl he h0 hne hsum
  have hL : optsL [p0, p1, p2, p3, p4, p5, p6, p7] = [p0 ++ p3 ++ p4 ++ p5 ++ p6 ++ p7, p0 ++ p2 ++ p3 ++ p4 ++ p5 ++ p6 ++ p7, p0 ++ p1 ++ p3 ++ p4 ++ p5 ++ p6 ++ p7] := rfl
  rw [← hL] at hopt
  clear hL
  generalize hll : [p0, p1, p2, p3, p4, p5, p6, p7] = l at *
  have hlen : l.length = 8 := by rw [← hll]; rfl
  clear hll
  generalize optsL l = os at *
  go_enter Tryd.func21, Tryd.ntmps21
  go_wp2_with fail
  refine (hparts.out _).mono ?_
  rintro e w1 ⟨rfl, q1⟩
  have q1 := qlay q1
  go_wp2_with (first
    | ((with_reducible refine at_new_row (strsR l) ?_ ?_ ?_ ?_ ?_ ?_); rw [strsR_size, hlen]; kernel_rfl; rw [strsR_size, hlen]; rfl; exact strsR_one _; rfl; rfl; intro W2 rW2 hC2; have rW3 := qlay rW2; have q2 := qlay (q1.out.trans (hC2.mono q1.out.size)); clear q1 hC2 rW2)
    | ((with_reducible refine at_load_row rW3.out Tryd.underlying70 rfl ?_ ?_ ?_); rw [strsR_size, hlen]; kernel_rfl; rfl))
  refine (hopt.out _).mono ?_
  rintro e w3 ⟨v, rfl, hown, q3⟩
  have q4 := q2.out.trans (q3.mono q2.out.size)
  have hown2 := own_mono hown q2.out.size
  obtain ⟨va, vk, vc, rfl⟩ := own_slice hown
  clear q2 q3 hown rW3
  go_wp2_with fail
  go_ret2
  exact ⟨_, rfl, hown2, q4⟩
end Go.Proofs.YtnpklkenjaambaaDoor
