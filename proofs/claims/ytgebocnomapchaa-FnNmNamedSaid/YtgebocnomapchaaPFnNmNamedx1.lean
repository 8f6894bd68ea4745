-- PRINTED BY print.sh 35421559b90ae4d0a3588c463048766b98c2df88dd9212a6774a882060cdf62d: not written by this session
import Derived.Test.YtgebocnomapchaaPFnNmNamedx0
namespace Go.Proofs.Ytgebocnomapchaa.PFnNmNamed
open Go.RowKit Go.Proofs.YtgebocnomapchaaW.PrintWords Go.Proofs.YtgebocnomapchaaW.PrintLast Go.Proofs.YtgebocnomapchaaW.PrintMore
attribute [local go_sem] max2_int min2_int max_two min_two max_three min_three max_four min_four   -- for this text's walks alone
set_option linter.unusedVariables false
set_option linter.unusedSimpArgs false

/-! ### chess_NewSquare: function 37 -/
def chess_NewSquare.f (a0 : Int) (a1 : Int) : Option (Int) := some (IntKind.i8.wrap ((IntKind.i8.wrap (a1 * 8)) + a0))
set_option maxHeartbeats 8000000 in
set_option maxRecDepth 100000 in
theorem chess_NewSquare.calls (a0 : Int) (a1 : Int) (r : Int) (w : World) (h : chess_NewSquare.f a0 a1 = some r) :
    Calls Try.prog 37 #[.int .i8 a0, .int .i8 a1] w fun e w' => e = .returned (.int .i8 r) ∧ Drawn0 w w' := by
  have H : (some (IntKind.i8.wrap ((IntKind.i8.wrap (a1 * 8)) + a0))) = some r := h
  clear h
  obtain rfl := Option.some.inj H
  go_enter Try.func37, Try.ntmps37
  go_wp2
  go_ret
  exact ⟨by first | rfl | (simp; done) | (simp [*]; done), by repeat (first | exact Drawn0.refl _ | apply Drawn0.step)⟩

/-! ### chess_strToSquare: function 30 -/
def chess_strToSquare.f (a0 : ByteArray) : Option (Int) := if (a0.size : Int) = 2 then (if 0 < (a0.size : Int) then (if (bt a0 0) < 97 then (some 0) else (if (bt a0 0) > 104 then (some 0) else (if 1 < (a0.size : Int) then (if (bt a0 1) < 49 then (some 0) else (if (bt a0 1) > 56 then (some 0) else ((chess_NewSquare.f (IntKind.i8.wrap (((bt a0 0) - 97) % 256)) (IntKind.i8.wrap (((bt a0 1) - 49) % 256))).bind fun t101 => (some t101)))) else (none)))) else (none)) else (some 0)
set_option maxHeartbeats 8000000 in
set_option maxRecDepth 100000 in
theorem chess_strToSquare.calls (a0 : ByteArray) (r : Int) (w : World) (h : chess_strToSquare.f a0 = some r) :
    Calls Try.prog 30 #[.string a0] w fun e w' => e = .returned (.int .i8 r) ∧ Drawn0 w w' := by
  have H : (if (a0.size : Int) = 2 then (if 0 < (a0.size : Int) then (if (bt a0 0) < 97 then (some 0) else (if (bt a0 0) > 104 then (some 0) else (if 1 < (a0.size : Int) then (if (bt a0 1) < 49 then (some 0) else (if (bt a0 1) > 56 then (some 0) else ((chess_NewSquare.f (IntKind.i8.wrap (((bt a0 0) - 97) % 256)) (IntKind.i8.wrap (((bt a0 1) - 49) % 256))).bind fun t101 => (some t101)))) else (none)))) else (none)) else (some 0)) = some r := h
  clear h
  by_cases c2 : (a0.size : Int) = 2
  · rw [if_pos c2] at H
    have c2b0 : ((a0.size : Int) == 2) = true := beq_iff_eq.mpr c2
    have c2b1 : ((a0.size : Int) != 2) = false := bne_eq_false_iff_eq.mpr c2
    clear c2
    by_cases c3 : 0 < (a0.size : Int)
    · rw [if_pos c3] at H
      have c3b0 : decide (0 < (a0.size : Int)) = true := decide_eq_true c3
      have c3b1 : decide (0 < a0.size) = true := decide_eq_true (by omega)
      clear c3
      by_cases c5 : (bt a0 0) < 97
      · rw [if_pos c5] at H
        have c5b0 : decide ((bt a0 0) < 97) = true := decide_eq_true c5
        clear c5
        obtain rfl := Option.some.inj H
        have p4 : 0 ≤ (0 : Int) := (by omega)
        have q4 : 0 < a0.size := (by have : (0 : Int) < (a0.size : Int) := of_decide_eq_true (by first | (with_reducible assumption) | assumption); omega)
        have hx4 : ∀ h : 0 < a0.size, ((a0[0]'h).toNat : Int) = bt a0 0 := bt_at a0 0
        clear p4
        have qi4 : (0 < (a0.size : Int)) = True := eq_true (of_decide_eq_true (by first | (with_reducible assumption) | assumption))
        replace q4 := eq_true q4
        go_enter Try.func30, Try.ntmps30
        go_wp2
        repeat (go_quiet (fail); try go_wp2)
        go_ret
        exact ⟨by first | rfl | (simp; done) | (simp [*]; done), by repeat (first | exact Drawn0.refl _ | apply Drawn0.step)⟩
      · rw [if_neg c5] at H
        have c5b0 : decide ((bt a0 0) < 97) = false := decide_eq_false c5
        clear c5
        by_cases c7 : (bt a0 0) > 104
        · rw [if_pos c7] at H
          have c7b0 : decide (104 < (bt a0 0)) = true := decide_eq_true c7
          clear c7
          obtain rfl := Option.some.inj H
          have p4 : 0 ≤ (0 : Int) := (by omega)
          have q4 : 0 < a0.size := (by have : (0 : Int) < (a0.size : Int) := of_decide_eq_true (by first | (with_reducible assumption) | assumption); omega)
          have hx4 : ∀ h : 0 < a0.size, ((a0[0]'h).toNat : Int) = bt a0 0 := bt_at a0 0
          clear p4
          have qi4 : (0 < (a0.size : Int)) = True := eq_true (of_decide_eq_true (by first | (with_reducible assumption) | assumption))
          replace q4 := eq_true q4
          have p6 : 0 ≤ (0 : Int) := (by omega)
          have q6 : 0 < a0.size := (by have : (0 : Int) < (a0.size : Int) := of_decide_eq_true (by first | (with_reducible assumption) | assumption); omega)
          have hx6 : ∀ h : 0 < a0.size, ((a0[0]'h).toNat : Int) = bt a0 0 := bt_at a0 0
          clear p6
          have qi6 : (0 < (a0.size : Int)) = True := eq_true (of_decide_eq_true (by first | (with_reducible assumption) | assumption))
          replace q6 := eq_true q6
          go_enter Try.func30, Try.ntmps30
          go_wp2
          repeat (go_quiet (fail); try go_wp2)
          go_ret
          exact ⟨by first | rfl | (simp; done) | (simp [*]; done), by repeat (first | exact Drawn0.refl _ | apply Drawn0.step)⟩
        · rw [if_neg c7] at H
          have c7b0 : decide (104 < (bt a0 0)) = false := decide_eq_false c7
          clear c7
          by_cases c8 : 1 < (a0.size : Int)
          · rw [if_pos c8] at H
            have c8b0 : decide (1 < (a0.size : Int)) = true := decide_eq_true c8
            have c8b1 : decide (1 < a0.size) = true := decide_eq_true (by omega)
            clear c8
            by_cases c10 : (bt a0 1) < 49
            · rw [if_pos c10] at H
              have c10b0 : decide ((bt a0 1) < 49) = true := decide_eq_true c10
              clear c10
              obtain rfl := Option.some.inj H
              have p4 : 0 ≤ (0 : Int) := (by omega)
              have q4 : 0 < a0.size := (by have : (0 : Int) < (a0.size : Int) := of_decide_eq_true (by first | (with_reducible assumption) | assumption); omega)
              have hx4 : ∀ h : 0 < a0.size, ((a0[0]'h).toNat : Int) = bt a0 0 := bt_at a0 0
              clear p4
              have qi4 : (0 < (a0.size : Int)) = True := eq_true (of_decide_eq_true (by first | (with_reducible assumption) | assumption))
              replace q4 := eq_true q4
              have p6 : 0 ≤ (0 : Int) := (by omega)
              have q6 : 0 < a0.size := (by have : (0 : Int) < (a0.size : Int) := of_decide_eq_true (by first | (with_reducible assumption) | assumption); omega)
              have hx6 : ∀ h : 0 < a0.size, ((a0[0]'h).toNat : Int) = bt a0 0 := bt_at a0 0
              clear p6
              have qi6 : (0 < (a0.size : Int)) = True := eq_true (of_decide_eq_true (by first | (with_reducible assumption) | assumption))
              replace q6 := eq_true q6
              have p9 : 0 ≤ (1 : Int) := (by omega)
              have q9 : 1 < a0.size := (by have : (1 : Int) < (a0.size : Int) := of_decide_eq_true (by first | (with_reducible assumption) | assumption); omega)
              have hx9 : ∀ h : 1 < a0.size, ((a0[1]'h).toNat : Int) = bt a0 1 := bt_at a0 1
              clear p9
              have qi9 : (1 < (a0.size : Int)) = True := eq_true (of_decide_eq_true (by first | (with_reducible assumption) | assumption))
              replace q9 := eq_true q9
              go_enter Try.func30, Try.ntmps30
              go_wp2
              repeat (go_quiet (fail); try go_wp2)
              go_ret
              exact ⟨by first | rfl | (simp; done) | (simp [*]; done), by repeat (first | exact Drawn0.refl _ | apply Drawn0.step)⟩
            · rw [if_neg c10] at H
              have c10b0 : decide ((bt a0 1) < 49) = false := decide_eq_false c10
              clear c10
              by_cases c12 : (bt a0 1) > 56
              · rw [if_pos c12] at H
                have c12b0 : decide (56 < (bt a0 1)) = true := decide_eq_true c12
                clear c12
                obtain rfl := Option.some.inj H
                have p4 : 0 ≤ (0 : Int) := (by omega)
                have q4 : 0 < a0.size := (by have : (0 : Int) < (a0.size : Int) := of_decide_eq_true (by first | (with_reducible assumption) | assumption); omega)
                have hx4 : ∀ h : 0 < a0.size, ((a0[0]'h).toNat : Int) = bt a0 0 := bt_at a0 0
                clear p4
                have qi4 : (0 < (a0.size : Int)) = True := eq_true (of_decide_eq_true (by first | (with_reducible assumption) | assumption))
                replace q4 := eq_true q4
                have p6 : 0 ≤ (0 : Int) := (by omega)
                have q6 : 0 < a0.size := (by have : (0 : Int) < (a0.size : Int) := of_decide_eq_true (by first | (with_reducible assumption) | assumption); omega)
                have hx6 : ∀ h : 0 < a0.size, ((a0[0]'h).toNat : Int) = bt a0 0 := bt_at a0 0
                clear p6
                have qi6 : (0 < (a0.size : Int)) = True := eq_true (of_decide_eq_true (by first | (with_reducible assumption) | assumption))
                replace q6 := eq_true q6
                have p9 : 0 ≤ (1 : Int) := (by omega)
                have q9 : 1 < a0.size := (by have : (1 : Int) < (a0.size : Int) := of_decide_eq_true (by first | (with_reducible assumption) | assumption); omega)
                have hx9 : ∀ h : 1 < a0.size, ((a0[1]'h).toNat : Int) = bt a0 1 := bt_at a0 1
                clear p9
                have qi9 : (1 < (a0.size : Int)) = True := eq_true (of_decide_eq_true (by first | (with_reducible assumption) | assumption))
                replace q9 := eq_true q9
                have p11 : 0 ≤ (1 : Int) := (by omega)
                have q11 : 1 < a0.size := (by have : (1 : Int) < (a0.size : Int) := of_decide_eq_true (by first | (with_reducible assumption) | assumption); omega)
                have hx11 : ∀ h : 1 < a0.size, ((a0[1]'h).toNat : Int) = bt a0 1 := bt_at a0 1
                clear p11
                have qi11 : (1 < (a0.size : Int)) = True := eq_true (of_decide_eq_true (by first | (with_reducible assumption) | assumption))
                replace q11 := eq_true q11
                go_enter Try.func30, Try.ntmps30
                go_wp2
                repeat (go_quiet (fail); try go_wp2)
                go_ret
                exact ⟨by first | rfl | (simp; done) | (simp [*]; done), by repeat (first | exact Drawn0.refl _ | apply Drawn0.step)⟩
              · rw [if_neg c12] at H
                have c12b0 : decide (56 < (bt a0 1)) = false := decide_eq_false c12
                clear c12
                replace H := Option.bind_eq_some_iff.mp H
                obtain ⟨t101, A150, H⟩ := H
                replace H : (some t101) = some r := H
                have A15 := Aside0.mk A150
                clear A150
                obtain rfl := Option.some.inj H
                have p4 : 0 ≤ (0 : Int) := (by omega)
                have q4 : 0 < a0.size := (by have : (0 : Int) < (a0.size : Int) := of_decide_eq_true (by first | (with_reducible assumption) | assumption); omega)
                have hx4 : ∀ h : 0 < a0.size, ((a0[0]'h).toNat : Int) = bt a0 0 := bt_at a0 0
                clear p4
                have qi4 : (0 < (a0.size : Int)) = True := eq_true (of_decide_eq_true (by first | (with_reducible assumption) | assumption))
                replace q4 := eq_true q4
                have p6 : 0 ≤ (0 : Int) := (by omega)
                have q6 : 0 < a0.size := (by have : (0 : Int) < (a0.size : Int) := of_decide_eq_true (by first | (with_reducible assumption) | assumption); omega)
                have hx6 : ∀ h : 0 < a0.size, ((a0[0]'h).toNat : Int) = bt a0 0 := bt_at a0 0
                clear p6
                have qi6 : (0 < (a0.size : Int)) = True := eq_true (of_decide_eq_true (by first | (with_reducible assumption) | assumption))
                replace q6 := eq_true q6
                have p9 : 0 ≤ (1 : Int) := (by omega)
                have q9 : 1 < a0.size := (by have : (1 : Int) < (a0.size : Int) := of_decide_eq_true (by first | (with_reducible assumption) | assumption); omega)
                have hx9 : ∀ h : 1 < a0.size, ((a0[1]'h).toNat : Int) = bt a0 1 := bt_at a0 1
                clear p9
                have qi9 : (1 < (a0.size : Int)) = True := eq_true (of_decide_eq_true (by first | (with_reducible assumption) | assumption))
                replace q9 := eq_true q9
                have p11 : 0 ≤ (1 : Int) := (by omega)
                have q11 : 1 < a0.size := (by have : (1 : Int) < (a0.size : Int) := of_decide_eq_true (by first | (with_reducible assumption) | assumption); omega)
                have hx11 : ∀ h : 1 < a0.size, ((a0[1]'h).toNat : Int) = bt a0 1 := bt_at a0 1
                clear p11
                have qi11 : (1 < (a0.size : Int)) = True := eq_true (of_decide_eq_true (by first | (with_reducible assumption) | assumption))
                replace q11 := eq_true q11
                have p13 : 0 ≤ (0 : Int) := (by omega)
                have q13 : 0 < a0.size := (by have : (0 : Int) < (a0.size : Int) := of_decide_eq_true (by first | (with_reducible assumption) | assumption); omega)
                have hx13 : ∀ h : 0 < a0.size, ((a0[0]'h).toNat : Int) = bt a0 0 := bt_at a0 0
                clear p13
                have qi13 : (0 < (a0.size : Int)) = True := eq_true (of_decide_eq_true (by first | (with_reducible assumption) | assumption))
                replace q13 := eq_true q13
                have p14 : 0 ≤ (1 : Int) := (by omega)
                have q14 : 1 < a0.size := (by have : (1 : Int) < (a0.size : Int) := of_decide_eq_true (by first | (with_reducible assumption) | assumption); omega)
                have hx14 : ∀ h : 1 < a0.size, ((a0[1]'h).toNat : Int) = bt a0 1 := bt_at a0 1
                clear p14
                have qi14 : (1 < (a0.size : Int)) = True := eq_true (of_decide_eq_true (by first | (with_reducible assumption) | assumption))
                replace q14 := eq_true q14
                go_enter Try.func30, Try.ntmps30
                go_wp2_with (first | (go_at_call 37; (with_reducible refine (chess_NewSquare.calls (IntKind.i8.wrap (((bt a0 0) - 97) % 256)) (IntKind.i8.wrap (((bt a0 1) - 49) % 256)) t101 _ A15.out).mono ?_); rintro e w' ⟨rfl, ⟨nd, rfl⟩⟩; (try first | exact ⟨rfl, _, World.drewN_drewN _ _ _⟩ | exact ⟨rfl, _, Eq.trans (World.drewN_drewN _ _ _) (congrArg (World.drewN _) (Nat.add_assoc _ _ _))⟩)))
                repeat (go_quiet (first | (go_at_call 37; (with_reducible refine (chess_NewSquare.calls (IntKind.i8.wrap (((bt a0 0) - 97) % 256)) (IntKind.i8.wrap (((bt a0 1) - 49) % 256)) t101 _ A15.out).mono ?_); rintro e w' ⟨rfl, ⟨nd, rfl⟩⟩; (try first | exact ⟨rfl, _, World.drewN_drewN _ _ _⟩ | exact ⟨rfl, _, Eq.trans (World.drewN_drewN _ _ _) (congrArg (World.drewN _) (Nat.add_assoc _ _ _))⟩))); try go_wp2_with (first | (go_at_call 37; (with_reducible refine (chess_NewSquare.calls (IntKind.i8.wrap (((bt a0 0) - 97) % 256)) (IntKind.i8.wrap (((bt a0 1) - 49) % 256)) t101 _ A15.out).mono ?_); rintro e w' ⟨rfl, ⟨nd, rfl⟩⟩; (try first | exact ⟨rfl, _, World.drewN_drewN _ _ _⟩ | exact ⟨rfl, _, Eq.trans (World.drewN_drewN _ _ _) (congrArg (World.drewN _) (Nat.add_assoc _ _ _))⟩))))
                go_ret
                exact ⟨by first | rfl | (simp; done) | (simp [*]; done), by repeat (first | exact Drawn0.refl _ | apply Drawn0.step)⟩
          · rw [if_neg c8] at H
            exact absurd H (by simp)
    · rw [if_neg c3] at H
      exact absurd H (by simp)
  · rw [if_neg c2] at H
    have c2b0 : ((a0.size : Int) == 2) = false := beq_eq_false_iff_ne.mpr c2
    have c2b1 : ((a0.size : Int) != 2) = true := bne_iff_ne.mpr c2
    obtain rfl := Option.some.inj H
    go_enter Try.func30, Try.ntmps30
    go_wp2
    repeat (go_quiet (fail); try go_wp2)
    go_ret
    exact ⟨by first | rfl | (simp; done) | (simp [*]; done), by repeat (first | exact Drawn0.refl _ | apply Drawn0.step)⟩

/-! ### chess_DoorSquareNamed: function 20 -/
def chess_DoorSquareNamed.f (a0 : ByteArray) : Option (Int) := (chess_strToSquare.f a0).bind fun t102 => (some t102)
set_option maxHeartbeats 8000000 in
set_option maxRecDepth 100000 in
theorem chess_DoorSquareNamed.calls (a0 : ByteArray) (r : Int) (w : World) (h : chess_DoorSquareNamed.f a0 = some r) :
    Calls Try.prog 20 #[.string a0] w fun e w' => e = .returned (.int .i8 r) ∧ Drawn0 w w' := by
  have H : ((chess_strToSquare.f a0).bind fun t102 => (some t102)) = some r := h
  clear h
  replace H := Option.bind_eq_some_iff.mp H
  obtain ⟨t102, A20, H⟩ := H
  replace H : (some t102) = some r := H
  have A2 := Aside0.mk A20
  clear A20
  obtain rfl := Option.some.inj H
  go_enter Try.func20, Try.ntmps20
  go_wp2_with (first | ((with_reducible refine gate_callee (f := 30) rfl ?_); refine goesL_ (some 4) rfl rfl Try.func30 (by kernel_rfl) rfl #[.string a0] rfl (by (try simp only [List.map_toArray, List.map_cons, List.map_nil]); first | done | rfl | (simp only [List.length_drop, List.length_take]; rfl)) ?_; (with_reducible refine (chess_strToSquare.calls a0 t102 _ A2.out).mono ?_); rintro e w' ⟨rfl, ⟨nd, rfl⟩⟩; refine ⟨_, rfl, ?_⟩))
  go_ret
  exact ⟨by first | rfl | (simp; done) | (simp [*]; done), by repeat (first | exact Drawn0.refl _ | apply Drawn0.step)⟩

/-! ### impl_SquareNamed: function 10 -/
def impl_SquareNamed.f (a0 : ByteArray) : Option (Int) := (chess_DoorSquareNamed.f a0).bind fun t103 => (some (wrap64 (t103)))
set_option maxHeartbeats 8000000 in
set_option maxRecDepth 100000 in
theorem impl_SquareNamed.calls (a0 : ByteArray) (r : Int) (w : World) (h : impl_SquareNamed.f a0 = some r) :
    Calls Try.prog 10 #[.string a0] w fun e w' => e = .returned (.int .i64 r) ∧ Drawn0 w w' := by
  have H : ((chess_DoorSquareNamed.f a0).bind fun t103 => (some (wrap64 (t103)))) = some r := h
  clear h
  replace H := Option.bind_eq_some_iff.mp H
  obtain ⟨t103, A20, H⟩ := H
  replace H : (some (wrap64 (t103))) = some r := H
  have A2 := Aside0.mk A20
  clear A20
  obtain rfl := Option.some.inj H
  go_enter Try.func10, Try.ntmps10
  go_wp2_with (first | ((with_reducible refine gate_callee (f := 20) rfl ?_); refine goesL_ (some 4) rfl rfl Try.func20 (by kernel_rfl) rfl #[.string a0] rfl (by (try simp only [List.map_toArray, List.map_cons, List.map_nil]); first | done | rfl | (simp only [List.length_drop, List.length_take]; rfl)) ?_; (with_reducible refine (chess_DoorSquareNamed.calls a0 t103 _ A2.out).mono ?_); rintro e w' ⟨rfl, ⟨nd, rfl⟩⟩; refine ⟨_, rfl, ?_⟩))
  go_ret
  exact ⟨by first | rfl | (simp; done) | (simp [*]; done), by repeat (first | exact Drawn0.refl _ | apply Drawn0.step)⟩

/-! ### laws_FnNmNamed: function 4 -/
def laws_FnNmNamed.j0 : Nat → ByteArray → Int → Bool → Option (Bool)
  | 0, _, _, _ => none
  | k + 1, x0, x3, x32 => if x32 = true then (if 0 < (x0.size : Int) then (if 1 < (x0.size : Int) then ((impl_SquareNamed.f x0).bind fun t104 => (if t104 = ((((bt x0 0) - 97) % 256) + (8 * (((bt x0 1) - 49) % 256))) then ((impl_SquareNamed.f (⟨#[104, 56]⟩ : ByteArray)).bind fun t105 => (some (t105 == 63))) else (some false))) else (none)) else (none)) else ((impl_SquareNamed.f x0).bind fun t106 => (if t106 = x3 then ((impl_SquareNamed.f (⟨#[104, 56]⟩ : ByteArray)).bind fun t107 => (some (t107 == 63))) else (some false)))
def laws_FnNmNamed.f (k : Nat) (a0 : ByteArray) : Option (Bool) := if (a0.size : Int) > 2147483647 then (some true) else (if (a0.size : Int) > 100 then (some true) else (if (a0.size : Int) = 2 then (if 0 < (a0.size : Int) then (if (bt a0 0) ≥ 97 then (if (bt a0 0) ≤ 104 then (if 1 < (a0.size : Int) then (if (bt a0 1) ≥ 49 then (laws_FnNmNamed.j0 k a0 0 (decide ((bt a0 1) ≤ 56))) else (laws_FnNmNamed.j0 k a0 0 false)) else (none)) else (laws_FnNmNamed.j0 k a0 0 false)) else (laws_FnNmNamed.j0 k a0 0 false)) else (none)) else (laws_FnNmNamed.j0 k a0 0 false)))
theorem laws_FnNmNamed.mono_l : ∀ k, (∀ y0 y1 y2, LeO (laws_FnNmNamed.j0 k y0 y1 y2) (laws_FnNmNamed.j0 (k + 1) y0 y1 y2))
  | 0 => fun _ _ _ r h => by simp [laws_FnNmNamed.j0] at h
  | k + 1 => by
    have ih0 := laws_FnNmNamed.mono_l k
    · intro y0 y1 y2
      unfold laws_FnNmNamed.j0
      repeat' first
      | (with_reducible exact ih0 _ _ _)
      | (with_reducible exact LeO.refl _)
      | (with_reducible exact LeO.none _)
      | (with_reducible refine LeO.ite ?_ ?_)
      | (with_reducible refine LeO.bind ?_ (fun _ => ?_))
      | exact ih0 _ _ _
      | exact LeO.none _
      | refine LeO.ite ?_ ?_
      | refine LeO.bind ?_ (fun _ => ?_)
theorem laws_FnNmNamed.mono : ∀ a0 k, LeO (laws_FnNmNamed.f k a0) (laws_FnNmNamed.f (k + 1) a0) := by
  intro a0 k
  have ih0 := laws_FnNmNamed.mono_l k
  unfold laws_FnNmNamed.f
  repeat' first
      | (with_reducible exact ih0 _ _ _)
      | (with_reducible exact LeO.refl _)
      | (with_reducible exact LeO.none _)
      | (with_reducible refine LeO.ite ?_ ?_)
      | (with_reducible refine LeO.bind ?_ (fun _ => ?_))
      | exact ih0 _ _ _
      | exact LeO.none _
      | refine LeO.ite ?_ ?_
      | refine LeO.bind ?_ (fun _ => ?_)
set_option maxHeartbeats 8000000 in
set_option maxRecDepth 100000 in
theorem laws_FnNmNamed.calls (k : Nat) (a0 : ByteArray) (r : Bool) (w : World) (h : laws_FnNmNamed.f k a0 = some r) :
    Calls Try.prog 4 #[.string a0] w fun e w' => e = .returned (.bool r) ∧ Drawn0 w w' := by
  have H : (if (a0.size : Int) > 2147483647 then (some true) else (if (a0.size : Int) > 100 then (some true) else (if (a0.size : Int) = 2 then (if 0 < (a0.size : Int) then (if (bt a0 0) ≥ 97 then (if (bt a0 0) ≤ 104 then (if 1 < (a0.size : Int) then (if (bt a0 1) ≥ 49 then (laws_FnNmNamed.j0 k a0 0 (decide ((bt a0 1) ≤ 56))) else (laws_FnNmNamed.j0 k a0 0 false)) else (none)) else (laws_FnNmNamed.j0 k a0 0 false)) else (laws_FnNmNamed.j0 k a0 0 false)) else (none)) else (laws_FnNmNamed.j0 k a0 0 false)))) = some r := h
  clear h
  by_cases c2 : (a0.size : Int) > 2147483647
  · rw [if_pos c2] at H
    have c2b0 : decide (2147483647 < (a0.size : Int)) = true := decide_eq_true c2
    have c2b1 : decide (2147483647 < a0.size) = true := decide_eq_true (by omega)
    clear c2
    obtain rfl := Option.some.inj H
    go_enter Try.func4, Try.ntmps4
    go_wp2
    repeat (go_quiet (fail); try go_wp2)
    go_ret
    exact ⟨by first | rfl | (simp; done) | (simp [*]; done), by repeat (first | exact Drawn0.refl _ | apply Drawn0.step)⟩
  · rw [if_neg c2] at H
    have c2b0 : decide (2147483647 < (a0.size : Int)) = false := decide_eq_false c2
    have c2b1 : decide (2147483647 < a0.size) = false := decide_eq_false (by omega)
    clear c2
    by_cases c3 : (a0.size : Int) > 100
    · rw [if_pos c3] at H
      have c3b0 : decide (100 < (a0.size : Int)) = true := decide_eq_true c3
      have c3b1 : decide (100 < a0.size) = true := decide_eq_true (by omega)
      clear c3
      obtain rfl := Option.some.inj H
      go_enter Try.func4, Try.ntmps4
      go_wp2
      repeat (go_quiet (fail); try go_wp2)
      go_ret
      exact ⟨by first | rfl | (simp; done) | (simp [*]; done), by repeat (first | exact Drawn0.refl _ | apply Drawn0.step)⟩
    · rw [if_neg c3] at H
      have c3b0 : decide (100 < (a0.size : Int)) = false := decide_eq_false c3
      have c3b1 : decide (100 < a0.size) = false := decide_eq_false (by omega)
      clear c3
      have HC4 := Aside0.mk H
      clear H
      go_enter Try.func4, Try.ntmps4
      go_upto_region 6 with (fail)
      repeat (go_quiet (fail); go_upto_region 6 with (fail))
      go_cut [32] (fun v32 wc => ∃ (kq : Nat) (x32_3 : Bool), v32 = .bool x32_3 ∧ Aside0 (laws_FnNmNamed.j0 kq a0 0 x32_3 = some r) ∧ Aside0 (kq ≤ k) ∧ Drawn0 w wc)
      case first =>
        have H := HC4.out
        clear HC4
        by_cases c5 : (a0.size : Int) = 2
        · rw [if_pos c5] at H
          have c5b0 : ((a0.size : Int) == 2) = true := beq_iff_eq.mpr c5
          have c5b1 : ((a0.size : Int) != 2) = false := bne_eq_false_iff_eq.mpr c5
          clear c5
          (first | rw [c5b0] | (simp only [i64_w, i32_w]; rw [c5b0]) | skip)
          by_cases c6 : 0 < (a0.size : Int)
          · rw [if_pos c6] at H
            have c6b0 : decide (0 < (a0.size : Int)) = true := decide_eq_true c6
            have c6b1 : decide (0 < a0.size) = true := decide_eq_true (by omega)
            clear c6
            by_cases c8 : (bt a0 0) ≥ 97
            · rw [if_pos c8] at H
              have c8b0 : decide (97 ≤ (bt a0 0)) = true := decide_eq_true c8
              clear c8
              by_cases c10 : (bt a0 0) ≤ 104
              · rw [if_pos c10] at H
                have c10b0 : decide ((bt a0 0) ≤ 104) = true := decide_eq_true c10
                clear c10
                by_cases c11 : 1 < (a0.size : Int)
                · rw [if_pos c11] at H
                  have c11b0 : decide (1 < (a0.size : Int)) = true := decide_eq_true c11
                  have c11b1 : decide (1 < a0.size) = true := decide_eq_true (by omega)
                  clear c11
                  by_cases c13 : (bt a0 1) ≥ 49
                  · rw [if_pos c13] at H
                    have c13b0 : decide (49 ≤ (bt a0 1)) = true := decide_eq_true c13
                    clear c13
                    have H' := Aside0.mk H
                    clear H
                    have p7 : 0 ≤ (0 : Int) := (by omega)
                    have q7 : 0 < a0.size := (by have : (0 : Int) < (a0.size : Int) := of_decide_eq_true (by first | (with_reducible assumption) | assumption); omega)
                    have hx7 : ∀ h : 0 < a0.size, ((a0[0]'h).toNat : Int) = bt a0 0 := bt_at a0 0
                    clear p7
                    have qi7 : (0 < (a0.size : Int)) = True := eq_true (of_decide_eq_true (by first | (with_reducible assumption) | assumption))
                    replace q7 := eq_true q7
                    have p9 : 0 ≤ (0 : Int) := (by omega)
                    have q9 : 0 < a0.size := (by have : (0 : Int) < (a0.size : Int) := of_decide_eq_true (by first | (with_reducible assumption) | assumption); omega)
                    have hx9 : ∀ h : 0 < a0.size, ((a0[0]'h).toNat : Int) = bt a0 0 := bt_at a0 0
                    clear p9
                    have qi9 : (0 < (a0.size : Int)) = True := eq_true (of_decide_eq_true (by first | (with_reducible assumption) | assumption))
                    replace q9 := eq_true q9
                    have p12 : 0 ≤ (1 : Int) := (by omega)
                    have q12 : 1 < a0.size := (by have : (1 : Int) < (a0.size : Int) := of_decide_eq_true (by first | (with_reducible assumption) | assumption); omega)
                    have hx12 : ∀ h : 1 < a0.size, ((a0[1]'h).toNat : Int) = bt a0 1 := bt_at a0 1
                    clear p12
                    have qi12 : (1 < (a0.size : Int)) = True := eq_true (of_decide_eq_true (by first | (with_reducible assumption) | assumption))
                    replace q12 := eq_true q12
                    have p14 : 0 ≤ (1 : Int) := (by omega)
                    have q14 : 1 < a0.size := (by have : (1 : Int) < (a0.size : Int) := of_decide_eq_true (by first | (with_reducible assumption) | assumption); omega)
                    have hx14 : ∀ h : 1 < a0.size, ((a0[1]'h).toNat : Int) = bt a0 1 := bt_at a0 1
                    clear p14
                    have qi14 : (1 < (a0.size : Int)) = True := eq_true (of_decide_eq_true (by first | (with_reducible assumption) | assumption))
                    replace q14 := eq_true q14
                    go_wp2
                    repeat (go_quiet (fail); try go_wp2)
                    go_meet
                    case rel => exact ⟨_, (decide ((bt a0 1) ≤ 56)), (by first | rfl | (simp; done) | (simp [*]; done)), H', ⟨by first | omega | exact Nat.le_refl _⟩, by repeat (first | exact Drawn0.refl _ | apply Drawn0.step)⟩
                  · rw [if_neg c13] at H
                    have c13b0 : decide (49 ≤ (bt a0 1)) = false := decide_eq_false c13
                    clear c13
                    have H' := Aside0.mk H
                    clear H
                    have p7 : 0 ≤ (0 : Int) := (by omega)
                    have q7 : 0 < a0.size := (by have : (0 : Int) < (a0.size : Int) := of_decide_eq_true (by first | (with_reducible assumption) | assumption); omega)
                    have hx7 : ∀ h : 0 < a0.size, ((a0[0]'h).toNat : Int) = bt a0 0 := bt_at a0 0
                    clear p7
                    have qi7 : (0 < (a0.size : Int)) = True := eq_true (of_decide_eq_true (by first | (with_reducible assumption) | assumption))
                    replace q7 := eq_true q7
                    have p9 : 0 ≤ (0 : Int) := (by omega)
                    have q9 : 0 < a0.size := (by have : (0 : Int) < (a0.size : Int) := of_decide_eq_true (by first | (with_reducible assumption) | assumption); omega)
                    have hx9 : ∀ h : 0 < a0.size, ((a0[0]'h).toNat : Int) = bt a0 0 := bt_at a0 0
                    clear p9
                    have qi9 : (0 < (a0.size : Int)) = True := eq_true (of_decide_eq_true (by first | (with_reducible assumption) | assumption))
                    replace q9 := eq_true q9
                    have p12 : 0 ≤ (1 : Int) := (by omega)
                    have q12 : 1 < a0.size := (by have : (1 : Int) < (a0.size : Int) := of_decide_eq_true (by first | (with_reducible assumption) | assumption); omega)
                    have hx12 : ∀ h : 1 < a0.size, ((a0[1]'h).toNat : Int) = bt a0 1 := bt_at a0 1
                    clear p12
                    have qi12 : (1 < (a0.size : Int)) = True := eq_true (of_decide_eq_true (by first | (with_reducible assumption) | assumption))
                    replace q12 := eq_true q12
                    go_wp2
                    repeat (go_quiet (fail); try go_wp2)
                    go_meet
                    case rel => exact ⟨_, (false), (by first | rfl | (simp; done) | (simp [*]; done)), H', ⟨by first | omega | exact Nat.le_refl _⟩, by repeat (first | exact Drawn0.refl _ | apply Drawn0.step)⟩
                · rw [if_neg c11] at H
                  exact absurd H (by simp)
              · rw [if_neg c10] at H
                have c10b0 : decide ((bt a0 0) ≤ 104) = false := decide_eq_false c10
                clear c10
                have H' := Aside0.mk H
                clear H
                have p7 : 0 ≤ (0 : Int) := (by omega)
                have q7 : 0 < a0.size := (by have : (0 : Int) < (a0.size : Int) := of_decide_eq_true (by first | (with_reducible assumption) | assumption); omega)
                have hx7 : ∀ h : 0 < a0.size, ((a0[0]'h).toNat : Int) = bt a0 0 := bt_at a0 0
                clear p7
                have qi7 : (0 < (a0.size : Int)) = True := eq_true (of_decide_eq_true (by first | (with_reducible assumption) | assumption))
                replace q7 := eq_true q7
                have p9 : 0 ≤ (0 : Int) := (by omega)
                have q9 : 0 < a0.size := (by have : (0 : Int) < (a0.size : Int) := of_decide_eq_true (by first | (with_reducible assumption) | assumption); omega)
                have hx9 : ∀ h : 0 < a0.size, ((a0[0]'h).toNat : Int) = bt a0 0 := bt_at a0 0
                clear p9
                have qi9 : (0 < (a0.size : Int)) = True := eq_true (of_decide_eq_true (by first | (with_reducible assumption) | assumption))
                replace q9 := eq_true q9
                go_wp2
                repeat (go_quiet (fail); try go_wp2)
                go_meet
                case rel => exact ⟨_, (false), (by first | rfl | (simp; done) | (simp [*]; done)), H', ⟨by first | omega | exact Nat.le_refl _⟩, by repeat (first | exact Drawn0.refl _ | apply Drawn0.step)⟩
            · rw [if_neg c8] at H
              have c8b0 : decide (97 ≤ (bt a0 0)) = false := decide_eq_false c8
              clear c8
              have H' := Aside0.mk H
              clear H
              have p7 : 0 ≤ (0 : Int) := (by omega)
              have q7 : 0 < a0.size := (by have : (0 : Int) < (a0.size : Int) := of_decide_eq_true (by first | (with_reducible assumption) | assumption); omega)
              have hx7 : ∀ h : 0 < a0.size, ((a0[0]'h).toNat : Int) = bt a0 0 := bt_at a0 0
              clear p7
              have qi7 : (0 < (a0.size : Int)) = True := eq_true (of_decide_eq_true (by first | (with_reducible assumption) | assumption))
              replace q7 := eq_true q7
              go_wp2
              repeat (go_quiet (fail); try go_wp2)
              go_meet
              case rel => exact ⟨_, (false), (by first | rfl | (simp; done) | (simp [*]; done)), H', ⟨by first | omega | exact Nat.le_refl _⟩, by repeat (first | exact Drawn0.refl _ | apply Drawn0.step)⟩
          · rw [if_neg c6] at H
            exact absurd H (by simp)
        · rw [if_neg c5] at H
          have c5b0 : ((a0.size : Int) == 2) = false := beq_eq_false_iff_ne.mpr c5
          have c5b1 : ((a0.size : Int) != 2) = true := bne_iff_ne.mpr c5
          (first | rw [c5b0] | (simp only [i64_w, i32_w]; rw [c5b0]) | skip)
          have H' := Aside0.mk H
          clear H
          go_wp2
          repeat (go_quiet (fail); try go_wp2)
          go_meet
          case rel => exact ⟨_, (false), (by first | rfl | (simp; done) | (simp [*]; done)), H', ⟨by first | omega | exact Nat.le_refl _⟩, by repeat (first | exact Drawn0.refl _ | apply Drawn0.step)⟩
      case rest =>
        clear HC4
        try clear c1
        try clear p1
        try clear q1
        try clear hx1
        try clear qi1
        try clear c2
        try clear c2b0
        try clear c2b1
        try clear p2
        try clear c3
        try clear c3b0
        try clear c3b1
        try clear c4
        try clear c5
        try clear c5b0
        try clear c5b1
        try clear c6
        try clear c6b0
        try clear c6b1
        try clear p7
        try clear q7
        try clear hx7
        try clear qi7
        try clear c8
        try clear c8b0
        try clear p9
        try clear q9
        try clear hx9
        try clear qi9
        try clear c10
        try clear c10b0
        try clear c11
        try clear c11b0
        try clear c11b1
        try clear p12
        try clear q12
        try clear hx12
        try clear qi12
        try clear c13
        try clear c13b0
        try clear p14
        try clear q14
        try clear hx14
        try clear qi14
        try clear p12
        try clear p14
        try clear p7
        try clear p9
        try clear q12
        try clear q14
        try clear q7
        try clear q9
        obtain ⟨kq, x32_3, rfl, HA, HJ3, ⟨mc3, rfl⟩⟩ := hcut
        cases kq with
        | zero => exact absurd HA.out (by simp [laws_FnNmNamed.j0])
        | succ kj3 =>
          have H := HA.out
          clear HA
          simp only [laws_FnNmNamed.j0] at H
          by_cases c15 : x32_3 = true
          · subst c15
            have H1 : (if 0 < (a0.size : Int) then (if 1 < (a0.size : Int) then ((impl_SquareNamed.f a0).bind fun t104 => (if t104 = ((((bt a0 0) - 97) % 256) + (8 * (((bt a0 1) - 49) % 256))) then ((impl_SquareNamed.f (⟨#[104, 56]⟩ : ByteArray)).bind fun t105 => (some (t105 == 63))) else (some false))) else (none)) else (none)) = some r := by rw [if_pos rfl] at H; exact H
            clear H
            have H := H1
            clear H1
            by_cases c16 : 0 < (a0.size : Int)
            · rw [if_pos c16] at H
              have c16b0 : decide (0 < (a0.size : Int)) = true := decide_eq_true c16
              have c16b1 : decide (0 < a0.size) = true := decide_eq_true (by omega)
              clear c16
              by_cases c18 : 1 < (a0.size : Int)
              · rw [if_pos c18] at H
                have c18b0 : decide (1 < (a0.size : Int)) = true := decide_eq_true c18
                have c18b1 : decide (1 < a0.size) = true := decide_eq_true (by omega)
                clear c18
                replace H := Option.bind_eq_some_iff.mp H
                obtain ⟨t104, A200, H⟩ := H
                replace H : (if t104 = ((((bt a0 0) - 97) % 256) + (8 * (((bt a0 1) - 49) % 256))) then ((impl_SquareNamed.f (⟨#[104, 56]⟩ : ByteArray)).bind fun t105 => (some (t105 == 63))) else (some false)) = some r := H
                have A20 := Aside0.mk A200
                clear A200
                by_cases c21 : t104 = ((((bt a0 0) - 97) % 256) + (8 * (((bt a0 1) - 49) % 256)))
                · rw [if_pos c21] at H
                  have c21b0 : (t104 == ((((bt a0 0) - 97) % 256) + (8 * (((bt a0 1) - 49) % 256)))) = true := beq_iff_eq.mpr c21
                  have c21b1 : (t104 != ((((bt a0 0) - 97) % 256) + (8 * (((bt a0 1) - 49) % 256)))) = false := bne_eq_false_iff_eq.mpr c21
                  clear c21
                  replace H := Option.bind_eq_some_iff.mp H
                  obtain ⟨t105, A220, H⟩ := H
                  replace H : (some (t105 == 63)) = some r := H
                  have A22 := Aside0.mk A220
                  clear A220
                  obtain rfl := Option.some.inj H
                  have p17 : 0 ≤ (0 : Int) := (by omega)
                  have q17 : 0 < a0.size := (by have : (0 : Int) < (a0.size : Int) := of_decide_eq_true (by first | (with_reducible assumption) | assumption); omega)
                  have hx17 : ∀ h : 0 < a0.size, ((a0[0]'h).toNat : Int) = bt a0 0 := bt_at a0 0
                  clear p17
                  have qi17 : (0 < (a0.size : Int)) = True := eq_true (of_decide_eq_true (by first | (with_reducible assumption) | assumption))
                  replace q17 := eq_true q17
                  have p19 : 0 ≤ (1 : Int) := (by omega)
                  have q19 : 1 < a0.size := (by have : (1 : Int) < (a0.size : Int) := of_decide_eq_true (by first | (with_reducible assumption) | assumption); omega)
                  have hx19 : ∀ h : 1 < a0.size, ((a0[1]'h).toNat : Int) = bt a0 1 := bt_at a0 1
                  clear p19
                  have qi19 : (1 < (a0.size : Int)) = True := eq_true (of_decide_eq_true (by first | (with_reducible assumption) | assumption))
                  replace q19 := eq_true q19
                  go_wp2_with (first | (go_at_call 10; (with_reducible refine (impl_SquareNamed.calls a0 t104 _ A20.out).mono ?_); rintro e w' ⟨rfl, ⟨nd, rfl⟩⟩; (try first | exact ⟨rfl, _, World.drewN_drewN _ _ _⟩ | exact ⟨rfl, _, Eq.trans (World.drewN_drewN _ _ _) (congrArg (World.drewN _) (Nat.add_assoc _ _ _))⟩)) | (go_at_call 10; (with_reducible refine (impl_SquareNamed.calls (⟨#[104, 56]⟩ : ByteArray) t105 _ A22.out).mono ?_); rintro e w' ⟨rfl, ⟨nd, rfl⟩⟩; (try first | exact ⟨rfl, _, World.drewN_drewN _ _ _⟩ | exact ⟨rfl, _, Eq.trans (World.drewN_drewN _ _ _) (congrArg (World.drewN _) (Nat.add_assoc _ _ _))⟩)))
                  repeat (go_quiet (first | (go_at_call 10; (with_reducible refine (impl_SquareNamed.calls a0 t104 _ A20.out).mono ?_); rintro e w' ⟨rfl, ⟨nd, rfl⟩⟩; (try first | exact ⟨rfl, _, World.drewN_drewN _ _ _⟩ | exact ⟨rfl, _, Eq.trans (World.drewN_drewN _ _ _) (congrArg (World.drewN _) (Nat.add_assoc _ _ _))⟩)) | (go_at_call 10; (with_reducible refine (impl_SquareNamed.calls (⟨#[104, 56]⟩ : ByteArray) t105 _ A22.out).mono ?_); rintro e w' ⟨rfl, ⟨nd, rfl⟩⟩; (try first | exact ⟨rfl, _, World.drewN_drewN _ _ _⟩ | exact ⟨rfl, _, Eq.trans (World.drewN_drewN _ _ _) (congrArg (World.drewN _) (Nat.add_assoc _ _ _))⟩))); try go_wp2_with (first | (go_at_call 10; (with_reducible refine (impl_SquareNamed.calls a0 t104 _ A20.out).mono ?_); rintro e w' ⟨rfl, ⟨nd, rfl⟩⟩; (try first | exact ⟨rfl, _, World.drewN_drewN _ _ _⟩ | exact ⟨rfl, _, Eq.trans (World.drewN_drewN _ _ _) (congrArg (World.drewN _) (Nat.add_assoc _ _ _))⟩)) | (go_at_call 10; (with_reducible refine (impl_SquareNamed.calls (⟨#[104, 56]⟩ : ByteArray) t105 _ A22.out).mono ?_); rintro e w' ⟨rfl, ⟨nd, rfl⟩⟩; (try first | exact ⟨rfl, _, World.drewN_drewN _ _ _⟩ | exact ⟨rfl, _, Eq.trans (World.drewN_drewN _ _ _) (congrArg (World.drewN _) (Nat.add_assoc _ _ _))⟩))))
                  go_ret
                  exact ⟨by first | rfl | (simp; done) | (simp [*]; done), by repeat (first | exact Drawn0.refl _ | apply Drawn0.step)⟩
                · rw [if_neg c21] at H
                  have c21b0 : (t104 == ((((bt a0 0) - 97) % 256) + (8 * (((bt a0 1) - 49) % 256)))) = false := beq_eq_false_iff_ne.mpr c21
                  have c21b1 : (t104 != ((((bt a0 0) - 97) % 256) + (8 * (((bt a0 1) - 49) % 256)))) = true := bne_iff_ne.mpr c21
                  obtain rfl := Option.some.inj H
                  have p17 : 0 ≤ (0 : Int) := (by omega)
                  have q17 : 0 < a0.size := (by have : (0 : Int) < (a0.size : Int) := of_decide_eq_true (by first | (with_reducible assumption) | assumption); omega)
                  have hx17 : ∀ h : 0 < a0.size, ((a0[0]'h).toNat : Int) = bt a0 0 := bt_at a0 0
                  clear p17
                  have qi17 : (0 < (a0.size : Int)) = True := eq_true (of_decide_eq_true (by first | (with_reducible assumption) | assumption))
                  replace q17 := eq_true q17
                  have p19 : 0 ≤ (1 : Int) := (by omega)
                  have q19 : 1 < a0.size := (by have : (1 : Int) < (a0.size : Int) := of_decide_eq_true (by first | (with_reducible assumption) | assumption); omega)
                  have hx19 : ∀ h : 1 < a0.size, ((a0[1]'h).toNat : Int) = bt a0 1 := bt_at a0 1
                  clear p19
                  have qi19 : (1 < (a0.size : Int)) = True := eq_true (of_decide_eq_true (by first | (with_reducible assumption) | assumption))
                  replace q19 := eq_true q19
                  go_wp2_with (first | (go_at_call 10; (with_reducible refine (impl_SquareNamed.calls a0 t104 _ A20.out).mono ?_); rintro e w' ⟨rfl, ⟨nd, rfl⟩⟩; (try first | exact ⟨rfl, _, World.drewN_drewN _ _ _⟩ | exact ⟨rfl, _, Eq.trans (World.drewN_drewN _ _ _) (congrArg (World.drewN _) (Nat.add_assoc _ _ _))⟩)))
                  repeat (go_quiet (first | (go_at_call 10; (with_reducible refine (impl_SquareNamed.calls a0 t104 _ A20.out).mono ?_); rintro e w' ⟨rfl, ⟨nd, rfl⟩⟩; (try first | exact ⟨rfl, _, World.drewN_drewN _ _ _⟩ | exact ⟨rfl, _, Eq.trans (World.drewN_drewN _ _ _) (congrArg (World.drewN _) (Nat.add_assoc _ _ _))⟩))); try go_wp2_with (first | (go_at_call 10; (with_reducible refine (impl_SquareNamed.calls a0 t104 _ A20.out).mono ?_); rintro e w' ⟨rfl, ⟨nd, rfl⟩⟩; (try first | exact ⟨rfl, _, World.drewN_drewN _ _ _⟩ | exact ⟨rfl, _, Eq.trans (World.drewN_drewN _ _ _) (congrArg (World.drewN _) (Nat.add_assoc _ _ _))⟩))))
                  go_ret
                  exact ⟨by first | rfl | (simp; done) | (simp [*]; done), by repeat (first | exact Drawn0.refl _ | apply Drawn0.step)⟩
              · rw [if_neg c18] at H
                exact absurd H (by simp)
            · rw [if_neg c16] at H
              exact absurd H (by simp)
          · replace c15 := Bool.eq_false_iff.mpr c15
            subst c15
            have H1 : ((impl_SquareNamed.f a0).bind fun t106 => (if t106 = 0 then ((impl_SquareNamed.f (⟨#[104, 56]⟩ : ByteArray)).bind fun t107 => (some (t107 == 63))) else (some false))) = some r := by rw [if_neg (show ¬ (false = true) by decide)] at H; exact H
            clear H
            have H := H1
            clear H1
            replace H := Option.bind_eq_some_iff.mp H
            obtain ⟨t106, A230, H⟩ := H
            replace H : (if t106 = 0 then ((impl_SquareNamed.f (⟨#[104, 56]⟩ : ByteArray)).bind fun t107 => (some (t107 == 63))) else (some false)) = some r := H
            have A23 := Aside0.mk A230
            clear A230
            by_cases c24 : t106 = 0
            · rw [if_pos c24] at H
              have c24b0 : (t106 == 0) = true := beq_iff_eq.mpr c24
              have c24b1 : (t106 != 0) = false := bne_eq_false_iff_eq.mpr c24
              clear c24
              replace H := Option.bind_eq_some_iff.mp H
              obtain ⟨t107, A250, H⟩ := H
              replace H : (some (t107 == 63)) = some r := H
              have A25 := Aside0.mk A250
              clear A250
              obtain rfl := Option.some.inj H
              go_wp2_with (first | (go_at_call 10; (with_reducible refine (impl_SquareNamed.calls a0 t106 _ A23.out).mono ?_); rintro e w' ⟨rfl, ⟨nd, rfl⟩⟩; (try first | exact ⟨rfl, _, World.drewN_drewN _ _ _⟩ | exact ⟨rfl, _, Eq.trans (World.drewN_drewN _ _ _) (congrArg (World.drewN _) (Nat.add_assoc _ _ _))⟩)) | (go_at_call 10; (with_reducible refine (impl_SquareNamed.calls (⟨#[104, 56]⟩ : ByteArray) t107 _ A25.out).mono ?_); rintro e w' ⟨rfl, ⟨nd, rfl⟩⟩; (try first | exact ⟨rfl, _, World.drewN_drewN _ _ _⟩ | exact ⟨rfl, _, Eq.trans (World.drewN_drewN _ _ _) (congrArg (World.drewN _) (Nat.add_assoc _ _ _))⟩)))
              repeat (go_quiet (first | (go_at_call 10; (with_reducible refine (impl_SquareNamed.calls a0 t106 _ A23.out).mono ?_); rintro e w' ⟨rfl, ⟨nd, rfl⟩⟩; (try first | exact ⟨rfl, _, World.drewN_drewN _ _ _⟩ | exact ⟨rfl, _, Eq.trans (World.drewN_drewN _ _ _) (congrArg (World.drewN _) (Nat.add_assoc _ _ _))⟩)) | (go_at_call 10; (with_reducible refine (impl_SquareNamed.calls (⟨#[104, 56]⟩ : ByteArray) t107 _ A25.out).mono ?_); rintro e w' ⟨rfl, ⟨nd, rfl⟩⟩; (try first | exact ⟨rfl, _, World.drewN_drewN _ _ _⟩ | exact ⟨rfl, _, Eq.trans (World.drewN_drewN _ _ _) (congrArg (World.drewN _) (Nat.add_assoc _ _ _))⟩))); try go_wp2_with (first | (go_at_call 10; (with_reducible refine (impl_SquareNamed.calls a0 t106 _ A23.out).mono ?_); rintro e w' ⟨rfl, ⟨nd, rfl⟩⟩; (try first | exact ⟨rfl, _, World.drewN_drewN _ _ _⟩ | exact ⟨rfl, _, Eq.trans (World.drewN_drewN _ _ _) (congrArg (World.drewN _) (Nat.add_assoc _ _ _))⟩)) | (go_at_call 10; (with_reducible refine (impl_SquareNamed.calls (⟨#[104, 56]⟩ : ByteArray) t107 _ A25.out).mono ?_); rintro e w' ⟨rfl, ⟨nd, rfl⟩⟩; (try first | exact ⟨rfl, _, World.drewN_drewN _ _ _⟩ | exact ⟨rfl, _, Eq.trans (World.drewN_drewN _ _ _) (congrArg (World.drewN _) (Nat.add_assoc _ _ _))⟩))))
              go_ret
              exact ⟨by first | rfl | (simp; done) | (simp [*]; done), by repeat (first | exact Drawn0.refl _ | apply Drawn0.step)⟩
            · rw [if_neg c24] at H
              have c24b0 : (t106 == 0) = false := beq_eq_false_iff_ne.mpr c24
              have c24b1 : (t106 != 0) = true := bne_iff_ne.mpr c24
              obtain rfl := Option.some.inj H
              go_wp2_with (first | (go_at_call 10; (with_reducible refine (impl_SquareNamed.calls a0 t106 _ A23.out).mono ?_); rintro e w' ⟨rfl, ⟨nd, rfl⟩⟩; (try first | exact ⟨rfl, _, World.drewN_drewN _ _ _⟩ | exact ⟨rfl, _, Eq.trans (World.drewN_drewN _ _ _) (congrArg (World.drewN _) (Nat.add_assoc _ _ _))⟩)))
              repeat (go_quiet (first | (go_at_call 10; (with_reducible refine (impl_SquareNamed.calls a0 t106 _ A23.out).mono ?_); rintro e w' ⟨rfl, ⟨nd, rfl⟩⟩; (try first | exact ⟨rfl, _, World.drewN_drewN _ _ _⟩ | exact ⟨rfl, _, Eq.trans (World.drewN_drewN _ _ _) (congrArg (World.drewN _) (Nat.add_assoc _ _ _))⟩))); try go_wp2_with (first | (go_at_call 10; (with_reducible refine (impl_SquareNamed.calls a0 t106 _ A23.out).mono ?_); rintro e w' ⟨rfl, ⟨nd, rfl⟩⟩; (try first | exact ⟨rfl, _, World.drewN_drewN _ _ _⟩ | exact ⟨rfl, _, Eq.trans (World.drewN_drewN _ _ _) (congrArg (World.drewN _) (Nat.add_assoc _ _ _))⟩))))
              go_ret
              exact ⟨by first | rfl | (simp; done) | (simp [*]; done), by repeat (first | exact Drawn0.refl _ | apply Drawn0.step)⟩

/-- THE ONE PURE STATEMENT of laws_FnNmNamed: yours. -/
def laws_FnNmNamed.Pure : Prop := ∀ (a0 : ByteArray), a0.size ≤ 140737488351232 → ∃ k, laws_FnNmNamed.f k a0 = some true
theorem laws_FnNmNamed.walk (P : laws_FnNmNamed.Pure) (a0 : ByteArray) (w : World) (w0 : a0.size ≤ 140737488351232) :
    Calls Try.prog 4 #[.string a0] w fun e w' => e = .returned (.bool true) ∧ Below w.heap.size w w' := by
  obtain ⟨k, h⟩ := P a0 w0
  refine (laws_FnNmNamed.calls k a0 true w h).mono ?_
  rintro e w' ⟨rfl, hd⟩
  exact ⟨rfl, hd.below⟩

end Go.Proofs.Ytgebocnomapchaa.PFnNmNamed
