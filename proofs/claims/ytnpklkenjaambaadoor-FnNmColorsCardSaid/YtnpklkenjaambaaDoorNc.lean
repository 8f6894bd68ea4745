/- A text that is read as a colour, and the law of the colours. The tables of the library hold what the program's text lays. -/
import Derived.Test.YtnpklkenjaambaaDoorNa
import Derived.Test.YtnpklkenjaambaaDoorLw
import Derived.Test.YtnpklkenjaambaaDoorShelf
import Derived.Lib.LaidCase
namespace Go.Proofs.YtnpklkenjaambaaDoor
open Go.RowKit Go.Lib
set_option maxHeartbeats 1600000
set_option linter.unusedSimpArgs false
set_option linter.unusedVariables false
set_option maxRecDepth 100000

theorem nc_lay {p : Prop} (h : p) : Shut p := h
theorem nc_no {s t : ByteArray} (h : ¬ s = t) : (s.toList == t.toList) = false := by
  cases hb : (s.toList == t.toList) with
  | false => rfl
  | true =>
    exfalso
    apply h
    have h1 := eq_of_beq hb
    rw [ByteArray.toList_eq, ByteArray.toList_eq] at h1
    cases s
    cases t
    simpa using h1
theorem nc_no1 {s : ByteArray} {x : UInt8} (h : ¬ s = ⟨#[x]⟩) : (s.toList == [x]) = false := by
  have h1 := nc_no h
  rw [ByteArray.toList_eq ⟨#[x]⟩] at h1
  exact h1

/-- The colour that a text says: 1 white, 2 black, 0 none. -/
def colN (s : ByteArray) : Int := if s.data.toList = [119] ∨ s.data.toList = [87] then 1 else if s.data.toList = [98] ∨ s.data.toList = [66] then 2 else 0
def lowS (s : ByteArray) : ByteArray := ⟨(toLowerD s.data.toList).toArray⟩
theorem low_w (s : ByteArray) : lowS s = ⟨#[119]⟩ ↔ s.data.toList = [119] ∨ s.data.toList = [87] := by
  rw [← low_is s.data.toList 119 87 (by decide) (by decide)]
  unfold lowS
  constructor
  · intro h
    have := congrArg (fun b : ByteArray => b.data.toList) h
    simpa using this
  · intro h
    rw [h]
theorem low_b (s : ByteArray) : lowS s = ⟨#[98]⟩ ↔ s.data.toList = [98] ∨ s.data.toList = [66] := by
  rw [← low_is s.data.toList 98 66 (by decide) (by decide)]
  unfold lowS
  constructor
  · intro h
    have := congrArg (fun b : ByteArray => b.data.toList) h
    simpa using this
  · intro h
    rw [h]

theorem bytes_is (s : ByteArray) (x : UInt8) : s = ⟨#[x]⟩ ↔ s.data.toList = [x] := by
  constructor
  · rintro rfl; rfl
  · intro h
    cases s with
    | mk d => simp at h; subst_vars; cases d; simp_all
theorem nc_from (s : ByteArray) (w : World) (hs : s.size ≤ 20) (hV : CaseVar (Tryd.lays159_ren.g 13) caseA w) (hT : Lib.Utf8Tabs (Tryd.lays159_ren.g 3) (Tryd.lays159_ren.g 4) w) :
    Calls Tryd.prog 36 #[.string s] w fun e w' => e = .returned (.int .i8 (colN s)) ∧ Below w.heap.size w w' := by
  have hc := nc_lay (Tryd.strings_ToLower_any s w (by omega) hV hT)
  clear hV hT
  have e1 := nc_lay (low_w s)
  have e2 := nc_lay (low_b s)
  have e3 := nc_lay (show lowS s = ⟨(toLowerD s.data.toList).toArray⟩ from rfl)
  go_enter Tryd.func36, Tryd.ntmps36
  go_wp2_with fail
  refine hc.out.mono ?_
  rintro e w1 ⟨rfl, q1⟩
  rw [← e3.out]
  have e4 : Shut (colN s = if lowS s = ⟨#[119]⟩ then 1 else if lowS s = ⟨#[98]⟩ then 2 else 0) := by
    show _ = _
    unfold colN
    simp only [e1.out, e2.out]
  clear e1 e2 e3 hc
  generalize lowS s = S at *
  by_cases h1 : S = ⟨#[119]⟩
  · subst h1
    go_wp2
    go_ret
    exact ⟨by rw [e4.out]; rfl, q1⟩
  · have hf1 := nc_no1 h1
    by_cases h2 : S = ⟨#[98]⟩
    · subst h2
      go_wp2
      go_ret
      exact ⟨by rw [e4.out, if_neg h1]; simp, q1⟩
    · have hf2 := nc_no1 h2
      replace e4 := e4.out
      rw [if_neg h1, if_neg h2] at e4
      clear h1 h2
      go_wp2
      go_ret
      exact ⟨by rw [e4]; rfl, q1⟩
theorem nc_read (s : ByteArray) (w : World) (hs : s.size ≤ 20) (hV : CaseVar (Tryd.lays159_ren.g 13) caseA w) (hT : Lib.Utf8Tabs (Tryd.lays159_ren.g 3) (Tryd.lays159_ren.g 4) w) :
    Calls Tryd.prog 16 #[.string s] w fun e w' => e = .returned (.int .i64 (colN s)) ∧ Below w.heap.size w w' := by
  have hc := nc_lay (nc_from s w hs hV hT)
  have hb : -128 ≤ colN s ∧ colN s ≤ 127 := by unfold colN; split <;> (try split) <;> omega
  clear hV hT
  generalize colN s = c at *
  go_enter Tryd.func16, Tryd.ntmps16
  go_wp2_with fail
  refine hc.out.mono ?_
  rintro e w1 ⟨rfl, q1⟩
  clear hc
  go_wp2
  go_ret
  exact ⟨by first | rfl | simp, q1⟩


/-- The law behind the first test and the reading of what is wanted. -/
theorem nc_law (s : ByteArray) (hs0 : s.size ≤ 140737488351232) (w : World) (hV : CaseVar (Tryd.lays159_ren.g 13) caseA w) (hT : Lib.Utf8Tabs (Tryd.lays159_ren.g 3) (Tryd.lays159_ren.g 4) w) :
    Calls Tryd.prog 5 #[.string s] w fun e w' => e = .returned (.bool true) ∧ Below w.heap.size w w' := by
  by_cases hm : (2147483647 : Int) < (s.size : Int)
  · clear hV hT
    go_enter Tryd.func5, Tryd.ntmps5
    go_wp2
    go_ret
    exact ⟨rfl, Below.refl _ _⟩
  have hcol : Shut (colN s = if s = ⟨#[119]⟩ ∨ s = ⟨#[87]⟩ then 1 else if s = ⟨#[98]⟩ ∨ s = ⟨#[66]⟩ then 2 else 0) := by
    show _ = _
    unfold colN
    simp only [bytes_is]
  have hTV : Shut (CaseVar (Tryd.lays159_ren.g 13) caseA w ∧ Lib.Utf8Tabs (Tryd.lays159_ren.g 3) (Tryd.lays159_ren.g 4) w) := ⟨hV, hT⟩
  clear hV hT
  have go : ∀ (W : ByteArray), True := fun _ => trivial
  by_cases h20 : s.size ≤ 20
  · have h20' : ¬ (20 : Int) < (s.size : Int) := by omega
    by_cases x0 : s = ⟨#[119]⟩
    · have hcc := hcol.out
      subst x0
      rw [if_pos (Or.inl rfl)] at hcc
      clear hcol
      go_enter Tryd.func5, Tryd.ntmps5
      go_wp2_with fail
      refine (nc_iText1 _).mono ?_
      rintro e w1 ⟨rfl, q1⟩
      go_wp2_with fail
      refine (nc_iText2 _).mono ?_
      rintro e w2 ⟨rfl, q⟩
      have q2 := q1.trans (q.mono q1.size)
      clear q q1
      go_wp2_with fail
      refine (nc_iName1 _).mono ?_
      rintro e w3 ⟨rfl, q⟩
      have q3 := q2.trans (q.mono q2.size)
      clear q q2
      go_wp2_with fail
      refine (nc_iName2 _).mono ?_
      rintro e w4 ⟨rfl, q⟩
      have q4 := q3.trans (q.mono q3.size)
      clear q q3
      go_wp2_with fail
      refine (nc_iOther1 _).mono ?_
      rintro e w5 ⟨rfl, q⟩
      have q5 := q4.trans (q.mono q4.size)
      clear q q4
      go_wp2_with fail
      refine (nc_iOther2 _).mono ?_
      rintro e w6 ⟨rfl, q⟩
      have q6 := q5.trans (q.mono q5.size)
      clear q q5
      go_wp2_with fail
      refine (nc_iOther0 _).mono ?_
      rintro e w7 ⟨rfl, q⟩
      have q7 := q6.trans (q.mono q6.size)
      clear q q6
      go_wp2_with fail
      refine (nc_read _ _ h20 (CaseVar_below hTV.out.1 q7) (Utf8Tabs_below hTV.out.2 q7)).mono ?_
      rintro e w8 ⟨rfl, q⟩
      have q8 := q7.trans (q.mono q7.size)
      clear q q7
      rw [hcc]
      go_wp2_with fail
      go_ret
      exact ⟨rfl, q8⟩
    · have f0 := nc_no1 x0
      by_cases x1 : s = ⟨#[87]⟩
      · have hcc := hcol.out
        subst x1
        rw [if_pos (Or.inr rfl)] at hcc
        clear hcol
        go_enter Tryd.func5, Tryd.ntmps5
        go_wp2_with fail
        refine (nc_iText1 _).mono ?_
        rintro e w1 ⟨rfl, q1⟩
        go_wp2_with fail
        refine (nc_iText2 _).mono ?_
        rintro e w2 ⟨rfl, q⟩
        have q2 := q1.trans (q.mono q1.size)
        clear q q1
        go_wp2_with fail
        refine (nc_iName1 _).mono ?_
        rintro e w3 ⟨rfl, q⟩
        have q3 := q2.trans (q.mono q2.size)
        clear q q2
        go_wp2_with fail
        refine (nc_iName2 _).mono ?_
        rintro e w4 ⟨rfl, q⟩
        have q4 := q3.trans (q.mono q3.size)
        clear q q3
        go_wp2_with fail
        refine (nc_iOther1 _).mono ?_
        rintro e w5 ⟨rfl, q⟩
        have q5 := q4.trans (q.mono q4.size)
        clear q q4
        go_wp2_with fail
        refine (nc_iOther2 _).mono ?_
        rintro e w6 ⟨rfl, q⟩
        have q6 := q5.trans (q.mono q5.size)
        clear q q5
        go_wp2_with fail
        refine (nc_iOther0 _).mono ?_
        rintro e w7 ⟨rfl, q⟩
        have q7 := q6.trans (q.mono q6.size)
        clear q q6
        go_wp2_with fail
        refine (nc_read _ _ h20 (CaseVar_below hTV.out.1 q7) (Utf8Tabs_below hTV.out.2 q7)).mono ?_
        rintro e w8 ⟨rfl, q⟩
        have q8 := q7.trans (q.mono q7.size)
        clear q q7
        rw [hcc]
        go_wp2_with fail
        go_ret
        exact ⟨rfl, q8⟩
      · have f1 := nc_no1 x1
        by_cases x2 : s = ⟨#[98]⟩
        · have hcc := hcol.out
          subst x2
          rw [if_neg (by decide), if_pos (Or.inl rfl)] at hcc
          clear hcol
          go_enter Tryd.func5, Tryd.ntmps5
          go_wp2_with fail
          refine (nc_iText1 _).mono ?_
          rintro e w1 ⟨rfl, q1⟩
          go_wp2_with fail
          refine (nc_iText2 _).mono ?_
          rintro e w2 ⟨rfl, q⟩
          have q2 := q1.trans (q.mono q1.size)
          clear q q1
          go_wp2_with fail
          refine (nc_iName1 _).mono ?_
          rintro e w3 ⟨rfl, q⟩
          have q3 := q2.trans (q.mono q2.size)
          clear q q2
          go_wp2_with fail
          refine (nc_iName2 _).mono ?_
          rintro e w4 ⟨rfl, q⟩
          have q4 := q3.trans (q.mono q3.size)
          clear q q3
          go_wp2_with fail
          refine (nc_iOther1 _).mono ?_
          rintro e w5 ⟨rfl, q⟩
          have q5 := q4.trans (q.mono q4.size)
          clear q q4
          go_wp2_with fail
          refine (nc_iOther2 _).mono ?_
          rintro e w6 ⟨rfl, q⟩
          have q6 := q5.trans (q.mono q5.size)
          clear q q5
          go_wp2_with fail
          refine (nc_iOther0 _).mono ?_
          rintro e w7 ⟨rfl, q⟩
          have q7 := q6.trans (q.mono q6.size)
          clear q q6
          go_wp2_with fail
          refine (nc_read _ _ h20 (CaseVar_below hTV.out.1 q7) (Utf8Tabs_below hTV.out.2 q7)).mono ?_
          rintro e w8 ⟨rfl, q⟩
          have q8 := q7.trans (q.mono q7.size)
          clear q q7
          rw [hcc]
          go_wp2_with fail
          go_ret
          exact ⟨rfl, q8⟩
        · have f2 := nc_no1 x2
          by_cases x3 : s = ⟨#[66]⟩
          · have hcc := hcol.out
            subst x3
            rw [if_neg (by decide), if_pos (Or.inr rfl)] at hcc
            clear hcol
            go_enter Tryd.func5, Tryd.ntmps5
            go_wp2_with fail
            refine (nc_iText1 _).mono ?_
            rintro e w1 ⟨rfl, q1⟩
            go_wp2_with fail
            refine (nc_iText2 _).mono ?_
            rintro e w2 ⟨rfl, q⟩
            have q2 := q1.trans (q.mono q1.size)
            clear q q1
            go_wp2_with fail
            refine (nc_iName1 _).mono ?_
            rintro e w3 ⟨rfl, q⟩
            have q3 := q2.trans (q.mono q2.size)
            clear q q2
            go_wp2_with fail
            refine (nc_iName2 _).mono ?_
            rintro e w4 ⟨rfl, q⟩
            have q4 := q3.trans (q.mono q3.size)
            clear q q3
            go_wp2_with fail
            refine (nc_iOther1 _).mono ?_
            rintro e w5 ⟨rfl, q⟩
            have q5 := q4.trans (q.mono q4.size)
            clear q q4
            go_wp2_with fail
            refine (nc_iOther2 _).mono ?_
            rintro e w6 ⟨rfl, q⟩
            have q6 := q5.trans (q.mono q5.size)
            clear q q5
            go_wp2_with fail
            refine (nc_iOther0 _).mono ?_
            rintro e w7 ⟨rfl, q⟩
            have q7 := q6.trans (q.mono q6.size)
            clear q q6
            go_wp2_with fail
            refine (nc_read _ _ h20 (CaseVar_below hTV.out.1 q7) (Utf8Tabs_below hTV.out.2 q7)).mono ?_
            rintro e w8 ⟨rfl, q⟩
            have q8 := q7.trans (q.mono q7.size)
            clear q q7
            rw [hcc]
            go_wp2_with fail
            go_ret
            exact ⟨rfl, q8⟩
          · have f3 := nc_no1 x3
            have hcc := hcol.out
            rw [if_neg (by rintro (h | h) <;> contradiction), if_neg (by rintro (h | h) <;> contradiction)] at hcc
            clear hcol x0 x1 x2 x3
            have h20' : ¬ (20 : Int) < (s.size : Int) := by omega
            go_enter Tryd.func5, Tryd.ntmps5
            go_wp2_with fail
            refine (nc_iText1 _).mono ?_
            rintro e w1 ⟨rfl, q1⟩
            go_wp2_with fail
            refine (nc_iText2 _).mono ?_
            rintro e w2 ⟨rfl, q⟩
            have q2 := q1.trans (q.mono q1.size)
            clear q q1
            go_wp2_with fail
            refine (nc_iName1 _).mono ?_
            rintro e w3 ⟨rfl, q⟩
            have q3 := q2.trans (q.mono q2.size)
            clear q q2
            go_wp2_with fail
            refine (nc_iName2 _).mono ?_
            rintro e w4 ⟨rfl, q⟩
            have q4 := q3.trans (q.mono q3.size)
            clear q q3
            go_wp2_with fail
            refine (nc_iOther1 _).mono ?_
            rintro e w5 ⟨rfl, q⟩
            have q5 := q4.trans (q.mono q4.size)
            clear q q4
            go_wp2_with fail
            refine (nc_iOther2 _).mono ?_
            rintro e w6 ⟨rfl, q⟩
            have q6 := q5.trans (q.mono q5.size)
            clear q q5
            go_wp2_with fail
            refine (nc_iOther0 _).mono ?_
            rintro e w7 ⟨rfl, q⟩
            have q7 := q6.trans (q.mono q6.size)
            clear q q6
            go_wp2_with fail
            refine (nc_read _ _ h20 (CaseVar_below hTV.out.1 q7) (Utf8Tabs_below hTV.out.2 q7)).mono ?_
            rintro e w8 ⟨rfl, q⟩
            have q8 := q7.trans (q.mono q7.size)
            clear q q7
            rw [hcc]
            go_wp2_with fail
            go_ret
            exact ⟨rfl, q8⟩
  · have h20' : (20 : Int) < (s.size : Int) := by omega
    by_cases x0 : s = ⟨#[119]⟩
    · have hcc := hcol.out
      subst x0
      rw [if_pos (Or.inl rfl)] at hcc
      clear hcol
      exact absurd (by decide) h20
    · have f0 := nc_no1 x0
      by_cases x1 : s = ⟨#[87]⟩
      · have hcc := hcol.out
        subst x1
        rw [if_pos (Or.inr rfl)] at hcc
        clear hcol
        exact absurd (by decide) h20
      · have f1 := nc_no1 x1
        by_cases x2 : s = ⟨#[98]⟩
        · have hcc := hcol.out
          subst x2
          rw [if_neg (by decide), if_pos (Or.inl rfl)] at hcc
          clear hcol
          exact absurd (by decide) h20
        · have f2 := nc_no1 x2
          by_cases x3 : s = ⟨#[66]⟩
          · have hcc := hcol.out
            subst x3
            rw [if_neg (by decide), if_pos (Or.inr rfl)] at hcc
            clear hcol
            exact absurd (by decide) h20
          · have f3 := nc_no1 x3
            have hcc := hcol.out
            rw [if_neg (by rintro (h | h) <;> contradiction), if_neg (by rintro (h | h) <;> contradiction)] at hcc
            clear hcol x0 x1 x2 x3
            have h20' : (20 : Int) < (s.size : Int) := by omega
            go_enter Tryd.func5, Tryd.ntmps5
            go_wp2_with fail
            refine (nc_iText1 _).mono ?_
            rintro e w1 ⟨rfl, q1⟩
            go_wp2_with fail
            refine (nc_iText2 _).mono ?_
            rintro e w2 ⟨rfl, q⟩
            have q2 := q1.trans (q.mono q1.size)
            clear q q1
            go_wp2_with fail
            refine (nc_iName1 _).mono ?_
            rintro e w3 ⟨rfl, q⟩
            have q3 := q2.trans (q.mono q2.size)
            clear q q2
            go_wp2_with fail
            refine (nc_iName2 _).mono ?_
            rintro e w4 ⟨rfl, q⟩
            have q4 := q3.trans (q.mono q3.size)
            clear q q3
            go_wp2_with fail
            refine (nc_iOther1 _).mono ?_
            rintro e w5 ⟨rfl, q⟩
            have q5 := q4.trans (q.mono q4.size)
            clear q q4
            go_wp2_with fail
            refine (nc_iOther2 _).mono ?_
            rintro e w6 ⟨rfl, q⟩
            have q6 := q5.trans (q.mono q5.size)
            clear q q5
            go_wp2_with fail
            refine (nc_iOther0 _).mono ?_
            rintro e w7 ⟨rfl, q⟩
            have q7 := q6.trans (q.mono q6.size)
            clear q q6
            go_wp2_with fail
            go_ret
            exact ⟨rfl, q7⟩
end Go.Proofs.YtnpklkenjaambaaDoor
