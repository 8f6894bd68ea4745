/- Texts cut at blanks: the reference's words and the package's own split. -/
import Derived.Test.YtgebocnomapchaaKit
import Derived.LoopTactic
import Derived.Deep.LoopGhost
import Derived.OwnWalk
import Derived.Great.Walk
import Derived.Test.YtgebocnomapchaaAp
namespace Go.Proofs.Ytgebocnomapchaa
open Go Go.RowKit
set_option maxHeartbeats 4000000
set_option linter.unusedSimpArgs false
set_option linter.unusedVariables false
set_option maxRecDepth 100000

/-- Bytes as a text. -/
def bs (l : List UInt8) : ByteArray := ⟨l.toArray⟩
theorem bs_of (s : ByteArray) : s = bs s.data.toList := by cases s; simp [bs]
theorem bs_size (l : List UInt8) : (bs l).size = l.length := by simp [bs, ByteArray.size]
theorem bs_extract (l : List UInt8) (a b : Nat) : (bs l).extract a b = bs ((l.take b).drop a) := by
  apply ByteArray.ext
  apply Array.ext'
  simp [bs, ByteArray.data_extract, List.extract_eq_take_drop, List.drop_take]
theorem bs_get (l : List UInt8) (k : Nat) (h : k < (bs l).size) : (bs l)[k]'h = l.getD k 0 := by
  have h' : k < l.length := by rw [bs_size] at h; exact h
  show (l.toArray)[k] = _
  simp [h']
theorem bs_list (l : List UInt8) : (bs l).toList = l := by
  rw [ByteArray.toList_eq]
  simp [bs]
/-- The words of a text: its parts between blanks, also empty ones. -/
def glue (p : List UInt8) : List (List UInt8) → List (List UInt8)
  | [] => [p]
  | x :: ws => (p ++ x) :: ws
def words : List UInt8 → List (List UInt8)
  | [] => [[]]
  | c :: r => if c = 32 then [] :: words r else glue [c] (words r)
theorem glue_glue (p q : List UInt8) (ws : List (List UInt8)) : glue p (glue q ws) = glue (p ++ q) ws := by cases ws <;> simp [glue]
theorem words_ne (l : List UInt8) : words l ≠ [] := by
  cases l with
  | nil => simp [words]
  | cons c r =>
    unfold words
    split
    · simp
    · cases words r <;> simp [glue]
theorem glue_nil (ws : List (List UInt8)) (h : ws ≠ []) : glue [] ws = ws := by cases ws with | nil => exact absurd rfl h | cons a b => rfl
theorem words_le : ∀ l : List UInt8, (words l).length ≤ l.length + 1
  | [] => by simp [words]
  | c :: r => by
    have := words_le r
    unfold words
    split
    · simp; omega
    · cases h : words r with
      | nil => simp [glue]
      | cons a b => rw [h] at this; simp [glue]; simp at this; omega
theorem uw_info : (Try.prog.info? 9).map (fun i => (i.zero, i.size, i.bytes)) = some (some (.string ByteArray.empty), 1, 16) := by kernel_rfl
/-- Texts as values. -/
def strsV (l : List (List UInt8)) : List Value := l.map fun x => Value.string (bs x)

theorem uw_words (l : List UInt8) (w : World) (hl : l.length ≤ 1000) :
    Calls Try.prog 27 #[.string (bs l)] w fun e w' => ∃ v, e = .returned v ∧ w'.ownsRow w.heap.size 9 1 v (words l).length (strsV (words l)) ∧ Below w.heap.size w w' := by
  obtain ⟨i0, hi, hz0, hz1, hz2⟩ := info_parts uw_info
  have hsz := bs_size l
  go_enter Try.func27, Try.ntmps27
  go_wp2_with fail
  go_loopw [3, 4, 5] (fun v f i wr => ∃ (from' k : Nat) (out : List (List UInt8)), from' ≤ k ∧ k ≤ l.length + 1 ∧ i = .int .i64 (k : Int) ∧ (k ≤ l.length → f = .int .i64 (from' : Int)) ∧ wr.ownsRow w.heap.size 9 1 v out.length (strsV out) ∧ (k ≤ l.length → out ++ glue ((l.take k).drop from') (words (l.drop k)) = words l) ∧ (k = l.length + 1 → out = words l) ∧ Below w.heap.size w wr) (fun _ _ i _ => (l.length + 1 - (intOf i).toNat))
  case atStart => exact ⟨0, 0, [], by omega, by omega, rfl, fun _ => rfl, World.ownsRow_nil _ _ _ _, fun _ => by simp [glue_nil _ (words_ne l)], fun h => by omega, Below.refl _ _⟩
  case round =>
    obtain ⟨fr, k, out, hfk, hk, rfl, hf, hown, ht, hd, hbr⟩ := hrel
    by_cases hlt : k ≤ l.length
    · obtain rfl := hf hlt
      have ht := ht hlt
      by_cases hend : k = l.length
      · subst hend
        have hex : (bs l).extract fr l.length = bs (l.drop fr) := by rw [bs_extract]; simp
        have e1 : out ++ [l.drop fr] = words l := by rw [← ht]; simp [words, glue]
        go_wp2_with (with_reducible refine at_append1 Try.underlying38 hi hz0 hz1 hz2 rfl (by decide) rfl w.heap.size _ _ _ hown ?_ hbr.size ?_ ?_ ?_)
        · have := congrArg List.length e1
          have := words_le l
          simp at *
          omega
        · intro v' w' hown' hb'
          have hb2 := hbr.trans hb'
          clear hown hbr hb'
          try rw [hex] at hown'
          go_wp2
          go_roundw
          case rel =>
            refine ⟨0, l.length + 1, out ++ [l.drop fr], by omega, by omega, by go_num, fun h => by omega, ?_, fun h => by omega, fun _ => e1, hb2⟩
            rw [List.length_append, strsV, List.map_append]
            exact hown'
          case measure => simp [intOf]
      · have hk' : k < l.length := by omega
        have hex : (bs l).extract fr k = bs ((l.take k).drop fr) := bs_extract l fr k
        have hix := bs_get l k
        have hdr : l.drop k = l.getD k 0 :: l.drop (k + 1) := by rw [List.drop_eq_getElem_cons hk']; simp [hk']
        have hne : ((k : Int) == (l.length : Int)) = false := by simp; omega
        rw [hdr] at ht
        have htk : (l.take (k + 1)).drop fr = (l.take k).drop fr ++ [l.getD k 0] := by
          rw [List.take_add_one, List.drop_append_of_le_length (by simp; omega)]
          simp [hk']
        generalize l.getD k 0 = c at *
        by_cases hc : c = 32
        · subst hc
          rw [words, if_pos rfl] at ht
          have hc1 : ((((32 : UInt8).toNat : Nat) : Int) == 32) = true := by decide
          have e1 : out ++ [(l.take k).drop fr] ++ words (l.drop (k + 1)) = words l := by rw [← ht]; simp [glue]
          go_wp2_with (with_reducible refine at_append1 Try.underlying38 hi hz0 hz1 hz2 rfl (by decide) rfl w.heap.size _ _ _ hown ?_ hbr.size ?_ ?_ ?_)
          · have := congrArg List.length e1
            have := words_le l
            simp at *
            omega
          · intro v' w' hown' hb'
            have hb2 := hbr.trans hb'
            clear hown hbr hb'
            try rw [hex] at hown'
            go_wp2
            go_roundw
            case rel =>
              refine ⟨k + 1, k + 1, out ++ [(l.take k).drop fr], by omega, by omega, by go_num, fun h => by go_num, ?_, fun h => ?_, fun h => by omega, hb2⟩
              · rw [List.length_append, strsV, List.map_append]
                exact hown'
              · have e0 : (l.take (k + 1)).drop (k + 1) = [] := by simp
                rw [← e1, e0, glue_nil _ (words_ne _)]
            case measure => simp [intOf]; omega
        · have hcf : ((c.toNat : Int) == 32) = false := by
            simp
            intro h
            exact hc (UInt8.toNat_inj.1 (show c.toNat = 32 by omega))
          rw [words, if_neg hc] at ht
          clear hex
          go_wp2_with fail
          go_roundw
          case rel =>
            refine ⟨fr, k + 1, out, by omega, by omega, by go_num, fun _ => rfl, hown, fun h => ?_, fun h => by omega, hbr⟩
            rw [← ht, glue_glue]
            rw [htk]
          case measure => simp [intOf]; omega
    · obtain rfl : k = l.length + 1 := by omega
      have := hd rfl
      subst this
      go_wp2_with fail
      go_ret
      exact ⟨_, rfl, hown, hbr⟩

theorem uw_index (l : List UInt8) (w : World) (hl : l.length ≤ 1000) :
    Calls Try.prog 41 #[.string (bs l), .string (bs [32])] w fun e w' => w = w' ∧ ∃ z, e = .returned (.int .i64 z) ∧ ((z = -1 ∧ words l = [l]) ∨ ∃ k : Nat, z = k ∧ k < l.length ∧ words l = l.take k :: words (l.drop (k + 1))) := by
  have hsz := bs_size l
  have hs1 : (bs [32]).size = 1 := rfl
  go_enter Try.func41, Try.ntmps41
  go_wp2_with fail
  go_loop [5] (fun i => ∃ k : Nat, k ≤ l.length ∧ i = .int .i64 (k : Int) ∧ words l = glue (l.take k) (words (l.drop k))) (fun i => (l.length - (intOf i).toNat))
  case atStart => exact ⟨0, by omega, rfl, by simp [glue_nil _ (words_ne l)]⟩
  case round =>
    obtain ⟨k, hk, rfl, ht⟩ := hrel
    by_cases hk' : k < l.length
    · have hex : (bs l).extract k (k + 1) = bs [l.getD k 0] := by
        rw [bs_extract, List.take_add_one, List.drop_append_of_le_length (by simp; omega)]
        simp [hk']
      have hdr : l.drop k = l.getD k 0 :: l.drop (k + 1) := by rw [List.drop_eq_getElem_cons hk']; simp [hk']
      have htk : l.take (k + 1) = l.take k ++ [l.getD k 0] := by
        rw [List.take_add_one]; simp [hk']
      rw [hdr] at ht
      generalize l.getD k 0 = c at *
      by_cases hc : c = 32
      · subst hc
        rw [words, if_pos rfl] at ht
        go_wp2_with fail
        go_ret
        exact ⟨rfl, k, rfl, Or.inr ⟨k, rfl, hk', by simp [glue]⟩⟩
      · have hcf : ((bs [c]).toList == (bs [32]).toList) = false := by
          rw [bs_list, bs_list]
          simp [hc]
        rw [words, if_neg hc] at ht
        have htS : True → words l = glue (l.take (k + 1)) (words (l.drop (k + 1))) := fun _ => by rw [ht, glue_glue, htk]
        clear ht
        go_wp2_with fail
        go_round
        case rel => exact ⟨k + 1, by omega, by go_num, htS trivial⟩
        case measure => simp [intOf]; omega
    · obtain rfl : k = l.length := by omega
      have htS : True → words l = [l] := fun _ => by rw [ht]; simp [words, glue]
      clear ht
      go_wp2_with fail
      go_ret
      first | exact ⟨rfl, _, rfl, Or.inl ⟨rfl, htS trivial⟩⟩ | exact ⟨rfl, _, rfl, Or.inl rfl⟩

theorem uw_split (l : List UInt8) (w : World) (hl : l.length ≤ 1000) :
    Calls Try.prog 34 #[.string (bs l), .string (bs [32])] w fun e w' => ∃ v, e = .returned v ∧ w'.ownsRow w.heap.size 9 1 v (words l).length (strsV (words l)) ∧ Below w.heap.size w w' := by
  obtain ⟨i0, hi, hz0, hz1, hz2⟩ := info_parts uw_info
  have hs1 : (bs [32]).size = 1 := rfl
  go_enter Try.func34, Try.ntmps34
  go_wp2_with fail
  go_loopw [0, 5] (fun s v wr => ∃ (r : List UInt8) (out : List (List UInt8)), s = .string (bs r) ∧ r.length ≤ l.length ∧ wr.ownsRow w.heap.size 9 1 v out.length (strsV out) ∧ out ++ words r = words l ∧ Below w.heap.size w wr) (fun s _ _ => (match s with | .string b => b.size | _ => 0))
  case atStart => exact ⟨l, [], rfl, by omega, World.ownsRow_nil _ _ _ _, rfl, Below.refl _ _⟩
  case round =>
    obtain ⟨r, out, rfl, hr, hown, ht, hbr⟩ := hrel
    have hsr := bs_size r
    have hol : out.length ≤ 1001 := by
      have := congrArg List.length ht
      have := words_le l
      simp at *
      omega
    go_wp2_with fail
    refine (uw_index r _ (by omega)).mono ?_
    rintro e w1 ⟨rfl, z, rfl, ⟨rfl, hz⟩ | ⟨k, rfl, hk, hz⟩⟩
    · rw [hz] at ht
      clear hz
      have htS : True → out ++ [r] = words l := fun _ => ht
      clear ht
      go_wp2_with (with_reducible refine at_append1 Try.underlying38 hi hz0 hz1 hz2 rfl (by decide) rfl w.heap.size _ _ _ hown ?_ hbr.size ?_ ?_ ?_)
      all_goals try omega
      all_goals try rfl
      · intro v' w' hown' hb'
        have hb2 := hbr.trans hb'
        clear hown hbr hb'
        go_wp2
        go_ret
        refine ⟨_, rfl, ?_, hb2⟩
        rw [← htS trivial, List.length_append, strsV, List.map_append]
        exact hown'
    · have htS : True → (out ++ [r.take k]) ++ words (r.drop (k + 1)) = words l := fun _ => by rw [← ht, hz]; simp
      clear ht hz
      have hex : (bs r).extract 0 k = bs (r.take k) := by rw [bs_extract]; simp
      have hex2 : (bs r).extract (k + 1) r.length = bs (r.drop (k + 1)) := by rw [bs_extract]; simp
      go_wp2_with (with_reducible refine at_append1 Try.underlying38 hi hz0 hz1 hz2 rfl (by decide) rfl w.heap.size _ _ _ hown ?_ hbr.size ?_ ?_ ?_)
      all_goals try omega
      all_goals try rfl
      · intro v' w' hown' hb'
        have hb2 := hbr.trans hb'
        clear hown hbr hb'
        go_wp2
        go_roundw
        case rel =>
          refine ⟨r.drop (k + 1), out ++ [r.take k], rfl, by simp; omega, ?_, htS trivial, hb2⟩
          rw [List.length_append, strsV, List.map_append]
          exact hown'
        case measure => simp [bs_size]; omega
end Go.Proofs.Ytgebocnomapchaa
