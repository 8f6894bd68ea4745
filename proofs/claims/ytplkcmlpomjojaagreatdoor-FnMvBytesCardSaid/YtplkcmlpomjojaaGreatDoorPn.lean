/- impl.plain: a position of the engine as plain data. For every sound position. -/
import Derived.Test.YtplkcmlpomjojaaGreatDoorCc
import Derived.Test.YtplkcmlpomjojaaGreatDoorBq
namespace Go.Proofs.YtplkcmlpomjojaaGreatDoor
open Go Go.RowKit
set_option maxHeartbeats 8000000
set_option linter.unusedSimpArgs false
set_option linter.unusedVariables false
set_option maxRecDepth 100000

def plN (b : List Int) (t c e h f : Int) : List Int := b ++ [t, c, e, h, f]
theorem plN_len (b : List Int) (t c e h f : Int) (hl : b.length = 64) : (plN b t c e h f).length = 69 := by simp [plN, hl]
theorem plN_65 (b : List Int) (t c e h f : Int) (hl : b.length = 64) : (plN b t c e h f).getD 65 0 = c := by
  unfold plN
  rw [List.getD_eq_getElem?_getD, List.getElem?_append_right (by omega)]
  simp [hl]
theorem plN_set64 (b : List Int) (t c e h f t' : Int) (hl : b.length = 64) : (plN b t c e h f).set 64 t' = plN b t' c e h f := by
  unfold plN
  rw [List.set_append_right _ _ (by omega)]
  simp [hl]
theorem plN_set65 (b : List Int) (t c e h f c' : Int) (hl : b.length = 64) : (plN b t c e h f).set 65 c' = plN b t c' e h f := by
  unfold plN
  rw [List.set_append_right _ _ (by omega)]
  simp [hl]
theorem plN_all (p : List Int) (hl : p.length = 69) : plN (p.take 64) (p.getD 64 0) (p.getD 65 0) (p.getD 66 0) (p.getD 67 0) (p.getD 68 0) = p := by
  unfold plN
  have h : p.drop 64 = [p.getD 64 0, p.getD 65 0, p.getD 66 0, p.getD 67 0, p.getD 68 0] := by
    apply List.ext_getElem?
    intro i
    match i with
    | 0 => simp [List.getElem?_drop, hl]
    | 1 => simp [List.getElem?_drop, hl]
    | 2 => simp [List.getElem?_drop, hl]
    | 3 => simp [List.getElem?_drop, hl]
    | 4 => simp [List.getElem?_drop, hl]
    | i + 5 => rw [List.getElem?_eq_none (by simp [hl]), List.getElem?_eq_none (by simp)]
  rw [← h, List.take_append_drop]
theorem bt_infoP : (Tryz.prog.info? 24).map (fun i => (i.zero, i.size)) = some (some (.agg (ints (List.replicate 69 0))), 69) := by kernel_rfl
/-- Cells laid over others, from one place on. -/
theorem overP : ∀ (l : List Value) (k : Nat) (cs : Array Value), k + l.length ≤ cs.size → ((l.zipIdx k).foldl (fun (cs : Array Value) (x : Value × Nat) => cs.setIfInBounds (0 + x.2) x.1) cs).toList = cs.toList.take k ++ l ++ cs.toList.drop (k + l.length)
  | [], k, cs, h => by simp
  | x :: l, k, cs, h => by
    simp only [List.zipIdx_cons, List.foldl_cons]
    have hk : k < cs.size := by simp at h; omega
    rw [overP l (k + 1) _ (by simp at h ⊢; omega)]
    simp only [Nat.zero_add, Array.toList_setIfInBounds]
    have e1 : (cs.toList.set k x).take (k + 1) = cs.toList.take k ++ [x] := by
      rw [List.take_add_one, List.take_set_of_le (Nat.le_refl k)]
      simp [hk]
    have e2 : (cs.toList.set k x).drop (k + 1 + l.length) = cs.toList.drop (k + 1 + l.length) := by
      rw [List.drop_set_of_lt (by omega)]
    rw [e1, e2]
    simp [Nat.add_assoc, Nat.add_comm 1]
theorem fillP (p : List Int) (h : p.length = 64) : (ints p).zipIdx.foldl (fun cs (c, j) => cs.setIfInBounds (0 + j) c) (ints (List.replicate 69 0)) = ints (p ++ [0, 0, 0, 0, 0]) := by
  apply Array.ext'
  rw [← Array.foldl_toList, Array.toList_zipIdx]
  have := overP (ints p).toList 0 (ints (List.replicate 69 0)) (by simp [ints, h])
  refine Eq.trans this ?_
  simp [ints, h]
theorem builtP (p : List Int) (h : p.length = 64) (a b c : Int) : Tryz.prog.built 24 [(0, .agg (ints p)), (3, .int .i64 a), (4, .int .i64 b), (5, .int .i64 c)] = some (ints (p ++ [0, 0, a, b, c])) := by
  have hp : (Tryz.prog.fieldsOf 24).toList.mapM (fun f => (Tryz.prog.info? f.type).map fun i => (f.offset, i.size)) = some [(0, 64), (64, 1), (65, 1), (66, 1), (67, 1), (68, 1)] := by kernel_rfl
  have hu : Tryz.prog.underlying 24 = some (.struct (Tryz.prog.fieldsOf 24)) := by kernel_rfl
  have hi := bt_infoP
  cases hin : Tryz.prog.info? 24 with
  | none => rw [hin] at hi; cases hi
  | some it =>
    rw [hin] at hi
    simp only [Option.map_some, Option.some.injEq, Prod.mk.injEq] at hi
    unfold Program.built
    simp only [hin, hu, hi.1, hp]
    have hs : (Value.agg (ints p)).cells = ints p := rfl
    have hs2 : (Value.agg (ints (List.replicate 69 0))).cells = ints (List.replicate 69 0) := rfl
    simp only [hs2, Instr.fill, hs, ints_size, h]
    have hf : Array.foldl (fun cs (x : Value × Nat) => cs.setIfInBounds (0 + x.snd) x.fst) (ints (List.replicate 69 0)) (ints p).zipIdx = ints (p ++ [0, 0, 0, 0, 0]) := fillP p h
    simp only [show (#[(0, 64), (64, 1), (65, 1), (66, 1), (67, 1), (68, 1)] : Array (Nat × Nat))[0]? = some (0, 64) from rfl, show (#[(0, 64), (64, 1), (65, 1), (66, 1), (67, 1), (68, 1)] : Array (Nat × Nat))[3]? = some (66, 1) from rfl, show (#[(0, 64), (64, 1), (65, 1), (66, 1), (67, 1), (68, 1)] : Array (Nat × Nat))[4]? = some (67, 1) from rfl, show (#[(0, 64), (64, 1), (65, 1), (66, 1), (67, 1), (68, 1)] : Array (Nat × Nat))[5]? = some (68, 1) from rfl]
    have one : ∀ (cs : Array Value) (k : Nat) (v : Int), Array.foldl (fun cs (x : Value × Nat) => cs.setIfInBounds (k + x.snd) x.fst) cs (Value.int .i64 v).cells.zipIdx = cs.setIfInBounds k (.int .i64 v) := fun cs k v => rfl
    have sz : ∀ v : Int, (Value.int .i64 v).cells.size = 1 := fun _ => rfl
    have hset : ∀ (l : List Int) (k : Nat) (z : Int), (ints l).setIfInBounds k (.int .i64 z) = ints (l.set k z) := fun l k z => by
      apply Array.ext'
      simp [ints, List.map_set]
    rw [hf]
    simp only [one, sz, hset, ints_size]
    have e : (((p ++ [0, 0, 0, 0, 0]).set 66 a).set 67 b).set 68 c = p ++ [0, 0, a, b, c] := by
      rw [List.set_append_right _ _ (by omega), List.set_append_right _ _ (by omega), List.set_append_right _ _ (by omega)]
      simp [h]
    rw [e]
    simp [h]
theorem at_build_plain {ops : Array Oper} {rest : List Oper} {a : Act} {w : World} {Q : Exit → Act → World → Prop} {d : Option Tmp} {x y z u : Operand} {ty : TypeId} {ps : String} {af : Array Edge} (p : List Int) (i j k : Int) (hl : p.length = 64) (hx : a.eval x = .agg (ints p)) (hy : a.eval y = .int .i64 i) (hz : a.eval z = .int .i64 j) (hu : a.eval u = .int .i64 k)
    (h : wpList Tryz.prog ops Q rest (a.put d (.agg (ints (plN p 0 0 i j k)))) w) : wpList Tryz.prog ops Q ({ dst := d, op := .build 24 #[(0, x), (3, y), (4, z), (5, u)], type := ty, pos := ps, after := af, guard := none } :: rest) a w :=
  wpList_buildTo rfl _ _ rfl d rfl (ints (p ++ [0, 0, i, j, k])) (by simp only [List.map_toArray, List.map_cons, List.map_nil, hx, hy, hz, hu]; exact builtP p hl i j k) h
end Go.Proofs.YtplkcmlpomjojaaGreatDoor
