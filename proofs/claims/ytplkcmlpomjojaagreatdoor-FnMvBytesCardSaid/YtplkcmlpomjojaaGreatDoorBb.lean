/- A number of 64 bits as eight bytes, the greatest first: what encoding/binary appends, and reads. For every number. -/
import Derived.Test.YtplkcmlpomjojaaGreatDoorBq
namespace Go.Proofs.YtplkcmlpomjojaaGreatDoor
open Go Go.RowKit
set_option maxHeartbeats 2000000
set_option linter.unusedSimpArgs false
set_option linter.unusedVariables false
set_option maxRecDepth 100000

/-- Byte j of a number, the greatest first. -/
def byteOf (x : BitVec 64) (j : Nat) : Int := ((x >>> (8 * (7 - j))).toNat % 256 : Nat)
def bytes8 (x : BitVec 64) : List Value := (List.range 8).map fun j => .int .u8 (byteOf x j)
theorem bbv_u8 {P : Program} {s d : TypeId} (x : BitVec 64) (w : World) (hs : (P.underlying s).isSome = true) (hd : P.underlying d = some (.int .u8)) : (convert s d (bbv x)).run P w = .ok (.int .u8 ((x.toNat % 256 : Nat) : Int)) w := by
  obtain ⟨k, hk⟩ := Option.isSome_iff_exists.1 hs
  have e : IntKind.u8.wrap (x.toNat : Int) = ((x.toNat % 256 : Nat) : Int) := by rw [IntKind.wrap_u8]; omega
  have e2 : Conv.intToInt .u8 (x.toNat : Int) = pure (.int .u8 ((x.toNat % 256 : Nat) : Int)) := by
    unfold Conv.intToInt
    rw [e]
  unfold bbv
  cases k <;> simp [convert, run_underlying hk, run_underlying hd, e2]
/-- Eight bytes are appended at once to a slice that the call owns. -/
theorem at_append8 {P : Program} {ops : Array Oper} {rest : List Oper} {a : Act} {w : World} {Q : Exit → Act → World → Prop} {d : Option Tmp} {x y : Operand} {ty : TypeId} {ps : String} {af : Array Edge} {us : List Value} {m : Nat} {t e : TypeId}
    {i : TypeInfo} {z : Value} {bytes : Nat} (ht : P.underlying t = some (.slice e)) (hi : P.info? e = some i) (hz : i.zero = some z) (hsize : i.size = 1) (hby : i.bytes = bytes) (hzs : z.cells.size = 1) (hb : bytes ≤ 16) (hm : us.length = m) (hm0 : 0 < m) (hm8 : m ≤ 8) (hu : ∀ q ∈ us, q.oneCell' = true)
    (base : Nat) (v : Value) (n : Nat) (xs : List Value) (hO : w.ownsRow base e 1 v n xs) (hlen : n ≤ 100000) (hbase : base ≤ w.heap.size)
    (hx : a.eval x = v) (hy : a.eval y = .slice (some ⟨w.heap.size, 0, none⟩) m m)
    (h : ∀ v' w', w'.ownsRow base e 1 v' (n + m) (xs ++ us) → Below base w w' → wpList P ops Q rest (a.put d v') w') :
    wpList P ops Q ({ dst := d, op := .call { callee := .builtin .append, args := #[x, y], argTypes := #[t, t] }, type := ty, pos := ps, after := af, guard := none } :: rest) a (w.alloc (.cells us.toArray e)) := by
  have hcell : ∀ j u, us[j]? = some u → (w.alloc (.cells us.toArray e)).cell? ((⟨w.heap.size, 0, none⟩ : Addr).add j) = some u := fun j u hj => by
    have e0 : (⟨w.heap.size, 0, none⟩ : Addr).add j = ⟨w.heap.size, j, none⟩ := by unfold Addr.add; split <;> simp_all
    rw [e0, cell_of_row _ _ _ _ _ _ (heap_alloc_new w _)]
    simpa using hj
  refine wpList_append_lies _ rfl x y t rfl base e i z 1 bytes ht hi hz hsize hby hzs (by decide) v n xs hx (hO.alloc _)
    ⟨w.heap.size, 0, none⟩ m m us hy (by simpa using hm) hcell hu hm0 ?_ ?_ ?_ (w.heap.size + 1) (by simp) ?_
  · first | (unfold maxLen; omega) | (have : (n + m) * bytes ≤ 100008 * 16 := Nat.mul_le_mul (by omega) hb; omega)
  · first | (have : (n + m) * bytes ≤ 100008 * 16 := Nat.mul_le_mul (by omega) hb; omega) | (simp; omega)
  · simp; omega
  · intro g cap w' hown hgrow hg _
    exact h _ _ hown (((Below.refl _ _).alloc hbase _).grown hgrow (by simp; omega) (own_ge hO))
theorem bytes8_eq (x : BitVec 64) : bytes8 x = [.int .u8 (((x >>> 56).toNat % 256 : Nat) : Int), .int .u8 (((x >>> 48).toNat % 256 : Nat) : Int), .int .u8 (((x >>> 40).toNat % 256 : Nat) : Int), .int .u8 (((x >>> 32).toNat % 256 : Nat) : Int), .int .u8 (((x >>> 24).toNat % 256 : Nat) : Int), .int .u8 (((x >>> 16).toNat % 256 : Nat) : Int), .int .u8 (((x >>> 8).toNat % 256 : Nat) : Int), .int .u8 ((x.toNat % 256 : Nat) : Int)] := by
  simp [bytes8, byteOf, List.range_succ]
theorem bb_append (x : BitVec 64) (w : World) (v : Value) (base n : Nat) (xs : List Value) (hO : w.ownsRow base 5 1 v n xs) (hb : base ≤ w.heap.size) (hn : n ≤ 1000) :
    Calls Tryz.prog 117 #[.agg #[], v, bbv x] w fun e' w' => ∃ v', e' = .returned v' ∧ w'.ownsRow base 5 1 v' (n + 8) (xs ++ bytes8 x) ∧ Below base w w' := by
  have hcv : ∀ (y : BitVec 64) W, (convert 122 5 (bbv y)).run Tryz.prog W = .ok (.int .u8 ((y.toNat % 256 : Nat) : Int)) W := fun y W => bbv_u8 y W (by kernel_rfl) (by kernel_rfl)
  obtain ⟨i0, hi, hz0, hz1, hz2⟩ := info_parts (show (Tryz.prog.info? 5).map (fun i => (i.zero, i.size, i.bytes)) = some (some (.int .u8 0), 1, 1) by kernel_rfl)
  have hO1 := hO.alloc (.cells #[] 119)
  go_enter Tryz.func117, Tryz.ntmps117
  go_wp2_with ((with_reducible refine at_append8 (m := 8) Tryz.underlying28 hi hz0 hz1 hz2 ?_ ?_ ?_ ?_ ?_ ?_ base v n xs hO1 ?_ ?_ ?_ ?_ ?_); rfl; decide; rfl; decide; decide; (intro q hq; simp at hq; rcases hq with rfl | rfl | rfl | rfl | rfl | rfl | rfl | rfl <;> rfl); omega; (simp; omega); rfl; (rw [World.size_alloc]; rfl); intro v' w' hown' hbel')
  go_ret
  refine ⟨_, rfl, by rw [bytes8_eq]; exact hown', ?_⟩
  exact ((Below.refl _ _).alloc hb _).trans hbel'
end Go.Proofs.YtplkcmlpomjojaaGreatDoor
