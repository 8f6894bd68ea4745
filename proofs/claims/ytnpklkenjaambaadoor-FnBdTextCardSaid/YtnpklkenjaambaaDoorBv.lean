/- Numbers of 64 bits as bit vectors: each operation of the walk on them is the bit vectors' own. For every program and world. -/
import Derived.Test.YtnpklkenjaambaaDoorKit
import Derived.Lib.EndianBits
import Derived.Laws.Unary
import Derived.Laws.Shifts
namespace Go.Proofs.YtnpklkenjaambaaDoor
open Go Go.RowKit

/-- A number of 64 bits as a value. -/
def bbv (x : BitVec 64) : Value := .int .u64 (x.toNat : Int)

theorem bbv_lt (x : BitVec 64) : (x.toNat : Int) < 18446744073709551616 := by have := x.isLt; omega
theorem bbv_of (n : Int) (h0 : 0 ≤ n) (h1 : n ≤ 18446744073709551615) : ∃ x : BitVec 64, Value.int .u64 n = bbv x := by
  refine ⟨BitVec.ofNat 64 n.toNat, ?_⟩
  unfold bbv
  congr 1
  simp
  omega
theorem bbv_lit (n : Nat) (h : n < 18446744073709551616) : Value.int .u64 (n : Int) = bbv (BitVec.ofNat 64 n) := by
  unfold bbv
  congr 1
  simp
  omega
theorem ofInt_toNat (x : BitVec 64) : BitVec.ofInt 64 (x.toNat : Int) = x := by simp
theorem wrap_toNat (x : BitVec 64) : IntKind.u64.wrap (x.toNat : Int) = (x.toNat : Int) := by
  have := bbv_lt x
  rw [IntKind.wrap_u64]; omega
theorem wrap_ofInt (n : Int) : IntKind.u64.wrap n = ((BitVec.ofInt 64 n).toNat : Int) := by
  rw [IntKind.wrap_u64, BitVec.toNat_ofInt]
  have : (0 : Int) ≤ n % 18446744073709551616 := Int.emod_nonneg _ (by decide)
  simp
  omega
theorem bits_bv_and (x y : BitVec 64) : bits .and .u64 (x.toNat : Int) (y.toNat : Int) = ((x &&& y).toNat : Int) := by
  show IntKind.u64.wrap ((BitVec.ofInt 64 _ &&& BitVec.ofInt 64 _).toNat : Int) = _
  rw [ofInt_toNat, ofInt_toNat, wrap_toNat]
theorem bits_bv_or (x y : BitVec 64) : bits .or .u64 (x.toNat : Int) (y.toNat : Int) = ((x ||| y).toNat : Int) := by
  show IntKind.u64.wrap ((BitVec.ofInt 64 _ ||| BitVec.ofInt 64 _).toNat : Int) = _
  rw [ofInt_toNat, ofInt_toNat, wrap_toNat]
theorem bits_bv_xor (x y : BitVec 64) : bits .xor .u64 (x.toNat : Int) (y.toNat : Int) = ((x ^^^ y).toNat : Int) := by
  show IntKind.u64.wrap ((BitVec.ofInt 64 _ ^^^ BitVec.ofInt 64 _).toNat : Int) = _
  rw [ofInt_toNat, ofInt_toNat, wrap_toNat]
theorem bits_bv_andNot (x y : BitVec 64) : bits .andNot .u64 (x.toNat : Int) (y.toNat : Int) = ((x &&& ~~~y).toNat : Int) := by
  show IntKind.u64.wrap ((BitVec.ofInt 64 _ &&& ~~~(BitVec.ofInt 64 _)).toNat : Int) = _
  rw [ofInt_toNat, ofInt_toNat, wrap_toNat]
theorem sub_bv (x y : BitVec 64) : IntKind.u64.wrap ((x.toNat : Int) - (y.toNat : Int)) = ((x - y).toNat : Int) := by
  rw [IntKind.wrap_u64, BitVec.toNat_sub]
  have := x.isLt
  have := y.isLt
  omega
theorem add_bv (x y : BitVec 64) : IntKind.u64.wrap ((x.toNat : Int) + (y.toNat : Int)) = ((x + y).toNat : Int) := by
  rw [IntKind.wrap_u64, BitVec.toNat_add]
  have := x.isLt
  have := y.isLt
  omega
theorem mul_bv (x y : BitVec 64) : IntKind.u64.wrap ((x.toNat : Int) * (y.toNat : Int)) = ((x * y).toNat : Int) := by
  rw [IntKind.wrap_u64, BitVec.toNat_mul, ← Int.natCast_mul]
  omega

section
variable (t : TypeId) (x y : BitVec 64) (n : Int) (yk : IntKind) (m : Nat)
@[go_sem] theorem bbv_and : binOp .and t (bbv x) (bbv y) = pure (bbv (x &&& y)) := by
  unfold bbv; rw [← bits_bv_and]; rfl
@[go_sem] theorem bbv_or : binOp .or t (bbv x) (bbv y) = pure (bbv (x ||| y)) := by
  unfold bbv; rw [← bits_bv_or]; rfl
@[go_sem] theorem bbv_xor : binOp .xor t (bbv x) (bbv y) = pure (bbv (x ^^^ y)) := by
  unfold bbv; rw [← bits_bv_xor]; rfl
@[go_sem] theorem bbv_andNot : binOp .andNot t (bbv x) (bbv y) = pure (bbv (x &&& ~~~y)) := by
  unfold bbv; rw [← bits_bv_andNot]; rfl
@[go_sem] theorem bbv_sub : binOp .sub t (bbv x) (bbv y) = pure (bbv (x - y)) := by
  unfold bbv; rw [← sub_bv]; rfl
@[go_sem] theorem bbv_add : binOp .add t (bbv x) (bbv y) = pure (bbv (x + y)) := by
  unfold bbv; rw [← add_bv]; rfl
@[go_sem] theorem bbv_mul : binOp .mul t (bbv x) (bbv y) = pure (bbv (x * y)) := by
  unfold bbv; rw [← mul_bv]; rfl
@[go_sem] theorem bbv_shl (h : 0 ≤ n) : binOp .shl t (bbv x) (.int yk n) = pure (bbv (x <<< n.toNat)) := by
  obtain ⟨k, rfl⟩ := Int.eq_ofNat_of_zero_le h
  unfold bbv
  show Op.shift .shl .u64 _ yk _ = _
  rw [shift_shl_any .u64 yk _ _ h]
  congr 2
  have e : (64 : Nat) = IntKind.u64.bits := rfl
  rw [← e, IntKind.wrap_u64, BitVec.toNat_shiftLeft, Nat.shiftLeft_eq]
  simp only [Int.toNat_natCast]
  by_cases hk : k ≤ 64
  · rw [Nat.min_eq_left hk, Int.natCast_emod, Int.natCast_mul, Int.natCast_pow]
    rfl
  · rw [Nat.min_eq_right (by omega)]
    have h1 : x.toNat * 2 ^ k % 2 ^ 64 = 0 := by
      rw [show k = 64 + (k - 64) by omega, Nat.pow_add, ← Nat.mul_assoc, Nat.mul_right_comm, Nat.mul_mod_left]
    rw [h1]
    omega
@[go_sem] theorem bbv_shr (h : 0 ≤ n) : binOp .shr t (bbv x) (.int yk n) = pure (bbv (x >>> n.toNat)) := by
  obtain ⟨k, rfl⟩ := Int.eq_ofNat_of_zero_le h
  unfold bbv
  show Op.shift .shr .u64 _ yk _ = _
  rw [shift_shr_any .u64 yk _ _ h]
  congr 2
  have e : (64 : Nat) = IntKind.u64.bits := rfl
  rw [← e, BitVec.toNat_ushiftRight, Nat.shiftRight_eq_div_pow]
  simp only [Int.toNat_natCast]
  by_cases hk : k ≤ 64
  · rw [Nat.min_eq_left hk, Int.natCast_ediv, Int.natCast_pow]
    rfl
  · rw [Nat.min_eq_right (by omega)]
    have hx := x.isLt
    have h1 : x.toNat / 2 ^ k = 0 := Nat.div_eq_of_lt (Nat.lt_of_lt_of_le hx (Nat.pow_le_pow_right (by decide) (by omega)))
    have h2 : x.toNat / 2 ^ 64 = 0 := Nat.div_eq_of_lt hx
    rw [h1]
    have : ((x.toNat : Int) / 2 ^ 64) = ((x.toNat / 2 ^ 64 : Nat) : Int) := by rw [Int.natCast_ediv, Int.natCast_pow]; rfl
    rw [this, h2]
@[go_sem] theorem bbv_not : Op.unary .xor (bbv x) = pure (bbv (~~~x)) := by
  unfold bbv
  rw [unary_xor]
  show pure (Value.int .u64 (bits .xor .u64 IntKind.u64.max _)) = _
  have : (IntKind.u64.max : Int) = ((BitVec.allOnes 64).toNat : Int) := by decide
  rw [this, bits_bv_xor]
  rw [BitVec.allOnes_xor]
@[go_sem] theorem bbv_eql : binOp .eql t (bbv x) (bbv y) = pure (.bool (x == y)) := by
  unfold bbv
  show pure (Value.bool _) = _
  congr 2
  by_cases h : x = y
  · subst h; simp
  · have : ¬ x.toNat = y.toNat := fun e => h (BitVec.eq_of_toNat_eq e)
    have h1 : (x == y) = false := by simp [h]
    rw [h1]
    simp; omega
@[go_sem] theorem bbv_neq : binOp .neq t (bbv x) (bbv y) = pure (.bool (x != y)) := by
  unfold bbv
  show pure (Value.bool _) = _
  congr 2
  by_cases h : x = y
  · subst h; simp
  · have : ¬ x.toNat = y.toNat := fun e => h (BitVec.eq_of_toNat_eq e)
    have h1 : (x != y) = true := by simp [h]
    rw [h1]
    simp; omega
theorem bbv_ofInt : Value.int .u64 (IntKind.u64.wrap n) = bbv (BitVec.ofInt 64 n) := by unfold bbv; rw [wrap_ofInt]
theorem bits_lit_r (op : BinOp) (a : Int) : bits op .u64 a n = bits op .u64 a (IntKind.u64.wrap n) := by
  unfold bits
  have : BitVec.ofInt IntKind.u64.bits (IntKind.u64.wrap n) = BitVec.ofInt IntKind.u64.bits n := by
    rw [wrap_ofInt]; exact ofInt_toNat _
  rw [this]
theorem bits_lit_l (op : BinOp) (a : Int) : bits op .u64 n a = bits op .u64 (IntKind.u64.wrap n) a := by
  unfold bits
  have : BitVec.ofInt IntKind.u64.bits (IntKind.u64.wrap n) = BitVec.ofInt IntKind.u64.bits n := by
    rw [wrap_ofInt]; exact ofInt_toNat _
  rw [this]
@[go_sem] theorem bbv_and_lit : binOp .and t (bbv x) (.int .u64 n) = pure (bbv (x &&& (BitVec.ofInt 64 n))) := by
  have h : binOp .and t (bbv x) (.int .u64 n) = pure (.int .u64 (bits .and .u64 (x.toNat : Int) n)) := rfl
  rw [h, bits_lit_r, wrap_ofInt, bits_bv_and]; rfl
@[go_sem] theorem bbv_lit_and : binOp .and t (.int .u64 n) (bbv x) = pure (bbv ((BitVec.ofInt 64 n) &&& x)) := by
  have h : binOp .and t (.int .u64 n) (bbv x) = pure (.int .u64 (bits .and .u64 n (x.toNat : Int))) := rfl
  rw [h, bits_lit_l, wrap_ofInt, bits_bv_and]; rfl
@[go_sem] theorem bbv_or_lit : binOp .or t (bbv x) (.int .u64 n) = pure (bbv (x ||| (BitVec.ofInt 64 n))) := by
  have h : binOp .or t (bbv x) (.int .u64 n) = pure (.int .u64 (bits .or .u64 (x.toNat : Int) n)) := rfl
  rw [h, bits_lit_r, wrap_ofInt, bits_bv_or]; rfl
@[go_sem] theorem bbv_lit_or : binOp .or t (.int .u64 n) (bbv x) = pure (bbv ((BitVec.ofInt 64 n) ||| x)) := by
  have h : binOp .or t (.int .u64 n) (bbv x) = pure (.int .u64 (bits .or .u64 n (x.toNat : Int))) := rfl
  rw [h, bits_lit_l, wrap_ofInt, bits_bv_or]; rfl
@[go_sem] theorem bbv_xor_lit : binOp .xor t (bbv x) (.int .u64 n) = pure (bbv (x ^^^ (BitVec.ofInt 64 n))) := by
  have h : binOp .xor t (bbv x) (.int .u64 n) = pure (.int .u64 (bits .xor .u64 (x.toNat : Int) n)) := rfl
  rw [h, bits_lit_r, wrap_ofInt, bits_bv_xor]; rfl
@[go_sem] theorem bbv_lit_xor : binOp .xor t (.int .u64 n) (bbv x) = pure (bbv ((BitVec.ofInt 64 n) ^^^ x)) := by
  have h : binOp .xor t (.int .u64 n) (bbv x) = pure (.int .u64 (bits .xor .u64 n (x.toNat : Int))) := rfl
  rw [h, bits_lit_l, wrap_ofInt, bits_bv_xor]; rfl
@[go_sem] theorem bbv_andNot_lit : binOp .andNot t (bbv x) (.int .u64 n) = pure (bbv (x &&& ~~~(BitVec.ofInt 64 n))) := by
  have h : binOp .andNot t (bbv x) (.int .u64 n) = pure (.int .u64 (bits .andNot .u64 (x.toNat : Int) n)) := rfl
  rw [h, bits_lit_r, wrap_ofInt, bits_bv_andNot]; rfl
@[go_sem] theorem bbv_lit_andNot : binOp .andNot t (.int .u64 n) (bbv x) = pure (bbv ((BitVec.ofInt 64 n) &&& ~~~x)) := by
  have h : binOp .andNot t (.int .u64 n) (bbv x) = pure (.int .u64 (bits .andNot .u64 n (x.toNat : Int))) := rfl
  rw [h, bits_lit_l, wrap_ofInt, bits_bv_andNot]; rfl
theorem wrap_mul (a b : Int) : IntKind.u64.wrap (a * IntKind.u64.wrap b) = IntKind.u64.wrap (a * b) := by
  rw [IntKind.wrap_u64, IntKind.wrap_u64, IntKind.wrap_u64, Int.mul_emod, Int.emod_emod, ← Int.mul_emod]
@[go_sem] theorem bbv_lit_mul : binOp .mul t (.int .u64 n) (bbv x) = pure (bbv ((BitVec.ofInt 64 n) * x)) := by
  have h : binOp .mul t (.int .u64 n) (bbv x) = pure (.int .u64 (IntKind.u64.wrap (n * (x.toNat : Int)))) := rfl
  rw [h, Int.mul_comm, ← wrap_mul, wrap_ofInt n, mul_bv, BitVec.mul_comm]; rfl
theorem gtr_bool (a b : Nat) : decide ((a : Int) > (b : Int)) = decide (b < a) := by
  by_cases h : b < a <;> simp [h]
@[go_sem] theorem bbv_gtr_zero : binOp .gtr t (bbv x) (.int .u64 0) = pure (.bool (x != 0#64)) := by
  have h : binOp .gtr t (bbv x) (.int .u64 0) = pure (.bool (decide ((x.toNat : Int) > 0))) := rfl
  rw [h]
  congr 2
  by_cases h : x = 0#64
  · subst h; rfl
  · have : ¬ x.toNat = 0 := fun e => h (BitVec.eq_of_toNat_eq (by simpa using e))
    have h1 : (x != 0#64) = true := by simp [h]
    rw [h1]
    simp; omega
theorem intCmp_eql (a b : Int) : Op.intCmp .eql a b = pure (.bool (a == b)) := rfl
theorem intCmp_neq (a b : Int) : Op.intCmp .neq a b = pure (.bool (a != b)) := rfl
@[go_sem] theorem bbv_eql_lit (h0 : 0 ≤ n) (h1 : n < 18446744073709551616) : binOp .eql t (bbv x) (.int .u64 n) = pure (.bool (x == BitVec.ofInt 64 n)) := by
  rw [← bbv_eql t]
  congr 1
  rw [← bbv_ofInt]
  congr 1
  rw [IntKind.wrap_u64]; omega
@[go_sem] theorem bbv_neq_lit (h0 : 0 ≤ n) (h1 : n < 18446744073709551616) : binOp .neq t (bbv x) (.int .u64 n) = pure (.bool (x != BitVec.ofInt 64 n)) := by
  rw [← bbv_neq t]
  congr 1
  rw [← bbv_ofInt]
  congr 1
  rw [IntKind.wrap_u64]; omega
@[go_sem] theorem bbv_convert {P : Program} {s d : TypeId} (w : World) (hs : (P.underlying s).isSome = true) (hd : P.underlying d = some (.int .u64)) : (convert s d (bbv x)).run P w = .ok (bbv x) w := by
  obtain ⟨u, hs'⟩ := Option.isSome_iff_exists.1 hs
  unfold bbv
  have e : Conv.intToInt .u64 (x.toNat : Int) = pure (.int .u64 (x.toNat : Int)) := by
    unfold Conv.intToInt
    rw [wrap_toNat]
  cases u <;> simp [convert, run_underlying hs', run_underlying hd, e]
@[go_sem] theorem bbv_store (P : Program) (w : World) (a : Addr) (m : Mode) : (store a (bbv x) m).run P w = stored P w a (bbv x) m := run_store P w a _ m rfl
@[go_sem high] theorem bbv_cells : (bbv x).cells = #[bbv x] := rfl
@[go_sem] theorem bbv_storeCells (a : Addr) (i : Nat) : storeCells a [bbv x] i = (store (a.add i) (bbv x) >>= fun _ => pure ()) := rfl
@[go_sem] theorem eqGuard_at_bbv (op : BinOp) (a b : Operand) (v : Value) : eqGuard op t a b (bbv x) v = pure () := by cases op <;> rfl
end
end Go.Proofs.YtnpklkenjaambaaDoor
