/- Small words that all walks of this seat use: what stays behind a call that makes memory. For every world.
What a listed package variable gives a walk: its cells, for tables of integers, and for slices of strings and of integers. For every program; the conditions stand at each theorem.
Numbers of 64 bits as bit vectors: each operation of the walk on them is the bit vectors' own. For every program and world.
A square's bit, and whether a square is in a number: what they are.
A square's bit, and whether a square is in a number. Squares are from 0 to 63.
The functions on squares and bits: rotation, a square's bit, whether a square is in a number, a rank's digit. Squares are from 0 to 63.
Maps keyed by small numbers, as the call itself makes them: what a look-up, a store and len give. For every program whose key type is an int8.
Integers as cells; the reference's words for squares: file, rank, the square of both, a piece of a kind and a side.
What stands on a square of a position.
One element is appended to a slice that the call owns: the step as the walk meets it ('append(l, x)': the slice of x lies in the block made last). For every program and type of one cell.
What lies in a block behind an allocation; a variable of one word; one result that is a variable of many cells. For every program and world.
Arrays of integers beside each other: what '==' gives. For every program whose array has the length of both lists.
A board of the package: its twelve numbers of 64 bits, what it has on a square, and how it is made of a map. For every board.
A board of the package, made of a map of its squares. For every map that says at most one piece a square.
The thin package's boards: 64 integers to a board of the package and back. For every board of pieces from 0 to 12.
The reference's words for positions: on how many squares a piece stands, and where a king. -/
import Derived.WalkKit
import Derived.Below
import Derived.Recover
import Derived.WalkLawsBesides
import Derived.WalkSpells
import Derived.Outline
import Derived.Deep.QuietTactic
import Derived.BigQuiet
import Derived.WideLaws
import Derived.RegionTactic
import Derived.BigRegion
import Derived.Deep.RegionWith
import Derived.Deep.RegionHeld3
import Derived.StillTailTactics
import Derived.Lib.Hide
import Derived.Laws.EntriesVeiled
import Derived.Lib.LaidTab
import Derived.SliceStrings
import Derived.ChangeSlices
import Derived.MakeChecks
import Derived.LaidLaws
import Derived.Lib.EndianBits
import Derived.Laws.Unary
import Derived.Laws.Shifts
import Derived.MapKept
import Derived.LoopTactic
import Derived.Deep.LoopGhost
import Derived.OwnWalk
import Derived.Great.Walk
import Derived.Deep.AppendLies
import Derived.Deep.RegionLaw
import Derived.Deep.RegionHeldLaw
import Derived.Laws.OwnMore
import Derived.ChangeKeysEq
import Derived.Laws.StructEq
import Derived.Test.YtnjdgooljnbebaaGreatDoorProg
namespace Go.Proofs.YtnjdgooljnbebaaGreatDoor
open Go.RowKit

section
variable (P : Program) (w : World) (a : Addr) (m : Mode)
@[go_sem] theorem kit_store_float (k : FloatKind) (b : Nat) : (store a (.float k b) m).run P w = stored P w a (.float k b) m := run_store P w a _ m rfl
end
theorem bstep {B : Nat} {w w1 w2 : World} (h : Below B w w1) (h2 : Below w1.heap.size w1 w2) (hB : B ≤ w1.heap.size) : Below B w w2 := h.trans (h2.mono hB)
theorem drewN_below (w : World) (n : Nat) : Below w.heap.size w (w.drewN n) := ⟨rfl, rfl, rfl, Nat.le_refl _, fun _ _ => rfl⟩
theorem makeFunc_run (P : Program) : ∀ (fn : Fn) (first cap : Array Value) (w : World), (Instr.makeFunc fn first cap).run P w = .ok (.func fn first cap) w := fun _ _ _ _ => rfl
theorem own_ge {w : World} {base : Nat} {e : TypeId} {size : Nat} {v : Value} {n : Nat} {xs : List Value} (h : w.ownsRow base e size v n xs) : ∀ k, v.ownBlock = some k → base ≤ k := by
  intro k hk
  obtain ⟨_, h⟩ := h
  rcases h with ⟨rfl, _⟩ | ⟨g, cap, cur, rfl, hb, _⟩
  · cases hk
  · cases hk; exact hb
theorem own_mono {w : World} {base base' : Nat} {e : TypeId} {size : Nat} {v : Value} {n : Nat} {xs : List Value} (h : w.ownsRow base e size v n xs) (hb : base' ≤ base) : w.ownsRow base' e size v n xs := by
  obtain ⟨h1, h2⟩ := h
  refine ⟨h1, ?_⟩
  rcases h2 with h2 | ⟨g, cap, cur, a, b, c⟩
  · exact Or.inl h2
  · exact Or.inr ⟨g, cap, cur, a, Nat.le_trans hb b, c⟩
end Go.Proofs.YtnjdgooljnbebaaGreatDoor
namespace Go.Proofs.YtnjdgooljnbebaaGreatDoor
open Go.RowKit Go.ChangeShapes Go.WideShapes

/-- One of the listed variables. -/
theorem laidVars_mem {P : Program} {w : World} {n : String} {d : DataW Unit} : ∀ {l : List (String × DataW Unit)} {ps : List MemPlace}, DataW.LaidVars P w l ps → (n, d) ∈ l →
    ∃ g t cs fuel p, P.globalNamed n = some g ∧ (P.globals[g]?).map (·.type) = some t ∧ w.var? P n = some cs ∧ DataW.trod (fun _ => ()) P w 0 (fun _ => true) false fuel t cs.toList = some (d, p)
  | [], _, _, hm => by cases hm
  | x :: r, ps, h, hm => by
    obtain ⟨g, t, cs, fuel, p, q, hg, ht, hv, hd, hr, _⟩ := h
    rcases List.mem_cons.1 hm with e | hm
    · cases e
      exact ⟨g, t, cs, fuel, p, hg, ht, hv, hd⟩
    · exact laidVars_mem hr hm

/-- The variable g is a table of these integers. -/
structure IntTab (w : World) (g : Nat) (k : IntKind) (zs : List Int) : Prop where
  cell : ∀ i, i < zs.length → w.cell? ⟨g, i, none⟩ = some (.int k (zs.getD i 0))
  lt : g < w.heap.size
/-- The variable g is a slice of these strings. -/
structure StrSl (w : World) (g : Nat) (ss : List ByteArray) : Prop where
  ex : ∃ a : Addr, a.spot = none ∧ a.block < w.heap.size ∧ w.cell? ⟨g, 0, none⟩ = some (.slice (some a) ss.length ss.length) ∧ ∀ i, i < ss.length → w.cell? ⟨a.block, a.off + i, none⟩ = some (.string (ss.getD i ByteArray.empty))
  lt : g < w.heap.size
/-- The variable g is a slice of these integers. -/
structure IntSl (w : World) (g : Nat) (k : IntKind) (zs : List Int) : Prop where
  ex : ∃ a : Addr, a.spot = none ∧ a.block < w.heap.size ∧ w.cell? ⟨g, 0, none⟩ = some (.slice (some a) zs.length zs.length) ∧ ∀ i, i < zs.length → w.cell? ⟨a.block, a.off + i, none⟩ = some (.int k (zs.getD i 0))
  lt : g < w.heap.size

theorem lt_of_cell {w : World} {a : Addr} {v : Value} (h : w.cell? a = some v) : a.block < w.heap.size := by
  unfold World.cell? at h
  split at h
  · rename_i hb
    exact (Array.getElem?_eq_some_iff.1 hb).1
  · cases h
theorem spot_of_cell {w : World} {a : Addr} {v : Value} (h : w.cell? a = some v) : a.spot = none := by
  unfold World.cell? at h
  split at h
  · split at h
    · cases h
    · rename_i hs
      cases a with | mk b o s => cases s <;> simp_all
  · cases h

theorem add_at {a : Addr} (h : a.spot = none) (i : Nat) : a.add i = ⟨a.block, a.off + i, none⟩ := by
  cases a with | mk b o s => cases h; unfold Addr.add; split <;> simp_all

theorem IntTab.below {w w' : World} {g : Nat} {k : IntKind} {zs : List Int} (h : IntTab w g k zs) (hb : Below w.heap.size w w') : IntTab w' g k zs :=
  ⟨fun i hi => (hb.cell (p := ⟨g, i, none⟩) h.lt).trans (h.cell i hi), Nat.lt_of_lt_of_le h.lt hb.size⟩
theorem StrSl.below {w w' : World} {g : Nat} {ss : List ByteArray} (h : StrSl w g ss) (hb : Below w.heap.size w w') : StrSl w' g ss := by
  obtain ⟨⟨a, hs, ha, hc, hi⟩, hl⟩ := h
  exact ⟨⟨a, hs, Nat.lt_of_lt_of_le ha hb.size, (hb.cell (p := ⟨g, 0, none⟩) hl).trans hc, fun i h => (hb.cell (p := ⟨a.block, a.off + i, none⟩) ha).trans (hi i h)⟩, Nat.lt_of_lt_of_le hl hb.size⟩
theorem IntSl.below {w w' : World} {g : Nat} {k : IntKind} {zs : List Int} (h : IntSl w g k zs) (hb : Below w.heap.size w w') : IntSl w' g k zs := by
  obtain ⟨⟨a, hs, ha, hc, hi⟩, hl⟩ := h
  exact ⟨⟨a, hs, Nat.lt_of_lt_of_le ha hb.size, (hb.cell (p := ⟨g, 0, none⟩) hl).trans hc, fun i h => (hb.cell (p := ⟨a.block, a.off + i, none⟩) ha).trans (hi i h)⟩, Nat.lt_of_lt_of_le hl hb.size⟩

/-- The variable g holds an interface value that is not nil. -/
structure ErrVar (w : World) (g : Nat) : Prop where
  ex : ∃ u v, w.cell? ⟨g, 0, none⟩ = some (.iface u v)
  lt : g < w.heap.size
theorem ErrVar.below {w w' : World} {g : Nat} (h : ErrVar w g) (hb : Below w.heap.size w w') : ErrVar w' g := by
  obtain ⟨⟨u, v, hc⟩, hl⟩ := h
  exact ⟨⟨u, v, (hb.cell (p := ⟨g, 0, none⟩) hl).trans hc⟩, Nat.lt_of_lt_of_le hl hb.size⟩

section
variable {P : Program} {W : World} {l : List (String × DataW Unit)} {n : String} {g t e : TypeId}

theorem intTab_of_laid {k : IntKind} {zs : List Int} {m : Nat} (hL : laidMet P l W) (hm : (n, Lib.tabData k zs) ∈ l) (hg : P.globalNamed n = some g) (hty : (P.globals[g]?).map (·.type) = some t)
    (ht : P.underlying t = some (.array m e)) (he : P.underlying e = some (.int k)) (hce : P.cellsOf e = 1) (hct : P.cellsOf t = m) (hz : 0 < zs.length) : IntTab W g k zs := by
  obtain ⟨ps, hv, _⟩ := hL
  obtain ⟨g', t', cs, fuel, p, hg', ht', hvar, hd⟩ := laidVars_mem hv hm
  obtain rfl := Option.some.inj (hg.symm.trans hg')
  obtain rfl := Option.some.inj (hty.symm.trans ht')
  have hT : Lib.TabIs P W n k zs := by
    unfold Lib.TabIs
    rw [hvar, ← Lib.cells_of_tab ht he hce hct hd]
  exact ⟨fun i hi => hT.cell hg i hi, lt_of_cell (hT.cell hg 0 hz)⟩

theorem intSl_of_laid {k : IntKind} {zs : List Int} (hL : laidMet P l W) (hm : (n, DataW.slice (zs.map fun z => .lit (.int k z)) []) ∈ l) (hg : P.globalNamed n = some g) (hty : (P.globals[g]?).map (·.type) = some t)
    (ht : P.underlying t = some (.slice e)) (he : P.underlying e = some (.int k)) (hce : P.cellsOf e = 1) (hz : 0 < zs.length) : IntSl W g k zs := by
  obtain ⟨ps, hv, _⟩ := hL
  obtain ⟨g', t', cs, fuel, p, hg', ht', hvar, hd⟩ := laidVars_mem hv hm
  obtain rfl := Option.some.inj (hg.symm.trans hg')
  obtain rfl := Option.some.inj (hty.symm.trans ht')
  rcases open_ints ht he hce hd with ⟨_, hx⟩ | ⟨a, len, cap, zs', hcs, _, hl, hm, hlen, hx, hcell, _⟩
  · cases hx
  simp only [if_true] at hlen
  simp only [Prod.mk.injEq, DataW.slice.injEq] at hx
  have inj : Function.Injective (fun z : Int => (DataW.lit (.int k z) : DataW Unit)) := by
    intro a b h
    simp at h
    exact h
  have h1 : zs = zs'.take len := (List.map_inj_right (fun a b h => inj h)).1 hx.1.1
  have h2 : zs'.drop len = [] := List.map_eq_nil_iff.1 hx.1.2.symm
  have h3 : len = cap := by
    have := congrArg List.length h2
    simp at this
    omega
  subst h3
  have h4 : zs = zs' := by rw [h1, List.take_of_length_le (by omega)]
  subst h4
  have hv0 := World.var?_cell hg hvar 0
  have hcs' : cs = #[.slice (some a) zs.length zs.length] := by
    apply Array.ext'
    simpa [hlen] using hcs
  rw [hcs'] at hv0
  have ha := hcell 0 (by omega)
  have hs : a.spot = none := by simpa [Addr.add] using spot_of_cell ha
  refine ⟨⟨a, hs, by simpa [Addr.add] using lt_of_cell ha, by simpa using hv0, fun i hi => ?_⟩, lt_of_cell (by simpa using hv0)⟩
  have h := hcell i (by omega)
  rw [add_at hs] at h
  exact h
end
end Go.Proofs.YtnjdgooljnbebaaGreatDoor
namespace Go.Proofs.YtnjdgooljnbebaaGreatDoor
open Go Go.RowKit

/-- A number of 64 bits as a value. -/
def bbv (x : BitVec 64) : Value := .int .u64 (x.toNat : Int)

theorem bbv_lt (x : BitVec 64) : (x.toNat : Int) < 18446744073709551616 := by have := x.isLt; omega
theorem bbv_lit (n : Nat) (h : n < 18446744073709551616) : Value.int .u64 (n : Int) = bbv (BitVec.ofNat 64 n) := by
  unfold bbv
  congr 1
  simp
  omega
theorem ofInt_toNat (x : BitVec 64) : BitVec.ofInt 64 (x.toNat : Int) = x := by simp
theorem wrap_toNat (x : BitVec 64) : IntKind.u64.wrap (x.toNat : Int) = (x.toNat : Int) := by
  have := bbv_lt x
  rw [IntKind.wrap_u64]; omega
theorem wrap_ofInt (n : Int) : IntKind.u64.wrap n = ((BitVec.ofInt 64 n).toNat : Int) := by
  rw [IntKind.wrap_u64, BitVec.toNat_ofInt]
  have : (0 : Int) ≤ n % 18446744073709551616 := Int.emod_nonneg _ (by decide)
  simp
  omega
theorem bits_bv_and (x y : BitVec 64) : bits .and .u64 (x.toNat : Int) (y.toNat : Int) = ((x &&& y).toNat : Int) := by
  show IntKind.u64.wrap ((BitVec.ofInt 64 _ &&& BitVec.ofInt 64 _).toNat : Int) = _
  rw [ofInt_toNat, ofInt_toNat, wrap_toNat]
theorem bits_bv_or (x y : BitVec 64) : bits .or .u64 (x.toNat : Int) (y.toNat : Int) = ((x ||| y).toNat : Int) := by
  show IntKind.u64.wrap ((BitVec.ofInt 64 _ ||| BitVec.ofInt 64 _).toNat : Int) = _
  rw [ofInt_toNat, ofInt_toNat, wrap_toNat]
theorem bits_bv_xor (x y : BitVec 64) : bits .xor .u64 (x.toNat : Int) (y.toNat : Int) = ((x ^^^ y).toNat : Int) := by
  show IntKind.u64.wrap ((BitVec.ofInt 64 _ ^^^ BitVec.ofInt 64 _).toNat : Int) = _
  rw [ofInt_toNat, ofInt_toNat, wrap_toNat]
theorem bits_bv_andNot (x y : BitVec 64) : bits .andNot .u64 (x.toNat : Int) (y.toNat : Int) = ((x &&& ~~~y).toNat : Int) := by
  show IntKind.u64.wrap ((BitVec.ofInt 64 _ &&& ~~~(BitVec.ofInt 64 _)).toNat : Int) = _
  rw [ofInt_toNat, ofInt_toNat, wrap_toNat]
theorem sub_bv (x y : BitVec 64) : IntKind.u64.wrap ((x.toNat : Int) - (y.toNat : Int)) = ((x - y).toNat : Int) := by
  rw [IntKind.wrap_u64, BitVec.toNat_sub]
  have := x.isLt
  have := y.isLt
  omega
theorem add_bv (x y : BitVec 64) : IntKind.u64.wrap ((x.toNat : Int) + (y.toNat : Int)) = ((x + y).toNat : Int) := by
  rw [IntKind.wrap_u64, BitVec.toNat_add]
  have := x.isLt
  have := y.isLt
  omega
theorem mul_bv (x y : BitVec 64) : IntKind.u64.wrap ((x.toNat : Int) * (y.toNat : Int)) = ((x * y).toNat : Int) := by
  rw [IntKind.wrap_u64, BitVec.toNat_mul, ← Int.natCast_mul]
  omega

section
variable (t : TypeId) (x y : BitVec 64) (n : Int) (yk : IntKind) (m : Nat)
@[go_sem] theorem bbv_and : binOp .and t (bbv x) (bbv y) = pure (bbv (x &&& y)) := by
  unfold bbv; rw [← bits_bv_and]; rfl
@[go_sem] theorem bbv_or : binOp .or t (bbv x) (bbv y) = pure (bbv (x ||| y)) := by
  unfold bbv; rw [← bits_bv_or]; rfl
@[go_sem] theorem bbv_xor : binOp .xor t (bbv x) (bbv y) = pure (bbv (x ^^^ y)) := by
  unfold bbv; rw [← bits_bv_xor]; rfl
@[go_sem] theorem bbv_andNot : binOp .andNot t (bbv x) (bbv y) = pure (bbv (x &&& ~~~y)) := by
  unfold bbv; rw [← bits_bv_andNot]; rfl
@[go_sem] theorem bbv_sub : binOp .sub t (bbv x) (bbv y) = pure (bbv (x - y)) := by
  unfold bbv; rw [← sub_bv]; rfl
@[go_sem] theorem bbv_add : binOp .add t (bbv x) (bbv y) = pure (bbv (x + y)) := by
  unfold bbv; rw [← add_bv]; rfl
@[go_sem] theorem bbv_mul : binOp .mul t (bbv x) (bbv y) = pure (bbv (x * y)) := by
  unfold bbv; rw [← mul_bv]; rfl
@[go_sem] theorem bbv_shl (h : 0 ≤ n) : binOp .shl t (bbv x) (.int yk n) = pure (bbv (x <<< n.toNat)) := by
  obtain ⟨k, rfl⟩ := Int.eq_ofNat_of_zero_le h
  unfold bbv
  show Op.shift .shl .u64 _ yk _ = _
  rw [shift_shl_any .u64 yk _ _ h]
  congr 2
  have e : (64 : Nat) = IntKind.u64.bits := rfl
  rw [← e, IntKind.wrap_u64, BitVec.toNat_shiftLeft, Nat.shiftLeft_eq]
  simp only [Int.toNat_natCast]
  by_cases hk : k ≤ 64
  · rw [Nat.min_eq_left hk, Int.natCast_emod, Int.natCast_mul, Int.natCast_pow]
    rfl
  · rw [Nat.min_eq_right (by omega)]
    have h1 : x.toNat * 2 ^ k % 2 ^ 64 = 0 := by
      rw [show k = 64 + (k - 64) by omega, Nat.pow_add, ← Nat.mul_assoc, Nat.mul_right_comm, Nat.mul_mod_left]
    rw [h1]
    omega
@[go_sem] theorem bbv_shr (h : 0 ≤ n) : binOp .shr t (bbv x) (.int yk n) = pure (bbv (x >>> n.toNat)) := by
  obtain ⟨k, rfl⟩ := Int.eq_ofNat_of_zero_le h
  unfold bbv
  show Op.shift .shr .u64 _ yk _ = _
  rw [shift_shr_any .u64 yk _ _ h]
  congr 2
  have e : (64 : Nat) = IntKind.u64.bits := rfl
  rw [← e, BitVec.toNat_ushiftRight, Nat.shiftRight_eq_div_pow]
  simp only [Int.toNat_natCast]
  by_cases hk : k ≤ 64
  · rw [Nat.min_eq_left hk, Int.natCast_ediv, Int.natCast_pow]
    rfl
  · rw [Nat.min_eq_right (by omega)]
    have hx := x.isLt
    have h1 : x.toNat / 2 ^ k = 0 := Nat.div_eq_of_lt (Nat.lt_of_lt_of_le hx (Nat.pow_le_pow_right (by decide) (by omega)))
    have h2 : x.toNat / 2 ^ 64 = 0 := Nat.div_eq_of_lt hx
    rw [h1]
    have : ((x.toNat : Int) / 2 ^ 64) = ((x.toNat / 2 ^ 64 : Nat) : Int) := by rw [Int.natCast_ediv, Int.natCast_pow]; rfl
    rw [this, h2]
@[go_sem] theorem bbv_not : Op.unary .xor (bbv x) = pure (bbv (~~~x)) := by
  unfold bbv
  rw [unary_xor]
  show pure (Value.int .u64 (bits .xor .u64 IntKind.u64.max _)) = _
  have : (IntKind.u64.max : Int) = ((BitVec.allOnes 64).toNat : Int) := by decide
  rw [this, bits_bv_xor]
  rw [BitVec.allOnes_xor]
@[go_sem] theorem bbv_eql : binOp .eql t (bbv x) (bbv y) = pure (.bool (x == y)) := by
  unfold bbv
  show pure (Value.bool _) = _
  congr 2
  by_cases h : x = y
  · subst h; simp
  · have : ¬ x.toNat = y.toNat := fun e => h (BitVec.eq_of_toNat_eq e)
    have h1 : (x == y) = false := by simp [h]
    rw [h1]
    simp; omega
@[go_sem] theorem bbv_neq : binOp .neq t (bbv x) (bbv y) = pure (.bool (x != y)) := by
  unfold bbv
  show pure (Value.bool _) = _
  congr 2
  by_cases h : x = y
  · subst h; simp
  · have : ¬ x.toNat = y.toNat := fun e => h (BitVec.eq_of_toNat_eq e)
    have h1 : (x != y) = true := by simp [h]
    rw [h1]
    simp; omega
theorem bbv_ofInt : Value.int .u64 (IntKind.u64.wrap n) = bbv (BitVec.ofInt 64 n) := by unfold bbv; rw [wrap_ofInt]
theorem bits_lit_r (op : BinOp) (a : Int) : bits op .u64 a n = bits op .u64 a (IntKind.u64.wrap n) := by
  unfold bits
  have : BitVec.ofInt IntKind.u64.bits (IntKind.u64.wrap n) = BitVec.ofInt IntKind.u64.bits n := by
    rw [wrap_ofInt]; exact ofInt_toNat _
  rw [this]
theorem bits_lit_l (op : BinOp) (a : Int) : bits op .u64 n a = bits op .u64 (IntKind.u64.wrap n) a := by
  unfold bits
  have : BitVec.ofInt IntKind.u64.bits (IntKind.u64.wrap n) = BitVec.ofInt IntKind.u64.bits n := by
    rw [wrap_ofInt]; exact ofInt_toNat _
  rw [this]
@[go_sem] theorem bbv_and_lit : binOp .and t (bbv x) (.int .u64 n) = pure (bbv (x &&& (BitVec.ofInt 64 n))) := by
  have h : binOp .and t (bbv x) (.int .u64 n) = pure (.int .u64 (bits .and .u64 (x.toNat : Int) n)) := rfl
  rw [h, bits_lit_r, wrap_ofInt, bits_bv_and]; rfl
@[go_sem] theorem bbv_lit_and : binOp .and t (.int .u64 n) (bbv x) = pure (bbv ((BitVec.ofInt 64 n) &&& x)) := by
  have h : binOp .and t (.int .u64 n) (bbv x) = pure (.int .u64 (bits .and .u64 n (x.toNat : Int))) := rfl
  rw [h, bits_lit_l, wrap_ofInt, bits_bv_and]; rfl
@[go_sem] theorem bbv_or_lit : binOp .or t (bbv x) (.int .u64 n) = pure (bbv (x ||| (BitVec.ofInt 64 n))) := by
  have h : binOp .or t (bbv x) (.int .u64 n) = pure (.int .u64 (bits .or .u64 (x.toNat : Int) n)) := rfl
  rw [h, bits_lit_r, wrap_ofInt, bits_bv_or]; rfl
@[go_sem] theorem bbv_lit_or : binOp .or t (.int .u64 n) (bbv x) = pure (bbv ((BitVec.ofInt 64 n) ||| x)) := by
  have h : binOp .or t (.int .u64 n) (bbv x) = pure (.int .u64 (bits .or .u64 n (x.toNat : Int))) := rfl
  rw [h, bits_lit_l, wrap_ofInt, bits_bv_or]; rfl
@[go_sem] theorem bbv_xor_lit : binOp .xor t (bbv x) (.int .u64 n) = pure (bbv (x ^^^ (BitVec.ofInt 64 n))) := by
  have h : binOp .xor t (bbv x) (.int .u64 n) = pure (.int .u64 (bits .xor .u64 (x.toNat : Int) n)) := rfl
  rw [h, bits_lit_r, wrap_ofInt, bits_bv_xor]; rfl
@[go_sem] theorem bbv_lit_xor : binOp .xor t (.int .u64 n) (bbv x) = pure (bbv ((BitVec.ofInt 64 n) ^^^ x)) := by
  have h : binOp .xor t (.int .u64 n) (bbv x) = pure (.int .u64 (bits .xor .u64 n (x.toNat : Int))) := rfl
  rw [h, bits_lit_l, wrap_ofInt, bits_bv_xor]; rfl
@[go_sem] theorem bbv_andNot_lit : binOp .andNot t (bbv x) (.int .u64 n) = pure (bbv (x &&& ~~~(BitVec.ofInt 64 n))) := by
  have h : binOp .andNot t (bbv x) (.int .u64 n) = pure (.int .u64 (bits .andNot .u64 (x.toNat : Int) n)) := rfl
  rw [h, bits_lit_r, wrap_ofInt, bits_bv_andNot]; rfl
@[go_sem] theorem bbv_lit_andNot : binOp .andNot t (.int .u64 n) (bbv x) = pure (bbv ((BitVec.ofInt 64 n) &&& ~~~x)) := by
  have h : binOp .andNot t (.int .u64 n) (bbv x) = pure (.int .u64 (bits .andNot .u64 n (x.toNat : Int))) := rfl
  rw [h, bits_lit_l, wrap_ofInt, bits_bv_andNot]; rfl
theorem wrap_mul (a b : Int) : IntKind.u64.wrap (a * IntKind.u64.wrap b) = IntKind.u64.wrap (a * b) := by
  rw [IntKind.wrap_u64, IntKind.wrap_u64, IntKind.wrap_u64, Int.mul_emod, Int.emod_emod, ← Int.mul_emod]
@[go_sem] theorem bbv_lit_mul : binOp .mul t (.int .u64 n) (bbv x) = pure (bbv ((BitVec.ofInt 64 n) * x)) := by
  have h : binOp .mul t (.int .u64 n) (bbv x) = pure (.int .u64 (IntKind.u64.wrap (n * (x.toNat : Int)))) := rfl
  rw [h, Int.mul_comm, ← wrap_mul, wrap_ofInt n, mul_bv, BitVec.mul_comm]; rfl
@[go_sem] theorem bbv_gtr_zero : binOp .gtr t (bbv x) (.int .u64 0) = pure (.bool (x != 0#64)) := by
  have h : binOp .gtr t (bbv x) (.int .u64 0) = pure (.bool (decide ((x.toNat : Int) > 0))) := rfl
  rw [h]
  congr 2
  by_cases h : x = 0#64
  · subst h; rfl
  · have : ¬ x.toNat = 0 := fun e => h (BitVec.eq_of_toNat_eq (by simpa using e))
    have h1 : (x != 0#64) = true := by simp [h]
    rw [h1]
    simp; omega
@[go_sem] theorem bbv_eql_lit (h0 : 0 ≤ n) (h1 : n < 18446744073709551616) : binOp .eql t (bbv x) (.int .u64 n) = pure (.bool (x == BitVec.ofInt 64 n)) := by
  rw [← bbv_eql t]
  congr 1
  rw [← bbv_ofInt]
  congr 1
  rw [IntKind.wrap_u64]; omega
@[go_sem] theorem bbv_neq_lit (h0 : 0 ≤ n) (h1 : n < 18446744073709551616) : binOp .neq t (bbv x) (.int .u64 n) = pure (.bool (x != BitVec.ofInt 64 n)) := by
  rw [← bbv_neq t]
  congr 1
  rw [← bbv_ofInt]
  congr 1
  rw [IntKind.wrap_u64]; omega
@[go_sem] theorem bbv_convert {P : Program} {s d : TypeId} (w : World) (hs : (P.underlying s).isSome = true) (hd : P.underlying d = some (.int .u64)) : (convert s d (bbv x)).run P w = .ok (bbv x) w := by
  obtain ⟨u, hs'⟩ := Option.isSome_iff_exists.1 hs
  unfold bbv
  have e : Conv.intToInt .u64 (x.toNat : Int) = pure (.int .u64 (x.toNat : Int)) := by
    unfold Conv.intToInt
    rw [wrap_toNat]
  cases u <;> simp [convert, run_underlying hs', run_underlying hd, e]
@[go_sem] theorem bbv_store (P : Program) (w : World) (a : Addr) (m : Mode) : (store a (bbv x) m).run P w = stored P w a (bbv x) m := run_store P w a _ m rfl
@[go_sem high] theorem bbv_cells : (bbv x).cells = #[bbv x] := rfl
@[go_sem] theorem bbv_storeCells (a : Addr) (i : Nat) : storeCells a [bbv x] i = (store (a.add i) (bbv x) >>= fun _ => pure ()) := rfl
@[go_sem] theorem eqGuard_at_bbv (op : BinOp) (a b : Operand) (v : Value) : eqGuard op t a b (bbv x) v = pure () := by cases op <;> rfl
end
end Go.Proofs.YtnjdgooljnbebaaGreatDoor
namespace Go.Proofs.YtnjdgooljnbebaaGreatDoor
open Go Go.RowKit
set_option maxHeartbeats 1000000
set_option linter.unusedSimpArgs false
set_option linter.unusedVariables false
set_option maxRecDepth 100000

/-- The bit of a square: a1 the greatest. -/
def sqBit (s : Nat) : BitVec 64 := 1#64 <<< (63 - s)
/-- Whether a square is in a number. -/
def occ (x : BitVec 64) (s : Nat) : Bool := x.getLsbD (63 - s)

end Go.Proofs.YtnjdgooljnbebaaGreatDoor
namespace Go.Proofs.YtnjdgooljnbebaaGreatDoor
open Go Go.RowKit
set_option maxHeartbeats 400000
set_option linter.unusedSimpArgs false
set_option linter.unusedVariables false

theorem sq_bit (s : Int) (w : World) (h0 : 0 ≤ s) (h1 : s ≤ 63) :
    Calls Tryz.prog 107 #[.int .i8 s] w fun e w' => e = .returned (bbv (sqBit s.toNat)) ∧ w = w' := by
  go_enter Tryz.func107, Tryz.ntmps107
  go_wp2
  go_ret
  refine ⟨?_, rfl⟩
  show Ending.returned (.int .u64 (IntKind.u64.wrap (2 ^ (63 - s).toNat))) = _
  obtain ⟨n, rfl⟩ := Int.eq_ofNat_of_zero_le h0
  have e : (63 - (n : Int)).toNat = 63 - n := by omega
  have hn : n = 0 ∨ 0 < n := by omega
  rw [e, wrap_ofInt]
  unfold bbv sqBit
  congr 4
  have hp : ((2 : Int) ^ (63 - n)) = ((2 ^ (63 - n) : Nat) : Int) := by rw [Int.natCast_pow]; rfl
  rw [hp, BitVec.ofInt_natCast]
  apply BitVec.eq_of_toNat_eq
  simp [Nat.shiftLeft_eq]

end Go.Proofs.YtnjdgooljnbebaaGreatDoor
namespace Go.Proofs.YtnjdgooljnbebaaGreatDoor
open Go Go.RowKit
set_option maxHeartbeats 400000
set_option linter.unusedSimpArgs false
set_option linter.unusedVariables false

theorem rot_bit (x : BitVec 64) (s : Nat) (h : s < 64) : ((x <<< ((s + 1) % 64) ||| x >>> (64 - (s + 1) % 64)) &&& 1#64 == 1#64) = occ x s := by
  have e : ∀ y : BitVec 64, (y &&& 1#64 == 1#64) = y.getLsbD 0 := by
    intro y
    rw [Bool.eq_iff_iff]
    constructor
    · intro h
      have h := eq_of_beq h
      have := congrArg (fun z : BitVec 64 => z.getLsbD 0) h
      simpa using this
    · intro h
      apply beq_iff_eq.mpr
      apply BitVec.eq_of_getLsbD_eq
      intro i hi
      by_cases h0 : i = 0
      · subst h0; simpa using h
      · have : (1#64).getLsbD i = false := by
          simp [BitVec.getLsbD_one]; omega
        simp [this]
  rw [e]
  unfold occ
  by_cases h1 : s = 63
  · subst h1
    simp
  · have hm : (s + 1) % 64 = s + 1 := Nat.mod_eq_of_lt (by omega)
    rw [hm]
    simp
theorem sq_rotate (x : BitVec 64) (k : Int) (w : World) (h0 : 0 ≤ k) (h1 : k ≤ 64) :
    Calls Tryz.prog 134 #[bbv x, .int .i64 k] w fun e w' => e = .returned (bbv (x <<< (k % 64).toNat ||| x >>> (64 - k % 64).toNat)) ∧ w = w' := by
  have hk : bits .and .u64 k 63 = k % 64 := bits_mask .u64 64 (by decide) wraps_u64 6 (by decide) k h0 (by omega)
  have g0 : 0 ≤ k % 64 := by omega
  have g1 : k % 64 < 64 := by omega
  have g2 : k % 64 ≤ 64 := by omega
  go_enter Tryz.func134, Tryz.ntmps134
  go_wp2
  go_ret
  exact ⟨rfl, rfl⟩

theorem sq_occupied (x : BitVec 64) (s : Int) (w : World) (h0 : 0 ≤ s) (h1 : s ≤ 63) :
    Calls Tryz.prog 106 #[bbv x, .int .i8 s] w fun e w' => e = .returned (.bool (occ x s.toNat)) ∧ w = w' := by
  go_enter Tryz.func106, Tryz.ntmps106
  go_wp2_with (go_at_call 134; refine (sq_rotate x (s + 1) _ (by omega) (by omega)).mono ?_; rintro e w' ⟨rfl, rfl⟩)
  go_ret
  refine ⟨?_, rfl⟩
  obtain ⟨n, rfl⟩ := Int.eq_ofNat_of_zero_le h0
  have e : (((n : Int) + 1) % 64).toNat = (n + 1) % 64 := by omega
  have e2 : (64 - ((n : Int) + 1) % 64).toNat = 64 - (n + 1) % 64 := by omega
  rw [← rot_bit x _ (by omega)]
  simp only [Int.toNat_natCast, e, e2]
  rfl

end Go.Proofs.YtnjdgooljnbebaaGreatDoor
namespace Go.Proofs.YtnjdgooljnbebaaGreatDoor
open Go Go.RowKit Go.MapKept
set_option linter.unusedSimpArgs false
set_option linter.unusedVariables false

def keyIs (k : Int) (e : MapEntry) : Bool := match e.key with | .int .i8 j => k == j | _ => false

/-- Block b is a map of n entries keyed by small numbers, and at k it holds f k. -/
structure IMap (w : World) (b : Nat) (f : Int → Option Value) (n : Nat) : Prop where
  ex : ∃ es clock, w.heap[b]? = some (.map es clock) ∧ (∀ e ∈ es.toList, ∃ j, e.key = .int .i8 j) ∧ es.size = n ∧ ∀ k, (es.toList.find? (keyIs k)).map (·.val) = f k

theorem findNow_keys (k : Int) : ∀ (l : List MapEntry) (i : Nat), (∀ e ∈ l, ∃ j, e.key = .int .i8 j) →
    ∃ r, Instr.findNow (.int .i8) (.int .i8 k) l i = some r ∧ r.map (·.2) = (l.find? (keyIs k)).map (·.val) ∧ ∀ q, r = some q → i ≤ q.1 ∧ ∃ e, l[q.1 - i]? = some e ∧ e.key = .int .i8 k ∧ ∀ m, m < q.1 - i → ∀ e', l[m]? = some e' → keyIs k e' = false
  | [], i, _ => ⟨none, rfl, rfl, fun q h => by cases h⟩
  | e :: es, i, h => by
    obtain ⟨j, hj⟩ := h e (by simp)
    simp only [Instr.findNow, hj, Instr.sameNow, if_true]
    by_cases hk : k = j
    · subst hk
      refine ⟨some (i, e.val), by simp, by simp [keyIs, hj], fun q hq => ?_⟩
      cases hq
      exact ⟨Nat.le_refl _, e, by simp, hj, fun m hm => by omega⟩
    · have hb : (k == j) = false := by simp [hk]
      rw [hb]
      obtain ⟨r, h1, h2, h3⟩ := findNow_keys k es (i + 1) (fun e' he' => h e' (by simp [he']))
      refine ⟨r, h1, ?_, fun q hq => ?_⟩
      · rw [h2]; simp [keyIs, hj, hb]
      · obtain ⟨g1, e', g2, g3, g4⟩ := h3 q hq
        refine ⟨by omega, e', ?_, g3, fun m hm e'' he'' => ?_⟩
        · rw [show q.1 - i = (q.1 - (i + 1)) + 1 by omega, List.getElem?_cons_succ]; exact g2
        · cases m with
          | zero => simp at he''; subst he''; simp [keyIs, hj, hb]
          | succ m => exact g4 m (by omega) e'' (by simpa using he'')

theorem run_makeMap' (P : Program) (t : TypeId) (w : World) : (Instr.makeMap t none).run P w = .ok (.map (some w.heap.size)) (w.alloc (.map #[] 0)) := rfl
theorem imap_new (w : World) : IMap (w.alloc (.map #[] 0)) w.heap.size (fun _ => none) 0 :=
  ⟨#[], 0, by show (w.heap.push _)[_]? = _; simp, by simp, rfl, by simp⟩
theorem IMap.lt {w : World} {b : Nat} {f : Int → Option Value} {n : Nat} (h : IMap w b f n) : b < w.heap.size := by
  obtain ⟨es, c, hb, _⟩ := h.ex
  exact (Array.getElem?_eq_some_iff.1 hb).1
theorem IMap.same {w w' : World} {b : Nat} {f : Int → Option Value} {n : Nat} (h : IMap w b f n) (hb : w'.heap[b]? = w.heap[b]?) : IMap w' b f n := by
  obtain ⟨es, c, h1, h2⟩ := h.ex
  exact ⟨es, c, hb.trans h1, h2⟩
theorem IMap.below {w w' : World} {b : Nat} {f : Int → Option Value} {n : Nat} (h : IMap w b f n) (hw : Below w.heap.size w w') : IMap w' b f n := h.same (hw.block b h.lt)

section
variable {P : Program} {T K E : TypeId}

theorem checkKey_i8 (hK : P.underlying K = some (.int .i8)) (c : Bool) (k : Int) (w : World) : (Instr.checkKey c 10000 K (.int .i8 k)).run P w = .ok () w := by
  have h : ∀ m, (Instr.checkKey c (m + 1) K (.int .i8 k)).run P w = .ok () w := fun m => by simp [Instr.checkKey, run_underlying hK]
  exact h 9999
theorem findKey_i8 (hK : P.underlying K = some (.int .i8)) (k : Int) (es : List MapEntry) (w : World) (r : Option (Nat × Value)) (h : Instr.findNow (.int .i8) (.int .i8 k) es 0 = some r) :
    (Instr.findKey K (.int .i8 k) es).run P w = .ok r w := by
  simp [Instr.findKey, run_underlying hK, h]

theorem imap_lookup (hT : P.underlying T = some (.map K E)) (hK : P.underlying K = some (.int .i8)) {z : Value} {w : World} (hz : (zeroValue E).run P w = .ok z w) {b n : Nat} {f : Int → Option Value} (h : IMap w b f n) (k : Int) (c : Bool) :
    (Instr.lookup T (.map (some b)) (.int .i8 k) c).run P w = .ok (if c then .tuple #[(f k).getD z, .bool (f k).isSome] else (f k).getD z) w := by
  obtain ⟨es, clock, hb, hk, hn, hf⟩ := h.ex
  obtain ⟨r, h1, h2, h3⟩ := findNow_keys k es.toList 0 hk
  have hfk : r.map (·.2) = f k := by rw [h2]; exact hf k
  have g := findKey_i8 (P := P) hK k es.toList w r h1
  have gc := fun c => checkKey_i8 (P := P) hK c k w
  have gb := Go.MapKept.run_getObj_map (P := P) hb
  cases r with
  | none =>
    simp at hfk
    rw [← hfk]
    cases c <;> simp [Instr.lookup, run_underlying hT, g, gc, gb, hz]
  | some q =>
    simp at hfk
    rw [← hfk]
    cases c <;> simp [Instr.lookup, run_underlying hT, g, gc, gb]

/-- What a store at k makes of the map. -/
def mput (f : Int → Option Value) (k : Int) (v : Value) : Int → Option Value := fun j => if j = k then some v else f j

theorem find_modify (k : Int) (v : Value) (j : Int) : ∀ (l : List MapEntry) (i : Nat) (e : MapEntry), l[i]? = some e → e.key = .int .i8 k → (∀ m, m < i → ∀ e', l[m]? = some e' → keyIs k e' = false) →
    ((l.modify i fun e => { e with key := .int .i8 k, val := v }).find? (keyIs j)).map (·.val) = if j = k then some v else (l.find? (keyIs j)).map (·.val)
  | [], i, e, h, _, _ => by simp at h
  | x :: l, 0, e, h, hk, _ => by
    simp at h
    subst h
    by_cases hj : j = k
    · subst hj; simp [keyIs]
    · have h1 : (j == k) = false := by simp [hj]
      simp [keyIs, hk, h1, hj]
  | x :: l, i + 1, e, h, hk, hb => by
    have hx := hb 0 (by omega) x (by simp)
    have ih := find_modify k v j l i e (by simpa using h) hk (fun m hm e' he' => hb (m + 1) (by omega) e' (by simpa using he'))
    rw [List.modify_succ_cons]
    by_cases hj : j = k
    · subst hj
      simp only [List.find?_cons, hx]
      simpa using ih
    · cases hxx : keyIs j x with
      | true => simp [List.find?_cons, hxx, hj]
      | false => simp only [List.find?_cons, hxx]; exact ih
theorem find_push (k : Int) (v : Value) (c : Nat) (j : Int) (l : List MapEntry) (hn : l.find? (keyIs k) = none) :
    ((l ++ [({ key := .int .i8 k, val := v, born := c } : MapEntry)]).find? (keyIs j)).map (·.val) = if j = k then some v else (l.find? (keyIs j)).map (·.val) := by
  rw [List.find?_append]
  by_cases hj : j = k
  · subst hj
    rw [hn]
    simp [keyIs]
  · have h1 : (j == k) = false := by simp [hj]
    rw [if_neg hj]
    cases hf : l.find? (keyIs j) with
    | none => simp [keyIs, h1]
    | some e => simp
theorem stays (k : Int) (P : Program) (w : World) : (Instr.keyThatStays (.int .i8 k) (.int .i8 k)).run P w = .ok (.int .i8 k) w := by
  have h : ∀ m, Instr.sameBits m (.int .i8 k) (.int .i8 k) = true := fun m => by cases m <;> simp [Instr.sameBits]
  simp [Instr.keyThatStays, h 10000]
theorem heap_setBlock (w : World) (b : Nat) (o : Obj) (h : b < w.heap.size) : (Go.ChangeMaps.setBlock w b o).heap[b]? = some o := by
  show (w.heap.setIfInBounds b o)[b]? = some o
  simp [h]

theorem imap_update (hT : P.underlying T = some (.map K E)) (hK : P.underlying K = some (.int .i8)) {w : World} {b n : Nat} {f : Int → Option Value} (h : IMap w b f n) (k : Int) (v : Value) :
    ∃ o, (Instr.mapUpdate T (.map (some b)) (.int .i8 k) v).run P w = .ok () (Go.ChangeMaps.setBlock w b o) ∧ IMap (Go.ChangeMaps.setBlock w b o) b (mput f k v) (if (f k).isSome then n else n + 1) := by
  have hlt := h.lt
  obtain ⟨es, clock, hb, hk, hn, hf⟩ := h.ex
  obtain ⟨r, h1, h2, h3⟩ := findNow_keys k es.toList 0 hk
  have hfk : r.map (·.2) = f k := by rw [h2]; exact hf k
  have g := findKey_i8 (P := P) hK k es.toList w r h1
  have gc := fun c => checkKey_i8 (P := P) hK c k w
  have gb := Go.MapKept.run_getObj_map (P := P) hb
  have gs := fun o => Go.MapKept.run_setObj_map (P := P) o hb
  cases r with
  | none =>
    simp at hfk
    rw [← hfk]
    refine ⟨.map (es.push { key := .int .i8 k, val := v, born := clock }) (clock + 1), ?_, ?_⟩
    · simp [Instr.mapUpdate, run_underlying hT, g, gc, gb, gs]
      rfl
    · refine ⟨_, _, heap_setBlock _ _ _ hlt, ?_, by simp [hn], fun j => ?_⟩
      · intro e he
        simp at he
        rcases he with he | rfl
        · exact hk e (by simpa using he)
        · exact ⟨k, rfl⟩
      · have hnone : es.toList.find? (keyIs k) = none := by
          have := hf k
          rw [← hfk] at this
          simpa using this
        rw [Array.toList_push, find_push k v clock j es.toList hnone]
        unfold mput
        rw [hf j]
  | some q =>
    simp at hfk
    rw [← hfk]
    obtain ⟨_, e, he, hek, hbef⟩ := h3 q rfl
    simp only [Nat.sub_zero] at he hbef
    have hes : es[q.1]? = some e := by simpa using he
    refine ⟨.map (es.modify q.1 fun e => { e with key := .int .i8 k, val := v }) clock, ?_, ?_⟩
    · have gst := stays k P w
      simp [Instr.mapUpdate, run_underlying hT, g, gc, gb, gs, hes, hek, gst]
      rfl
    · refine ⟨_, _, heap_setBlock _ _ _ hlt, ?_, by simp [hn], fun j => ?_⟩
      · intro e' he'
        rw [Array.toList_modify] at he'
        obtain ⟨m, hm, hme⟩ := List.getElem_of_mem he'
        rw [List.getElem_modify] at hme
        split at hme
        · subst hme; exact ⟨k, rfl⟩
        · subst hme; exact hk _ (List.getElem_mem _)
      · rw [Array.toList_modify, find_modify k v j es.toList q.1 e he hek hbef]
        unfold mput
        rw [hf j]
end
theorem below_setBlock {B : Nat} {a w : World} (h : Below B a w) {b : Nat} (hb : B ≤ b) (o : Obj) : Below B a (Go.ChangeMaps.setBlock w b o) :=
  h.trans ⟨rfl, rfl, rfl, by show _ ≤ (w.heap.setIfInBounds b o).size; simp, fun k hk => by show (w.heap.setIfInBounds b o)[k]? = _; rw [Array.getElem?_setIfInBounds_ne (by omega)]⟩
end Go.Proofs.YtnjdgooljnbebaaGreatDoor
namespace Go.Proofs.YtnjdgooljnbebaaGreatDoor
open Go Go.RowKit
set_option maxHeartbeats 1000000
set_option linter.unusedSimpArgs false
set_option linter.unusedVariables false
set_option maxRecDepth 100000

/-- Integers as cells. -/
def ints (l : List Int) : Array Value := (l.map (Value.int .i64)).toArray
theorem ints_size (l : List Int) : (ints l).size = l.length := by simp [ints]
theorem ints_get (l : List Int) (i : Nat) (h : i < l.length) : (ints l)[i]? = some (.int .i64 (l.getD i 0)) := by simp [ints, h]

def kindOf (x : Int) : Int := if x > 6 then x - 6 else x
def sideOf (x : Int) : Int := if x > 6 then 1 else 0
def atSq (f r : Int) : Int := if f < 0 ∨ f > 7 ∨ r < 0 ∨ r > 7 then -1 else 8 * r + f

theorem po_file (s : Int) (w : World) (h0 : 0 ≤ s) (h1 : s < 4294967296) :
    Calls Tryz.prog 88 #[.int .i64 s] w fun e w' => e = .returned (.int .i64 (s % 8)) ∧ w = w' := by
  go_enter Tryz.func88, Tryz.ntmps88
  go_wp2
  go_ret
  exact ⟨rfl, rfl⟩
theorem po_rank (s : Int) (w : World) (h0 : 0 ≤ s) (h1 : s < 4294967296) :
    Calls Tryz.prog 49 #[.int .i64 s] w fun e w' => e = .returned (.int .i64 (s / 8)) ∧ w = w' := by
  go_enter Tryz.func49, Tryz.ntmps49
  go_wp2
  go_ret
  exact ⟨rfl, rfl⟩
theorem po_of (k s : Int) (w : World) (h0 : 0 ≤ k) (h1 : k ≤ 6) (h2 : 0 ≤ s) (h3 : s ≤ 1) :
    Calls Tryz.prog 46 #[.int .i64 k, .int .i64 s] w fun e w' => e = .returned (.int .i64 (k + 6 * s)) ∧ w = w' := by
  go_enter Tryz.func46, Tryz.ntmps46
  go_wp2
  go_ret
  exact ⟨rfl, rfl⟩
theorem po_at (f r : Int) (w : World) (hf : -4294967296 < f) (hf1 : f < 4294967296) (hr : -4294967296 < r) (hr1 : r < 4294967296) :
    Calls Tryz.prog 48 #[.int .i64 f, .int .i64 r] w fun e w' => e = .returned (.int .i64 (atSq f r)) ∧ w = w' := by
  go_enter Tryz.func48, Tryz.ntmps48
  by_cases h1 : f < 0
  · go_wp2
    go_ret
    exact ⟨by simp [atSq, h1], rfl⟩
  by_cases h2 : f > 7
  · go_wp2
    go_ret
    exact ⟨by simp [atSq, h2], rfl⟩
  by_cases h3 : r < 0
  · go_wp2
    go_ret
    exact ⟨by simp [atSq, h3], rfl⟩
  by_cases h4 : r > 7
  · go_wp2
    go_ret
    exact ⟨by simp [atSq, h4], rfl⟩
  go_wp2
  go_ret
  refine ⟨?_, rfl⟩
  show Ending.returned (.int .i64 (8 * r + f)) = _
  rw [atSq, if_neg (by omega)]

theorem new_cells (w : World) (l : List Int) (t : TypeId) (b : Nat) (hb : b = w.heap.size) : ∀ j u, (l.map (Value.int .i64))[j]? = some u → (w.alloc (.cells (ints l) t)).cell? ((⟨b, 0, none⟩ : Addr).add j) = some u := by
  subst hb
  intro j u h
  have e : (⟨w.heap.size, 0, none⟩ : Addr).add j = ⟨w.heap.size, j, none⟩ := by unfold Addr.add; split <;> simp_all
  rw [e, cell_of_row _ _ _ _ _ _ (heap_alloc_new w _)]
  simpa [ints] using h

theorem ints_set (l : List Int) (i : Nat) (z : Int) : (ints l).setIfInBounds i (.int .i64 z) = ints (l.set i z) := by
  unfold ints
  rw [List.map_set]
  simp
theorem ints_one (l : List Int) : (ints l).all (·.oneCell') = true := by
  rw [Array.all_eq_true_iff_forall_mem]
  intro x hx
  simp [ints] at hx
  obtain ⟨z, _, rfl⟩ := hx
  rfl

theorem below_setRow {B : Nat} {w w1 : World} (h : Below B w w1) {g : Nat} (hg : B ≤ g) (cs : Array Value) : Below B w (w1.setRow g cs) :=
  ⟨h.os, h.tape, h.output, by simp; exact h.size, fun i hi => (setRow_other w1 g i cs (by omega)).trans (h.block i hi)⟩
theorem row_cell {w : World} {g : Nat} {l : List Int} {t : TypeId} {fr : Nat × Nat} (hg : w.heap[g]? = some (.cells (ints l) t fr)) (i : Nat) (h : i < l.length) : w.cell? ⟨g, i, none⟩ = some (.int .i64 (l.getD i 0)) :=
  (cell_of_row _ _ _ _ _ _ hg).trans (ints_get _ _ h)
theorem row_set {w : World} {g : Nat} {l : List Int} {t : TypeId} (hg : w.heap[g]? = some (.cells (ints l) t (0, 0))) (i : Nat) (z : Int) : (w.setCell ⟨g, i, none⟩ (.int .i64 z)).heap[g]? = some (.cells (ints (l.set i z)) t (0, 0)) := by
  rw [heap_setCell_same w g i _ _ _ hg, ints_set]
end Go.Proofs.YtnjdgooljnbebaaGreatDoor
namespace Go.Proofs.YtnjdgooljnbebaaGreatDoor
open Go Go.RowKit
/-- What stands on a square. -/
def pcAt (p : List Int) (s : Int) : Int := p.getD s.toNat 0
end Go.Proofs.YtnjdgooljnbebaaGreatDoor
namespace Go.Proofs.YtnjdgooljnbebaaGreatDoor
open Go Go.RowKit
set_option linter.unusedVariables false

theorem one_cell (w : World) (u : Value) (t : TypeId) (b : Nat) (hb : b = w.heap.size) : ∀ j v, [u][j]? = some v → (w.alloc (.cells #[u] t)).cell? ((⟨b, 0, none⟩ : Addr).add j) = some v := by
  subst hb
  intro j v h
  match j, h with
  | 0, h =>
    simp at h
    subst h
    have e : (⟨w.heap.size, 0, none⟩ : Addr).add 0 = ⟨w.heap.size, 0, none⟩ := by unfold Addr.add; split <;> simp_all
    rw [e, cell_of_row _ _ _ _ _ _ (heap_alloc_new w _)]
    rfl
theorem at_append1 {P : Program} {ops : Array Oper} {rest : List Oper} {a : Act} {w : World} {Q : Exit → Act → World → Prop} {d : Option Tmp} {x y : Operand} {ty : TypeId} {ps : String} {af : Array Edge} {u : Value} {t e : TypeId}
    {i : TypeInfo} {z : Value} {bytes : Nat} (ht : P.underlying t = some (.slice e)) (hi : P.info? e = some i) (hz : i.zero = some z) (hsize : i.size = 1) (hby : i.bytes = bytes) (hzs : z.cells.size = 1) (hb : bytes ≤ 16) (hu : u.oneCell' = true)
    (base : Nat) (v : Value) (n : Nat) (xs : List Value) (hO : w.ownsRow base e 1 v n xs) (hlen : n ≤ 1000000) (hbase : base ≤ w.heap.size)
    (hx : a.eval x = v) (hy : a.eval y = .slice (some ⟨w.heap.size, 0, none⟩) 1 1)
    (h : ∀ v' w', w'.ownsRow base e 1 v' (n + 1) (xs ++ [u]) → Below base w w' → wpList P ops Q rest (a.put d v') w') :
    wpList P ops Q ({ dst := d, op := .call { callee := .builtin .append, args := #[x, y], argTypes := #[t, t] }, type := ty, pos := ps, after := af, guard := none } :: rest) a (w.alloc (.cells #[u] e)) := by
  refine wpList_append_lies _ rfl x y t rfl base e i z 1 bytes ht hi hz hsize hby hzs (by decide) v n xs hx (hO.alloc _)
    ⟨w.heap.size, 0, none⟩ 1 1 [u] hy rfl (one_cell w u e _ rfl) ?_ (by decide) ?_ ?_ ?_ (w.heap.size + 1) (by simp) ?_
  · intro q hq; simp at hq; subst hq; exact hu
  · unfold maxLen; omega
  · have : (n + 1) * bytes ≤ 1000001 * 16 := Nat.mul_le_mul (by omega) hb
    omega
  · simp; omega
  · intro g cap w' hown hgrow hg _
    exact h _ _ hown (((Below.refl _ _).alloc hbase _).grown hgrow (by simp; omega) (own_ge hO))
/-- A whole struct or array out of its block, and into it, in one step. -/
theorem at_load_row {P : Program} {ops : Array Oper} {rest : List Oper} {a : Act} {w : World} {Q : Exit → Act → World → Prop} {d : Option Tmp} {x : Operand} {ty tt t : TypeId} {ps : String} {af : Array Edge} {g : Nat} {cs : Array Value} {fr : Nat × Nat} {de : TypeDesc}
    (hg : w.heap[g]? = some (.cells cs t fr)) (hu : P.underlying tt = some de) (hd : (match de with | .struct _ | .array _ _ => true | _ => false) = true) (hi : (P.info? tt).map (·.size) = some cs.size) (hx : a.eval x = .pointer (some ⟨g, 0, none⟩))
    (h : wpList P ops Q rest (a.put d (.agg cs)) w) : wpList P ops Q ({ dst := d, op := .load tt x, type := ty, pos := ps, after := af, guard := none } :: rest) a w :=
  wpList_load_row rfl tt x rfl g hx t cs fr de hg hu hd hi h
/-- The same under a guard that says yes. -/
theorem at_load_rowG {P : Program} {ops : Array Oper} {rest : List Oper} {a : Act} {w : World} {Q : Exit → Act → World → Prop} {d : Option Tmp} {x : Operand} {ty tt t : TypeId} {ps : String} {af : Array Edge} {gd : Nat × Bool} {g : Nat} {cs : Array Value} {fr : Nat × Nat} {de : TypeDesc}
    (hg : w.heap[g]? = some (.cells cs t fr)) (hu : P.underlying tt = some de) (hd : (match de with | .struct _ | .array _ _ => true | _ => false) = true) (hi : (P.info? tt).map (·.size) = some cs.size) (hx : a.eval x = .pointer (some ⟨g, 0, none⟩))
    (hw : Region.wanted ({ dst := d, op := .load tt x, type := ty, pos := ps, after := af, guard := some gd } : Oper) (yielded ops a.tmps) = true)
    (h : wpList P ops Q rest (a.put d (.agg cs)) w) : wpList P ops Q ({ dst := d, op := .load tt x, type := ty, pos := ps, after := af, guard := some gd } :: rest) a w :=
  BigFrame.wpList_want hw fun K hK => wp_load_row tt x rfl g hx t cs fr de hg hu hd hi (hK _ _ h)
theorem at_store_row {P : Program} {ops : Array Oper} {rest : List Oper} {a : Act} {w : World} {Q : Exit → Act → World → Prop} {d : Option Tmp} {x y : Operand} {ty tt t : TypeId} {ps : String} {af : Array Edge} {g : Nat} {old : Array Value} (cs : Array Value)
    (hg : w.heap[g]? = some (.cells old t (0, 0))) (hi : (P.info? tt).map (·.size) = some cs.size) (ho : old.size = cs.size) (h1 : cs.all (·.oneCell') = true) (hx : a.eval x = .pointer (some ⟨g, 0, none⟩)) (hy : a.eval y = .agg cs)
    (h : wpList P ops Q rest (a.put d undef) (w.setRow g cs)) : wpList P ops Q ({ dst := d, op := .store tt x y, type := ty, pos := ps, after := af, guard := none } :: rest) a w :=
  wpList_store_row rfl tt x y rfl g cs hx hy t old hg hi ho h1 h
theorem below_setRow' {B : Nat} {w w1 : World} (h : Below B w w1) {g : Nat} (hg : B ≤ g) (cs : Array Value) : Below B w (w1.setRow g cs) :=
  ⟨h.os, h.tape, h.output, by simp; exact h.size, fun i hi => (setRow_other w1 g i cs (by omega)).trans (h.block i hi)⟩
/-- A new variable, filled at once: behind it the world is a letter. -/
theorem at_new_row {P : Program} {ops : Array Oper} {rest : List Oper} {a : Act} {w : World} {Q : Exit → Act → World → Prop} {d : Option Tmp} {x y : Operand} {ty tt t : TypeId} {ps : String} {af : Array Edge} {old : Array Value} (cs : Array Value)
    (hi : (P.info? tt).map (·.size) = some cs.size) (ho : old.size = cs.size) (h1 : cs.all (·.oneCell') = true) (hx : a.eval x = .pointer (some ⟨w.heap.size, 0, none⟩)) (hy : a.eval y = .agg cs)
    (h : ∀ W : World, W.heap[w.heap.size]? = some (.cells cs t (0, 0)) → Below w.heap.size w W → wpList P ops Q rest (a.put d undef) W) :
    wpList P ops Q ({ dst := d, op := .store tt x y, type := ty, pos := ps, after := af, guard := none } :: rest) a (w.alloc (.cells old t)) :=
  wpList_store_row rfl tt x y rfl w.heap.size cs hx hy t old (heap_alloc_new w _) hi ho h1 (h _ (setRow_heap _ _ _ _ _ _ (heap_alloc_new w _)) (below_setRow' ((Below.refl _ _).alloc (Nat.le_refl _) _) (Nat.le_refl _) _))
end Go.Proofs.YtnjdgooljnbebaaGreatDoor
namespace Go.Proofs.YtnjdgooljnbebaaGreatDoor
open Go Go.RowKit
set_option linter.unusedVariables false
set_option linter.unusedSimpArgs false
theorem heap_keep {w : World} {o o' : Obj} {g : Nat} (h : w.heap[g]? = some o) : (w.alloc o').heap[g]? = some o := (heap_alloc_old _ _ (Array.getElem?_eq_some_iff.1 h).1).trans h
theorem heap_at (w : World) (o : Obj) (k : Nat) (hk : k = w.heap.size) : (w.alloc o).heap[k]? = some o := by subst hk; exact heap_alloc_new w o
theorem results_cell1 {P : Program} {fn : Func} {p : Tmp} {ty : TypeId} (h : fn.results = #[.cell p ty]) (tmps : Array Value) (w : World) (g : Nat) (t : TypeId) (cs : Array Value) (fr : Nat × Nat) (d : TypeDesc)
    (hp : tmps.getD p undef = .pointer (some ⟨g, 0, none⟩)) (hg : w.heap[g]? = some (.cells cs t fr))
    (hu : P.underlying ty = some d) (hd : (match d with | .struct _ | .array _ _ => true | _ => false) = true) (hi : (P.info? ty).map (·.size) = some cs.size) :
    (results fn tmps).run P w = .ok (.agg cs) w := by
  have hp' : tmps[p]?.getD undef = .pointer (some ⟨g, 0, none⟩) := by simpa using hp
  simp [results, h, hp', asAddr, run_loadVar_row w g t ty cs fr d hg hu hd hi]
/-- One word into its cell. -/
theorem wp_store_one {P : Program} {o : Oper} {a : Act} {w : World} {K : Act → World → Prop} {Q : Exit → Act → World → Prop} (ty : TypeId) (x y : Operand) (ho : o.op = .store ty x y)
    (g k : Nat) (v : Value) (hx : a.eval x = .pointer (some ⟨g, k, none⟩)) (hy : a.eval y = v) (hv : v.cells = #[v]) (h1 : v.oneCell' = true) (t : TypeId) (old : Array Value) (hg : w.heap[g]? = some (.cells old t (0, 0))) (hk : k < old.size) (hi : (P.info? ty).map (·.size) = some 1)
    (h : K (a.put o.dst undef) (w.setCell ⟨g, k, none⟩ v)) : o.wp P a w K Q := by
  have hrun : (storeVar ty ⟨g, k, none⟩ v).run P w = .ok () (w.setCell ⟨g, k, none⟩ v) := by
    have hadd : (⟨g, k, none⟩ : Addr).add 0 = ⟨g, k, none⟩ := by unfold Addr.add; split <;> simp_all
    have hc := cell_of_row w g k _ _ _ hg
    have hf := frozen_of_row w g k _ _ hg
    have hs : (store ⟨g, k, none⟩ v).run P w = .ok () (w.setCell ⟨g, k, none⟩ v) := by
      rw [run_store P w _ v _ h1, hc, Array.getElem?_eq_getElem hk]
      simp [hf]
    cases hq : P.info? ty with
    | none => simp [hq] at hi
    | some i =>
      have hz : i.size = 1 := by simpa [hq] using hi
      simp [storeVar, sizeOf, typeInfo, hq, hv, hz, storeCells, hadd, hs]
  unfold Oper.wp execOp
  simp only [ho, hx, hy, Instr.storeAt, Instr.sureAddr, Sem.run_bind, Sem.run_pure, Result.andThen_ok, hrun]
  exact h
end Go.Proofs.YtnjdgooljnbebaaGreatDoor
namespace Go.Proofs.YtnjdgooljnbebaaGreatDoor
open Go Go.RowKit
set_option maxHeartbeats 400000
set_option linter.unusedSimpArgs false
set_option linter.unusedVariables false

theorem part_int {P : Program} {e : TypeId} (he : P.underlying e = some (.int .i64)) (a : List Int) (i : Nat) (h : i < a.length) (w : World) : (part e (ints a) i).run P w = .ok (.int .i64 (a.getD i 0)) w := by
  have hagg : (isAgg e).run P w = .ok false w := by
    unfold isAgg
    rw [Sem.run_bind, run_underlying he w]
    simp
  unfold part
  rw [Sem.run_bind, hagg]
  simp [ints_get a i h]
end Go.Proofs.YtnjdgooljnbebaaGreatDoor
namespace Go.Proofs.YtnjdgooljnbebaaGreatDoor
open Go Go.RowKit
set_option maxHeartbeats 2000000
set_option linter.unusedSimpArgs false
set_option linter.unusedVariables false
set_option maxRecDepth 100000

/-- The squares below n on which k stands, as bits. -/
def bbTo (p : List Int) (k : Int) : Nat → BitVec 64
  | 0 => 0#64
  | n + 1 => (bbTo p k n <<< 1) ||| (if p.getD n 0 = k then 1#64 else 0#64)
theorem bbTo_bit (p : List Int) (k : Int) : ∀ n, n ≤ 64 → ∀ i, i < 64 → (bbTo p k n).getLsbD i = (decide (i < n) && decide (p.getD (n - 1 - i) 0 = k))
  | 0, _, i, hi => by simp [bbTo]
  | n + 1, hn, i, hi => by
    have ih := bbTo_bit p k n (by omega)
    rw [bbTo, BitVec.getLsbD_or, BitVec.getLsbD_shiftLeft]
    cases i with
    | zero =>
      have h0 : (if p.getD n 0 = k then 1#64 else 0#64).getLsbD 0 = decide (p.getD n 0 = k) := by split <;> simp_all
      rw [h0]
      simp
    | succ i =>
      have h1 : (if p.getD n 0 = k then 1#64 else 0#64).getLsbD (i + 1) = false := by
        split <;> simp [BitVec.getLsbD_one]
      rw [h1, Nat.add_sub_cancel, ih i (by omega)]
      have e : n - (i + 1) = n - 1 - i := by omega
      simp only [Nat.add_sub_cancel, e] 
      by_cases hin : i < n
      · simp [hin, hi]
      · simp [hin]
def bb (p : List Int) (k : Int) : BitVec 64 := bbTo p k 64
theorem occ_bb (p : List Int) (k : Int) (s : Nat) (h : s < 64) : occ (bb p k) s = decide (p.getD s 0 = k) := by
  unfold occ bb
  rw [bbTo_bit p k 64 (by omega) _ (by omega)]
  have e : 64 - 1 - (63 - s) = s := by omega
  rw [e]
  simp
  omega
def whiteB (p : List Int) : BitVec 64 := bb p 1 ||| bb p 2 ||| bb p 3 ||| bb p 4 ||| bb p 5 ||| bb p 6
def blackB (p : List Int) : BitVec 64 := bb p 7 ||| bb p 8 ||| bb p 9 ||| bb p 10 ||| bb p 11 ||| bb p 12
/-- The cells of a board: twelve numbers, and anything behind them. -/
def brdF (F : Nat → BitVec 64) (a b c d e : Value) : Array Value := #[bbv (F 0), bbv (F 1), bbv (F 2), bbv (F 3), bbv (F 4), bbv (F 5), bbv (F 6), bbv (F 7), bbv (F 8), bbv (F 9), bbv (F 10), bbv (F 11), a, b, c, d, e]
def bbF (p : List Int) : Nat → BitVec 64 := fun i => bb p ((i : Int) + 1)
/-- The last square on which k stands, -1 without one. -/
def lastK (p : List Int) (k : Int) : Nat → Int
  | 0 => -1
  | n + 1 => if p.getD n 0 = k then (n : Int) else lastK p k n
/-- The cells of a board. -/
def brd (p : List Int) : Array Value := brdF (bbF p) (bbv (whiteB p)) (bbv (blackB p)) (bbv (~~~(whiteB p ||| blackB p))) (.int .i8 (lastK p 1 64)) (.int .i8 (lastK p 7 64))
/-- The pieces, as the package lists them. -/
def allL : List Int := [1, 2, 3, 4, 5, 6, 7, 8, 9, 10, 11, 12]
theorem twelve {k : Nat} (h : k < 12) : k = 0 ∨ k = 1 ∨ k = 2 ∨ k = 3 ∨ k = 4 ∨ k = 5 ∨ k = 6 ∨ k = 7 ∨ k = 8 ∨ k = 9 ∨ k = 10 ∨ k = 11 := by omega
theorem allL_get (k : Nat) (h : k < 12) : allL.getD k 0 = (k : Int) + 1 := by
  rcases twelve h with rfl | rfl | rfl | rfl | rfl | rfl | rfl | rfl | rfl | rfl | rfl | rfl <;> rfl
theorem brdF_get (F : Nat → BitVec 64) (a b c d e : Value) (k : Nat) (h : k < 12) : (brdF F a b c d e)[k]? = some (bbv (F k)) := by
  rcases twelve h with rfl | rfl | rfl | rfl | rfl | rfl | rfl | rfl | rfl | rfl | rfl | rfl <;> rfl
theorem brdF_set (F : Nat → BitVec 64) (a b c d e : Value) (k : Nat) (h : k < 12) (x : BitVec 64) : (brdF F a b c d e).setIfInBounds k (bbv x) = brdF (fun j => if j = k then x else F j) a b c d e := by
  rcases twelve h with rfl | rfl | rfl | rfl | rfl | rfl | rfl | rfl | rfl | rfl | rfl | rfl <;> rfl

/-- Nothing but block g has changed. -/
def Only (g : Nat) (w w' : World) : Prop := (∀ k, k ≠ g → w'.heap[k]? = w.heap[k]?) ∧ ∀ B a, B ≤ g → Below B a w → Below B a w'
theorem Only.refl (g : Nat) (w : World) : Only g w w := ⟨fun _ _ => rfl, fun _ _ _ h => h⟩
theorem Only.trans {g : Nat} {w w1 w2 : World} (h : Only g w w1) (h2 : Only g w1 w2) : Only g w w2 := ⟨fun k hk => (h2.1 k hk).trans (h.1 k hk), fun B a hB hb => h2.2 B a hB (h.2 B a hB hb)⟩
theorem Only.setCell {g : Nat} {w w1 : World} (h : Only g w w1) (i : Nat) (v : Value) : Only g w (w1.setCell ⟨g, i, none⟩ v) :=
  ⟨fun k hk => (heap_setCell_other w1 ⟨g, i, none⟩ k v hk).trans (h.1 k hk), fun B a hB hb => (h.2 B a hB hb).setCell (p := ⟨g, i, none⟩) hB v⟩
theorem Only.drewN {g : Nat} {w w1 : World} (h : Only g w w1) (n : Nat) : Only g w (w1.drewN n) := ⟨h.1, fun B a hB hb => (h.2 B a hB hb).trans ⟨rfl, rfl, rfl, Nat.le_refl _, fun _ _ => rfl⟩⟩
/-- The number of a piece. -/
theorem bo_get (F : Nat → BitVec 64) (a b c d e : Value) (g : Nat) (k : Nat) (w : World) (hg : w.heap[g]? = some (.cells (brdF F a b c d e) 144 (0, 0))) (h : k < 12) :
    Calls Tryz.prog 105 #[.pointer (some ⟨g, 0, none⟩), .int .i8 ((k : Int) + 1)] w fun e' w' => e' = .returned (bbv (F k)) ∧ w = w' := by
  have hc := cell_of_row w g k _ _ _ hg
  rw [brdF_get F a b c d e k h] at hc
  clear hg
  go_enter Tryz.func105, Tryz.ntmps105
  rcases twelve h with rfl | rfl | rfl | rfl | rfl | rfl | rfl | rfl | rfl | rfl | rfl | rfl
  all_goals (
    go_wp2
    go_ret
    exact ⟨rfl, rfl⟩)
theorem bo_set (F : Nat → BitVec 64) (a b c d e : Value) (g : Nat) (k : Nat) (x : BitVec 64) (w : World) (hg : w.heap[g]? = some (.cells (brdF F a b c d e) 144 (0, 0))) (h : k < 12) :
    Calls Tryz.prog 108 #[.pointer (some ⟨g, 0, none⟩), .int .i8 ((k : Int) + 1), bbv x] w fun e' w' => e' = .returned (.tuple #[]) ∧ w' = w.setCell ⟨g, k, none⟩ (bbv x) := by
  have hc := cell_of_row w g k _ _ _ hg
  have hf := frozen_of_row w g k _ _ hg
  rw [brdF_get F a b c d e k h] at hc
  clear hg
  go_enter Tryz.func108, Tryz.ntmps108
  rcases twelve h with rfl | rfl | rfl | rfl | rfl | rfl | rfl | rfl | rfl | rfl | rfl | rfl
  all_goals (
    go_wp2
    go_simp
    go_wp2
    go_end0
    exact ⟨rfl, rfl⟩)

/-- What stands on a square. -/
theorem bo_piece (p : List Int) (a b c d e : Value) (g : Nat) (s : Int) (w : World) (hA : IntSl w 0 .i8 allL) (hg : w.heap[g]? = some (.cells (brdF (bbF p) a b c d e) 144 (0, 0)))
    (h0 : 0 ≤ s) (h1 : s ≤ 63) (hp0 : 0 ≤ p.getD s.toNat 0) (hp1 : p.getD s.toNat 0 ≤ 12) :
    Calls Tryz.prog 83 #[.pointer (some ⟨g, 0, none⟩), .int .i8 s] w fun e' w' => e' = .returned (.int .i8 (p.getD s.toNat 0)) ∧ w = w' := by
  obtain ⟨⟨q, hq, hqb, hc0, hci⟩, _⟩ := hA
  simp only [show allL.length = 12 from rfl] at hc0 hci
  go_enter Tryz.func83, Tryz.ntmps83
  go_wp2_with fail
  go_loopw [10] (fun i wr => ∃ k : Nat, k ≤ 12 ∧ i = .int .i64 (k : Int) ∧ wr = w ∧ ∀ j : Nat, j < k → p.getD s.toNat 0 ≠ (j : Int) + 1) (fun i _ => (12 - intOf i).toNat)
  case atStart => exact ⟨0, by omega, rfl, rfl, fun j hj => by omega⟩
  case round =>
    obtain ⟨k, hk, rfl, rfl, hno⟩ := hrel
    by_cases hlt : k < 12
    · have hck := hci k hlt
      rw [allL_get k hlt, ← add_at hq] at hck
      have hocc : occ (bbF p k) s.toNat = decide (p.getD s.toNat 0 = (k : Int) + 1) := occ_bb p ((k : Int) + 1) s.toNat (by omega)
      have hno' : True → ∀ j : Nat, j < k → p.getD s.toNat 0 ≠ (j : Int) + 1 := fun _ => hno
      clear hno hci
      by_cases hs : p.getD s.toNat 0 = (k : Int) + 1
      · rw [decide_eq_true hs] at hocc
        have hs' : True → p.getD s.toNat 0 = (k : Int) + 1 := fun _ => hs
        clear hs
        go_wp2_with (first
          | (go_at_call 105; refine (bo_get _ _ _ _ _ _ _ k _ hg hlt).mono ?_; rintro e1 w1 ⟨rfl, rfl⟩)
          | (go_at_call 106; refine (sq_occupied _ s _ h0 h1).mono ?_; rintro e2 w2 ⟨rfl, rfl⟩))
        go_ret
        refine ⟨?_, rfl⟩
        rw [hs' trivial]
        rfl
      · rw [decide_eq_false hs] at hocc
        have hs' : True → p.getD s.toNat 0 ≠ (k : Int) + 1 := fun _ => hs
        clear hs
        go_wp2_with (first
          | (go_at_call 105; refine (bo_get _ _ _ _ _ _ _ k _ hg hlt).mono ?_; rintro e1 w1 ⟨rfl, rfl⟩)
          | (go_at_call 106; refine (sq_occupied _ s _ h0 h1).mono ?_; rintro e2 w2 ⟨rfl, rfl⟩))
        go_roundw
        case rel =>
          refine ⟨k + 1, by omega, by go_num, trivial, fun j hj => ?_⟩
          by_cases e : j = k
          · subst e; exact hs' trivial
          · exact hno' trivial j (by omega)
        case measure => simp [intOf]; omega
    · obtain rfl : k = 12 := by omega
      have h12 : p.getD s.toNat 0 = 0 := by
        by_cases h : p.getD s.toNat 0 = 0
        · exact h
        · exact absurd (by omega) (hno (p.getD s.toNat 0 - 1).toNat (by omega))
      clear hno hci
      go_wp2_with fail
      go_ret
      refine ⟨?_, rfl⟩
      rw [h12]
      rfl

/-- What is reckoned besides: all white, all black, all empty squares, and where the kings stand. -/
theorem bo_calc (p : List Int) (a b c d e : Value) (ha : a.oneCell' = true) (g : Nat) (w : World) (hg : w.heap[g]? = some (.cells (brdF (bbF p) a b c d e) 144 (0, 0))) :
    Calls Tryz.prog 111 #[.pointer (some ⟨g, 0, none⟩), .pointer none] w fun e' w' => e' = .returned (.tuple #[]) ∧ w'.heap[g]? = some (.cells (brd p) 144 (0, 0)) ∧ Only g w w' := by
  have c0 : w.cell? ⟨g, 0, none⟩ = some (bbv (bb p 1)) := cell_of_row w g 0 _ _ _ hg
  have c1 : w.cell? ⟨g, 1, none⟩ = some (bbv (bb p 2)) := cell_of_row w g 1 _ _ _ hg
  have c2 : w.cell? ⟨g, 2, none⟩ = some (bbv (bb p 3)) := cell_of_row w g 2 _ _ _ hg
  have c3 : w.cell? ⟨g, 3, none⟩ = some (bbv (bb p 4)) := cell_of_row w g 3 _ _ _ hg
  have c4 : w.cell? ⟨g, 4, none⟩ = some (bbv (bb p 5)) := cell_of_row w g 4 _ _ _ hg
  have c5 : w.cell? ⟨g, 5, none⟩ = some (bbv (bb p 6)) := cell_of_row w g 5 _ _ _ hg
  have c6 : w.cell? ⟨g, 6, none⟩ = some (bbv (bb p 7)) := cell_of_row w g 6 _ _ _ hg
  have c7 : w.cell? ⟨g, 7, none⟩ = some (bbv (bb p 8)) := cell_of_row w g 7 _ _ _ hg
  have c8 : w.cell? ⟨g, 8, none⟩ = some (bbv (bb p 9)) := cell_of_row w g 8 _ _ _ hg
  have c9 : w.cell? ⟨g, 9, none⟩ = some (bbv (bb p 10)) := cell_of_row w g 9 _ _ _ hg
  have c10 : w.cell? ⟨g, 10, none⟩ = some (bbv (bb p 11)) := cell_of_row w g 10 _ _ _ hg
  have c11 : w.cell? ⟨g, 11, none⟩ = some (bbv (bb p 12)) := cell_of_row w g 11 _ _ _ hg
  go_enter Tryz.func111, Tryz.ntmps111
  go_wp2_with fail
  go_quiet (fail)
  go_wp2_with fail
  go_quiet (fail)
  clear c0 c1 c2 c3 c4 c5 c6 c7 c8 c9 c10 c11
  generalize hW : World.drewN _ _ = W
  have hgW : W.heap[g]? = some (.cells (brdF (bbF p) a b c d e) 144 (0, 0)) := by rw [← hW]; exact hg
  have hO : Only g w W := by rw [← hW]; exact ((Only.refl g w).drewN _).drewN _
  clear hW hg
  have c12 : W.cell? ⟨g, 12, none⟩ = some a := cell_of_row W g 12 _ _ _ hgW
  have c13 : W.cell? ⟨g, 13, none⟩ = some b := cell_of_row W g 13 _ _ _ hgW
  have c14 : W.cell? ⟨g, 14, none⟩ = some c := cell_of_row W g 14 _ _ _ hgW
  have c15 : W.cell? ⟨g, 15, none⟩ = some d := cell_of_row W g 15 _ _ _ hgW
  have c16 : W.cell? ⟨g, 16, none⟩ = some e := cell_of_row W g 16 _ _ _ hgW
  have f12 := frozen_of_row W g 12 _ _ hgW
  have f13 := frozen_of_row W g 13 _ _ hgW
  have f14 := frozen_of_row W g 14 _ _ hgW
  have f15 := frozen_of_row W g 15 _ _ hgW
  have f16 := frozen_of_row W g 16 _ _ hgW
  go_wp2_with fail
  go_simp
  go_wp2_with fail
  go_simp
  go_wp2_with fail
  go_simp
  go_wp2_with fail
  clear c12 c13 c14 c15 c16 f12 f13 f14 f15 f16
  generalize hW2 : World.setCell _ _ _ = W2
  have hgW2 : W2.heap[g]? = some (.cells (brdF (bbF p) (bbv (whiteB p)) (bbv (blackB p)) (bbv (~~~(whiteB p ||| blackB p))) (.int .i8 (-1)) (.int .i8 (-1))) 144 (0, 0)) := by
    rw [← hW2]
    have h1 := heap_setCell_same W g 12 _ _ (bbv (whiteB p)) hgW
    have h2 := heap_setCell_same _ g 13 _ _ (bbv (blackB p)) h1
    have h3 := heap_setCell_same _ g 14 _ _ (bbv (~~~(whiteB p ||| blackB p))) h2
    have h4 := heap_setCell_same _ g 15 _ _ (.int .i8 (-1)) h3
    exact heap_setCell_same _ g 16 _ _ (.int .i8 (-1)) h4
  have hO2 : Only g w W2 := by rw [← hW2]; exact ((((hO.setCell _ _).setCell _ _).setCell _ _).setCell _ _).setCell _ _
  clear hW2 hgW hO
  go_loopw [92] (fun i wr => ∃ k : Nat, k ≤ 64 ∧ i = .int .i64 (k : Int) ∧ wr.heap[g]? = some (.cells (brdF (bbF p) (bbv (whiteB p)) (bbv (blackB p)) (bbv (~~~(whiteB p ||| blackB p))) (.int .i8 (lastK p 1 k)) (.int .i8 (lastK p 7 k))) 144 (0, 0)) ∧ Only g w wr) (fun i _ => (64 - intOf i).toNat)
  case atStart => exact ⟨0, by omega, rfl, hgW2, hO2⟩
  case round =>
    obtain ⟨k, hk, rfl, hgr, hOr⟩ := hrel
    clear hgW2 hO2
    by_cases hlt : k < 64
    · have c0 : wr.cell? ⟨g, 0, none⟩ = some (bbv (bb p 1)) := cell_of_row wr g 0 _ _ _ hgr
      have c6 : wr.cell? ⟨g, 6, none⟩ = some (bbv (bb p 7)) := cell_of_row wr g 6 _ _ _ hgr
      have c15 : wr.cell? ⟨g, 15, none⟩ = some (.int .i8 (lastK p 1 k)) := cell_of_row wr g 15 _ _ _ hgr
      have c16 : wr.cell? ⟨g, 16, none⟩ = some (.int .i8 (lastK p 7 k)) := cell_of_row wr g 16 _ _ _ hgr
      have f15 := frozen_of_row wr g 15 _ _ hgr
      have f16 := frozen_of_row wr g 16 _ _ hgr
      have o1 : occ (bb p 1) k = decide (p.getD k 0 = 1) := occ_bb p 1 k hlt
      have o7 : occ (bb p 7) k = decide (p.getD k 0 = 7) := occ_bb p 7 k hlt
      have hhid : True → _ := fun _ => And.intro hgr hOr
      clear hgr hOr
      by_cases h1 : p.getD k 0 = 1
      · rw [decide_eq_true h1] at o1
        have e1 : True → lastK p 1 (k + 1) = (k : Int) := fun _ => by rw [lastK, if_pos h1]
        have e7 : True → lastK p 7 (k + 1) = lastK p 7 k := fun _ => by rw [lastK, if_neg (by omega)]
        clear o7 h1
        go_wp2_with (go_at_call 106; refine (sq_occupied _ (k : Int) _ (by omega) (by omega)).mono ?_; rintro e1 w1 ⟨rfl, rfl⟩)
        go_roundw
        case rel =>
          obtain ⟨hgr, hOr⟩ := hhid trivial
          refine ⟨k + 1, by omega, by go_num, ?_, hOr.setCell _ _⟩
          rw [e1 trivial, e7 trivial]
          exact heap_setCell_same wr g 15 _ _ (.int .i8 (k : Int)) hgr
        case measure => simp [intOf]; omega
      rw [decide_eq_false h1] at o1
      have e1 : True → lastK p 1 (k + 1) = lastK p 1 k := fun _ => by rw [lastK, if_neg h1]
      clear h1
      by_cases h7 : p.getD k 0 = 7
      · rw [decide_eq_true h7] at o7
        have e7 : True → lastK p 7 (k + 1) = (k : Int) := fun _ => by rw [lastK, if_pos h7]
        clear h7
        go_wp2_with (go_at_call 106; refine (sq_occupied _ (k : Int) _ (by omega) (by omega)).mono ?_; rintro e1 w1 ⟨rfl, rfl⟩)
        go_roundw
        case rel =>
          obtain ⟨hgr, hOr⟩ := hhid trivial
          refine ⟨k + 1, by omega, by go_num, ?_, hOr.setCell _ _⟩
          rw [e1 trivial, e7 trivial]
          exact heap_setCell_same wr g 16 _ _ (.int .i8 (k : Int)) hgr
        case measure => simp [intOf]; omega
      · rw [decide_eq_false h7] at o7
        have e7 : True → lastK p 7 (k + 1) = lastK p 7 k := fun _ => by rw [lastK, if_neg h7]
        clear h7
        go_wp2_with (go_at_call 106; refine (sq_occupied _ (k : Int) _ (by omega) (by omega)).mono ?_; rintro e1 w1 ⟨rfl, rfl⟩)
        go_roundw
        case rel =>
          obtain ⟨hgr, hOr⟩ := hhid trivial
          refine ⟨k + 1, by omega, by go_num, ?_, hOr⟩
          rw [e1 trivial, e7 trivial]
          exact hgr
        case measure => simp [intOf]; omega
    · obtain rfl : k = 64 := by omega
      have hhid : True → _ := fun _ => And.intro hgr hOr
      clear hgr hOr
      go_wp2_with fail
      go_end0
      exact ⟨rfl, hhid trivial⟩
end Go.Proofs.YtnjdgooljnbebaaGreatDoor
namespace Go.Proofs.YtnjdgooljnbebaaGreatDoor
open Go Go.RowKit
set_option maxHeartbeats 2000000
set_option linter.unusedSimpArgs false
set_option linter.unusedVariables false
set_option maxRecDepth 100000

theorem bbTo_yes (p : List Int) (k : Int) (j : Nat) (h : p.getD j 0 = k) : bbTo p k (j + 1) = bbTo p k j <<< 1 ||| 1#64 := by rw [bbTo, if_pos h]
theorem bbTo_no (p : List Int) (k : Int) (j : Nat) (h : p.getD j 0 ≠ k) : bbTo p k (j + 1) = bbTo p k j <<< 1 := by rw [bbTo, if_neg h]; simp
def brd0 : Array Value := brdF (fun _ => 0#64) (.int .u64 0) (.int .u64 0) (.int .u64 0) (.int .i8 0) (.int .i8 0)
/-- The first k numbers are there. -/
def bbP (p : List Int) (k : Nat) : Nat → BitVec 64 := fun i => if i < k then bbF p i else 0#64
theorem bn_row0 (p : List Int) (w : World) : (w.alloc (.cells brd0 144)).heap[w.heap.size]? = some (.cells (brdF (bbP p 0) (.int .u64 0) (.int .u64 0) (.int .u64 0) (.int .i8 0) (.int .i8 0)) 144 (0, 0)) := by
  rw [heap_alloc_new]
  rfl
theorem bbP_step (p : List Int) (k : Nat) : (fun j => if j = k then bbF p k else bbP p k j) = bbP p (k + 1) := by
  funext j
  unfold bbP
  by_cases h : j = k
  · subst h; simp
  · rw [if_neg h]
    by_cases h2 : j < k
    · rw [if_pos h2, if_pos (by omega)]
    · rw [if_neg h2, if_neg (by omega)]
/-- What a map says of a square. -/
def Says (f : Int → Option Value) (p : List Int) : Prop := ∀ j : Nat, j < 64 → f (j : Int) = none ∧ p.getD j 0 = 0 ∨ f (j : Int) = some (.int .i8 (p.getD j 0))

theorem bn_new (p : List Int) (b n : Nat) (f : Int → Option Value) (w : World) (hA : IntSl w 0 .i8 allL) (hm : IMap w b f n) (hs : Says f p) :
    Calls Tryz.prog 99 #[.map (some b)] w fun e' w' => e' = .returned (.pointer (some ⟨w.heap.size, 0, none⟩)) ∧ w'.heap[w.heap.size]? = some (.cells (brd p) 144 (0, 0)) ∧ Below w.heap.size w w' := by
  have hblt := hm.lt
  have hA0 : IntSl w 0 .i8 allL := hA
  obtain ⟨⟨q, hq, hqb, hc0, hci⟩, _⟩ := hA
  simp only [show allL.length = 12 from rfl] at hc0 hci
  have hci' : True → ∀ (i : Nat), i < 12 → w.cell? ⟨q.block, q.off + i, none⟩ = some (.int .i8 (allL.getD i 0)) := fun _ => hci
  clear hci
  go_enter Tryz.func99, Tryz.ntmps99
  go_wp2_with fail
  have hrow := bn_row0 p w
  have hAl : Below w.heap.size w (w.alloc (.cells brd0 144)) := (Below.refl _ _).alloc (Nat.le_refl _) _
  change Code.wp _ _ _ _ (w.alloc (.cells brd0 144))
  generalize w.alloc (.cells brd0 144) = W at *
  go_loopw [14] (fun i wr => ∃ k : Nat, k ≤ 12 ∧ i = .int .i64 (k : Int) ∧ wr.heap[w.heap.size]? = some (.cells (brdF (bbP p k) (.int .u64 0) (.int .u64 0) (.int .u64 0) (.int .i8 0) (.int .i8 0)) 144 (0, 0)) ∧ Below w.heap.size w wr) (fun i _ => (12 - intOf i).toNat)
  case atStart => exact ⟨0, by omega, rfl, hrow, hAl⟩
  case round =>
    obtain ⟨k, hk, rfl, hgr, hBr⟩ := hrel
    clear hrow hAl
    have hmr := hm.below hBr
    by_cases hlt : k < 12
    · have hck := (hBr.cell (p := ⟨q.block, q.off + k, none⟩) hqb).trans (hci' trivial k hlt)
      rw [allL_get k hlt, ← add_at hq] at hck
      have hhid : True → _ := fun _ => And.intro hgr hBr
      clear hgr hBr
      go_wp2_with fail
      go_loopw [6, 18] (fun x i wq => ∃ j : Nat, j ≤ 64 ∧ i = .int .i64 (j : Int) ∧ x = bbv (bbTo p ((k : Int) + 1) j) ∧ wq = wr) (fun _ i _ => (64 - intOf i).toNat)
      case atStart => exact ⟨0, by omega, rfl, rfl, rfl⟩
      case round =>
        obtain ⟨j, hj, rfl, rfl, rfl⟩ := hrel
        by_cases hlj : j < 64
        · have hlk := imap_lookup (P := Tryz.prog) (T := 136) (K := 70) (E := 117) (by kernel_rfl) (by kernel_rfl) (z := .int .i8 0) (w := wr) (by kernel_rfl) hmr (j : Int) true
          rcases hs j hlj with ⟨hn, h0⟩ | hsome
          · rw [hn] at hlk
            simp at hlk
            have hno : True → bbTo p ((k : Int) + 1) (j + 1) = bbTo p ((k : Int) + 1) j <<< 1 := fun _ => bbTo_no p _ j (by omega)
            clear hn h0
            go_wp2_with fail
            go_roundw
            case rel => exact ⟨j + 1, by omega, by go_num, by rw [hno trivial], trivial⟩
            case measure => simp [intOf]; omega
          · rw [hsome] at hlk
            simp only [Option.getD_some, Option.isSome_some, if_true] at hlk
            by_cases e : p.getD j 0 = (k : Int) + 1
            · have hyes : True → bbTo p ((k : Int) + 1) (j + 1) = bbTo p ((k : Int) + 1) j <<< 1 ||| 1#64 := fun _ => bbTo_yes p _ j e
              rw [e] at hlk
              clear e hsome
              go_wp2_with fail
              go_roundw
              case rel => exact ⟨j + 1, by omega, by go_num, by rw [hyes trivial], trivial⟩
              case measure => simp [intOf]; omega
            · have hno : True → bbTo p ((k : Int) + 1) (j + 1) = bbTo p ((k : Int) + 1) j <<< 1 := fun _ => bbTo_no p _ j e
              generalize p.getD j 0 = v at *
              have hv : (((k : Int) + 1) == v) = false := by simp; omega
              clear e hsome
              go_wp2_with fail
              go_roundw
              case rel => exact ⟨j + 1, by omega, by go_num, by rw [hno trivial], trivial⟩
              case measure => simp [intOf]; omega
        · obtain rfl : j = 64 := by omega
          obtain ⟨hgr, hBr⟩ := hhid trivial
          clear hhid
          have hs1 := heap_setCell_same wr w.heap.size k _ _ (bbv (bbTo p ((k : Int) + 1) 64)) hgr
          rw [brdF_set _ _ _ _ _ _ k hlt] at hs1
          have hb1 := hBr.setCell (p := ⟨w.heap.size, k, none⟩) (Nat.le_refl _) (bbv (bbTo p ((k : Int) + 1) 64))
          have hhid : True → _ := fun _ => And.intro hs1 hb1
          have hgr' : True → _ := fun _ => hgr
          clear hs1 hb1 hgr hBr
          go_wp2_with (go_at_call 108; refine (bo_set _ _ _ _ _ _ w.heap.size k _ _ (hgr' trivial) hlt).mono ?_; rintro e1 w1 ⟨rfl, rfl⟩)
          go_roundw
          case rel =>
            obtain ⟨hs1, hb1⟩ := hhid trivial
            refine ⟨k + 1, by omega, by go_num, ?_, hb1⟩
            rw [hs1, ← bbP_step]
            rfl
          case measure => simp [intOf]; omega
    · obtain rfl : k = 12 := by omega
      go_wp2_with (go_at_call 111; refine (bo_calc p _ _ _ _ _ rfl w.heap.size _ hgr).mono ?_; rintro e1 w1 ⟨rfl, hg1, hO1⟩)
      go_ret
      exact ⟨rfl, hg1, hO1.2 _ _ (Nat.le_refl _) hBr⟩
end Go.Proofs.YtnjdgooljnbebaaGreatDoor
namespace Go.Proofs.YtnjdgooljnbebaaGreatDoor
open Go Go.RowKit
set_option maxHeartbeats 2000000
set_option linter.unusedSimpArgs false
set_option linter.unusedVariables false
set_option maxRecDepth 100000

/-- A board of pieces. -/
structure Brd (p : List Int) : Prop where
  len : p.length = 64
  lo : ∀ s : Nat, 0 ≤ p.getD s 0
  hi : ∀ s : Nat, p.getD s 0 ≤ 12
/-- The squares below k with pieces, as a map. -/
def mapOf (p : List Int) (k : Nat) : Int → Option Value := fun j => if 0 ≤ j ∧ j < k ∧ 0 < p.getD j.toNat 0 then some (.int .i8 (p.getD j.toNat 0)) else none
theorem mapOf_says (p : List Int) (h : Brd p) : Says (mapOf p 64) p := fun j hj => by
  unfold mapOf
  simp only [Int.toNat_natCast]
  by_cases h0 : 0 < p.getD j 0
  · right; rw [if_pos ⟨by omega, by omega, h0⟩]
  · left; rw [if_neg (by omega)]; have := h.lo j; exact ⟨rfl, by omega⟩
theorem mapOf_none (p : List Int) (k : Nat) : mapOf p k k = none := by unfold mapOf; rw [if_neg (by omega)]
theorem mapOf_yes (p : List Int) (k : Nat) (h : 0 < p.getD k 0) : mput (mapOf p k) k (.int .i8 (p.getD k 0)) = mapOf p (k + 1) := by
  funext j
  unfold mput mapOf
  by_cases e : j = k
  · subst e; rw [if_pos rfl, if_pos ⟨by omega, by omega, by simpa using h⟩, Int.toNat_natCast]
  · rw [if_neg e]
    by_cases c : 0 ≤ j ∧ j < k ∧ 0 < p.getD j.toNat 0
    · rw [if_pos c, if_pos ⟨c.1, by omega, c.2.2⟩]
    · rw [if_neg c, if_neg (fun h => c ⟨h.1, by omega, h.2.2⟩)]
theorem mapOf_no (p : List Int) (k : Nat) (h : ¬ 0 < p.getD k 0) : mapOf p k = mapOf p (k + 1) := by
  funext j
  unfold mapOf
  by_cases e : j = k
  · subst e; simp only [Int.toNat_natCast]; rw [if_neg (by omega), if_neg (by omega)]
  · by_cases c : 0 ≤ j ∧ j < k ∧ 0 < p.getD j.toNat 0
    · rw [if_pos c, if_pos ⟨c.1, by omega, c.2.2⟩]
    · rw [if_neg c, if_neg (fun h => c ⟨h.1, by omega, h.2.2⟩)]
theorem mapOf_zero (p : List Int) : mapOf p 0 = fun _ => none := by funext j; unfold mapOf; rw [if_neg (by omega)]

theorem index_ints {P : Program} {t e : TypeId} {n : Nat} {i : TypeInfo} (hu : P.underlying t = some (.array n e)) (hi : P.info? e = some i) (hs : i.size = 1) (he : P.underlying e = some (.int .i64)) (p : List Int) (hp : p.length = n) (k : Nat) (hk : k < n) (w : World) :
    (Instr.index t (.agg (ints p)) (.int .i64 (k : Int))).run P w = .ok (.int .i64 (p.getD k 0)) w := by
  have h := part_int he p k (by omega) w
  simp [Instr.index, asIntOf, run_underlying hu, hk, run_sizeOf w hi, Program.cellsOf, hi, hs, h]
theorem bp_board (p : List Int) (hp : Brd p) (w : World) (hA : IntSl w 0 .i8 allL) :
    Calls Tryz.prog 63 #[.agg (ints p)] w fun e' w' => ∃ g, e' = .returned (.pointer (some ⟨g, 0, none⟩)) ∧ w.heap.size ≤ g ∧ w'.heap[g]? = some (.cells (brd p) 144 (0, 0)) ∧ Below w.heap.size w w' := by
  have hmm := run_makeMap' Tryz.prog
  obtain ⟨i0, hi, hz0, hz1, hz2⟩ := info_parts (show (Tryz.prog.info? 3).map (fun i => (i.zero, i.size, i.bytes)) = some (some (.int .i64 0), 1, 8) by kernel_rfl)
  go_enter Tryz.func63, Tryz.ntmps63
  go_wp2_with (with_reducible refine at_load_row ((heap_alloc_old _ _ (by simp)).trans (heap_alloc_new w _)) Tryz.underlying22 rfl ?_ rfl ?_; (rw [ints_size, hp.len]; kernel_rfl))
  go_loopw [8] (fun i wr => ∃ k n : Nat, k ≤ 64 ∧ i = .int .i64 (k : Int) ∧ IMap wr (w.heap.size + 1) (mapOf p k) n ∧ Below w.heap.size w wr) (fun i _ => (64 - intOf i).toNat)
  case atStart => exact ⟨0, 0, by omega, rfl, by rw [mapOf_zero]; have := imap_new (w.alloc (.cells (ints p) 22)); simpa using this, ((Below.refl _ _).alloc (Nat.le_refl _) _).alloc (by simp) _⟩
  case round =>
    obtain ⟨k, n, hk, rfl, hmap, hbel⟩ := hrel
    by_cases hlt : k < 64
    · have hix := index_ints (P := Tryz.prog) Tryz.underlying22 hi hz1 (by kernel_rfl) p hp.len k hlt
      have hlo := hp.lo k
      have hhi := hp.hi k
      obtain ⟨o, hrun, him⟩ := imap_update (P := Tryz.prog) (T := 136) (K := 70) (E := 117) (by kernel_rfl) (by kernel_rfl) hmap (k : Int) (.int .i8 (p.getD k 0))
      rw [mapOf_none] at him
      by_cases h0 : 0 < p.getD k 0
      · rw [mapOf_yes p k h0] at him
        generalize p.getD k 0 = v at *
        go_wp2_with fail
        go_roundw
        case rel => exact ⟨k + 1, _, by omega, by go_num, him, below_setBlock hbel (by omega) o⟩
        case measure => simp [intOf]; omega
      · rw [mapOf_no p k h0] at hmap
        clear hrun him
        generalize p.getD k 0 = v at *
        go_wp2_with fail
        go_roundw
        case rel => exact ⟨k + 1, _, by omega, by go_num, hmap, hbel⟩
        case measure => simp [intOf]; omega
    · obtain rfl : k = 64 := by omega
      have hsz := hbel.size
      go_wp2_with (go_at_call 99; refine (bn_new p _ _ _ _ (hA.below hbel) hmap (mapOf_says p hp)).mono ?_; rintro e1 w1 ⟨rfl, hg1, hb1⟩)
      go_ret
      exact ⟨_, rfl, hsz, hg1, hbel.trans (hb1.mono hsz)⟩
end Go.Proofs.YtnjdgooljnbebaaGreatDoor
namespace Go.Proofs.YtnjdgooljnbebaaGreatDoor
open Go Go.RowKit
set_option maxHeartbeats 2000000
set_option linter.unusedSimpArgs false
set_option linter.unusedVariables false
set_option maxRecDepth 100000

theorem br_of (k s : Int) (w : World) (n : Nat) (h0 : 0 ≤ k) (h1 : k ≤ 6) (h2 : 0 ≤ s) (h3 : s ≤ 1) :
    Calls Tryz.prog 46 #[.int .i64 k, .int .i64 s] (w.drewN n) fun e w'' => e = .returned (.int .i64 (k + 6 * s)) ∧ ∃ m, w'' = w.drewN m :=
  (po_of k s _ h0 h1 h2 h3).mono fun _ _ ⟨he, hm⟩ => ⟨he, n, hm.symm⟩
/-- On how many of the first n squares k stands. -/
def cnt (q : List Int) (k : Int) (n : Nat) : Nat := ((List.range n).filter fun i => decide (q.getD i 0 = k)).length
theorem cnt_yes (q : List Int) (k : Int) (n : Nat) (h : q.getD n 0 = k) : cnt q k (n + 1) = cnt q k n + 1 := by
  unfold cnt
  rw [List.range_succ, List.filter_append]
  simp at h
  simp [h]
theorem cnt_no (q : List Int) (k : Int) (n : Nat) (h : q.getD n 0 ≠ k) : cnt q k (n + 1) = cnt q k n := by
  unfold cnt
  rw [List.range_succ, List.filter_append]
  simp at h
  simp [h]
theorem cnt_le (q : List Int) (k : Int) (n : Nat) : cnt q k n ≤ n := by
  have := List.length_filter_le (fun i => decide (q.getD i 0 = k)) (List.range n)
  simpa [cnt] using this
theorem br_count (q : List Int) (hl : q.length = 69) (kd sd : Int) (h0 : 0 ≤ kd) (h1 : kd ≤ 6) (h2 : 0 ≤ sd) (h3 : sd ≤ 1) (w : World) :
    Calls Tryz.prog 59 #[.agg (ints q), .int .i64 kd, .int .i64 sd] w fun e' w' => e' = .returned (.int .i64 (cnt q (kd + 6 * sd) 64 : Nat)) ∧ Below w.heap.size w w' := by
  go_enter Tryz.func59, Tryz.ntmps59
  go_wp2_with fail
  have hrow := heap_alloc_new w (.cells (ints q) 24)
  have hBW : Below w.heap.size w (w.alloc (.cells (ints q) 24)) := (Below.refl _ _).alloc (Nat.le_refl _) _
  generalize w.alloc (.cells (ints q) 24) = W at *
  go_loopw [7, 8] (fun n i wr => ∃ k : Nat, k ≤ 64 ∧ i = .int .i64 (k : Int) ∧ n = .int .i64 (cnt q (kd + 6 * sd) k : Nat) ∧ wr.heap[w.heap.size]? = some (.cells (ints q) 24 (0, 0)) ∧ Below w.heap.size w wr) (fun _ i _ => (64 - intOf i).toNat)
  case atStart => exact ⟨0, by omega, rfl, rfl, hrow, hBW⟩
  case round =>
    obtain ⟨k, hk, rfl, rfl, hrr, hbr⟩ := hrel
    clear hrow hBW
    have hle := cnt_le q (kd + 6 * sd) k
    by_cases hlt : k < 64
    · have hc := row_cell hrr k (by omega)
      have hhid : True → _ := fun _ => And.intro hrr hbr
      clear hrr hbr
      by_cases e : q.getD k 0 = kd + 6 * sd
      · have hm : True → _ := fun _ => cnt_yes q _ k e
        rw [e] at hc
        clear e
        generalize hmk : cnt q (kd + 6 * sd) k = m at *
        go_wp2_with fail
        go_quiet (first | (go_at_call 46; refine br_of _ _ _ _ h0 h1 h2 h3))
        go_wp2
        go_roundw
        case rel => exact ⟨k + 1, by omega, by go_num, by rw [hm trivial]; go_num, (hhid trivial).1, (hhid trivial).2.trans ((drewN_below wr _).mono (hhid trivial).2.size)⟩
        case measure => simp [intOf]; omega
      · have hm : True → _ := fun _ => cnt_no q _ k e
        have hne : (q.getD k 0 == kd + 6 * sd) = false := by simp; simpa using e
        generalize hmk : cnt q (kd + 6 * sd) k = m at *
        generalize q.getD k 0 = v at *
        clear e
        go_wp2_with fail
        go_quiet (first | (go_at_call 46; refine br_of _ _ _ _ h0 h1 h2 h3))
        go_wp2
        go_roundw
        case rel => exact ⟨k + 1, by omega, by go_num, by rw [hm trivial], (hhid trivial).1, (hhid trivial).2.trans ((drewN_below wr _).mono (hhid trivial).2.size)⟩
        case measure => simp [intOf]; omega
    · obtain rfl : k = 64 := by omega
      clear hrr
      generalize hmk : cnt q (kd + 6 * sd) 64 = m at *
      go_wp2_with fail
      go_ret
      exact ⟨by rw [hmk]; rfl, hbr⟩
/-- The first square, from i on, of n ones, on which k stands; -1 without one. -/
def firstK (q : List Int) (k : Int) : Nat → Nat → Int
  | _, 0 => -1
  | i, n + 1 => if q.getD i 0 = k then (i : Int) else firstK q k (i + 1) n
theorem br_kingAt (q : List Int) (hl : q.length = 69) (sd : Int) (h2 : 0 ≤ sd) (h3 : sd ≤ 1) (w : World) :
    Calls Tryz.prog 52 #[.agg (ints q), .int .i64 sd] w fun e' w' => e' = .returned (.int .i64 (firstK q (1 + 6 * sd) 0 64)) ∧ Below w.heap.size w w' := by
  go_enter Tryz.func52, Tryz.ntmps52
  go_wp2_with fail
  have hrow := heap_alloc_new w (.cells (ints q) 24)
  have hBW : Below w.heap.size w (w.alloc (.cells (ints q) 24)) := (Below.refl _ _).alloc (Nat.le_refl _) _
  generalize w.alloc (.cells (ints q) 24) = W at *
  generalize htot : firstK q (1 + 6 * sd) 0 64 = tot
  have htot' := show Shut _ from htot
  clear htot
  go_loopw [5] (fun i wr => ∃ k : Nat, k ≤ 64 ∧ i = .int .i64 (k : Int) ∧ firstK q (1 + 6 * sd) k (64 - k) = tot ∧ wr.heap[w.heap.size]? = some (.cells (ints q) 24 (0, 0)) ∧ Below w.heap.size w wr) (fun i _ => (64 - intOf i).toNat)
  case atStart => exact ⟨0, by omega, rfl, htot'.out, hrow, hBW⟩
  case round =>
    obtain ⟨k, hk, rfl, ht, hrr, hbr⟩ := hrel
    clear hrow hBW
    by_cases hlt : k < 64
    · have hc := row_cell hrr k (by omega)
      have hst : 64 - k = (64 - (k + 1)) + 1 := by omega
      rw [hst, firstK] at ht
      have hhid : True → _ := fun _ => And.intro hrr hbr
      clear hrr hbr hst
      by_cases e : q.getD k 0 = 1 + 6 * sd
      · rw [if_pos e] at ht
        rw [e] at hc
        clear e
        have ht' := show Shut _ from ht
        clear ht
        go_wp2_with fail
        go_quiet (first | (go_at_call 46; refine br_of 1 _ _ _ (by omega) (by omega) h2 h3))
        go_wp2
        go_ret
        exact ⟨by rw [htot'.out, ← ht'.out]; rfl, (hhid trivial).2.trans ((drewN_below wr _).mono (hhid trivial).2.size)⟩
      · rw [if_neg e] at ht
        have hne : (q.getD k 0 == 1 + 6 * sd) = false := by simp; simpa using e
        have ht' := show Shut _ from ht
        clear ht
        generalize q.getD k 0 = v at *
        clear e
        go_wp2_with fail
        go_quiet (first | (go_at_call 46; refine br_of 1 _ _ _ (by omega) (by omega) h2 h3))
        go_wp2
        go_roundw
        case rel => exact ⟨k + 1, by omega, by go_num, ht'.out, (hhid trivial).1, (hhid trivial).2.trans ((drewN_below wr _).mono (hhid trivial).2.size)⟩
        case measure => simp [intOf]; omega
    · obtain rfl : k = 64 := by omega
      clear hrr
      have ht' := show Shut _ from ht
      clear ht
      go_wp2_with fail
      go_ret
      exact ⟨by rw [htot'.out, ← ht'.out]; rfl, hbr⟩
end Go.Proofs.YtnjdgooljnbebaaGreatDoor
