/- What a listed package variable gives a walk: its cells, for tables of integers, and for slices of strings and of integers. For every program; the conditions stand at each theorem. -/
import Derived.Lib.LaidTab
import Derived.SliceStrings
import Derived.ChangeSlices
import Derived.MakeChecks
import Derived.Below
import Derived.LaidLaws
import Derived.Test.YtnpklkenjaambaaDoorProg
namespace Go.Proofs.YtnpklkenjaambaaDoor
open Go.RowKit Go.ChangeShapes Go.WideShapes

/-- One of the listed variables. -/
theorem laidVars_mem {P : Program} {w : World} {n : String} {d : DataW Unit} : ∀ {l : List (String × DataW Unit)} {ps : List MemPlace}, DataW.LaidVars P w l ps → (n, d) ∈ l →
    ∃ g t cs fuel p, P.globalNamed n = some g ∧ (P.globals[g]?).map (·.type) = some t ∧ w.var? P n = some cs ∧ DataW.trod (fun _ => ()) P w 0 (fun _ => true) false fuel t cs.toList = some (d, p)
  | [], _, _, hm => by cases hm
  | x :: r, ps, h, hm => by
    obtain ⟨g, t, cs, fuel, p, q, hg, ht, hv, hd, hr, _⟩ := h
    rcases List.mem_cons.1 hm with e | hm
    · cases e
      exact ⟨g, t, cs, fuel, p, hg, ht, hv, hd⟩
    · exact laidVars_mem hr hm

/-- The variable g is a table of these integers. -/
structure IntTab (w : World) (g : Nat) (k : IntKind) (zs : List Int) : Prop where
  cell : ∀ i, i < zs.length → w.cell? ⟨g, i, none⟩ = some (.int k (zs.getD i 0))
  lt : g < w.heap.size
/-- The variable g is a slice of these strings. -/
structure StrSl (w : World) (g : Nat) (ss : List ByteArray) : Prop where
  ex : ∃ a : Addr, a.spot = none ∧ a.block < w.heap.size ∧ w.cell? ⟨g, 0, none⟩ = some (.slice (some a) ss.length ss.length) ∧ ∀ i, i < ss.length → w.cell? ⟨a.block, a.off + i, none⟩ = some (.string (ss.getD i ByteArray.empty))
  lt : g < w.heap.size
/-- The variable g is a slice of these integers. -/
structure IntSl (w : World) (g : Nat) (k : IntKind) (zs : List Int) : Prop where
  ex : ∃ a : Addr, a.spot = none ∧ a.block < w.heap.size ∧ w.cell? ⟨g, 0, none⟩ = some (.slice (some a) zs.length zs.length) ∧ ∀ i, i < zs.length → w.cell? ⟨a.block, a.off + i, none⟩ = some (.int k (zs.getD i 0))
  lt : g < w.heap.size

theorem lt_of_cell {w : World} {a : Addr} {v : Value} (h : w.cell? a = some v) : a.block < w.heap.size := by
  unfold World.cell? at h
  split at h
  · rename_i hb
    exact (Array.getElem?_eq_some_iff.1 hb).1
  · cases h
theorem spot_of_cell {w : World} {a : Addr} {v : Value} (h : w.cell? a = some v) : a.spot = none := by
  unfold World.cell? at h
  split at h
  · split at h
    · cases h
    · rename_i hs
      cases a with | mk b o s => cases s <;> simp_all
  · cases h

theorem add_at {a : Addr} (h : a.spot = none) (i : Nat) : a.add i = ⟨a.block, a.off + i, none⟩ := by
  cases a with | mk b o s => cases h; unfold Addr.add; split <;> simp_all

theorem IntTab.below {w w' : World} {g : Nat} {k : IntKind} {zs : List Int} (h : IntTab w g k zs) (hb : Below w.heap.size w w') : IntTab w' g k zs :=
  ⟨fun i hi => (hb.cell (p := ⟨g, i, none⟩) h.lt).trans (h.cell i hi), Nat.lt_of_lt_of_le h.lt hb.size⟩
theorem StrSl.below {w w' : World} {g : Nat} {ss : List ByteArray} (h : StrSl w g ss) (hb : Below w.heap.size w w') : StrSl w' g ss := by
  obtain ⟨⟨a, hs, ha, hc, hi⟩, hl⟩ := h
  exact ⟨⟨a, hs, Nat.lt_of_lt_of_le ha hb.size, (hb.cell (p := ⟨g, 0, none⟩) hl).trans hc, fun i h => (hb.cell (p := ⟨a.block, a.off + i, none⟩) ha).trans (hi i h)⟩, Nat.lt_of_lt_of_le hl hb.size⟩
theorem IntSl.below {w w' : World} {g : Nat} {k : IntKind} {zs : List Int} (h : IntSl w g k zs) (hb : Below w.heap.size w w') : IntSl w' g k zs := by
  obtain ⟨⟨a, hs, ha, hc, hi⟩, hl⟩ := h
  exact ⟨⟨a, hs, Nat.lt_of_lt_of_le ha hb.size, (hb.cell (p := ⟨g, 0, none⟩) hl).trans hc, fun i h => (hb.cell (p := ⟨a.block, a.off + i, none⟩) ha).trans (hi i h)⟩, Nat.lt_of_lt_of_le hl hb.size⟩

/-- The variable g holds an interface value that is not nil. -/
structure ErrVar (w : World) (g : Nat) : Prop where
  ex : ∃ u v, w.cell? ⟨g, 0, none⟩ = some (.iface u v)
  lt : g < w.heap.size
theorem ErrVar.below {w w' : World} {g : Nat} (h : ErrVar w g) (hb : Below w.heap.size w w') : ErrVar w' g := by
  obtain ⟨⟨u, v, hc⟩, hl⟩ := h
  exact ⟨⟨u, v, (hb.cell (p := ⟨g, 0, none⟩) hl).trans hc⟩, Nat.lt_of_lt_of_le hl hb.size⟩

section
variable {P : Program} {W : World} {l : List (String × DataW Unit)} {n : String} {g t e : TypeId}

theorem intTab_of_laid {k : IntKind} {zs : List Int} {m : Nat} (hL : laidMet P l W) (hm : (n, Lib.tabData k zs) ∈ l) (hg : P.globalNamed n = some g) (hty : (P.globals[g]?).map (·.type) = some t)
    (ht : P.underlying t = some (.array m e)) (he : P.underlying e = some (.int k)) (hce : P.cellsOf e = 1) (hct : P.cellsOf t = m) (hz : 0 < zs.length) : IntTab W g k zs := by
  obtain ⟨ps, hv, _⟩ := hL
  obtain ⟨g', t', cs, fuel, p, hg', ht', hvar, hd⟩ := laidVars_mem hv hm
  obtain rfl := Option.some.inj (hg.symm.trans hg')
  obtain rfl := Option.some.inj (hty.symm.trans ht')
  have hT : Lib.TabIs P W n k zs := by
    unfold Lib.TabIs
    rw [hvar, ← Lib.cells_of_tab ht he hce hct hd]
  exact ⟨fun i hi => hT.cell hg i hi, lt_of_cell (hT.cell hg 0 hz)⟩

theorem strSl_of_laid {ss : List ByteArray} (hL : laidMet P l W) (hm : (n, DataW.slice (strs ss) []) ∈ l) (hg : P.globalNamed n = some g) (hty : (P.globals[g]?).map (·.type) = some t)
    (ht : P.underlying t = some (.slice e)) (he : P.underlying e = some .string) (hce : P.cellsOf e = 1) (hz : 0 < ss.length) : StrSl W g ss := by
  obtain ⟨ps, hv, _⟩ := hL
  obtain ⟨g', t', cs, fuel, p, hg', ht', hvar, hd⟩ := laidVars_mem hv hm
  obtain rfl := Option.some.inj (hg.symm.trans hg')
  obtain rfl := Option.some.inj (hty.symm.trans ht')
  rcases open_strings ht he hce hd with ⟨_, hx⟩ | ⟨a, len, cap, ss', hcs, _, hl, hm, hlen, hx, hcell, _⟩
  · cases hx
  simp only [if_true] at hlen
  simp only [Prod.mk.injEq, DataW.slice.injEq] at hx
  have inj : Function.Injective (fun s : ByteArray => (DataW.lit (.string s.data.toList) : DataW Unit)) := by
    intro a b h
    cases a; cases b
    simp at h
    simp [h]
  have h1 : ss = ss'.take len := by
    have := hx.1.1
    unfold strs at this
    exact (List.map_inj_right (fun a b h => inj h)).1 this
  have h2 : ss'.drop len = [] := by
    have := hx.1.2
    unfold strs at this
    simpa using this.symm
  have h3 : len = cap := by
    have := congrArg List.length h2
    simp at this
    omega
  subst h3
  have h4 : ss = ss' := by rw [h1, List.take_of_length_le (by omega)]
  subst h4
  have hv0 := World.var?_cell hg hvar 0
  have hcs' : cs = #[.slice (some a) ss.length ss.length] := by
    apply Array.ext'
    simpa [hlen] using hcs
  rw [hcs'] at hv0
  have ha := hcell 0 (by omega)
  have hs : a.spot = none := by simpa [Addr.add] using spot_of_cell ha
  refine ⟨⟨a, hs, by simpa [Addr.add] using lt_of_cell ha, by simpa using hv0, fun i hi => ?_⟩, lt_of_cell (by simpa using hv0)⟩
  have h := hcell i (by omega)
  rw [add_at hs] at h
  exact h

theorem intSl_of_laid {k : IntKind} {zs : List Int} (hL : laidMet P l W) (hm : (n, DataW.slice (zs.map fun z => .lit (.int k z)) []) ∈ l) (hg : P.globalNamed n = some g) (hty : (P.globals[g]?).map (·.type) = some t)
    (ht : P.underlying t = some (.slice e)) (he : P.underlying e = some (.int k)) (hce : P.cellsOf e = 1) (hz : 0 < zs.length) : IntSl W g k zs := by
  obtain ⟨ps, hv, _⟩ := hL
  obtain ⟨g', t', cs, fuel, p, hg', ht', hvar, hd⟩ := laidVars_mem hv hm
  obtain rfl := Option.some.inj (hg.symm.trans hg')
  obtain rfl := Option.some.inj (hty.symm.trans ht')
  rcases open_ints ht he hce hd with ⟨_, hx⟩ | ⟨a, len, cap, zs', hcs, _, hl, hm, hlen, hx, hcell, _⟩
  · cases hx
  simp only [if_true] at hlen
  simp only [Prod.mk.injEq, DataW.slice.injEq] at hx
  have inj : Function.Injective (fun z : Int => (DataW.lit (.int k z) : DataW Unit)) := by
    intro a b h
    simp at h
    exact h
  have h1 : zs = zs'.take len := (List.map_inj_right (fun a b h => inj h)).1 hx.1.1
  have h2 : zs'.drop len = [] := List.map_eq_nil_iff.1 hx.1.2.symm
  have h3 : len = cap := by
    have := congrArg List.length h2
    simp at this
    omega
  subst h3
  have h4 : zs = zs' := by rw [h1, List.take_of_length_le (by omega)]
  subst h4
  have hv0 := World.var?_cell hg hvar 0
  have hcs' : cs = #[.slice (some a) zs.length zs.length] := by
    apply Array.ext'
    simpa [hlen] using hcs
  rw [hcs'] at hv0
  have ha := hcell 0 (by omega)
  have hs : a.spot = none := by simpa [Addr.add] using spot_of_cell ha
  refine ⟨⟨a, hs, by simpa [Addr.add] using lt_of_cell ha, by simpa using hv0, fun i hi => ?_⟩, lt_of_cell (by simpa using hv0)⟩
  have h := hcell i (by omega)
  rw [add_at hs] at h
  exact h
theorem errVar_of_laid {nm : String} {d : DataW Unit} {ms : Array (String × TypeId)} (hL : laidMet P l W) (hm : (n, DataW.iface nm d) ∈ l) (hg : P.globalNamed n = some g) (hty : (P.globals[g]?).map (·.type) = some t)
    (ht : P.underlying t = some (.interface ms)) : ErrVar W g := by
  obtain ⟨ps, hv, _⟩ := hL
  obtain ⟨g', t', cs, fuel, p, hg', ht', hvar, hd⟩ := laidVars_mem hv hm
  obtain rfl := Option.some.inj (hg.symm.trans hg')
  obtain rfl := Option.some.inj (hty.symm.trans ht')
  have hcs : ∃ u v, cs.toList = [.iface u v] := by
    cases fuel with
    | zero => simp [DataW.trod] at hd
    | succ m =>
      unfold DataW.trod at hd
      rw [ht] at hd
      split at hd <;> simp_all
  obtain ⟨u, v, hcs⟩ := hcs
  have hc : cs = #[.iface u v] := by
    apply Array.ext'
    simpa using hcs
  have hv0 := World.var?_cell hg hvar 0
  rw [hc] at hv0
  exact ⟨⟨u, v, by simpa using hv0⟩, lt_of_cell (by simpa using hv0)⟩
end
end Go.Proofs.YtnpklkenjaambaaDoor
