/- From the row's list of variables to the tables that are read. -/
import Derived.Test.YtoachnjapfakdaaGreatDoorNdR
import Derived.Test.YtoachnjapfakdaaGreatDoorLaw
import Derived.LaidSub
import Derived.MakeChecks
import Derived.Lib.LaidTab
import Derived.ChangeSame
import Derived.OpenShut
import GoSem.PinnedTables
namespace Go.Proofs.YtoachnjapfakdaaGreatDoor
open Go Go.ChangeShapes Go.WideShapes Go.ChangeAt Go.RowKit

theorem tab10_of {l : List (String × DataW Unit)} (e : l.filter (fun x => x.1 == "internal/strconv.uint64pow10") = [("internal/strconv.uint64pow10", Lib.tabData .u64 Lib.pow10Tab)]) {W : World} (h : laidMetH Tryz.prog l W) : Tab10 W := by
  have h1 := laidMetH.filter (fun x => x.1 == "internal/strconv.uint64pow10") h
  rw [e, MakeChecks.laidMetH_plain _ _ _ (by rfl)] at h1
  exact Lib.tabIs_of_head (g := 7) (t := 119) (e := 38) (n := 20) (by kernel_rfl) (by kernel_rfl) (by kernel_rfl) (by kernel_rfl) (by kernel_rfl) (by kernel_rfl) h1

def tenTab : List Nat := [4607182418800017408, 4621819117588971520, 4636737291354636288, 4652007308841189376, 4666723172467343360, 4681608360884174848, 4696837146684686336, 4711630319722168320, 4726483295884279808, 4741671816366391296, 4756540486875873280, 4771362005757984768, 4786511204640096256, 4801453603149578240, 4816244402031689728, 4831355200913801216, 4846369599423283200, 4861130398305394688, 4876203697187506176, 4891288408196988160, 4906019910204099648, 4921056587992461136, 4936209963552724370, 4950912855330343670, 4965913770331839924, 4981134201117475473, 4995809153217856309, 5010775143622804482, 5026061058026967681, 5040708725286295329, 5055640609639927018, 5070927765361438756]
def tenTab32 : List Nat := [4607182418800017408, 5085611494797045271, 5564284217833028085, 6043257259031049059, 6521906365687930162, 7000496887210966211, 7479368607221621995, 7958223736346011545, 8436737289693151036, 8915514139102383430]
/-- A table of floats as a row lists it. -/
def floatData {H : Type} (bs : List Nat) : DataW H := .agg (bs.map fun b => .lit (.float .f64 b))
/-- A table of pairs of numbers. -/
def pairData {H : Type} (l : List (Nat × Nat)) : DataW H := .agg (l.map fun x => .agg [.lit (.int .u64 x.1), .lit (.int .u64 x.2)])

section
variable {H : Type} {enc : TypeId × Value → H} {P : Program} {w : World} {base : Nat} {sp : Nat → Bool} {held : Bool}
theorem trod_f64 {fuel : Nat} {t : TypeId} {cs : List Value} {x : DataW H × List MemPlace} (ht : P.underlying t = some (.float .f64)) (h : DataW.trod enc P w base sp held fuel t cs = some x) : ∃ b, cs = [.float .f64 b] ∧ x.1 = .lit (.float .f64 b) := by
  cases fuel with
  | zero => simp [DataW.trod] at h
  | succ n =>
    unfold DataW.trod at h
    rw [ht] at h
    split at h <;> simp_all
    rw [← h.2]
end

theorem f64Tab {P : Program} {W : World} {name : String} {bs : List Nat} {g : Nat} {t e : TypeId} {n : Nat}
    (hg : P.globalNamed name = some g) (hty : (P.globals[g]?).map (·.type) = some t) (ht : P.underlying t = some (.array n e)) (he : P.underlying e = some (.float .f64)) (hce : P.cellsOf e = 1)
    (h : laidMet P [(name, floatData bs)] W) (i : Nat) (hi : i < n) (b : Nat) (hb : bs[i]? = some b) : W.cell? ⟨g, i, none⟩ = some (.float .f64 b) := by
  obtain ⟨ps, ⟨g', t', cs, fuel, p, q, hg', ht', hvar, hd, _, _⟩, _⟩ := h
  obtain rfl := Option.some.inj (hg.symm.trans hg')
  obtain rfl := Option.some.inj (hty.symm.trans ht')
  obtain ⟨xs, m, _, hx, hl, hxl, hf⟩ := DataW.trod_array ht hd
  have hx1 := congrArg Prod.fst hx
  simp only [floatData, DataW.agg.injEq] at hx1
  have hi' := hf i hi
  rw [hce, Nat.mul_one] at hi'
  have hy : xs[i]? = some xs[i] := List.getElem?_eq_getElem (by omega)
  obtain ⟨b', c1, c2⟩ := trod_f64 he (hi'.trans hy)
  have h2 : (xs.map (·.1))[i]? = some (DataW.lit (.float .f64 b')) := by rw [List.getElem?_map, hy, Option.map_some, c2]
  rw [← hx1, List.getElem?_map, hb] at h2
  simp only [Option.map_some, Option.some.injEq, DataW.lit.injEq, Lit.float.injEq, true_and] at h2
  subst h2
  have h3 : cs[i]? = some (.float .f64 b) := by
    have := congrArg (·[0]?) c1
    simpa [List.getElem?_take, List.getElem?_drop] using this
  rw [World.var?_cell hg hvar i, h3]

theorem pairTab {P : Program} {W : World} {name : String} {l : List (Nat × Nat)} {g : Nat} {t e : TypeId} {n : Nat} {f0 f1 : Field}
    (hg : P.globalNamed name = some g) (hty : (P.globals[g]?).map (·.type) = some t) (ht : P.underlying t = some (.array n e)) (he : P.underlying e = some (.struct #[f0, f1])) (hce : P.cellsOf e = 2)
    (h0 : P.underlying f0.type = some (.int .u64)) (h1 : P.underlying f1.type = some (.int .u64)) (o0 : f0.offset = 0) (o1 : f1.offset = 1) (z0 : P.cellsOf f0.type = 1) (z1 : P.cellsOf f1.type = 1)
    (h : laidMet P [(name, pairData l)] W) (i : Nat) (hi : i < n) (a b : Nat) (hb : l[i]? = some (a, b)) : W.cell? ⟨g, i * 2, none⟩ = some (.int .u64 a) ∧ W.cell? ⟨g, i * 2 + 1, none⟩ = some (.int .u64 b) := by
  obtain ⟨ps, ⟨g', t', cs, fuel, p, q, hg', ht', hvar, hd, _, _⟩, _⟩ := h
  obtain rfl := Option.some.inj (hg.symm.trans hg')
  obtain rfl := Option.some.inj (hty.symm.trans ht')
  obtain ⟨xs, m, _, hx, hl, hxl, hf⟩ := DataW.trod_array ht hd
  have hx1 := congrArg Prod.fst hx
  simp only [pairData, DataW.agg.injEq] at hx1
  have hi' := hf i hi
  rw [hce] at hi'
  have hy : xs[i]? = some xs[i] := List.getElem?_eq_getElem (by omega)
  obtain ⟨y0, y1, k, c0, c1, c2, c3⟩ := trod_struct2 he (hi'.trans hy)
  rw [o0, z0] at c2
  rw [o1, z1] at c3
  obtain ⟨n0, d0, d1, _⟩ := DataW.trod_int h0 c2
  obtain ⟨n1, d2, d3, _⟩ := DataW.trod_int h1 c3
  have h2 : (xs.map (·.1))[i]? = some (DataW.agg [DataW.lit (.int .u64 n0), DataW.lit (.int .u64 n1)]) := by rw [List.getElem?_map, hy, Option.map_some, c0, d1, d3]
  rw [← hx1, List.getElem?_map, hb] at h2
  simp only [Option.map_some, Option.some.injEq, DataW.agg.injEq, List.cons.injEq, DataW.lit.injEq, Lit.int.injEq, true_and, and_true] at h2
  obtain ⟨e0, e1⟩ := h2
  subst e0
  subst e1
  have h3 : cs[i * 2]? = some (.int .u64 a) := by
    have := congrArg (·[0]?) d0
    simpa [List.getElem?_take, List.getElem?_drop] using this
  have h4 : cs[i * 2 + 1]? = some (.int .u64 b) := by
    have := congrArg (·[0]?) d2
    simpa [List.getElem?_take, List.getElem?_drop] using this
  rw [World.var?_cell hg hvar (i * 2), World.var?_cell hg hvar (i * 2 + 1), h3, h4]
  exact ⟨rfl, rfl⟩

theorem ten_rows : ∀ p : Fin 16, tenTab[p.val]? = some (fn false (10 ^ p.val)) := by decide +kernel
theorem ten_rows32 : tenTab32[0]? = some (fn false 1) := by decide +kernel
theorem pow_rows : ∀ p : Fin 17, Pinned.pow10Rows[p.val + 348]? = some (pmT p.val, 0) := by decide +kernel

theorem powF_of {l : List (String × DataW Unit)} (e : l.filter (fun x => x.1 == "math.pow10tab") = [("math.pow10tab", floatData tenTab)]) (e2 : l.filter (fun x => x.1 == "math.pow10postab32") = [("math.pow10postab32", floatData tenTab32)])
    {W : World} (h : laidMetH Tryz.prog l W) : PowF W := by
  have h1 := laidMetH.filter (fun x => x.1 == "math.pow10tab") h
  rw [e, MakeChecks.laidMetH_plain _ _ _ (by rfl)] at h1
  have h2 := laidMetH.filter (fun x => x.1 == "math.pow10postab32") h
  rw [e2, MakeChecks.laidMetH_plain _ _ _ (by rfl)] at h2
  intro p hp
  exact ⟨f64Tab (g := 2) (t := 60) (e := 25) (n := 32) (by kernel_rfl) (by kernel_rfl) (by kernel_rfl) (by kernel_rfl) (by kernel_rfl) h1 p (by omega) _ (ten_rows ⟨p, by omega⟩),
    f64Tab (g := 1) (t := 59) (e := 25) (n := 10) (by kernel_rfl) (by kernel_rfl) (by kernel_rfl) (by kernel_rfl) (by kernel_rfl) h2 0 (by omega) _ ten_rows32⟩

theorem powT_of {l : List (String × DataW Unit)} (e : l.filter (fun x => x.1 == "internal/strconv.pow10Tab") = [("internal/strconv.pow10Tab", Pinned.pow10Tab)]) {W : World} (h : laidMetH Tryz.prog l W) : PowT W := by
  have h1 := laidMetH.filter (fun x => x.1 == "internal/strconv.pow10Tab") h
  rw [e, MakeChecks.laidMetH_plain _ _ _ (by rfl)] at h1
  intro p hp
  exact pairTab (l := Pinned.pow10Rows) (g := 8) (t := 131) (e := 130) (n := 696) (by kernel_rfl) (by kernel_rfl) (by kernel_rfl) Tryz.underlying130 (by kernel_rfl)
    (by kernel_rfl) (by kernel_rfl) (by kernel_rfl) (by kernel_rfl) (by kernel_rfl) (by kernel_rfl) h1 (p + 348) (by omega) _ _ (pow_rows ⟨p, by omega⟩)
end Go.Proofs.YtoachnjapfakdaaGreatDoor
