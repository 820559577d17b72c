/-
  What the laid variables give the walks: the three tables that the law reads.
-/
import Derived.Test.YtmfbgoikekmdkaaDoorRows
import Derived.Test.YtmfbgoikekmdkaaDoorAll
import Derived.ProofKit
import Derived.LaidMore
import Derived.OpenShut
namespace Go.Proofs.YtmfbgoikekmdkaaDoor
open Go Go.ChangeShapes Go.WideShapes Go.ChangeAt Go.WideMaps Go.WideElems Go.RowKit

theorem g5 : Tryd.prog.globalNamed "internal/strconv.uint64pow10" = some 5 := by kernel_rfl
theorem t5' : (Tryd.prog.globals[5]?).map (·.type) = some 97 := by kernel_rfl
theorem g9 : Tryd.prog.globalNamed "math/bits.deBruijn64tab" = some 9 := by kernel_rfl
theorem t9' : (Tryd.prog.globals[9]?).map (·.type) = some 131 := by kernel_rfl
theorem g6 : Tryd.prog.globalNamed "internal/strconv.pow10Tab" = some 6 := by kernel_rfl
theorem t6' : (Tryd.prog.globals[6]?).map (·.type) = some 122 := by kernel_rfl
theorem c97 : Tryd.prog.cellsOf 97 = 20 := by kernel_rfl
theorem c131 : Tryd.prog.cellsOf 131 = 64 := by kernel_rfl
theorem c25 : Tryd.prog.cellsOf 25 = 1 := by kernel_rfl
theorem c5 : Tryd.prog.cellsOf 5 = 1 := by kernel_rfl
theorem c121 : Tryd.prog.cellsOf 121 = 2 := by kernel_rfl
theorem db_eq : (Rows.laid_math_bits_deBruijn64tab : DataW Unit) = Lib.tabData .u8 dbTab := rfl
theorem p10_eq : (Rows.laid_internal_strconv_uint64pow10 : DataW Unit) = Lib.tabData .u64 Lib.pow10Tab := rfl
theorem rows_len : Go.Pinned.pow10Rows.length = 696 := by kernel_rfl

theorem laid_db {W : World} {H : Type} {enc : TypeId × Value → H} {base : Nat} {sp : Nat → Bool} {held : Bool} {fuel : Nat} {cs : Array Value} {p : List MemPlace} {x : DataW H}
    (hx : x = Lib.tabData .u8 dbTab) (hv : W.var? Tryd.prog "math/bits.deBruijn64tab" = some cs) (hd : DataW.trod enc Tryd.prog W base sp held fuel 131 cs.toList = some (x, p)) : Lib.TabIs Tryd.prog W "math/bits.deBruijn64tab" .u8 dbTab := by
  subst hx
  unfold Lib.TabIs
  rw [hv, ← Lib.cells_of_tab Tryd.underlying131 Tryd.underlying5 c5 c131 hd]

theorem laid_p10 {W : World} {H : Type} {enc : TypeId × Value → H} {base : Nat} {sp : Nat → Bool} {held : Bool} {fuel : Nat} {cs : Array Value} {p : List MemPlace} {x : DataW H}
    (hx : x = Lib.tabData .u64 Lib.pow10Tab) (hv : W.var? Tryd.prog "internal/strconv.uint64pow10" = some cs) (hd : DataW.trod enc Tryd.prog W base sp held fuel 97 cs.toList = some (x, p)) : Lib.TabIs Tryd.prog W "internal/strconv.uint64pow10" .u64 Lib.pow10Tab := by
  subst hx
  unfold Lib.TabIs
  rw [hv, ← Lib.cells_of_tab Tryd.underlying97 Tryd.underlying25 c25 c97 hd]

theorem laid_big {W : World} {H : Type} {enc : TypeId × Value → H} {base : Nat} {sp : Nat → Bool} {held : Bool} {fuel : Nat} {cs : Array Value} {p : List MemPlace} {rows : List (Nat × Nat)} (hlen : rows.length = 696)
    (hv : W.var? Tryd.prog "internal/strconv.pow10Tab" = some cs) (hd : DataW.trod enc Tryd.prog W base sp held fuel 122 cs.toList = some (.agg (rows.map fun x => .agg [.lit (.int .u64 x.1), .lit (.int .u64 x.2)]), p)) (i : Nat) (x : Nat × Nat) (hx : rows[i]? = some x) :
    W.cell? ⟨6, i * 2, none⟩ = some (.int .u64 (x.1 : Nat)) ∧ W.cell? ⟨6, i * 2 + 1, none⟩ = some (.int .u64 (x.2 : Nat)) := by
  obtain ⟨xs, m, _, ex, _, hl, hel⟩ := DataW.trod_array Tryd.underlying122 hd
  have hi : i < 696 := by
    rw [← hlen]
    exact (List.getElem?_eq_some_iff.1 hx).1
  have hE := hel i hi
  rw [c121] at hE
  obtain ⟨y, hy⟩ : ∃ y, xs[i]? = some y := ⟨_, List.getElem?_eq_getElem (by omega)⟩
  rw [hy] at hE
  have e1 : xs.map (·.1) = rows.map fun x => (.agg [.lit (.int .u64 x.1), .lit (.int .u64 x.2)] : DataW H) := (DataW.agg.inj (Prod.mk.inj ex).1).symm
  have e2 : y.1 = .agg [.lit (.int .u64 x.1), .lit (.int .u64 x.2)] := by
    have := congrArg (fun l => l[i]?) e1
    simp only [List.getElem?_map, hy, hx, Option.map_some] at this
    exact Option.some.inj this
  obtain ⟨ys, k, _, hz, hlen2, hyl, hf⟩ := DataW.trod_struct Tryd.underlying121 hE
  have hA := hf 0 _ rfl
  have hB := hf 1 _ rfl
  change DataW.trod _ Tryd.prog W _ _ _ k 25 (((((cs.toList).drop (i * 2)).take 2).drop 0).take (Tryd.prog.cellsOf 25)) = ys[0]? at hA
  change DataW.trod _ Tryd.prog W _ _ _ k 25 (((((cs.toList).drop (i * 2)).take 2).drop 1).take (Tryd.prog.cellsOf 25)) = ys[1]? at hB
  rw [c25] at hA hB
  match ys, hyl, hz, hA, hB with
  | [y0, y1], _, hz, hA, hB =>
    obtain ⟨z0, a1, a2, _⟩ := DataW.trod_int Tryd.underlying25 hA
    obtain ⟨z1, b1, b2, _⟩ := DataW.trod_int Tryd.underlying25 hB
    rw [hz] at e2
    simp only [List.map_cons, List.map_nil, DataW.agg.injEq, List.cons.injEq, and_true] at e2
    rw [a2, b2] at e2
    simp only [DataW.lit.injEq, Lit.int.injEq, true_and] at e2
    obtain ⟨rfl, rfl⟩ := e2
    have q0 : cs.toList[i * 2]? = some (.int .u64 (x.1 : Nat)) := by
      have h0 := congrArg (fun l => l[0]?) a1
      simpa using h0
    have q1 : cs.toList[i * 2 + 1]? = some (.int .u64 (x.2 : Nat)) := by
      have h0 := congrArg (fun l => l[0]?) b1
      simpa [Nat.add_comm] using h0
    rw [World.var?_cell g6 hv (i * 2), World.var?_cell g6 hv (i * 2 + 1)]
    exact ⟨by simpa using q0, by simpa using q1⟩

theorem of_laid {W : World} (h : laidMetH Tryd.prog Rows.fnNumberTextRow.laid W) : Tabs W := by
  rw [MakeChecks.laidMetH_plain _ _ _ (by kernel_rfl)] at h
  obtain ⟨ps, h0, _, _⟩ := h
  obtain ⟨_, _, _, _, _, _, _, _, _, _, h1, _⟩ := h0
  obtain ⟨ga, ta, csa, fa, pa, qa, hga, hta, hva, hda, h2, _⟩ := h1
  obtain ⟨_, _, _, _, _, _, _, _, _, _, h3, _⟩ := h2
  obtain ⟨gb, tb, csb, fb, pb, qb, hgb, htb, hvb, hdb, h4, _⟩ := h3
  obtain ⟨_, _, _, _, _, _, _, _, _, _, h5, _⟩ := h4
  obtain ⟨_, _, _, _, _, _, _, _, _, _, h6, _⟩ := h5
  obtain ⟨_, _, _, _, _, _, _, _, _, _, h7, _⟩ := h6
  obtain ⟨gc, tc, csc, fc, pc, qc, hgc, htc, hvc, hdc, _, _⟩ := h7
  obtain rfl := Option.some.inj (g9.symm.trans hga)
  obtain rfl := Option.some.inj (t9'.symm.trans hta)
  obtain rfl := Option.some.inj (g5.symm.trans hgb)
  obtain rfl := Option.some.inj (t5'.symm.trans htb)
  obtain rfl := Option.some.inj (g6.symm.trans hgc)
  obtain rfl := Option.some.inj (t6'.symm.trans htc)
  refine ⟨laid_p10 p10_eq hvb hdb, laid_db db_eq hva hda, ?_, fun i x hx => laid_big rows_len hvc hdc i x hx⟩
  have hc : ∃ v, W.cell? ⟨6, 0, none⟩ = some v := by
    have h0 : ∃ x, Go.Pinned.pow10Rows[0]? = some x := ⟨_, List.getElem?_eq_getElem (by rw [rows_len]; omega)⟩
    obtain ⟨x, hx⟩ := h0
    have := (laid_big rows_len hvc hdc 0 x hx).1
    rw [Nat.zero_mul] at this
    exact ⟨_, this⟩
  obtain ⟨v, hv⟩ := hc
  exact block_lt_of_cell (a := ⟨6, 0, none⟩) hv
end Go.Proofs.YtmfbgoikekmdkaaDoor
