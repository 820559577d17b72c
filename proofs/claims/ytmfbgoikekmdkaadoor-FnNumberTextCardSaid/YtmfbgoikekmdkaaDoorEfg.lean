/-
  fmtEFG at 'e', the shortest text: one digit, a point and the others, an e, a sign and two digits.
-/
import Derived.Test.YtmfbgoikekmdkaaDoorDigits
import Derived.OwnWalk
import Derived.Maps.AppendAt
import Derived.Lib.HexFns2
import Derived.Lib.BufferOwn
namespace Go.Proofs.YtmfbgoikekmdkaaDoor
open Go Go.Proofs Go.RowKit Go.Sort Go.Lib

theorem info5 : (Tryd.prog.info? 5).map (fun i => (i.zero, i.size, i.bytes)) = some (some (.int .u8 0), 1, 1) := by kernel_rfl

abbrev encI : Int → Value := Value.int .u8
abbrev rowV (g n : Nat) : Value := .slice (some ⟨g, 0, none⟩) n 24

theorem news_one {w : World} (v : Value) (t : TypeId) : ∀ j u, [v][j]? = some u → (w.alloc (.cells #[v] t)).cell? (Addr.add ⟨w.heap.size, 0, none⟩ j) = some u := by
  intro j u h
  match j, h with
  | 0, h =>
    simp at h
    subst h
    simp [Addr.add]

theorem one_cell (v : Value) (h : v.oneCell' = true) : ∀ u ∈ [v], u.oneCell' = true := by
  intro u hu
  simp at hu
  subst hu
  exact h

theorem news_two {w : World} (u v : Value) (t : TypeId) : ∀ j z, [u, v][j]? = some z → (w.alloc (.cells #[u, v] t)).cell? (Addr.add ⟨w.heap.size, 0, none⟩ j) = some z := by
  intro j z h
  match j, h with
  | 0, h =>
    simp at h
    subst h
    simp [Addr.add]
  | 1, h =>
    simp at h
    subst h
    simp [Addr.add]

theorem two_cells (u v : Value) (h : u.oneCell' = true) (h' : v.oneCell' = true) : ∀ z ∈ [u, v], z.oneCell' = true := by
  intro z hz
  simp at hz
  rcases hz with rfl | rfl
  · exact h
  · exact h'

set_option maxRecDepth 100000 in
set_option maxHeartbeats 4000000 in
theorem efg_one (g B dp : Nat) (x : Int) (w : World) (hdp : 1 ≤ dp) (hdp2 : dp ≤ 10) (hown : w.ownsRow 0 5 1 (rowV g 0) 0 []) (hc : w.cell? ⟨B, 0, none⟩ = some (.int .u8 x)) :
    Calls Tryd.prog 51 #[rowV g 0, .bool false, .slice (some ⟨B, 0, none⟩) 32 32, .int .i64 dp, .int .i64 1, .int .i64 0, .int .u8 101, .bool true] w fun e w' =>
      e = .returned (rowV g 5) ∧ w'.ownsRow 0 5 1 (rowV g 5) 5 ([x, 101, 43, 48, (dp : Int) - 1 + 48].map encI) ∧ w.grownBy w' (some g) := by
  obtain ⟨i0, hi, hz0, hz1, hz2⟩ := info_parts info5
  go_enter Tryd.func51, Tryd.ntmps51
  go_wp2_with (first
    | (at_builtin; refine wpList_append_fits _ rfl (.tmp 87) (.tmp 89) 47 rfl 0 5 i0 1 Tryd.underlying47 hi hz1 g 0 24 _ rfl (hown.alloc _) ⟨w.heap.size, 0, none⟩ 1 1 [.int .u8 x] rfl rfl (news_one _ _) (one_cell _ rfl) (by omega) ?_; intro w1 hown1 hgrow1)
    | (at_builtin; refine wpList_append_fits _ rfl (.tmp 120) (.tmp 122) 47 rfl 0 5 i0 1 Tryd.underlying47 hi hz1 g 1 24 _ rfl (hown1.alloc _) ⟨w1.heap.size, 0, none⟩ 1 1 [.int .u8 101] rfl rfl (news_one _ _) (one_cell _ rfl) (by omega) ?_; intro w2 hown2 hgrow2)
    | (at_builtin; refine wpList_append_fits _ rfl (.tmp 132) (.tmp 134) 47 rfl 0 5 i0 1 Tryd.underlying47 hi hz1 g 2 24 _ rfl (hown2.alloc _) ⟨w2.heap.size, 0, none⟩ 1 1 [.int .u8 43] rfl rfl (news_one _ _) (one_cell _ rfl) (by omega) ?_; intro w3 hown3 hgrow3)
    | (at_builtin; refine wpList_append_fits _ rfl (.tmp 155) (.tmp 159) 47 rfl 0 5 i0 1 Tryd.underlying47 hi hz1 g 3 24 _ rfl (hown3.alloc _) ⟨w3.heap.size, 0, none⟩ 2 2 [.int .u8 48, .int .u8 ((dp : Int) - 1 + 48)] rfl rfl (news_two _ _ _) (two_cells _ _ rfl rfl) (by omega) ?_; intro w4 hown4 hgrow4))
  go_ret
  refine ⟨rfl, by simpa using hown4, ?_⟩
  exact (grownBy_trans (grownBy_allocR (grownBy_trans (grownBy_allocR (grownBy_trans (grownBy_allocR (grownBy_trans (World.grownBy_alloc _ _ _) hgrow1) _) hgrow2) _) hgrow3) _) hgrow4)
theorem src_cells {g B q : Nat} {G : Nat → Int} {w w1 w2 : World} {o1 o2 : Obj} (h1 : (w.alloc o1).grownBy w1 (some g)) (h2 : (w1.alloc o2).grownBy w2 (some g)) (hc : ∀ t, t < q + 2 → w.cell? ⟨B, t, none⟩ = some (.int .u8 (G t))) (hne : B ≠ g) :
    ∀ j u, ((List.range (q + 1)).map (fun t => encI (G (t + 1))))[j]? = some u → w2.cell? (Addr.add ⟨B, 1, none⟩ j) = some u := by
  intro j u h
  have hj : j < q + 1 := by
    rcases Nat.lt_or_ge j (q + 1) with h' | h'
    · exact h'
    · rw [List.getElem?_eq_none (by simpa using h')] at h
      cases h
  rw [List.getElem?_map, List.getElem?_range hj] at h
  simp at h
  have hg : w.grownBy w2 (some g) := grownBy_trans (grownBy_allocR (grownBy_trans (World.grownBy_alloc _ _ _) h1) _) h2
  rw [Lib.add_plain, ← h, Nat.add_comm 1 j]
  exact hg.cell (hc (j + 1) (by omega)) (fun e => hne (Option.some.inj e))

theorem map_cells (f : Nat → Int) (l : List Nat) : ∀ u ∈ l.map (fun t => encI (f t)), u.oneCell' = true := by
  intro u hu
  simp at hu
  obtain ⟨_, _, rfl⟩ := hu
  rfl

set_option maxRecDepth 100000 in
set_option maxHeartbeats 4000000 in
theorem efg_more (g B dp q : Nat) (G : Nat → Int) (w : World) (hdp : 1 ≤ dp) (hdp2 : dp ≤ 10) (hq : q ≤ 8) (hown : w.ownsRow 0 5 1 (rowV g 0) 0 []) (hc : ∀ t, t < q + 2 → w.cell? ⟨B, t, none⟩ = some (.int .u8 (G t))) (hne : B ≠ g) :
    Calls Tryd.prog 51 #[rowV g 0, .bool false, .slice (some ⟨B, 0, none⟩) 32 32, .int .i64 dp, .int .i64 ((q : Int) + 2), .int .i64 ((q : Int) + 1), .int .u8 101, .bool true] w fun e w' =>
      e = .returned (rowV g (q + 7)) ∧ w'.ownsRow 0 5 1 (rowV g (q + 7)) (q + 7) (encI (G 0) :: encI 46 :: ((List.range (q + 1)).map (fun t => encI (G (t + 1)))) ++ [encI 101, encI 43, encI 48, encI ((dp : Int) - 1 + 48)]) ∧ w.grownBy w' (some g) := by
  obtain ⟨i0, hi, hz0, hz1, hz2⟩ := info_parts info5
  have hc0 := hc 0 (by omega)
  have hmin : min ((q : Int) + 2) ((q : Int) + 1 + 1) = (q : Int) + 2 := by omega
  have htn : ((q : Int) + 2).toNat = q + 2 := by omega
  have HC := Lib.hid hc
  have HN := Lib.hid hne
  clear hc hne
  go_enter Tryd.func51, Tryd.ntmps51
  go_wp2_with (first
    | (at_builtin; refine wpList_append_fits _ rfl (.tmp 87) (.tmp 89) 47 rfl 0 5 i0 1 Tryd.underlying47 hi hz1 g 0 24 _ rfl (hown.alloc _) ⟨w.heap.size, 0, none⟩ 1 1 [.int .u8 (G 0)] rfl rfl (news_one _ _) (one_cell _ rfl) (by omega) ?_; intro w1 hown1 hgrow1)
    | (at_builtin; refine wpList_append_fits _ rfl (.tmp 93) (.tmp 94) 47 rfl 0 5 i0 1 Tryd.underlying47 hi hz1 g 1 24 _ rfl (hown1.alloc _) ⟨w1.heap.size, 0, none⟩ 1 1 [.int .u8 46] rfl rfl (news_one _ _) (one_cell _ rfl) (by omega) ?_; intro w2 hown2 hgrow2; have hsrc : ∀ j u, ((List.range (q + 1)).map (fun t => encI (G (t + 1))))[j]? = some u → w2.cell? (Addr.add ⟨B, 1, none⟩ j) = some u := src_cells hgrow1 hgrow2 HC.out HN.out; have HSRC := Lib.hid hsrc; clear hsrc)
    | (at_builtin; refine wpList_append_fits _ rfl (.tmp 103) (.tmp 107) 47 rfl 0 5 i0 1 Tryd.underlying47 hi hz1 g 2 24 _ rfl hown2 ⟨B, 1, none⟩ (q + 1) 31 ((List.range (q + 1)).map (fun t => encI (G (t + 1)))) rfl (by simp) HSRC.out (map_cells _ _) (by omega) ?_; intro w3 hown3 hgrow3))
  have AW := Lib.hid hgrow1
  have AX := Lib.hid hgrow2
  have AY := Lib.hid hgrow3
  clear hgrow1 hgrow2 hgrow3 hown hown1 hown2 hc0
  go_loopw [0, 114] (fun d i wr => d = rowV g (2 + (q + 1)) ∧ i = .int .i64 0 ∧ w3 = wr) (fun _ _ _ => 0)
  case atStart => exact ⟨rfl, rfl, rfl⟩
  case round =>
    obtain ⟨rfl, rfl, rfl⟩ := hrel
    have h0 : (q : Int) + 1 + 1 - ((q : Int) + 2) = 0 := by omega
    go_wp2_with (first
      | (at_builtin; refine wpList_append_fits _ rfl (.tmp 120) (.tmp 122) 47 rfl 0 5 i0 1 Tryd.underlying47 hi hz1 g (2 + (q + 1)) 24 _ rfl (hown3.alloc _) ⟨w3.heap.size, 0, none⟩ 1 1 [.int .u8 101] rfl rfl (news_one _ _) (one_cell _ rfl) (by omega) ?_; intro w4 hown4 hgrow4)
      | (at_builtin; refine wpList_append_fits _ rfl (.tmp 132) (.tmp 134) 47 rfl 0 5 i0 1 Tryd.underlying47 hi hz1 g (2 + (q + 1) + 1) 24 _ rfl (hown4.alloc _) ⟨w4.heap.size, 0, none⟩ 1 1 [.int .u8 43] rfl rfl (news_one _ _) (one_cell _ rfl) (by omega) ?_; intro w5 hown5 hgrow5)
      | (at_builtin; refine wpList_append_fits _ rfl (.tmp 155) (.tmp 159) 47 rfl 0 5 i0 1 Tryd.underlying47 hi hz1 g (2 + (q + 1) + 1 + 1) 24 _ rfl (hown5.alloc _) ⟨w5.heap.size, 0, none⟩ 2 2 [.int .u8 48, .int .u8 ((dp : Int) - 1 + 48)] rfl rfl (news_two _ _ _) (two_cells _ _ rfl rfl) (by omega) ?_; intro w6 hown6 hgrow6))
    go_ret
    have e7 : 2 + (q + 1) + 1 + 1 + 2 = q + 7 := by omega
    refine ⟨?_, ?_, ?_⟩
    · show Ending.returned (rowV g (2 + (q + 1) + 1 + 1 + 2)) = _
      rw [e7]
    · rw [e7] at hown6
      simpa using hown6
    · exact (grownBy_trans (grownBy_allocR (grownBy_trans (grownBy_allocR (grownBy_trans (grownBy_allocR (grownBy_trans (grownBy_trans (grownBy_allocR (grownBy_trans (World.grownBy_alloc _ _ _) AW.out) _) AX.out) AY.out) _) hgrow4) _) hgrow5) _) hgrow6)
end Go.Proofs.YtmfbgoikekmdkaaDoor
