/- What the rows' lists give the walks: jsonparser's two variables. -/
import Derived.Test.YtdllbnecbbggfaaDoorRows
import Derived.Test.YtdllbnecbbggfaaDoorGlobEsc
import Derived.LaidLaws
import Derived.LaidMore
import Derived.Lib.LaidTab
import Derived.ProofKit
import Derived.Stop.LaidErr
namespace Go.Proofs.YtdllbnecbbggfaaDoor
open Go.ChangeShapes Go.WideShapes Go.ChangeAt Go.RowKit

theorem gConf : Tryd.prog.globalNamed "pub-tetrapla/pub/jsonparser.DefaultConfig" = some 2 := by kernel_rfl
theorem gConfType : (Tryd.prog.globals[2]?).map (·.type) = some 95 := by kernel_rfl
theorem gEsc : Tryd.prog.globalNamed "pub-tetrapla/pub/jsonparser.backslashCharEscapeTable" = some 3 := by kernel_rfl
theorem gEscType : (Tryd.prog.globals[3]?).map (·.type) = some 113 := by kernel_rfl
theorem cellsU8 : Tryd.prog.cellsOf 5 = 1 := by kernel_rfl
theorem cellsEsc : Tryd.prog.cellsOf 113 = 117 := by kernel_rfl
def escTab : List Int := [0, 0, 0, 0, 0, 0, 0, 0, 0, 0, 0, 0, 0, 0, 0, 0, 0, 0, 0, 0, 0, 0, 0, 0, 0, 0, 0, 0, 0, 0, 0, 0, 0, 0, 34, 0, 0, 0, 0, 0, 0, 0, 0, 0, 0, 0, 0, 47, 0, 0, 0, 0, 0, 0, 0, 0, 0, 0, 0, 0, 0, 0, 0, 0, 0, 0, 0, 0, 0, 0, 0, 0, 0, 0, 0, 0, 0, 0, 0, 0, 0, 0, 0, 0, 0, 0, 0, 0, 0, 0, 0, 0, 92, 0, 0, 0, 0, 0, 8, 0, 0, 0, 12, 0, 0, 0, 0, 0, 0, 0, 10, 0, 0, 0, 13, 0, 9]
set_option maxRecDepth 100000 in
theorem glob_of_list {W : World} {rest : List (String × DataW Unit)} (h : laidMet Tryd.prog (("pub-tetrapla/pub/jsonparser.DefaultConfig", Rows.laid_pub_tetrapla_pub_jsonparser_DefaultConfig) :: ("pub-tetrapla/pub/jsonparser.backslashCharEscapeTable", Rows.laid_pub_tetrapla_pub_jsonparser_backslashCharEscapeTable) :: rest) W) : Glob W := by
  have ht : laidMet Tryd.prog (("pub-tetrapla/pub/jsonparser.backslashCharEscapeTable", Lib.tabData .u8 escTab) :: rest) W := laidMet.tail h
  have htab := Lib.tabIs_of_head (rest := rest) gEsc gEscType Tryd.underlying113 Tryd.underlying5 cellsU8 cellsEsc ht
  obtain ⟨ps, ⟨g0, t0, cs0, f0, p0, q0, hg0, ht0, hv0, hd0, _⟩, _⟩ := h
  obtain rfl := Option.some.inj (gConf.symm.trans hg0)
  obtain rfl := Option.some.inj (gConfType.symm.trans ht0)
  obtain ⟨xs, n, _, hx, hlen, hxs, hel⟩ := DataW.trod_struct Tryd.underlying95 hd0
  have cB : Tryd.prog.cellsOf 4 = 1 := by kernel_rfl
  have cI : Tryd.prog.cellsOf 3 = 1 := by kernel_rfl
  have e0 := hel 0 _ rfl
  have e1 := hel 1 _ rfl
  have e2 := hel 2 _ rfl
  simp only [Prod.mk.injEq, Rows.laid_pub_tetrapla_pub_jsonparser_DefaultConfig, DataW.agg.injEq] at hx
  have c3 : Tryd.prog.cellsOf 95 = 3 := by kernel_rfl
  rw [c3] at hlen
  match xs, hxs, hx, e0, e1, e2 with
  | [x0, x1, x2], _, hx, e0, e1, e2 =>
    simp only [List.map_cons, List.map_nil, List.cons.injEq, and_true] at hx
    obtain ⟨b0, f0, r0⟩ := DataW.trod_bool Tryd.underlying4 (show DataW.trod _ Tryd.prog W 0 _ false n 4 _ = some x0 from e0)
    obtain ⟨b1, f1, r1⟩ := DataW.trod_bool Tryd.underlying4 (show DataW.trod _ Tryd.prog W 0 _ false n 4 _ = some x1 from e1)
    obtain ⟨k2, f2, r2, _⟩ := DataW.trod_int Tryd.underlying3 (show DataW.trod _ Tryd.prog W 0 _ false n 3 _ = some x2 from e2)
    have f0' : List.take 1 (List.drop 0 cs0.toList) = [.bool b0] := f0
    have f1' : List.take 1 (List.drop 1 cs0.toList) = [.bool b1] := f1
    have f2' : List.take 1 (List.drop 2 cs0.toList) = [.int .i64 k2] := f2
    subst r0 r1 r2
    obtain ⟨l⟩ := cs0
    match l, hlen, f0', f1', f2' with
    | [a, b, c], _, f0', f1', f2' =>
      simp at f0' f1' f2'
      subst f0' f1' f2'
      simp at hx
      obtain ⟨⟨rfl, rfl, rfl⟩, _⟩ := hx
      have z0 := World.var?_cell gConf hv0 0
      have z1 := World.var?_cell gConf hv0 1
      have z2 := World.var?_cell gConf hv0 2
      refine ⟨?_, by simpa using z0, by simpa using z1, by simpa using z2⟩
      intro p hp
      simp only [escPairs, List.mem_cons, List.mem_nil_iff, or_false] at hp
      rcases hp with rfl | rfl | rfl | rfl | rfl | rfl | rfl | rfl
      all_goals exact htab.cell gEsc _ (by decide)
theorem glob_of_laid {W : World} (h : laidMetH Tryd.prog Rows.fnJpParseStringBackRow.laid W) : Glob W := by
  rw [MakeChecks.laidMetH_plain _ _ _ (by kernel_rfl)] at h
  exact glob_of_list h
end Go.Proofs.YtdllbnecbbggfaaDoor
