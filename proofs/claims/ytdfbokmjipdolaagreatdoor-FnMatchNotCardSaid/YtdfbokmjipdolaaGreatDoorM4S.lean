/- The world that bears the tables is shaped: each variable by itself, the long table by a law. -/
import Derived.Test.YtdfbokmjipdolaaGreatDoorM4
import Derived.Deep.DeepWitnessRowRef
set_option linter.unusedVariables false
set_option linter.unusedSimpArgs false
namespace Go.Proofs.YtdfbokmjipdolaaGreatDoor
open Go.RowKit Go.Lib

/-- one variable's look -/
noncomputable def refB1 (w : World) (g : Nat) : Bool :=
  match (((begin Tryz.prog (fun _ _ => 0) default).world).heap[g]?).bind Obj.row? with
  | none => true
  | some (zero, t) =>
    match w.heap[g]? with
    | some (.cells cs t' frozen) => decide (t' = t) && decide (frozen = (0, 0)) && cs.size == zero.size && (!Tryz.prog.buildable t || Row.okRefB Tryz.prog w t cs)
    | _ => false
theorem refB_all {w : World} (h : ∀ g ∈ List.range Tryz.prog.globals.size, refB1 w g = true) : w.variablesRefB Tryz.prog = true := List.all_eq_true.2 h
theorem refB1_of {w : World} {g : Nat} {n : Nat} {t : TypeId} {cs : Array Value} (hb : w.heap[g]? = some (.cells cs t (0, 0)))
    (hz : ((((begin Tryz.prog (fun _ _ => 0) default).world).heap[g]?).bind Obj.row?).map (fun x => (x.1.size, x.2)) = some (n, t)) (hs : cs.size = n) (hr : Row.okRefB Tryz.prog w t cs = true) : refB1 w g = true := by
  unfold refB1
  obtain ⟨⟨z, t'⟩, hz1, hz2⟩ := Option.map_eq_some_iff.1 hz
  simp only [Prod.mk.injEq] at hz2
  obtain ⟨rfl, rfl⟩ := hz2
  rw [hz1, hb]
  simp [hs, hr]
theorem p10_okRef (w : World) : Row.okRefB Tryz.prog w 202 p10cells.toArray = true := by
  have hts : Tryz.prog.cellTypes Tryz.prog.depth 202 = some (List.replicate 1392 102) := by kernel_rfl
  have hlen : p10cells.toArray.size = 1392 := by
    rw [List.size_toArray]; unfold p10cells; rw [flat2_len, p10_len]
  unfold Row.okRefB
  rw [hts]
  simp only [List.length_replicate, hlen, Bool.and_eq_true, List.all_eq_true, List.mem_range]
  refine ⟨by decide, fun i hi => ?_⟩
  have h1 : (List.replicate 1392 102)[i % 1392]? = some 102 := by
    rw [List.getElem?_replicate, if_pos (Nat.mod_lt _ (by decide))]
  have hi2 : i < p10cells.length := by rw [← List.size_toArray, hlen]; exact hi
  rw [h1, List.getElem?_toArray, List.getElem?_eq_getElem hi2]
  have hm := List.getElem_mem hi2
  generalize p10cells[i] = v at hm
  unfold p10cells at hm
  obtain ⟨x, hx, hv⟩ := List.mem_flatMap.1 hm
  have hw := List.all_eq_true.1 p10_wf _ hx
  simp only [Lit.wf, Bool.and_eq_true, decide_eq_true_eq] at hw
  simp only [List.mem_cons, List.mem_nil_iff, or_false] at hv
  rcases hv with rfl | rfl
  · simp [Cell.okRefB, Cell.okB, Tryz.underlying102, hw]
  · simp [Cell.okRefB, Cell.okB, Tryz.underlying102, hw]
section
variable (os : Os) (args : Array Value)
/-- the witness's world at the call -/
noncomputable def ww : World := (laidWorld os).forCall (fun _ _ => 0) ⟨#[], args, []⟩
theorem rb0 : refB1 (ww os args) 0 = true := by kernel_rfl
theorem rb1 : refB1 (ww os args) 1 = true := by kernel_rfl
theorem rb2 : refB1 (ww os args) 2 = true := by kernel_rfl
theorem rb3 : refB1 (ww os args) 3 = true := by kernel_rfl
theorem rb4 : refB1 (ww os args) 4 = true := by kernel_rfl
theorem rb5 : refB1 (ww os args) 5 = true := by kernel_rfl
theorem rb6 : refB1 (ww os args) 6 = true := by kernel_rfl
theorem rb7 : refB1 (ww os args) 7 = true := by kernel_rfl
theorem rb8 : refB1 (ww os args) 8 = true := by kernel_rfl
theorem rb9 : refB1 (ww os args) 9 = true := by kernel_rfl
theorem rb10 : refB1 (ww os args) 10 = true := by kernel_rfl
theorem rb11 : refB1 (ww os args) 11 = true := by kernel_rfl
theorem rb12 : refB1 (ww os args) 12 = true := by kernel_rfl
theorem rb13 : refB1 (ww os args) 13 = true := by kernel_rfl
theorem rb14 : refB1 (ww os args) 14 = true := refB1_of (n := 1392) (t := 202) (cs := p10cells.toArray) (by kernel_rfl) (by kernel_rfl) (by rw [List.size_toArray]; unfold p10cells; rw [flat2_len, p10_len]) (p10_okRef _)
theorem rb15 : refB1 (ww os args) 15 = true := by kernel_rfl
theorem rb16 : refB1 (ww os args) 16 = true := by kernel_rfl
theorem rb17 : refB1 (ww os args) 17 = true := by kernel_rfl
theorem rb18 : refB1 (ww os args) 18 = true := by kernel_rfl
theorem rb19 : refB1 (ww os args) 19 = true := by kernel_rfl
theorem vref : (ww os args).variablesRefB Tryz.prog = true := by
  refine refB_all fun g hg => ?_
  rw [show Tryz.prog.globals.size = 20 by kernel_rfl, List.mem_range] at hg
  obtain rfl | rfl | rfl | rfl | rfl | rfl | rfl | rfl | rfl | rfl | rfl | rfl | rfl | rfl | rfl | rfl | rfl | rfl | rfl | rfl : g = 0 ∨ g = 1 ∨ g = 2 ∨ g = 3 ∨ g = 4 ∨ g = 5 ∨ g = 6 ∨ g = 7 ∨ g = 8 ∨ g = 9 ∨ g = 10 ∨ g = 11 ∨ g = 12 ∨ g = 13 ∨ g = 14 ∨ g = 15 ∨ g = 16 ∨ g = 17 ∨ g = 18 ∨ g = 19 := by omega
  · exact rb0 os args
  · exact rb1 os args
  · exact rb2 os args
  · exact rb3 os args
  · exact rb4 os args
  · exact rb5 os args
  · exact rb6 os args
  · exact rb7 os args
  · exact rb8 os args
  · exact rb9 os args
  · exact rb10 os args
  · exact rb11 os args
  · exact rb12 os args
  · exact rb13 os args
  · exact rb14 os args
  · exact rb15 os args
  · exact rb16 os args
  · exact rb17 os args
  · exact rb18 os args
  · exact rb19 os args
theorem rest : ((ww os args).heap.toList.drop Tryz.prog.globals.size).take ((begin Tryz.prog (fun _ _ => 0) default).world.heap.size - Tryz.prog.globals.size) =
    (begin Tryz.prog (fun _ _ => 0) default).world.heap.toList.drop Tryz.prog.globals.size := by kernel_rfl
end
end Go.Proofs.YtdfbokmjipdolaaGreatDoor
