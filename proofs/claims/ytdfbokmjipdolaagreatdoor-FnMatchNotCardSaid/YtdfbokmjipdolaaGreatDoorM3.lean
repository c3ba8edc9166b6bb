/- A world that bears the tables. -/
import Derived.Test.YtdfbokmjipdolaaGreatDoorQ20
import Derived.Lib.LaidCaseMet
import Derived.ProofKit
set_option linter.unusedVariables false
set_option linter.unusedSimpArgs false
namespace Go.Proofs.YtdfbokmjipdolaaGreatDoor
open Go.RowKit Go.Lib

/-- these variables are laid; their places lie in these blocks -/
structure VM (w : World) (l : List (String × DataW Unit)) (ps : List MemPlace) (Bs : List Nat) : Prop where
  vars : DataW.LaidVars Tryz.prog w l ps
  nd : ps.Nodup
  blk : ∀ p ∈ ps, p.block ∈ Bs
  good : ∀ b off, MemPlace.cell b off ∈ ps → (∃ c t, w.heap[b]? = some (.cells c t (0, 0))) ∧ ∀ u v, w.cell? ⟨b, off, none⟩ = some (.iface u v) → Value.okWide Tryz.prog w .any 0 u v
theorem VM.append {w : World} {l l' : List (String × DataW Unit)} {ps ps' : List MemPlace} {Bs Bs' : List Nat} (h : VM w l ps Bs) (h' : VM w l' ps' Bs') (hd : ∀ b ∈ Bs, ¬ b ∈ Bs') : VM w (l ++ l') (ps ++ ps') (Bs ++ Bs') := by
  refine ⟨LaidVars_append h.vars h'.vars, List.nodup_append.2 ⟨h.nd, h'.nd, fun a ha b hb e => hd _ (h.blk a ha) (by rw [e]; exact h'.blk b hb)⟩, fun p hp => ?_, fun b off hp => ?_⟩
  · rcases List.mem_append.1 hp with hp | hp
    · exact List.mem_append_left _ (h.blk p hp)
    · exact List.mem_append_right _ (h'.blk p hp)
  · rcases List.mem_append.1 hp with hp | hp
    · exact h.good b off hp
    · exact h'.good b off hp
set_option maxRecDepth 100000 in
theorem VM.run {w : World} {l : List (String × DataW Unit)} {Bs : List Nat} (fuel : Nat)
    (h : (DataW.laidRun Tryz.prog w fuel (l.map (·.1))).map (·.1) = some l)
    (hn : (DataW.laidRun Tryz.prog w fuel (l.map (·.1))).map (fun x => nodupB (x.2.map MemPlace.codeOf)) = some true)
    (hr : (DataW.laidRun Tryz.prog w fuel (l.map (·.1))).map (fun x => laidRowsB Tryz.prog w x.2) = some true)
    (hoff : (DataW.laidRun Tryz.prog w fuel (l.map (·.1))).map (fun x => x.2.all fun p => Bs.elem p.block) = some true) : ∃ ps, VM w l ps Bs := by
  cases hx : DataW.laidRun Tryz.prog w fuel (l.map (·.1)) with
  | none => simp [hx] at h
  | some x =>
    rw [hx] at h hn hr hoff
    simp only [Option.map_some, Option.some.injEq] at h hn hr hoff
    obtain ⟨x1, ps⟩ := x
    simp only at h hn hr hoff
    subst h
    refine ⟨ps, DataW.LaidVars_of_laidRun hx, nodup_of_code hn, fun p hp => ?_, fun b off hp => ?_⟩
    · have := List.all_eq_true.1 hoff p hp
      simpa using this
    · have := List.all_eq_true.1 hr _ hp
      simp only [Bool.and_eq_true] at this
      obtain ⟨h1, h2⟩ := this
      refine ⟨?_, fun u v hc => ?_⟩
      · split at h1
        · rename_i c t' hh
          exact ⟨c, t', hh⟩
        · cases h1
      · rw [hc] at h2
        exact Value.okWide_of_okWideB h2
/-- pow10Tab's cells -/
def p10cells : List Value := Pinned.pow10Rows.flatMap fun x => [.int .u64 x.1, .int .u64 x.2]
theorem flat2 : ∀ (l : List (Nat × Nat)) (i : Nat) (hi : i < l.length), ((l.flatMap fun x => [Value.int .u64 x.1, .int .u64 x.2]).drop (i * 2)).take 2 = [.int .u64 l[i].1, .int .u64 l[i].2]
  | [], i, hi => by cases hi
  | x :: l, 0, _ => rfl
  | x :: l, i + 1, hi => by
    have h := flat2 l i (by simpa using hi)
    rw [show (i + 1) * 2 = i * 2 + 2 by omega]
    exact h
theorem flat2_len (l : List (Nat × Nat)) : (l.flatMap fun x => [Value.int .u64 x.1, .int .u64 x.2]).length = l.length * 2 := by
  induction l with
  | nil => rfl
  | cons x l ih => simp at ih ⊢; omega
theorem p10_wf : Pinned.pow10Rows.all (fun x => (Lit.int .u64 x.1).wf && (Lit.int .u64 x.2).wf) = true := by decide +kernel
set_option maxRecDepth 100000 in
theorem p10_reads (w : World) : DataW.trod (fun _ => ()) Tryz.prog w 0 (fun _ => true) false 4 202 p10cells = some (Pinned.pow10Tab, []) := by
  have c201 : Tryz.prog.cellsOf 201 = 2 := by kernel_rfl
  have c102 : Tryz.prog.cellsOf 102 = 1 := by kernel_rfl
  have hlen : p10cells.length = 696 * 2 := by unfold p10cells; rw [flat2_len, p10_len]
  have helem : ∀ i ∈ List.range 696, DataW.trod (fun _ => ()) Tryz.prog w 0 (fun _ => true) false 3 201 ((p10cells.drop (i * 2)).take 2) = some ((fun i => ((.agg [.lit (.int .u64 ((Pinned.pow10Rows.getD i (0, 0)).1 : Int)), .lit (.int .u64 ((Pinned.pow10Rows.getD i (0, 0)).2 : Int))] : DataW Unit), ([] : List MemPlace))) i) := by
    intro i hi
    have hi3 : i < Pinned.pow10Rows.length := by rw [p10_len]; exact List.mem_range.1 hi
    unfold p10cells
    rw [flat2 _ i hi3]
    have hw := List.all_eq_true.1 p10_wf _ (List.getElem_mem hi3)
    simp only [Bool.and_eq_true] at hw
    have e : Pinned.pow10Rows.getD i (0, 0) = Pinned.pow10Rows[i] := by rw [List.getD_eq_getElem?_getD, List.getElem?_eq_getElem hi3]; rfl
    simp only [e]
    simp [DataW.trod, Tryz.underlying201, Tryz.underlying102, c201, c102, hw.1, hw.2, show List.range 2 = [0, 1] from rfl]
  unfold DataW.trod
  have c202 : Tryz.prog.cellsOf 202 = 696 * 2 := by kernel_rfl
  simp only [Tryz.underlying202, c201, c202]
  rw [if_pos hlen, mapM_some _ _ _ helem]
  have e1 : (List.range 696).map (fun i => (.agg [.lit (.int .u64 ((Pinned.pow10Rows.getD i (0, 0)).1 : Int)), .lit (.int .u64 ((Pinned.pow10Rows.getD i (0, 0)).2 : Int))] : DataW Unit)) = Pinned.pow10Rows.map fun x => .agg [.lit (.int .u64 x.1), .lit (.int .u64 x.2)] := by
    apply List.ext_getElem?
    intro i
    by_cases hi : i < 696
    · rw [List.getElem?_map, List.getElem?_range hi, List.getElem?_map, List.getElem?_eq_getElem (by rw [p10_len]; exact hi), Option.map_some, Option.map_some, List.getD_eq_getElem?_getD, List.getElem?_eq_getElem (by rw [p10_len]; exact hi)]
      rfl
    · rw [List.getElem?_eq_none (by simp; omega), List.getElem?_eq_none (by rw [List.length_map, p10_len]; omega)]
  simp only [Option.map_some, List.map_map, Function.comp_def]
  rw [e1]
  simp [Pinned.pow10Tab]
set_option maxRecDepth 100000 in
theorem VM.p10 {w : World} (hb : w.heap[14]? = some (.cells p10cells.toArray 202 (0, 0))) : VM w [("internal/strconv.pow10Tab", Pinned.pow10Tab)] (MemPlace.row ⟨14, 0, none⟩ p10cells.toArray.size ++ [] ++ []) [14] := by
  have hv : w.var? Tryz.prog "internal/strconv.pow10Tab" = some p10cells.toArray := by simp [World.var?, show Tryz.prog.globalNamed "internal/strconv.pow10Tab" = some 14 by kernel_rfl, hb]
  refine ⟨⟨14, 202, _, 4, [], [], by kernel_rfl, by kernel_rfl, hv, p10_reads w, rfl, rfl⟩, ?_, ?_, ?_⟩
  · rw [List.append_nil, List.append_nil]; exact row_nodup _ _
  · intro p hp
    rw [List.append_nil, List.append_nil] at hp
    obtain ⟨i, _, rfl⟩ := MemPlace.mem_row.1 hp
    simp [MemPlace.block]
  · intro b off hp
    rw [List.append_nil, List.append_nil] at hp
    obtain ⟨i, hi, e⟩ := MemPlace.mem_row.1 hp
    cases e
    refine ⟨⟨_, _, hb⟩, fun u v hc => ?_⟩
    rw [Lib.cell_of_heap hb, List.getElem?_toArray] at hc
    have hm := List.mem_of_getElem? hc
    unfold p10cells at hm
    obtain ⟨x, _, hx⟩ := List.mem_flatMap.1 hm
    simp at hx
set_option maxRecDepth 100000 in
theorem VM.case {w : World} (R : Nat) (t : TypeId) (h7 : ¬ 7 = R) (hvar : w.heap[7]? = some (.cells #[.slice (some ⟨R, 0, none⟩) caseA.size caseA.size] 154 (0, 0))) (hblk : w.heap[R]? = some (.cells caseCells5 t (0, 0))) :
    VM w [("unicode.CaseRanges", Pinned.caseRanges)] (MemPlace.row ⟨7, 0, none⟩ 1 ++ MemPlace.row ⟨R, 0, none⟩ (caseA.size * 5) ++ []) [7, R] := by
  have X : CaseExtra Tryz.prog Tryz.lays204_ren := ⟨by kernel_rfl, by kernel_rfl, by kernel_rfl, by kernel_rfl, by kernel_rfl, by kernel_rfl⟩
  have hT := caseTab_of_block hblk
  have hread := case_slice_reads (ρ := Tryz.lays204_ren) { Tryz.lays204 with } Tryz.lays204.t206 X hT caseA_wf (by rw [caseA_size]; unfold maxLen; omega) 0
  rw [case_rows_data] at hread
  have hv : w.var? Tryz.prog "unicode.CaseRanges" = some #[.slice (some ⟨R, 0, none⟩) caseA.size caseA.size] := by simp [World.var?, show Tryz.prog.globalNamed "unicode.CaseRanges" = some 7 by kernel_rfl, hvar]
  rw [Pinned.caseRanges_eq]
  refine ⟨⟨7, 154, _, _, _, [], by kernel_rfl, by kernel_rfl, hv, hread, rfl, rfl⟩, ?_, ?_, ?_⟩
  · rw [List.append_nil]
    refine List.nodup_append.2 ⟨row_nodup _ _, row_nodup _ _, ?_⟩
    intro a ha b hb e
    obtain ⟨i, _, rfl⟩ := MemPlace.mem_row.1 ha
    obtain ⟨j, _, rfl⟩ := MemPlace.mem_row.1 hb
    simp at e
    exact h7 e.1
  · intro p hp
    rw [List.append_nil] at hp
    rcases List.mem_append.1 hp with hp | hp
    · obtain ⟨i, _, rfl⟩ := MemPlace.mem_row.1 hp; simp [MemPlace.block]
    · obtain ⟨i, _, rfl⟩ := MemPlace.mem_row.1 hp; simp [MemPlace.block]
  · intro b off hp
    rw [List.append_nil] at hp
    rcases List.mem_append.1 hp with hp | hp
    · obtain ⟨i, hi, e⟩ := MemPlace.mem_row.1 hp
      cases e
      refine ⟨⟨_, _, hvar⟩, fun u v hc => ?_⟩
      obtain rfl : i = 0 := by omega
      rw [Lib.cell_of_heap hvar] at hc
      simp at hc
    · obtain ⟨i, hi, e⟩ := MemPlace.mem_row.1 hp
      cases e
      refine ⟨⟨_, _, hblk⟩, fun u v hc => ?_⟩
      obtain ⟨c0, c1, c2, c3, c4⟩ := hT (i / 5) (by omega)
      have hi5 : 0 + i = 0 + i / 5 * 5 + i % 5 := by omega
      simp only at hc
      rw [hi5] at hc
      have hm : i % 5 < 5 := Nat.mod_lt _ (by omega)
      match hk : i % 5, hm with
      | 0, _ => rw [hk, Nat.add_zero, c0] at hc; cases hc
      | 1, _ => rw [hk, c1] at hc; cases hc
      | 2, _ => rw [hk, c2] at hc; cases hc
      | 3, _ => rw [hk, c3] at hc; cases hc
      | 4, _ => rw [hk, c4] at hc; cases hc
theorem VM.met {w : World} {l : List (String × DataW Unit)} {ps : List MemPlace} {Bs : List Nat} (h : VM w l ps Bs) : laidMet Tryz.prog l w := ⟨ps, h.vars, h.nd, h.good⟩
end Go.Proofs.YtdfbokmjipdolaaGreatDoor
