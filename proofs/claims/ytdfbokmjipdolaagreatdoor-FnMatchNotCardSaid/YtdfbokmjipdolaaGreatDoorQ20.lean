/- Texts of the proof, joined: M1, M2. -/
import Derived.Test.YtdfbokmjipdolaaGreatDoorL1
import Derived.Test.YtdfbokmjipdolaaGreatDoorRows
import Derived.Lib.LaidCase
import Derived.PinnedBridge
set_option linter.unusedVariables false
set_option linter.unusedSimpArgs false
/- What the listed variables give: the tables in the world. -/
namespace Go.Proofs.YtdfbokmjipdolaaGreatDoor
open Go.RowKit Go.Lib

theorem addp (b o i : Nat) : (⟨b, o, none⟩ : Addr).add i = ⟨b, o + i, none⟩ := by
  unfold Addr.add
  split <;> simp_all
section
variable {w : World} {n : String} {g : Nat} {t e : TypeId}
/-- a slice of whatever, element by element -/
theorem slice_reads {ds : List (DataW Unit)} {c : Nat} (hn : Tryz.prog.globalNamed n = some g) (hy : (Tryz.prog.globals[g]?).map (·.type) = some t) (ht : Tryz.prog.underlying t = some (.slice e)) (hc : Tryz.prog.cellsOf e = c) (hc0 : 0 < c) (hds : 0 < ds.length)
    (h : VarReads Tryz.prog w n (.slice ds [])) : ∃ tb ofs : Nat, w.cell? ⟨g, 0, none⟩ = some (.slice (some ⟨tb, ofs, none⟩) ds.length ds.length) ∧
      ∀ i (hi : i < ds.length), ∃ (cs : List Value) (fuel : Nat) (q : List MemPlace), cs.length = c ∧ (∀ j, j < c → w.cell? ⟨tb, ofs + i * c + j, none⟩ = cs[j]?) ∧ DataW.trod (fun _ => ()) Tryz.prog w 0 (fun _ => true) false fuel e cs = some (ds[i], q) := by
  obtain ⟨g', t', cs, fuel, p, hg, hty, hvar, hd⟩ := h
  obtain rfl := Option.some.inj (hn.symm.trans hg)
  obtain rfl := Option.some.inj (hy.symm.trans hty)
  rcases DataW.trod_slice ht hd with ⟨_, hx'⟩ | ⟨a', len, cap, el, rs, m, rfl, hc0', hx', _, hlc, _, hel, helem, hsp, _⟩
  · cases hx'
  have e0 := congrArg Prod.fst hx'
  simp only [DataW.slice.injEq] at e0
  obtain ⟨eE, eR⟩ := e0
  have hlen : len = ds.length := by rw [eE, List.length_map]; exact hel.symm
  have hr0 : rs = [] := List.map_eq_nil_iff.1 eR.symm
  have hcap : cap = len := by
    have := (hsp rfl).1
    rw [hr0] at this
    simp at this
    omega
  have key : ∀ i (hi : i < ds.length), ∃ (cs : List Value) (q : List MemPlace), cs.length = c ∧ (∀ j, j < c → w.cell? ((a'.add (i * c)).add j) = cs[j]?) ∧ DataW.trod (fun _ => ()) Tryz.prog w 0 (fun _ => true) false m e cs = some (ds[i], q) := by
    intro i hi
    have h1 := helem i (by omega)
    rw [hc] at h1
    obtain ⟨b, hb⟩ : ∃ b, el[i]? = some b := ⟨el[i]'(by omega), List.getElem?_eq_getElem (by omega)⟩
    rw [hb] at h1
    obtain ⟨ce, hce, hte⟩ := Option.bind_eq_some_iff.1 h1
    obtain ⟨_, hl, hcc⟩ := World.cells?_some hce
    have hb1 : b.1 = ds[i] := by
      have := congrArg (·[i]?) eE
      simp only [List.getElem?_map, hb, Option.map_some] at this
      rw [List.getElem?_eq_getElem hi] at this
      exact (Option.some.inj this).symm
    exact ⟨ce, b.2, hl, hcc, by rw [← hb1]; exact hte⟩
  obtain ⟨R, oR, sR⟩ := a'
  obtain rfl : sR = none := by
    obtain ⟨cs0, q0, hl0, h00, _⟩ := key 0 hds
    have h := h00 0 hc0
    have e1 : (Addr.add (Addr.add ⟨R, oR, sR⟩ (0 * c)) 0) = ⟨R, oR, sR⟩ := by simp [Addr.add]
    rw [e1, List.getElem?_eq_getElem (by omega)] at h
    exact cell_spot h
  refine ⟨R, oR, ?_, fun i hi => ?_⟩
  · rw [World.var?_cell hg hvar 0, ← Array.getElem?_toList, hc0', hcap, hlen]
    rfl
  · obtain ⟨cs, q, h1, h2, h3⟩ := key i hi
    refine ⟨cs, m, q, h1, fun j hj => ?_, h3⟩
    have := h2 j hj
    rw [addp, addp] at this
    exact this
end
/-- a struct, field by field -/
theorem struct_field {w : World} {fuel : Nat} {t : TypeId} {fs : Array Field} {cs : List Value} {ds : List (DataW Unit)} {q : List MemPlace} (ht : Tryz.prog.underlying t = some (.struct fs))
    (h : DataW.trod (fun _ => ()) Tryz.prog w 0 (fun _ => true) false fuel t cs = some (.agg ds, q)) (i : Nat) (f : Field) (hf : fs[i]? = some f) (hc : Tryz.prog.cellsOf f.type = 1) :
    ∃ d m q', ds[i]? = some d ∧ DataW.trod (fun _ => ()) Tryz.prog w 0 (fun _ => true) false m f.type ((cs.drop f.offset).take 1) = some (d, q') := by
  obtain ⟨xs, m, rfl, hx, hl, hxl, hall⟩ := DataW.trod_struct ht h
  have h1 := hall i f hf
  rw [hc] at h1
  have hi : i < xs.length := by rw [hxl]; exact (Array.getElem?_eq_some_iff.1 hf).1
  rw [List.getElem?_eq_getElem hi] at h1
  have e0 := congrArg Prod.fst hx
  simp only [DataW.agg.injEq] at e0
  exact ⟨xs[i].1, m, xs[i].2, by rw [e0, List.getElem?_map, List.getElem?_eq_getElem hi]; rfl, h1⟩
theorem take1 {cs : List Value} {k : Nat} {v : Value} (h : (cs.drop k).take 1 = [v]) : cs[k]? = some v := by
  have := congrArg (·[0]?) h
  simpa [List.getElem?_take, List.getElem?_drop] using this
theorem field_int {w : World} {fuel : Nat} {t : TypeId} {fs : Array Field} {cs : List Value} {ds : List (DataW Unit)} {q : List MemPlace} (ht : Tryz.prog.underlying t = some (.struct fs))
    (h : DataW.trod (fun _ => ()) Tryz.prog w 0 (fun _ => true) false fuel t cs = some (.agg ds, q)) (i : Nat) (f : Field) (hf : fs[i]? = some f) (hc : Tryz.prog.cellsOf f.type = 1) {k : IntKind} {z : Int} (hk : Tryz.prog.underlying f.type = some (.int k)) (hd : ds[i]? = some (.lit (.int k z))) :
    cs[f.offset]? = some (.int k z) := by
  obtain ⟨d, m, q', h1, h2⟩ := struct_field ht h i f hf hc
  obtain ⟨z', hz, hx, _⟩ := DataW.trod_int hk h2
  rw [h1, (Prod.mk.inj hx).1] at hd
  simp only [Option.some.injEq, DataW.lit.injEq, Lit.int.injEq, true_and] at hd
  rw [← hd]
  exact take1 hz
theorem field_str {w : World} {fuel : Nat} {t : TypeId} {fs : Array Field} {cs : List Value} {ds : List (DataW Unit)} {q : List MemPlace} (ht : Tryz.prog.underlying t = some (.struct fs))
    (h : DataW.trod (fun _ => ()) Tryz.prog w 0 (fun _ => true) false fuel t cs = some (.agg ds, q)) (i : Nat) (f : Field) (hf : fs[i]? = some f) (hc : Tryz.prog.cellsOf f.type = 1) {l : List UInt8} (hk : Tryz.prog.underlying f.type = some .string) (hd : ds[i]? = some (.lit (.string l))) :
    ∃ s : ByteArray, cs[f.offset]? = some (.string s) ∧ s.data.toList = l := by
  obtain ⟨d, m, q', h1, h2⟩ := struct_field ht h i f hf hc
  obtain ⟨s, hz, hx, _⟩ := DataW.trod_string hk h2
  rw [h1, (Prod.mk.inj hx).1] at hd
  simp only [Option.some.injEq, DataW.lit.injEq, Lit.string.injEq] at hd
  exact ⟨s, take1 hz, hd⟩
theorem trod_float' {w : World} {fuel : Nat} {t : TypeId} {k : FloatKind} {cs : List Value} {x : DataW Unit × List MemPlace} (ht : Tryz.prog.underlying t = some (.float k)) (h : DataW.trod (fun _ => ()) Tryz.prog w 0 (fun _ => true) false fuel t cs = some x) : ∃ b, cs = [.float k b] ∧ x = (.lit (.float k b), []) := by
  cases fuel with
  | zero => simp [DataW.trod] at h
  | succ n =>
    unfold DataW.trod at h
    rw [ht] at h
    split at h <;> simp_all
theorem trod_iface' {w : World} {fuel : Nat} {t : TypeId} {ms : Array (String × TypeId)} {cs : List Value} {s : String} {d : DataW Unit} {q : List MemPlace} (ht : Tryz.prog.underlying t = some (.interface ms)) (h : DataW.trod (fun _ => ()) Tryz.prog w 0 (fun _ => true) false fuel t cs = some (.iface s d, q)) : ∃ u v, cs = [.iface u v] := by
  cases fuel with
  | zero => simp [DataW.trod] at h
  | succ n =>
    unfold DataW.trod at h
    rw [ht] at h
    split at h <;> simp_all
end Go.Proofs.YtdfbokmjipdolaaGreatDoor
/- The tables that the row lists lie in the world. -/
namespace Go.Proofs.YtdfbokmjipdolaaGreatDoor
open Go.RowKit Go.Lib

variable {w : World}
theorem asc_of (h : VarReads Tryz.prog w "unicode.asciiFold" Rows.laid_unicode_asciiFold) : ∀ i, i < 128 → w.cell? ⟨5, i, none⟩ = some (.int .u16 (ascT.getD i 0 : Nat)) := by
  have e : (Rows.laid_unicode_asciiFold : DataW Unit) = tabData .u16 (ascT.map fun (x : Nat) => (x : Int)) := by kernel_rfl
  rw [e] at h
  obtain ⟨g, t, cs, fuel, p, hg, hty, hvar, hd⟩ := h
  obtain rfl := Option.some.inj ((show Tryz.prog.globalNamed "unicode.asciiFold" = some 5 by kernel_rfl).symm.trans hg)
  obtain rfl := Option.some.inj ((show (Tryz.prog.globals[5]?).map (·.type) = some 148 by kernel_rfl).symm.trans hty)
  have hcs := cells_of_tab Tryz.underlying148 Tryz.underlying147 (by kernel_rfl) (by kernel_rfl) hd
  intro i hi
  rw [World.var?_cell hg hvar i, ← Array.getElem?_toList, hcs, List.map_map, List.getElem?_map, List.getElem?_eq_getElem (by rw [ascT_len]; exact hi), List.getD_eq_getElem?_getD, List.getElem?_eq_getElem (by rw [ascT_len]; exact hi)]
  rfl
theorem orb_of (h : VarReads Tryz.prog w "unicode.caseOrbit" Rows.laid_unicode_caseOrbit) : ∃ tb ofs cap : Nat, w.cell? ⟨6, 0, none⟩ = some (.slice (some ⟨tb, ofs, none⟩) 94 cap) ∧ ∀ i, i < 94 → w.cell? ⟨tb, ofs + i * 2, none⟩ = some (.int .u16 ((orbT.getD i (0, 0)).1 : Nat)) ∧ w.cell? ⟨tb, ofs + i * 2 + 1, none⟩ = some (.int .u16 ((orbT.getD i (0, 0)).2 : Nat)) := by
  have e : (Rows.laid_unicode_caseOrbit : DataW Unit) = .slice (orbT.map fun (p : Nat × Nat) => .agg [.lit (.int .u16 (p.1 : Int)), .lit (.int .u16 (p.2 : Int))]) [] := by kernel_rfl
  rw [e] at h
  obtain ⟨tb, ofs, h1, h2⟩ := slice_reads (g := 6) (t := 149) (e := 151) (c := 2) (by kernel_rfl) (by kernel_rfl) Tryz.underlying149 (by kernel_rfl) (by decide) (by rw [List.length_map, orbT_len]; decide) h
  rw [List.length_map, orbT_len] at h1
  refine ⟨tb, ofs, 94, h1, fun i hi => ?_⟩
  have hl : i < orbT.length := by rw [orbT_len]; exact hi
  obtain ⟨cs, fuel, q, hcl, hc, hd⟩ := h2 i (by rw [List.length_map]; exact hl)
  rw [List.getElem_map] at hd
  have f0 := field_int Tryz.underlying151 hd 0 _ rfl (by kernel_rfl) (k := .u16) (z := ((orbT[i].1 : Nat) : Int)) Tryz.underlying147 rfl
  have f1 := field_int Tryz.underlying151 hd 1 _ rfl (by kernel_rfl) (k := .u16) (z := ((orbT[i].2 : Nat) : Int)) Tryz.underlying147 rfl
  have g0 := hc 0 (by decide)
  have g1 := hc 1 (by decide)
  rw [List.getD_eq_getElem?_getD, List.getElem?_eq_getElem hl, Option.getD_some]
  exact ⟨g0.trans f0, g1.trans f1⟩
theorem info_of (h : VarReads Tryz.prog w "internal/strconv.float64info" Rows.laid_internal_strconv_float64info) : w.cell? ⟨4, 0, none⟩ = some (.int .u64 52) ∧ w.cell? ⟨4, 1, none⟩ = some (.int .u64 11) ∧ w.cell? ⟨4, 2, none⟩ = some (.int .i64 (-1023)) := by
  obtain ⟨g, t, cs, fuel, p, hg, hty, hvar, hd⟩ := h
  obtain rfl := Option.some.inj ((show Tryz.prog.globalNamed "internal/strconv.float64info" = some 4 by kernel_rfl).symm.trans hg)
  obtain rfl := Option.some.inj ((show (Tryz.prog.globals[4]?).map (·.type) = some 129 by kernel_rfl).symm.trans hty)
  have hd2 : DataW.trod (fun _ => ()) Tryz.prog w 0 (fun _ => true) false fuel 129 cs.toList = some (.agg [.lit (.int .u64 52), .lit (.int .u64 11), .lit (.int .i64 (-1023))], p) := hd
  have f0 := field_int Tryz.underlying129 hd2 0 _ rfl (by kernel_rfl) (k := .u64) (z := 52) Tryz.underlying127 rfl
  have f1 := field_int Tryz.underlying129 hd2 1 _ rfl (by kernel_rfl) (k := .u64) (z := 11) Tryz.underlying127 rfl
  have f2 := field_int Tryz.underlying129 hd2 2 _ rfl (by kernel_rfl) (k := .i64) (z := -1023) Tryz.underlying3 rfl
  exact ⟨by rw [World.var?_cell hg hvar 0, ← Array.getElem?_toList]; exact f0, by rw [World.var?_cell hg hvar 1, ← Array.getElem?_toList]; exact f1, by rw [World.var?_cell hg hvar 2, ← Array.getElem?_toList]; exact f2⟩
theorem opt_of (h : VarReads Tryz.prog w "internal/strconv.optimize" Rows.laid_internal_strconv_optimize) : w.cell? ⟨3, 0, none⟩ = some (.bool true) := by
  obtain ⟨g, t, cs, fuel, p, hg, hty, hvar, hd⟩ := h
  obtain rfl := Option.some.inj ((show Tryz.prog.globalNamed "internal/strconv.optimize" = some 3 by kernel_rfl).symm.trans hg)
  obtain rfl := Option.some.inj ((show (Tryz.prog.globals[3]?).map (·.type) = some 4 by kernel_rfl).symm.trans hty)
  have hd2 : DataW.trod (fun _ => ()) Tryz.prog w 0 (fun _ => true) false fuel 4 cs.toList = some (.lit (.bool true), p) := hd
  obtain ⟨b, hb, hx⟩ := DataW.trod_bool Tryz.underlying4 hd2
  have hb2 := (Prod.mk.inj hx).1
  simp only [DataW.lit.injEq, Lit.bool.injEq] at hb2
  rw [World.var?_cell hg hvar 0, ← Array.getElem?_toList, hb, ← hb2]
  rfl
theorem err_of {n : String} {g : Nat} {s : String} {d : DataW Unit} (hn : Tryz.prog.globalNamed n = some g) (hy : (Tryz.prog.globals[g]?).map (·.type) = some 41) (h : VarReads Tryz.prog w n (.iface s d)) : ∃ te pe, w.cell? ⟨g, 0, none⟩ = some (.iface te pe) := by
  obtain ⟨g', t, cs, fuel, p, hg, hty, hvar, hd⟩ := h
  obtain rfl := Option.some.inj (hn.symm.trans hg)
  obtain rfl := Option.some.inj (hy.symm.trans hty)
  obtain ⟨u, v, hb⟩ := trod_iface' Tryz.underlying41 hd
  exact ⟨u, v, by rw [World.var?_cell hg hvar 0, ← Array.getElem?_toList, hb]; rfl⟩
theorem pw_of (h : VarReads Tryz.prog w "internal/strconv.powtab" Rows.laid_internal_strconv_powtab) : PwG w := by
  have e : (Rows.laid_internal_strconv_powtab : DataW Unit) = .slice (([1, 3, 6, 9, 13, 16, 19, 23, 26] : List Nat).map fun (x : Nat) => .lit (.int .i64 (x : Int))) [] := by kernel_rfl
  rw [e] at h
  obtain ⟨tb, ofs, h1, h2⟩ := slice_reads (g := 10) (t := 49) (e := 3) (c := 1) (by kernel_rfl) (by kernel_rfl) Tryz.underlying49 (by kernel_rfl) (by decide) (by simp) h
  refine ⟨tb, ofs, h1, fun i hi => ?_⟩
  obtain ⟨cs, fuel, q, hcl, hc, hd⟩ := h2 i (by simpa using hi)
  rw [List.getElem_map] at hd
  obtain ⟨z, hz, hx, _⟩ := DataW.trod_int Tryz.underlying3 hd
  have hx2 := (Prod.mk.inj hx).1
  simp only [DataW.lit.injEq, Lit.int.injEq, true_and] at hx2
  have g0 := hc 0 (by decide)
  rw [hz, ← hx2, Nat.mul_one, Nat.add_zero] at g0
  rw [g0]
  unfold pwt
  rw [List.getD_eq_getElem?_getD, List.getElem?_eq_getElem (l := [1, 3, 6, 9, 13, 16, 19, 23, 26]) hi]
  rfl
theorem f10_of (h : VarReads Tryz.prog w "internal/strconv.float64pow10" Rows.laid_internal_strconv_float64pow10) : F10At w := by
  have e : (Rows.laid_internal_strconv_float64pow10 : DataW Unit) = .slice (f10Tab.map fun (x : Nat) => .lit (.float .f64 x)) [] := by kernel_rfl
  have hl : f10Tab.length = 23 := by decide
  rw [e] at h
  obtain ⟨tb, ofs, h1, h2⟩ := slice_reads (g := 11) (t := 182) (e := 29) (c := 1) (by kernel_rfl) (by kernel_rfl) Tryz.underlying182 (by kernel_rfl) (by decide) (by rw [List.length_map, hl]; decide) h
  rw [List.length_map, hl] at h1
  refine ⟨tb, ofs, h1, fun i hi => ?_⟩
  have hi2 : i < f10Tab.length := by rw [hl]; exact hi
  obtain ⟨cs, fuel, q, hcl, hc, hd⟩ := h2 i (by rw [List.length_map]; exact hi2)
  rw [List.getElem_map] at hd
  obtain ⟨z, hz, hx⟩ := trod_float' Tryz.underlying29 hd
  have hx2 := (Prod.mk.inj hx).1
  simp only [DataW.lit.injEq, Lit.float.injEq, true_and] at hx2
  have g0 := hc 0 (by decide)
  rw [hz, ← hx2, Nat.mul_one, Nat.add_zero] at g0
  rw [g0]
  unfold f10
  rw [List.getD_eq_getElem?_getD, List.getElem?_eq_getElem hi2]
  rfl
/-- a row of leftcheats is right -/
def lcChk (k : Nat) (x : Nat × List UInt8) : Bool :=
  decide (num 10 ((x.2.map UInt8.toNat).map (· - 48)) = 5 ^ k) && decide (x.2.length + x.1 = k + 1) && (x.2.map UInt8.toNat).all (fun c => decide (48 ≤ c ∧ c ≤ 57)) && decide ((x.2.map UInt8.toNat).getLast? = some 53) && decide (10 ^ (x.2.length - 1) ≤ 5 ^ k) && decide (x.2.length ≤ 60)
theorem lc_len : Pinned.cheatRows.length = 61 := by decide +kernel
theorem lc_all : ((List.range 60).all fun j => lcChk (j + 1) (Pinned.cheatRows.getD (j + 1) (0, []))) = true := by decide +kernel
theorem lc_ok {k : Nat} (h1 : 1 ≤ k) (h2 : k ≤ 60) (x : Nat × List UInt8) (hx : x = Pinned.cheatRows.getD k (0, [])) : LcOk k x.1 (x.2.map UInt8.toNat) ∧ x.2.length ≤ 60 := by
  have h := List.all_eq_true.1 lc_all (k - 1) (List.mem_range.2 (by omega))
  rw [show k - 1 + 1 = k by omega, ← hx] at h
  unfold lcChk at h
  simp only [Bool.and_eq_true, decide_eq_true_eq] at h
  obtain ⟨⟨⟨⟨⟨a1, a2⟩, a3⟩, a4⟩, a5⟩, a6⟩ := h
  refine ⟨⟨a1, by rw [List.length_map]; exact a2, fun c hc => ?_, ?_, by rw [List.length_map]; exact a5⟩, a6⟩
  · have := List.all_eq_true.1 a3 c hc
    simpa using this
  · obtain ⟨h3, h4⟩ := List.getLast?_eq_some_iff.1 a4
    exact ⟨h3, h4⟩
theorem lc_of (h : VarReads Tryz.prog w "internal/strconv.leftcheats" Pinned.leftcheats) : LcG w := by
  have e : Pinned.leftcheats = .slice (Pinned.cheatRows.map fun x => .agg [.lit (.int .i64 x.1), .lit (.string x.2)]) [] := rfl
  rw [e] at h
  obtain ⟨tb, ofs, h1, h2⟩ := slice_reads (g := 16) (t := 214) (e := 213) (c := 2) (by kernel_rfl) (by kernel_rfl) Tryz.underlying214 (by kernel_rfl) (by decide) (by rw [List.length_map, lc_len]; decide) h
  rw [List.length_map, lc_len] at h1
  refine ⟨tb, ofs, h1, fun k k1 k2 => ?_⟩
  have hi2 : k < Pinned.cheatRows.length := by rw [lc_len]; omega
  obtain ⟨cs, fuel, q, hcl, hc, hd⟩ := h2 k (by rw [List.length_map]; exact hi2)
  rw [List.getElem_map] at hd
  obtain ⟨hok, hsz⟩ := lc_ok k1 k2 (Pinned.cheatRows[k]) (by rw [List.getD_eq_getElem?_getD, List.getElem?_eq_getElem hi2]; rfl)
  have f0 := field_int Tryz.underlying213 hd 0 _ rfl (by kernel_rfl) (k := .i64) (z := ((Pinned.cheatRows[k].1 : Nat) : Int)) Tryz.underlying3 rfl
  obtain ⟨s, f1, hs⟩ := field_str Tryz.underlying213 hd 1 _ rfl (by kernel_rfl) (l := Pinned.cheatRows[k].2) Tryz.underlying9 rfl
  have g0 := hc 0 (by decide)
  have g1 := hc 1 (by decide)
  refine ⟨Pinned.cheatRows[k].1, s, ?_, g1.trans f1, ?_, ?_⟩
  · exact g0.trans f0
  · unfold bsN; rw [hs]; exact hok
  · have : s.size = s.data.toList.length := (Array.length_toList).symm
    rw [this, hs]; exact hsz
theorem p10_len : Pinned.pow10Rows.length = 696 := by decide +kernel
theorem p10tab_of (h : VarReads Tryz.prog w "internal/strconv.pow10Tab" Pinned.pow10Tab) : Pow10At w := by
  have e : Pinned.pow10Tab = .agg (Pinned.pow10Rows.map fun x => .agg [.lit (.int .u64 x.1), .lit (.int .u64 x.2)]) := rfl
  rw [e] at h
  obtain ⟨g, t, cs, fuel, p, hg, hty, hvar, hd⟩ := h
  obtain rfl := Option.some.inj ((show Tryz.prog.globalNamed "internal/strconv.pow10Tab" = some 14 by kernel_rfl).symm.trans hg)
  obtain rfl := Option.some.inj ((show (Tryz.prog.globals[14]?).map (·.type) = some 202 by kernel_rfl).symm.trans hty)
  intro p0 hp0 hp1
  obtain ⟨i, hi⟩ : ∃ i, i = (p0 + 348).toNat := ⟨_, rfl⟩
  have hi2 : i < 696 := by omega
  have hi3 : i < Pinned.pow10Rows.length := by rw [p10_len]; exact hi2
  obtain ⟨fuel', d, q, hdi, he⟩ := array_elem Tryz.underlying202 hd i hi2
  rw [List.getElem?_map, List.getElem?_eq_getElem hi3] at hdi
  injection hdi with hdi
  rw [← hdi, show Tryz.prog.cellsOf 201 = 2 by kernel_rfl] at he
  have f0 := field_int Tryz.underlying201 he 0 _ rfl (by kernel_rfl) (k := .u64) (z := (Pinned.pow10Rows[i].1 : Int)) Tryz.underlying102 rfl
  have f1 := field_int Tryz.underlying201 he 1 _ rfl (by kernel_rfl) (k := .u64) (z := (Pinned.pow10Rows[i].2 : Int)) Tryz.underlying102 rfl
  simp only [List.getElem?_take, List.getElem?_drop] at f0 f1
  unfold pHi pLo
  rw [← hi, List.getD_eq_getElem?_getD, List.getElem?_eq_getElem hi3, Option.getD_some]
  constructor
  · rw [World.var?_cell hg hvar (i * 2), ← Array.getElem?_toList]; simpa using f0
  · rw [World.var?_cell hg hvar (i * 2 + 1), ← Array.getElem?_toList]; simpa using f1
theorem place_of {l : List (String × DataW Unit)} : ∀ {ps : List MemPlace}, DataW.LaidVars Tryz.prog w l ps → ∀ n d g v, (n, d) ∈ l → Tryz.prog.globalNamed n = some g → w.cell? ⟨g, 0, none⟩ = some v → MemPlace.cell g 0 ∈ ps := by
  induction l with
  | nil => intro ps _ n d g v hm; cases hm
  | cons x r ih =>
    intro ps h n d g v hm hn hc
    obtain ⟨n', d'⟩ := x
    obtain ⟨g', t, cs, fuel, p, q, h1, h2, h3, h4, h5, rfl⟩ := h
    rcases List.mem_cons.1 hm with e | e
    · cases e
      obtain rfl := Option.some.inj (hn.symm.trans h1)
      refine List.mem_append_left _ (List.mem_append_left _ (MemPlace.mem_row.2 ⟨0, ?_, by simp⟩))
      have := World.var?_cell h1 h3 0
      rw [hc] at this
      exact (Array.getElem?_eq_some_iff.1 this.symm).1
    · exact List.mem_append_right _ (ih h5 n d g v e hn hc)
theorem tables (h : laidMet Tryz.prog Rows.fnMatchNotRow.laid w) : FG w ∧ SG w := by
  obtain ⟨ps, hv, hnd, hpl⟩ := h
  have R : ∀ n d, (n, d) ∈ Rows.fnMatchNotRow.laid → VarReads Tryz.prog w n d := fun n d hm => LaidVars_reads hv n d hm
  have r3 : VarReads Tryz.prog w "internal/strconv.float64info" Rows.laid_internal_strconv_float64info := R _ _ (.tail _ (.tail _ (.tail _ (.head _))))
  have r2 : VarReads Tryz.prog w "internal/strconv.float32info" Rows.laid_internal_strconv_float32info := R _ _ (.tail _ (.tail _ (.head _)))
  have r4 : VarReads Tryz.prog w "internal/strconv.optimize" Rows.laid_internal_strconv_optimize := R _ _ (.tail _ (.tail _ (.tail _ (.tail _ (.head _)))))
  have r5 : VarReads Tryz.prog w "internal/strconv.powtab" Rows.laid_internal_strconv_powtab := R _ _ (.tail _ (.tail _ (.tail _ (.tail _ (.tail _ (.head _))))))
  have r6 : VarReads Tryz.prog w "internal/strconv.float64pow10" Rows.laid_internal_strconv_float64pow10 := R _ _ (.tail _ (.tail _ (.tail _ (.tail _ (.tail _ (.tail _ (.head _)))))))
  have r9 : VarReads Tryz.prog w "unicode/utf8.acceptRanges" Rows.laid_unicode_utf8_acceptRanges := R _ _ (.tail _ (.tail _ (.tail _ (.tail _ (.tail _ (.tail _ (.tail _ (.tail _ (.tail _ (.head _))))))))))
  have r10 : VarReads Tryz.prog w "strconv.ErrRange" Rows.laid_strconv_ErrRange := R _ _ (.tail _ (.tail _ (.tail _ (.tail _ (.tail _ (.tail _ (.tail _ (.tail _ (.tail _ (.tail _ (.head _)))))))))))
  have r11 : VarReads Tryz.prog w "strconv.ErrSyntax" Rows.laid_strconv_ErrSyntax := R _ _ (.tail _ (.tail _ (.tail _ (.tail _ (.tail _ (.tail _ (.tail _ (.tail _ (.tail _ (.tail _ (.tail _ (.head _))))))))))))
  have r12 : VarReads Tryz.prog w "unicode.asciiFold" Rows.laid_unicode_asciiFold := R _ _ (.tail _ (.tail _ (.tail _ (.tail _ (.tail _ (.tail _ (.tail _ (.tail _ (.tail _ (.tail _ (.tail _ (.tail _ (.head _)))))))))))))
  have r13 : VarReads Tryz.prog w "unicode.caseOrbit" Rows.laid_unicode_caseOrbit := R _ _ (.tail _ (.tail _ (.tail _ (.tail _ (.tail _ (.tail _ (.tail _ (.tail _ (.tail _ (.tail _ (.tail _ (.tail _ (.tail _ (.head _))))))))))))))
  have r14 : VarReads Tryz.prog w "internal/strconv.leftcheats" Pinned.leftcheats := R _ _ (.tail _ (.tail _ (.tail _ (.tail _ (.tail _ (.tail _ (.tail _ (.tail _ (.tail _ (.tail _ (.tail _ (.tail _ (.tail _ (.tail _ (.head _)))))))))))))))
  have r15 : VarReads Tryz.prog w "internal/strconv.pow10Tab" Pinned.pow10Tab := R _ _ (.tail _ (.tail _ (.tail _ (.tail _ (.tail _ (.tail _ (.tail _ (.tail _ (.tail _ (.tail _ (.tail _ (.tail _ (.tail _ (.tail _ (.tail _ (.head _))))))))))))))))
  have r16 : VarReads Tryz.prog w "unicode.CaseRanges" Pinned.caseRanges := R _ _ (.tail _ (.tail _ (.tail _ (.tail _ (.tail _ (.tail _ (.tail _ (.tail _ (.tail _ (.tail _ (.tail _ (.tail _ (.tail _ (.tail _ (.tail _ (.tail _ (.head _)))))))))))))))))
  have r17 : VarReads Tryz.prog w "unicode/utf8.first" Pinned.utf8First := R _ _ (.tail _ (.tail _ (.tail _ (.tail _ (.tail _ (.tail _ (.tail _ (.tail _ (.tail _ (.tail _ (.tail _ (.tail _ (.tail _ (.tail _ (.tail _ (.tail _ (.tail _ (.head _))))))))))))))))))
  have hlc := lc_of r14
  have hinfo := info_of r3
  have hsz : 17 ≤ w.heap.size := by
    obtain ⟨tb, ofs, h1, _⟩ := hlc
    have := World.block_lt_of_cell? _ _ h1
    simp only at this
    omega
  have hcs : CaseVar 7 caseA w := caseVar_of_reads (ρ := Tryz.lays204_ren) { Tryz.lays204 with } Tryz.lays204.t206 ⟨by kernel_rfl, by kernel_rfl, by kernel_rfl, by kernel_rfl, by kernel_rfl, by kernel_rfl⟩ (Pinned.caseRanges_eq ▸ r16)
  have hacc : (Rows.laid_unicode_utf8_acceptRanges : DataW Unit) = acceptData := by kernel_rfl
  have hu8 : Lib.Utf8Tabs 12 13 w := utf8Tabs_of_reads (ρ := Tryz.lays260_ren) Tryz.lays260 ⟨by kernel_rfl, by kernel_rfl, by kernel_rfl, by kernel_rfl, by kernel_rfl, by kernel_rfl, by kernel_rfl⟩ (Pinned.utf8First_eq ▸ r17) (hacc ▸ r9)
  have h2 : ∃ v, w.cell? ⟨2, 0, none⟩ = some v := by
    obtain ⟨g, t, cs, fuel, p, hg, hty, hvar, hd⟩ := r2
    obtain rfl := Option.some.inj ((show Tryz.prog.globalNamed "internal/strconv.float32info" = some 2 by kernel_rfl).symm.trans hg)
    obtain rfl := Option.some.inj ((show (Tryz.prog.globals[2]?).map (·.type) = some 129 by kernel_rfl).symm.trans hty)
    have hd2 : DataW.trod (fun _ => ()) Tryz.prog w 0 (fun _ => true) false fuel 129 cs.toList = some (.agg [.lit (.int .u64 23), .lit (.int .u64 8), .lit (.int .i64 (-127))], p) := hd
    have f0 := field_int Tryz.underlying129 hd2 0 _ rfl (by kernel_rfl) (k := .u64) (z := 23) Tryz.underlying127 rfl
    exact ⟨_, by rw [World.var?_cell hg hvar 0, ← Array.getElem?_toList]; exact f0⟩
  obtain ⟨v2, h2⟩ := h2
  have f4 := (hpl 4 0 (place_of hv _ _ 4 _ (.tail _ (.tail _ (.tail _ (.head _)))) (by kernel_rfl) hinfo.1)).1
  have f2 := (hpl 2 0 (place_of hv _ _ 2 _ (.tail _ (.tail _ (.head _))) (by kernel_rfl) h2)).1
  exact ⟨⟨asc_of r12, orb_of r13, hcs, hu8, hsz⟩, ⟨hsz, p10tab_of r15, f10_of r6, ⟨hinfo.1, hinfo.2.1, hinfo.2.2, f4, f2⟩, opt_of r4, hlc, pw_of r5, err_of (by kernel_rfl) (by kernel_rfl) r11, err_of (by kernel_rfl) (by kernel_rfl) r10⟩⟩
end Go.Proofs.YtdfbokmjipdolaaGreatDoor
