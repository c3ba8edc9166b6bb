/- A world that bears the tables: laid out. -/
import Derived.Test.YtdfbokmjipdolaaGreatDoorM3
set_option linter.unusedVariables false
set_option linter.unusedSimpArgs false
namespace Go.Proofs.YtdfbokmjipdolaaGreatDoor
open Go.RowKit Go.Lib

/-- the settled world with eight blocks more, and the listed variables' values -/
noncomputable def laidWorld (os : Os) : World :=
  let N := (World.settled Tryz.prog os).heap.size
  let w0 := World.holding Tryz.prog os ⟨#[.cells #[.int .i64 1, .int .i64 3, .int .i64 6, .int .i64 9, .int .i64 13, .int .i64 16, .int .i64 19, .int .i64 23, .int .i64 26] 3, .cells #[.float .f64 4607182418800017408, .float .f64 4621819117588971520, .float .f64 4636737291354636288, .float .f64 4652007308841189376, .float .f64 4666723172467343360, .float .f64 4681608360884174848, .float .f64 4696837146684686336, .float .f64 4711630319722168320, .float .f64 4726483295884279808, .float .f64 4741671816366391296, .float .f64 4756540486875873280, .float .f64 4771362005757984768, .float .f64 4786511204640096256, .float .f64 4801453603149578240, .float .f64 4816244402031689728, .float .f64 4831355200913801216, .float .f64 4846369599423283200, .float .f64 4861130398305394688, .float .f64 4876203697187506176, .float .f64 4891288408196988160, .float .f64 4906019910204099648, .float .f64 4921056587992461136, .float .f64 4936209963552724370] 29, .cells #[.float .f32 1065353216, .float .f32 1092616192, .float .f32 1120403456, .float .f32 1148846080, .float .f32 1176256512, .float .f32 1203982336, .float .f32 1232348160, .float .f32 1259902592, .float .f32 1287568416, .float .f32 1315859240, .float .f32 1343554297] 85, .cells #[.string ⟨#[118, 97, 108, 117, 101, 32, 111, 117, 116, 32, 111, 102, 32, 114, 97, 110, 103, 101]⟩] 145, .cells #[.string ⟨#[105, 110, 118, 97, 108, 105, 100, 32, 115, 121, 110, 116, 97, 120]⟩] 145,
    .cells (orbT.flatMap fun p => [Value.int .u16 p.1, .int .u16 p.2]).toArray 151, .cells (Pinned.cheatRows.flatMap fun x => [Value.int .i64 x.1, .string ⟨x.2.toArray⟩]).toArray 213, .cells caseCells5 192], #[], []⟩
  let put (h : Array Obj) (g : Nat) (cs : Array Value) : Array Obj := h.modify g fun
    | .cells _ t frozen => .cells cs t frozen
    | o => o
  let h0 := put w0.heap 0 #[.iface 143 (.pointer (some ⟨N + 4, 0, none⟩))]
  let h1 := put h0 1 #[.iface 143 (.pointer (some ⟨N + 3, 0, none⟩))]
  let h2 := put h1 2 #[.int .u64 23, .int .u64 8, .int .i64 (-127)]
  let h3 := put h2 3 #[.bool true]
  let h4 := put h3 4 #[.int .u64 52, .int .u64 11, .int .i64 (-1023)]
  let h5 := put h4 5 (ascT.map fun (x : Nat) => Value.int .u16 (x : Int)).toArray
  let h6 := put h5 6 #[.slice (some ⟨N + 5, 0, none⟩) 94 94]
  let h7 := put h6 7 #[.slice (some ⟨N + 7, 0, none⟩) 336 336]
  let h8 := put h7 9 #[.slice (some ⟨N + 2, 0, none⟩) 11 11]
  let h9 := put h8 10 #[.slice (some ⟨N, 0, none⟩) 9 9]
  let h10 := put h9 11 #[.slice (some ⟨N + 1, 0, none⟩) 23 23]
  let h11 := put h10 12 (Pinned.utf8FirstZ.map fun (x : Nat) => Value.int .u8 (x : Int)).toArray
  let h12 := put h11 13 #[.int .u8 128, .int .u8 191, .int .u8 160, .int .u8 191, .int .u8 128, .int .u8 159, .int .u8 144, .int .u8 191, .int .u8 128, .int .u8 143, .int .u8 0, .int .u8 0, .int .u8 0, .int .u8 0, .int .u8 0, .int .u8 0, .int .u8 0, .int .u8 0, .int .u8 0, .int .u8 0, .int .u8 0, .int .u8 0, .int .u8 0, .int .u8 0, .int .u8 0, .int .u8 0, .int .u8 0, .int .u8 0, .int .u8 0, .int .u8 0, .int .u8 0, .int .u8 0]
  let h13 := put h12 14 p10cells.toArray
  let h14 := put h13 16 #[.slice (some ⟨N + 6, 0, none⟩) 61 61]
  let h15 := put h14 17 #[.int .u64 1, .int .u64 10, .int .u64 100, .int .u64 1000, .int .u64 10000, .int .u64 100000, .int .u64 1000000, .int .u64 10000000, .int .u64 100000000, .int .u64 1000000000, .int .u64 10000000000, .int .u64 100000000000, .int .u64 1000000000000, .int .u64 10000000000000, .int .u64 100000000000000, .int .u64 1000000000000000, .int .u64 10000000000000000, .int .u64 100000000000000000, .int .u64 1000000000000000000, .int .u64 10000000000000000000]
  let h16 := put h15 18 #[.int .u8 0, .int .u8 1, .int .u8 28, .int .u8 2, .int .u8 29, .int .u8 14, .int .u8 24, .int .u8 3, .int .u8 30, .int .u8 22, .int .u8 20, .int .u8 15, .int .u8 25, .int .u8 17, .int .u8 4, .int .u8 8, .int .u8 31, .int .u8 27, .int .u8 13, .int .u8 23, .int .u8 21, .int .u8 19, .int .u8 16, .int .u8 7, .int .u8 26, .int .u8 12, .int .u8 18, .int .u8 6, .int .u8 11, .int .u8 5, .int .u8 10, .int .u8 9]
  let h17 := put h16 19 #[.int .u8 0, .int .u8 1, .int .u8 56, .int .u8 2, .int .u8 57, .int .u8 49, .int .u8 28, .int .u8 3, .int .u8 61, .int .u8 58, .int .u8 42, .int .u8 50, .int .u8 38, .int .u8 29, .int .u8 17, .int .u8 4, .int .u8 62, .int .u8 47, .int .u8 59, .int .u8 36, .int .u8 45, .int .u8 43, .int .u8 51, .int .u8 22, .int .u8 53, .int .u8 39, .int .u8 33, .int .u8 30, .int .u8 24, .int .u8 18, .int .u8 12, .int .u8 5, .int .u8 63, .int .u8 55, .int .u8 48, .int .u8 27, .int .u8 60, .int .u8 41, .int .u8 37, .int .u8 16, .int .u8 46, .int .u8 35, .int .u8 44, .int .u8 21, .int .u8 52, .int .u8 32, .int .u8 23, .int .u8 11, .int .u8 54, .int .u8 26, .int .u8 40, .int .u8 15, .int .u8 34, .int .u8 20, .int .u8 31, .int .u8 10, .int .u8 25, .int .u8 14, .int .u8 19, .int .u8 9, .int .u8 13, .int .u8 8, .int .u8 7, .int .u8 6]
  { w0 with heap := h17 }
theorem vm0 (os : Os) (args : Array Value) : ∃ ps, VM ((laidWorld os).forCall (fun _ _ => 0) ⟨#[], args, []⟩).memory [("math/bits.deBruijn32tab", Rows.laid_math_bits_deBruijn32tab), ("math/bits.deBruijn64tab", Rows.laid_math_bits_deBruijn64tab), ("internal/strconv.float32info", Rows.laid_internal_strconv_float32info), ("internal/strconv.float64info", Rows.laid_internal_strconv_float64info), ("internal/strconv.optimize", Rows.laid_internal_strconv_optimize)] ps [18, 19, 2, 4, 3] :=
  VM.run 10 (by kernel_rfl) (by kernel_rfl) (by kernel_rfl) (by kernel_rfl)
theorem vm1 (os : Os) (args : Array Value) : ∃ ps, VM ((laidWorld os).forCall (fun _ _ => 0) ⟨#[], args, []⟩).memory [("internal/strconv.powtab", Rows.laid_internal_strconv_powtab), ("internal/strconv.float64pow10", Rows.laid_internal_strconv_float64pow10), ("internal/strconv.float32pow10", Rows.laid_internal_strconv_float32pow10), ("internal/strconv.uint64pow10", Rows.laid_internal_strconv_uint64pow10), ("unicode/utf8.acceptRanges", Rows.laid_unicode_utf8_acceptRanges)] ps [10, 11, 9, 17, 13, (World.settled Tryz.prog default).heap.size, (World.settled Tryz.prog default).heap.size + 1, (World.settled Tryz.prog default).heap.size + 2] :=
  VM.run 10 (by kernel_rfl) (by kernel_rfl) (by kernel_rfl) (by kernel_rfl)
theorem vm2 (os : Os) (args : Array Value) : ∃ ps, VM ((laidWorld os).forCall (fun _ _ => 0) ⟨#[], args, []⟩).memory [("strconv.ErrRange", Rows.laid_strconv_ErrRange), ("strconv.ErrSyntax", Rows.laid_strconv_ErrSyntax), ("unicode.asciiFold", Rows.laid_unicode_asciiFold)] ps [1, 0, 5, (World.settled Tryz.prog default).heap.size + 3, (World.settled Tryz.prog default).heap.size + 4] :=
  VM.run 10 (by kernel_rfl) (by kernel_rfl) (by kernel_rfl) (by kernel_rfl)
theorem vm3 (os : Os) (args : Array Value) : ∃ ps, VM ((laidWorld os).forCall (fun _ _ => 0) ⟨#[], args, []⟩).memory [("unicode.caseOrbit", Rows.laid_unicode_caseOrbit)] ps [6, (World.settled Tryz.prog default).heap.size + 5] :=
  VM.run 10 (by kernel_rfl) (by kernel_rfl) (by kernel_rfl) (by kernel_rfl)
theorem vm4 (os : Os) (args : Array Value) : ∃ ps, VM ((laidWorld os).forCall (fun _ _ => 0) ⟨#[], args, []⟩).memory [("internal/strconv.leftcheats", Rows.laid_internal_strconv_leftcheats)] ps [16, (World.settled Tryz.prog default).heap.size + 6] :=
  VM.run 10 (by kernel_rfl) (by kernel_rfl) (by kernel_rfl) (by kernel_rfl)
theorem vm5 (os : Os) (args : Array Value) : ∃ ps, VM ((laidWorld os).forCall (fun _ _ => 0) ⟨#[], args, []⟩).memory [("internal/strconv.pow10Tab", Pinned.pow10Tab)] ps [14] := ⟨_, VM.p10 (by kernel_rfl)⟩
theorem vm6 (os : Os) (args : Array Value) : ∃ ps, VM ((laidWorld os).forCall (fun _ _ => 0) ⟨#[], args, []⟩).memory [("unicode.CaseRanges", Pinned.caseRanges)] ps [7, (World.settled Tryz.prog default).heap.size + 7] := ⟨_, VM.case ((World.settled Tryz.prog default).heap.size + 7) 192 (of_decide_eq_true (by kernel_rfl)) (by rw [caseA_size]; kernel_rfl) (by kernel_rfl)⟩
theorem vm7 (os : Os) (args : Array Value) : ∃ ps, VM ((laidWorld os).forCall (fun _ _ => 0) ⟨#[], args, []⟩).memory [("unicode/utf8.first", Pinned.utf8First)] ps [12] :=
  VM.run 10 (by kernel_rfl) (by kernel_rfl) (by kernel_rfl) (by kernel_rfl)
theorem laid_met (os : Os) (args : Array Value) : laidMet Tryz.prog Rows.fnMatchNotRow.laid ((laidWorld os).forCall (fun _ _ => 0) ⟨#[], args, []⟩).memory := by
  obtain ⟨p0, h0⟩ := vm0 os args
  obtain ⟨p1, h1⟩ := vm1 os args
  obtain ⟨p2, h2⟩ := vm2 os args
  obtain ⟨p3, h3⟩ := vm3 os args
  obtain ⟨p4, h4⟩ := vm4 os args
  obtain ⟨p5, h5⟩ := vm5 os args
  obtain ⟨p6, h6⟩ := vm6 os args
  obtain ⟨p7, h7⟩ := vm7 os args
  exact (((((((h0.append h1 (of_decide_eq_true (by kernel_rfl))).append h2 (of_decide_eq_true (by kernel_rfl))).append h3 (of_decide_eq_true (by kernel_rfl))).append h4 (of_decide_eq_true (by kernel_rfl))).append h5 (of_decide_eq_true (by kernel_rfl))).append h6 (of_decide_eq_true (by kernel_rfl))).append h7 (of_decide_eq_true (by kernel_rfl))).met
end Go.Proofs.YtdfbokmjipdolaaGreatDoor
