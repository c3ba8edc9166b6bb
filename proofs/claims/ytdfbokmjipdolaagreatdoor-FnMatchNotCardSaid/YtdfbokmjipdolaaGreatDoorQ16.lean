/- Texts of the proof, joined: C25, C26. -/
import Derived.Test.YtdfbokmjipdolaaGreatDoorC24
import Derived.Deep.RegionWith
import Derived.BigCall
import Derived.Lib.IfaceEq
set_option linter.unusedVariables false
set_option linter.unusedSimpArgs false
/- strconv.ParseFloat of Go's own library, and the reference's Number and Nan. -/
namespace Go.Proofs.YtdfbokmjipdolaaGreatDoor
open Go.RowKit

/-- the text is a number's, to the end, and not too large -/
def stdOk (l : List Nat) : Prop := match sp l with
  | some r => r.2 = l.length
  | none => match rf l with
    | none => False
    | some r => r.i = l.length ∧ ¬ ATBig l r
def stdNan (l : List Nat) : Prop := sp l = some (true, l.length)

def IPOk (l : List Nat) (b : Nat) (v : Value) : Prop := ((v = .iface 79 (.int .i64 1) ∨ v = .iface 79 (.int .i64 2)) ∧ ¬ stdOk l) ∨ (v = .nilIface ∧ stdOk l ∧ (nan64 b = true ↔ stdNan l))
theorem AT_len {l : List Nat} {b : Nat} {v : Value} (h : ATOk l b l.length v) : IPOk l b v := by
  unfold ATOk at h
  unfold IPOk stdOk stdNan
  cases hs : sp l with
  | some r =>
    rw [hs] at h
    obtain ⟨h1, h2, h3⟩ := h
    refine Or.inr ⟨h2, by simp only; omega, ?_⟩
    rw [h3]
    obtain ⟨r1, r2⟩ := r
    have : r2 = l.length := by simp only at h1; omega
    subst this
    simp
  | none =>
    rw [hs] at h
    cases hr : rf l with
    | none => rw [hr] at h; exact Or.inl ⟨Or.inr h.1, fun h => h⟩
    | some r =>
      rw [hr] at h
      obtain ⟨h1, h2, h3⟩ := h
      rcases h3 with ⟨h3, h4⟩ | ⟨h3, h4⟩
      · exact Or.inl ⟨Or.inl h3, fun h => h.2 h4⟩
      · refine Or.inr ⟨h3, ⟨by omega, h4⟩, ?_⟩
        rw [h2]; simp
theorem AT_nlen {l : List Nat} {b : Nat} {n : Int} {v : Value} (h : ATOk l b n v) (hn : n ≠ l.length) : ¬ stdOk l := by
  unfold ATOk at h
  unfold stdOk
  cases hs : sp l with
  | some r => rw [hs] at h; intro h2; apply hn; rw [h.1]; simp only at h2; omega
  | none =>
    rw [hs] at h
    cases hr : rf l with
    | none => exact fun h => h
    | some r => rw [hr] at h; intro h2; apply hn; rw [h.1]; have := h2.1; omega
def IPost (l : List Nat) (w : World) (e : Ending) (w' : World) : Prop := Below w.heap.size w w' ∧ ∃ (b : Nat) (v : Value), e = .returned (.tuple #[.float .f64 b, v]) ∧ IPOk l b v

theorem prefix_any (s : ByteArray) (w : World) (hs : s.size ≤ 400) (hg : SG w) : Calls Tryz.prog 28 #[.string s, .int .i64 64] w (ATPost (bsN s) w) := by
  have H := Lib.hid (atof64_any s w hs hg)
  clear hg
  go_enter Tryz.func28, Tryz.ntmps28
  go_wp2_with fail
  refine H.out.mono ?_
  rintro e w' ⟨hb, b, n, v, rfl, hok⟩
  have Hb := Lib.hid hb
  have Hok := Lib.hid hok
  clear hb hok
  go_wp2_with fail
  go_ret3
  exact ⟨Hb.out, b, n, v, rfl, Hok.out⟩
theorem inner_any (s : ByteArray) (w : World) (hs : s.size ≤ 400) (hg : SG w) : Calls Tryz.prog 17 #[.string s, .int .i64 64] w (IPost (bsN s) w) := by
  have H := Lib.hid (prefix_any s w hs hg)
  clear hg
  go_enter Tryz.func17, Tryz.ntmps17
  go_wp2_with fail
  refine H.out.mono ?_
  rintro e w' ⟨hb, b, n, v, rfl, hok⟩
  have Hb := Lib.hid hb
  have Hok := Lib.hid hok
  clear hb hok
  by_cases hn : n = s.size
  · have q : (n != (s.size : Int)) = false := by rw [bne_eq_false_iff_eq]; exact hn
    have Hn := Lib.hid hn
    clear hn
    go_wp2_with fail
    go_ret2
    refine ⟨Hb.out, b, v, rfl, AT_len ?_⟩
    rw [bsN_len, ← Hn.out]; exact Hok.out
  · have q : (n != (s.size : Int)) = true := by rw [bne_iff_ne]; exact hn
    have Hn := Lib.hid hn
    clear hn
    go_wp2_with fail
    go_ret2
    exact ⟨Hb.out, 0, _, rfl, Or.inl ⟨Or.inr rfl, AT_nlen Hok.out (by rw [bsN_len]; exact Hn.out)⟩⟩

/-- a pointer to a new block -/
def PtrPost (w : World) (e : Ending) (w' : World) : Prop := Below w.heap.size w w' ∧ ∃ N, e = .returned (.pointer (some ⟨N, 0, none⟩))
def ErrPost (w : World) (e : Ending) (w' : World) : Prop := Below w.heap.size w w' ∧ ∃ t v, e = .returned (.iface t v)
theorem syn_any (fn s : ByteArray) (w : World) (hs : s.size ≤ 400) (te : TypeId) (pe : Value) (hv : w.cell? ⟨0, 0, none⟩ = some (.iface te pe)) : Calls Tryz.prog 29 #[.string fn, .string s] w (PtrPost w) := by
  have hG : 0 < w.heap.size := World.block_lt_of_cell? _ _ hv
  have hvd : w.drew.cell? ⟨0, 0, none⟩ = some (.iface te pe) := hv
  go_enter Tryz.func29, Tryz.ntmps29
  go_wp2
  go_region_with (
      go_at_call 42
      refine (Tryz.stringslite_Clone s _ (by omega)).mono ?_
      rintro e w2 ⟨rfl, hbel⟩
      have hv2 : w2.cell? ⟨0, 0, none⟩ = some (.iface te pe) := (hbel.cell (show (⟨0, 0, none⟩ : Addr).block < w.drew.heap.size from hG)).trans hvd)
  all_goals (
    go_wp2
    go_ret
    have hs2 : w.heap.size ≤ w2.heap.size := hbel.size
    exact ⟨((Below.drew (Below.refl _ w)).trans hbel).alloc hs2 _, _, rfl⟩)
theorem rng_any (fn s : ByteArray) (w : World) (hs : s.size ≤ 400) (te : TypeId) (pe : Value) (hG : 1 < w.heap.size) (hv : w.cell? ⟨1, 0, none⟩ = some (.iface te pe)) : Calls Tryz.prog 30 #[.string fn, .string s] w (PtrPost w) := by
  have hvd : w.drew.cell? ⟨1, 0, none⟩ = some (.iface te pe) := hv
  go_enter Tryz.func30, Tryz.ntmps30
  go_wp2
  go_region_with (
      go_at_call 42
      refine (Tryz.stringslite_Clone s _ (by omega)).mono ?_
      rintro e w2 ⟨rfl, hbel⟩
      have hv2 : w2.cell? ⟨1, 0, none⟩ = some (.iface te pe) := (hbel.cell (show (⟨1, 0, none⟩ : Addr).block < w.drew.heap.size from hG)).trans hvd)
  all_goals (
    go_wp2
    go_ret
    have hs2 : w.heap.size ≤ w2.heap.size := hbel.size
    exact ⟨((Below.drew (Below.refl _ w)).trans hbel).alloc hs2 _, _, rfl⟩)
theorem eql79 (a b : Int) (W : World) : Sem.run Tryz.prog (binOp .eql 41 (.iface 79 (.int .i64 a)) (.iface 79 (.int .i64 b))) W = .ok (.bool (a == b)) W :=
  Lib.run_eql_iface_int W a b Tryz.underlying41 (by kernel_rfl) Tryz.underlying79
theorem toErr2 (fn s : ByteArray) (w : World) (hs : s.size ≤ 400) (hg : SG w) : Calls Tryz.prog 18 #[.string fn, .string s, .int .i64 0, .int .i64 64, .iface 79 (.int .i64 2)] w (ErrPost w) := by
  obtain ⟨te, pe, he⟩ := hg.e0
  have H := Lib.hid (syn_any fn s w hs te pe he)
  clear hg he
  have q := fun W => eql79 2 2 W
  go_enter Tryz.func18, Tryz.ntmps18
  go_wp2_with fail
  refine H.out.mono ?_
  rintro e w' ⟨hb, N, rfl⟩
  go_wp2_with fail
  go_ret
  exact ⟨hb, _, _, rfl⟩
theorem toErr1 (fn s : ByteArray) (w : World) (hs : s.size ≤ 400) (hg : SG w) : Calls Tryz.prog 18 #[.string fn, .string s, .int .i64 0, .int .i64 64, .iface 79 (.int .i64 1)] w (ErrPost w) := by
  obtain ⟨te, pe, he⟩ := hg.e1
  have H := Lib.hid (rng_any fn s w hs te pe (by have := hg.sz; omega) he)
  clear hg he
  have q := fun W => eql79 1 2 W
  have q2 := fun W => eql79 1 1 W
  go_enter Tryz.func18, Tryz.ntmps18
  go_wp2_with fail
  refine H.out.mono ?_
  rintro e w' ⟨hb, N, rfl⟩
  go_wp2_with fail
  go_ret
  exact ⟨hb, _, _, rfl⟩
end Go.Proofs.YtdfbokmjipdolaaGreatDoor
/- The reference's Number and Nan: whether a text is a number, by Go's own strconv. -/
namespace Go.Proofs.YtdfbokmjipdolaaGreatDoor
open Go.RowKit

def StdPost (l : List Nat) (w : World) (e : Ending) (w' : World) : Prop := Below w.heap.size w w' ∧ ∃ (b : Nat) (v : Value), e = .returned (.tuple #[.float .f64 b, v]) ∧ (((∃ t u, v = .iface t u) ∧ ¬ stdOk l) ∨ (v = .nilIface ∧ stdOk l ∧ (nan64 b = true ↔ stdNan l)))
theorem std_any (s : ByteArray) (w : World) (hs : s.size ≤ 400) (hg : SG w) : Calls Tryz.prog 13 #[.string s, .int .i64 64] w (StdPost (bsN s) w) := by
  have H := Lib.hid (inner_any s w hs hg)
  have Hg := Lib.hid hg
  clear hg
  go_enter Tryz.func13, Tryz.ntmps13
  go_wp2_with fail
  refine H.out.mono ?_
  rintro e w' ⟨hb, b, v, rfl, hok⟩
  have Hb := Lib.hid hb
  have Hg' := Lib.hid (Hg.out.later hb)
  have Hsz := Lib.hid hb.size
  clear hb
  rcases hok with ⟨rfl | rfl, hn⟩ | ⟨rfl, h1, h2⟩
  · have Hn := Lib.hid hn
    clear hn
    go_wp2_with fail
    refine (toErr1 _ s w' hs Hg'.out).mono ?_
    rintro e w2 ⟨hb2, t, v, rfl⟩
    have Hb2 := Lib.hid (Hb.out.trans (hb2.mono Hsz.out))
    clear hb2
    go_wp2_with fail
    go_ret2
    exact ⟨Hb2.out, b, _, rfl, Or.inl ⟨⟨_, _, rfl⟩, Hn.out⟩⟩
  · have Hn := Lib.hid hn
    clear hn
    go_wp2_with fail
    refine (toErr2 _ s w' hs Hg'.out).mono ?_
    rintro e w2 ⟨hb2, t, v, rfl⟩
    have Hb2 := Lib.hid (Hb.out.trans (hb2.mono Hsz.out))
    clear hb2
    go_wp2_with fail
    go_ret2
    exact ⟨Hb2.out, b, _, rfl, Or.inl ⟨⟨_, _, rfl⟩, Hn.out⟩⟩
  · have H1 := Lib.hid h1
    have H2 := Lib.hid h2
    clear h1 h2
    go_wp2_with fail
    go_ret2
    exact ⟨Hb.out, b, _, rfl, Or.inr ⟨rfl, H1.out, H2.out⟩⟩
def NumPost (l : List Nat) (w : World) (e : Ending) (w' : World) : Prop := Below w.heap.size w w' ∧ ∃ (b : Nat) (ok : Bool), e = .returned (.tuple #[.float .f64 b, .bool ok]) ∧ (ok = true ↔ stdOk l) ∧ (ok = true → (nan64 b = true ↔ stdNan l))
theorem number_any (s : ByteArray) (w : World) (hs : s.size ≤ 400) (hg : SG w) : Calls Tryz.prog 7 #[.string s] w (NumPost (bsN s) w) := by
  have H := Lib.hid (std_any s w hs hg)
  clear hg
  go_enter Tryz.func7, Tryz.ntmps7
  go_wp2_with fail
  refine H.out.mono ?_
  rintro e w' ⟨hb, b, v, rfl, hok⟩
  have Hb := Lib.hid hb
  clear hb
  rcases hok with ⟨⟨t, u, rfl⟩, hn⟩ | ⟨rfl, h1, h2⟩
  · have Hn := Lib.hid hn
    clear hn
    go_wp2_with fail
    go_quiet (fail)
    go_wp2_with fail
    go_ret2
    exact ⟨⟨Hb.out.os, Hb.out.tape, Hb.out.output, Hb.out.size, Hb.out.block⟩, b, false, rfl, by simp [Hn.out], by simp⟩
  · have H1 := Lib.hid h1
    have H2 := Lib.hid h2
    clear h1 h2
    go_wp2_with fail
    go_quiet (fail)
    go_wp2_with fail
    go_ret2
    exact ⟨⟨Hb.out.os, Hb.out.tape, Hb.out.output, Hb.out.size, Hb.out.block⟩, b, true, rfl, by simp [H1.out], fun _ => H2.out⟩
theorem stdNan_ok {l : List Nat} (h : stdNan l) : stdOk l := by unfold stdNan at h; unfold stdOk; rw [h]
theorem order_nan (b : Nat) : (FloatKind.f64.format.order b b != some Ordering.eq) = nan64 b := by
  have e : FloatKind.f64.format = Ieee.double := rfl
  rw [e]
  cases h : nan64 b
  · rw [order_self b h]; rfl
  · rw [(order_none b b).2 (Or.inl h)]; rfl
def NanPost (l : List Nat) (w : World) (e : Ending) (w' : World) : Prop := Below w.heap.size w w' ∧ ∃ y : Bool, e = .returned (.bool y) ∧ (y = true ↔ stdNan l)
theorem nanS_any (s : ByteArray) (w : World) (hs : s.size ≤ 400) (hg : SG w) : Calls Tryz.prog 9 #[.string s] w (NanPost (bsN s) w) := by
  have H := Lib.hid (number_any s w hs hg)
  clear hg
  go_enter Tryz.func9, Tryz.ntmps9
  go_wp2_with fail
  refine H.out.mono ?_
  rintro e w' ⟨hb, b, ok, rfl, h1, h2⟩
  have Hb := Lib.hid hb
  have H1 := Lib.hid h1
  have H2 := Lib.hid h2
  clear hb h1 h2
  cases ok
  · go_wp2_with fail
    go_ret
    exact ⟨Hb.out, false, rfl, by simp only [Bool.false_eq_true, false_iff]; exact fun h => by have := H1.out.2 (stdNan_ok h); cases this⟩
  · have hq := order_nan b
    go_wp2_with fail
    go_ret
    exact ⟨Hb.out, nan64 b, rfl, H2.out trivial⟩
end Go.Proofs.YtdfbokmjipdolaaGreatDoor
