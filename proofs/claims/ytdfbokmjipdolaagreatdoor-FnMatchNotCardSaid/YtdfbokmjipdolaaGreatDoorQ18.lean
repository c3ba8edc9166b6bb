/- Texts of the proof, joined: H2, H3. -/
import Derived.Test.YtdfbokmjipdolaaGreatDoorH1
import Derived.Test.YtdfbokmjipdolaaGreatDoorQ11
import Derived.Deep.QuietTactic
set_option linter.unusedVariables false
set_option linter.unusedSimpArgs false
/- unicode.SimpleFold, plain: within four steps a rune comes back. -/
namespace Go.Proofs.YtdfbokmjipdolaaGreatDoor
open Go.RowKit Go.Lib

theorem chkL_mem {x : CaseRow} : ∀ {l : List CaseRow}, chkL l = true → x ∈ l → chkRow x = true
  | [], _, h => by cases h
  | y :: l, h, hx => by
    unfold chkL at h
    cases hy : chkRow y with
    | false => rw [hy] at h; cases h
    | true =>
      rw [hy] at h
      rcases List.mem_cons.1 hx with rfl | hx
      · exact hy
      · exact chkL_mem h hx
theorem mem_chunk {α : Type} {l : List α} {i a n : Nat} (h : i < l.length) (h1 : a ≤ i) (h2 : i < a + n) : l[i] ∈ (l.drop a).take n := by
  rw [List.mem_iff_getElem]
  refine ⟨i - a, by rw [List.length_take, List.length_drop]; omega, ?_⟩
  rw [List.getElem_take, List.getElem_drop]
  congr 1
  omega
theorem chk_row {i : Nat} (hi : i < 336) : chkRow (caseA.getD i (0, 0, 0, 0, 0)) = true := by
  rw [caseA_get hi]
  have hl : i < caseT.length := by rw [caseT_len]; exact hi
  have hk : (0 ≤ i ∧ i < 0 + 28) ∨ (28 ≤ i ∧ i < 28 + 28) ∨ (56 ≤ i ∧ i < 56 + 28) ∨ (84 ≤ i ∧ i < 84 + 28) ∨ (112 ≤ i ∧ i < 112 + 28) ∨ (140 ≤ i ∧ i < 140 + 28) ∨ (168 ≤ i ∧ i < 168 + 28) ∨ (196 ≤ i ∧ i < 196 + 28) ∨ (224 ≤ i ∧ i < 224 + 28) ∨ (252 ≤ i ∧ i < 252 + 28) ∨ (280 ≤ i ∧ i < 280 + 28) ∨ (308 ≤ i ∧ i < 308 + 28) := by omega
  rcases hk with h | h | h | h | h | h | h | h | h | h | h | h
  · exact chkL_mem chk0 (mem_chunk hl h.1 h.2)
  · exact chkL_mem chk1 (mem_chunk hl h.1 h.2)
  · exact chkL_mem chk2 (mem_chunk hl h.1 h.2)
  · exact chkL_mem chk3 (mem_chunk hl h.1 h.2)
  · exact chkL_mem chk4 (mem_chunk hl h.1 h.2)
  · exact chkL_mem chk5 (mem_chunk hl h.1 h.2)
  · exact chkL_mem chk6 (mem_chunk hl h.1 h.2)
  · exact chkL_mem chk7 (mem_chunk hl h.1 h.2)
  · exact chkL_mem chk8 (mem_chunk hl h.1 h.2)
  · exact chkL_mem chk9 (mem_chunk hl h.1 h.2)
  · exact chkL_mem chk10 (mem_chunk hl h.1 h.2)
  · exact chkL_mem chk11 (mem_chunk hl h.1 h.2)
theorem chkR_mem {x : CaseRow} {r : Nat} : ∀ {n a : Nat}, chkR x n a = true → a ≤ r → r < a + n → chk x r = true
  | 0, a, _, h1, h2 => by omega
  | n + 1, a, h, h1, h2 => by
    unfold chkR at h
    cases hy : chk x a with
    | false => rw [hy] at h; cases h
    | true =>
      rw [hy] at h
      by_cases e : r = a
      · rw [e]; exact hy
      · exact chkR_mem h (by omega) (by omega)
theorem chk_at {i r : Nat} (hi : i < 336) (h1 : (caseA.getD i (0, 0, 0, 0, 0)).1 ≤ r) (h2 : r ≤ (caseA.getD i (0, 0, 0, 0, 0)).2.1) : chk (caseA.getD i (0, 0, 0, 0, 0)) r = true :=
  chkR_mem (chk_row hi) h1 (by omega)
theorem inT_false {r : Nat} (h : inT r = false) : 128 ≤ r ∧ orb r = none := by
  unfold inT at h
  cases h1 : Nat.blt r 128 with
  | true => rw [h1] at h; cases h
  | false =>
    rw [h1] at h
    constructor
    · refine Decidable.byContradiction fun hc => ?_
      have h3 : Nat.blt r 128 = true := Nat.ble_eq_true_of_le (by omega)
      rw [h3] at h1; cases h1
    · have h2 : inO r orbT = false := h
      rw [inO_iff] at h2
      unfold orb
      cases h4 : orbT.find? (fun p => p.1 == r) with
      | none => rfl
      | some p => rw [h4] at h2; cases h2
theorem inT_true {r : Nat} (h : inT r = true) : r < 128 ∨ ∃ t, orb r = some t := by
  unfold inT at h
  cases h1 : Nat.blt r 128 with
  | true => left; exact Nat.le_of_ble_eq_true h1
  | false =>
    right
    rw [h1] at h
    have h2 : inO r orbT = true := h
    rw [inO_iff] at h2
    unfold orb
    cases h4 : orbT.find? (fun p => p.1 == r) with
    | none => rw [h4] at h2; cases h2
    | some p => exact ⟨p.2, rfl⟩
def tab (r : Nat) : Nat := match Nat.blt r 128 with
  | true => ascT.getD r 0
  | false => match orb r with
    | some t => t
    | none => r
theorem sf_tab {r : Nat} (hr : r ≤ 1114111) (h : inT r = true) : sf r = tab r := by
  unfold sf tab
  rw [if_neg (by omega)]
  rcases inT_true h with h1 | ⟨t, h1⟩
  · have h3 : Nat.blt r 128 = true := Nat.ble_eq_true_of_le h1
    rw [if_pos h1, h3]
  · by_cases h2 : r < 128
    · have h3 : Nat.blt r 128 = true := Nat.ble_eq_true_of_le h2
      rw [if_pos h2, h3]
    · have h3 : Nat.blt r 128 = false := by
        cases h4 : Nat.blt r 128 with
        | false => rfl
        | true => exact absurd (Nat.le_of_ble_eq_true h4) (by omega)
      rw [if_neg h2, h3, h1]
def tabChk (r : Nat) : Bool := inT r && inT (tab r) && inT (tab (tab r)) && inT (tab (tab (tab r))) && Nat.ble r 1114111 && Nat.ble (tab r) 1114111 && Nat.ble (tab (tab r)) 1114111 && Nat.ble (tab (tab (tab r))) 1114111 &&
  (Nat.beq (tab r) r || Nat.beq (tab (tab r)) r || Nat.beq (tab (tab (tab r))) r || Nat.beq (tab (tab (tab (tab r)))) r)
theorem tab_asc : (List.range 128).all tabChk = true := by kernel_rfl
theorem tab_orb : (orbT.map (·.1)).all tabChk = true := by kernel_rfl
theorem tab_chk {r : Nat} (h : inT r = true) : tabChk r = true := by
  rcases inT_true h with h1 | ⟨t, h1⟩
  · exact List.all_eq_true.1 tab_asc r (List.mem_range.2 h1)
  · unfold orb at h1
    cases h4 : orbT.find? (fun p => p.1 == r) with
    | none => rw [h4] at h1; cases h1
    | some p =>
      have hm := List.mem_of_find?_eq_some h4
      have he := List.find?_some h4
      have : p.1 = r := by simpa using he
      exact List.all_eq_true.1 tab_orb r (List.mem_map.2 ⟨p, hm, this⟩)
/-- steps of SimpleFold -/
def it : Nat → Nat → Nat
  | 0, r => r
  | n + 1, r => it n (sf r)
theorem it_succ : ∀ (n r : Nat), it (n + 1) r = sf (it n r)
  | 0, r => rfl
  | n + 1, r => by rw [it, it_succ n (sf r)]; rfl
theorem lookup_row {r i : Nat} (h : lookupIdx caseA (r : Int) (caseA.size + 1) 0 caseA.size = some i) : i < 336 ∧ (caseA.getD i (0, 0, 0, 0, 0)).1 ≤ r ∧ r ≤ (caseA.getD i (0, 0, 0, 0, 0)).2.1 := by
  have h2 := lookupIdx_some caseA (r : Int) (caseA.size + 1) 0 caseA.size i h
  rw [caseA_size] at h2
  omega
/-- outside the tables, in a row -/
theorem sf_row {r i : Nat} (hr : r ≤ 1114111) (ht : inT r = false) (h : lookupIdx caseA (r : Int) (caseA.size + 1) 0 caseA.size = some i) :
    sfRow (caseA.getD i (0, 0, 0, 0, 0)) r = ((sf r : Nat) : Int) ∧ (sf r = r ∨ (sf r ≤ 1114111 ∧ inT (sf r) = false ∧ sf (sf r) = r)) := by
  obtain ⟨h1, h2, h3⟩ := lookup_row h
  have hc := chk_at h1 h2 h3
  obtain ⟨h128, horb⟩ := inT_false ht
  have hs : sf r = (sfRow (caseA.getD i (0, 0, 0, 0, 0)) r).toNat := by
    unfold sf
    rw [if_neg (by omega), if_neg (by omega), horb, h]
  unfold chk at hc
  rw [ht] at hc
  cases hl : sfRow (caseA.getD i (0, 0, 0, 0, 0)) r with
  | negSucc n => rw [hl] at hc; cases hc
  | ofNat l =>
    rw [hl] at hc hs
    have hs2 : sf r = l := hs
    refine ⟨by rw [hs2]; rfl, ?_⟩
    rw [hs2]
    unfold okL at hc
    dsimp only at hc
    cases e1 : Nat.beq l r with
    | true => left; exact Nat.eq_of_beq_eq_true e1
    | false =>
      right
      rw [e1] at hc
      dsimp only at hc
      cases e2 : Nat.ble l 1114111 with
      | false => rw [e2] at hc; cases hc
      | true =>
        rw [e2] at hc
        dsimp only at hc
        cases e3 : inT l with
        | true => rw [e3] at hc; cases hc
        | false =>
          rw [e3] at hc
          dsimp only at hc
          have hl2 := Nat.le_of_ble_eq_true e2
          refine ⟨hl2, rfl, ?_⟩
          cases e4 : scan l caseT with
          | none => rw [e4] at hc; cases hc
          | some y =>
            rw [e4] at hc
            dsimp only at hc
            obtain ⟨m1, m2, m3⟩ := scan_mem e4
            obtain ⟨j, hj, hy⟩ := List.getElem_of_mem m1
            have hj2 : j < 336 := by rw [caseT_len] at hj; exact hj
            have hg : caseA.getD j (0, 0, 0, 0, 0) = y := by rw [caseA_get hj2]; exact hy
            have hlk : lookupIdx caseA (l : Int) (caseA.size + 1) 0 caseA.size = some j := by
              rw [caseA_size]
              exact lookup_full hj2 (by rw [hg]; exact m2) (by rw [hg]; exact m3) 337 0 336 (by omega) hj2 (by omega) (by omega)
            obtain ⟨h128', horb'⟩ := inT_false e3
            have hs3 : sf l = (sfRow y l).toNat := by
              unfold sf
              rw [if_neg (by omega), if_neg (by omega), horb', hlk]
              dsimp only
              rw [hg]
            rw [hs3]
            cases e5 : sfRow y (l : Int) with
            | negSucc n => rw [e5] at hc; cases hc
            | ofNat q => rw [e5] at hc; exact Nat.eq_of_beq_eq_true hc
theorem sf_norow {r : Nat} (hr : r ≤ 1114111) (ht : inT r = false) (h : lookupIdx caseA (r : Int) (caseA.size + 1) 0 caseA.size = none) : sf r = r := by
  obtain ⟨h128, horb⟩ := inT_false ht
  unfold sf
  rw [if_neg (by omega), if_neg (by omega), horb, h]
theorem sf_cyc {r : Nat} (hr : r ≤ 1114111) : sf r ≤ 1114111 ∧ ∃ m, 1 ≤ m ∧ m ≤ 4 ∧ it m r = r := by
  cases ht : inT r with
  | true =>
    have hc := tab_chk ht
    unfold tabChk at hc
    simp only [Bool.and_eq_true, Bool.or_eq_true] at hc
    obtain ⟨⟨⟨⟨⟨⟨⟨⟨a1, a2⟩, a3⟩, a4⟩, b1⟩, b2⟩, b3⟩, b4⟩, hh⟩ := hc
    have s1 := sf_tab hr ht
    have s2 := sf_tab (Nat.le_of_ble_eq_true b2) a2
    have s3 := sf_tab (Nat.le_of_ble_eq_true b3) a3
    have s4 := sf_tab (Nat.le_of_ble_eq_true b4) a4
    refine ⟨by rw [s1]; exact Nat.le_of_ble_eq_true b2, ?_⟩
    rcases hh with ((hh | hh) | hh) | hh
    · exact ⟨1, by decide, by decide, by show sf r = r; rw [s1]; exact Nat.eq_of_beq_eq_true hh⟩
    · exact ⟨2, by decide, by decide, by show sf (sf r) = r; rw [s1, s2]; exact Nat.eq_of_beq_eq_true hh⟩
    · exact ⟨3, by decide, by decide, by show sf (sf (sf r)) = r; rw [s1, s2, s3]; exact Nat.eq_of_beq_eq_true hh⟩
    · exact ⟨4, by decide, by decide, by show sf (sf (sf (sf r))) = r; rw [s1, s2, s3, s4]; exact Nat.eq_of_beq_eq_true hh⟩
  | false =>
    cases h : lookupIdx caseA (r : Int) (caseA.size + 1) 0 caseA.size with
    | none =>
      have := sf_norow hr ht h
      exact ⟨by omega, 1, by decide, by decide, this⟩
    | some i =>
      obtain ⟨_, h2 | ⟨h2, _, h3⟩⟩ := sf_row hr ht h
      · exact ⟨by omega, 1, by decide, by decide, h2⟩
      · exact ⟨h2, 2, by decide, by decide, h3⟩
theorem sf_far {r : Nat} (h : 1114111 < r) : sf r = r := by unfold sf; rw [if_pos h]
end Go.Proofs.YtdfbokmjipdolaaGreatDoor
/- unicode.SimpleFold: the walk. -/
namespace Go.Proofs.YtdfbokmjipdolaaGreatDoor
open Go.RowKit Go.Lib

/-- the folding tables in the world -/
structure FG (w : World) : Prop where
  asc : ∀ i, i < 128 → w.cell? ⟨5, i, none⟩ = some (.int .u16 (ascT.getD i 0 : Nat))
  orb : ∃ tb ofs cap : Nat, w.cell? ⟨6, 0, none⟩ = some (.slice (some ⟨tb, ofs, none⟩) 94 cap) ∧ ∀ i, i < 94 → w.cell? ⟨tb, ofs + i * 2, none⟩ = some (.int .u16 ((orbT.getD i (0, 0)).1 : Nat)) ∧ w.cell? ⟨tb, ofs + i * 2 + 1, none⟩ = some (.int .u16 ((orbT.getD i (0, 0)).2 : Nat))
  cs : CaseVar 7 caseA w
  u8 : Lib.Utf8Tabs 12 13 w
  sz : 17 ≤ w.heap.size
theorem FG.later {w w' : World} (h : FG w) (hb : Below w.heap.size w w') : FG w' := by
  have hs := h.sz
  refine ⟨fun i hi => by rw [hb.cell (by show 5 < w.heap.size; omega)]; exact h.asc i hi, ?_, ?_, ?_, Nat.le_trans h.sz hb.size⟩
  · obtain ⟨tb, ofs, cap, h1, h2⟩ := h.orb
    refine ⟨tb, ofs, cap, by rw [hb.cell (by show 6 < w.heap.size; omega)]; exact h1, fun i hi => ?_⟩
    obtain ⟨a, b⟩ := h2 i hi
    have hlt := World.block_lt_of_cell? _ _ a
    exact ⟨by rw [hb.cell hlt]; exact a, by rw [hb.cell (World.block_lt_of_cell? _ _ b)]; exact b⟩
  · exact ((UG.mk h.cs h.u8).later hb (by omega)).cs
  · exact ((UG.mk h.cs h.u8).later hb (by omega)).u8
theorem orb_u16 : ∀ i, i < 94 → (orbT.getD i (0, 0)).1 < 65536 ∧ (orbT.getD i (0, 0)).2 < 65536 := by decide +kernel
theorem asc_u16 : ∀ i, i < 128 → ascT.getD i 0 < 65536 := by decide +kernel

set_option maxRecDepth 100000 in
theorem fold_low (r : Nat) (w : World) (hr : r < 128) (hg : FG w) : Calls Tryz.prog 47 #[.int .i32 r] w fun e w' => e = .returned (.int .i32 (sf r)) ∧ Below w.heap.size w w' := by
  have c := hg.asc r hr
  have hu := asc_u16 r hr
  have e : sf r = ascT.getD r 0 := by unfold sf; rw [if_neg (by omega), if_pos hr]
  rw [e]
  obtain ⟨y, hy⟩ : ∃ y, y = ascT.getD r 0 := ⟨_, rfl⟩
  rw [← hy] at c hu ⊢
  clear e hy hg
  go_enter Tryz.func47, Tryz.ntmps47
  go_wp2_with fail
  go_ret
  exact ⟨rfl, Below.refl _ _⟩
theorem inT_mk {r : Nat} (h : 128 ≤ r) (ho : orb r = none) : inT r = false := by
  cases ht : inT r with
  | false => rfl
  | true =>
    rcases inT_true ht with h1 | ⟨t, h1⟩
    · omega
    · rw [ho] at h1; cases h1
theorem half_nat (a b : Nat) : ((a : Int) + b) / 2 = (((a + b) / 2 : Nat) : Int) := by omega
set_option maxRecDepth 100000 in
set_option maxHeartbeats 2000000 in
theorem fold_high (r : Nat) (w : World) (hr : 128 ≤ r) (hr2 : r ≤ 1114111) (hg : FG w) : Calls Tryz.prog 47 #[.int .i32 r] w fun e w' => e = .returned (.int .i32 (sf r)) ∧ Below w.heap.size w w' := by
  have HG := Lib.hid hg
  obtain ⟨tb, ofs, cap, g6, gt⟩ := hg.orb
  obtain ⟨R, oR, capR, g7, hT⟩ := hg.cs
  have GT := Lib.hid gt
  have HT := Lib.hid hT
  have hcs : caseA.size = 336 := caseA_size
  rw [hcs] at g7
  obtain ⟨N, hN⟩ : ∃ N : Nat, N = 94 := ⟨_, rfl⟩
  obtain ⟨V, hV⟩ : ∃ V, V = sf r := ⟨_, rfl⟩
  rw [← hV]
  have HV := Lib.hid hV
  clear hg gt hT hV
  go_enter Tryz.func47, Tryz.ntmps47
  go_upto_block 0 with fail
  go_cut [3, 4] (fun s3 s4 w1 => ∃ i : Nat, s3 = .int .i64 i ∧ i ≤ 94 ∧ Hid (∀ j, j < i → (orbT.getD j (0, 0)).1 < r) ∧ Hid (∀ j, i ≤ j → j < 94 → r ≤ (orbT.getD j (0, 0)).1) ∧ w1 = w)
  case first =>
    as_aux_lemma =>
      go_wp2_with fail
      go_loopg [3, 4] 94 (fun g s3 s4 w1 => ∃ lo hi : Nat, g = hi - lo ∧ s3 = .int .i64 lo ∧ s4 = .int .i64 hi ∧ lo ≤ hi ∧ hi ≤ 94 ∧ Hid (∀ j, j < lo → (orbT.getD j (0, 0)).1 < r) ∧ Hid (∀ j, hi ≤ j → j < 94 → r ≤ (orbT.getD j (0, 0)).1) ∧ w1 = w)
      case atStart => exact ⟨0, 94, rfl, rfl, rfl, by decide, by decide, Lib.hid (fun j h => by omega), Lib.hid (fun j h h2 => by omega), rfl⟩
      case round =>
        obtain ⟨lo, hi, hgm, rfl, rfl, h1, h2, hlo, hhi, rfl⟩ := hrel
        have Hgm := Lib.hid hgm
        clear hgm
        by_cases hlt : lo < hi
        · obtain ⟨m, hm⟩ : ∃ m, m = (lo + hi) / 2 := ⟨_, rfl⟩
          have hm1 : lo ≤ m := by omega
          have hm2 : m < hi := by omega
          have em : ((lo : Int) + hi) / 2 = (m : Int) := by rw [hm]; omega
          have HM := Lib.hid hm
          clear hm
          obtain ⟨c1, c2⟩ := GT.out m (by omega)
          have hu := (orb_u16 m (by omega)).1
          obtain ⟨y, hy⟩ : ∃ y, y = (orbT.getD m (0, 0)).1 := ⟨_, rfl⟩
          rw [← hy] at c1 hu
          have HY := Lib.hid hy
          clear hy c2
          by_cases hyr : y < r
          · go_wp2_with fail
            go_roundg (hi - (m + 1))
            case measure => have := Hgm.out; omega
            case rel => exact ⟨m + 1, hi, rfl, by go_num, rfl, by omega, h2, Lib.hid (fun j hj => by
                have hye := HY.out
                by_cases e : j = m
                · rw [e]; omega
                · have := orb_lt (i := j) (j := m) (by omega) (by omega); omega), hhi, rfl⟩
          · go_wp2_with fail
            go_roundg (m - lo)
            case measure => have := Hgm.out; omega
            case rel => exact ⟨lo, m, rfl, rfl, rfl, hm1, by omega, hlo, Lib.hid (fun j hj hj2 => by
                have hye := HY.out
                by_cases e : j = m
                · rw [e]; omega
                · have := orb_lt (i := m) (j := j) (by omega) (by omega); omega), rfl⟩
        · go_wp2_with fail
          go_meet
          exact ⟨lo, rfl, by omega, hlo, Lib.hid (fun j hj hj2 => hhi.out j (by omega) hj2), rfl⟩
  case rest =>
    obtain ⟨i, rfl, hi, hlo, hhi, rfl⟩ := hcut
    by_cases hy : i < 94 ∧ (orbT.getD i (0, 0)).1 = r
    · as_aux_lemma =>
        obtain ⟨h1, h2⟩ := hy
        obtain ⟨c1, c2⟩ := GT.out i h1
        have ho := orb_at i h1
        have hu := (orb_u16 i h1).2
        rw [h2] at c1 ho
        have hs : sf r = (orbT.getD i (0, 0)).2 := by unfold sf; rw [if_neg (by omega), if_neg (by omega), ho]
        have hv : V = (orbT.getD i (0, 0)).2 := HV.out.trans hs
        obtain ⟨y, hyy⟩ : ∃ y, y = (orbT.getD i (0, 0)).2 := ⟨_, rfl⟩
        rw [← hyy] at c2 hu hv
        subst hv
        clear hs ho hyy h2 hlo hhi HV
        go_wp2_with fail
        go_ret
        exact ⟨rfl, Below.refl _ _⟩
    · have ho : orb r = none := orb_none (fun j hj he => by
        by_cases h1 : j < i
        · have := hlo.out j h1; omega
        · by_cases h2 : j = i
          · subst h2; exact hy ⟨hj, he⟩
          · have h3 := hhi.out i (Nat.le_refl _) (by omega)
            have h4 := orb_lt (i := i) (j := j) (by omega) hj
            omega)
      have ht := inT_mk hr ho
      have Ht := Lib.hid ht
      have Hlk := Lib.hid (Tryz.unicode_lookupCaseRange caseA R oR capR (r : Int) wc HT.out (CaseOk2.ok caseA_ok2) (by rw [hcs]; decide))
      rw [hcs] at Hlk
      clear ht
      go_upto_region 12 with fail
      go_cut [57] (fun v w1 => v = .bool false ∧ w1 = wc)
      case first =>
        as_aux_lemma =>
          by_cases h94 : i < 94
          · obtain ⟨c1, c2⟩ := GT.out i h94
            have hu := (orb_u16 i h94).1
            have hne : ¬ (orbT.getD i (0, 0)).1 = r := fun h => hy ⟨h94, h⟩
            obtain ⟨y, hyy⟩ : ∃ y, y = (orbT.getD i (0, 0)).1 := ⟨_, rfl⟩
            rw [← hyy] at c1 hu hne
            have q : ((y : Int) == (r : Int)) = false := by rw [beq_eq_false_iff_ne]; omega
            clear hyy hy hne c2
            go_wp2_with fail
            go_meet
            exact ⟨rfl, rfl⟩
          · clear hy
            go_wp2_with fail
            go_meet
            exact ⟨rfl, rfl⟩
      case rest =>
        obtain ⟨rfl, rfl⟩ := hcut
        clear hy hlo hhi
        cases hlk : lookupIdx caseA (r : Int) (336 + 1) 0 336 with
        | none =>
          have hs := sf_norow hr2 Ht.out (by rw [hcs]; exact hlk)
          have hv : V = r := HV.out.trans hs
          subst hv
          have Hk := Hlk
          rw [hlk] at Hk
          clear hs hlk Hlk HV
          go_wp2_with (go_at_call 82; refine Hk.out.mono ?_; rintro e w' ⟨rfl, rfl⟩)
          go_ret
          exact ⟨rfl, Below.refl _ _⟩
        | some j =>
          have hj := lookup_row (r := r) (i := j) (by rw [hcs]; exact hlk)
          obtain ⟨hj1, hj2, hj3⟩ := hj
          have hs := (sf_row hr2 Ht.out (i := j) (by rw [hcs]; exact hlk)).1
          have hok := caseA_ok2 j (by rw [hcs]; exact hj1)
          have c0 := (HT.out j (by rw [hcs]; exact hj1)).1
          have cD := HT.out.delta j (by rw [hcs]; exact hj1)
          have Hk := Hlk
          rw [hlk] at Hk
          dsimp only at Hk
          obtain ⟨X, hX⟩ : ∃ X, X = caseA.getD j (0, 0, 0, 0, 0) := ⟨_, rfl⟩
          rw [← hX] at hs hj2 hj3 hok c0 cD
          have Hcv := Lib.hid (fun (W : World) (h0 : W.cell? ⟨R, oR + j * 5, none⟩ = some (.int .u32 X.1)) (hd : ∀ c, c < 3 → W.cell? ⟨R, oR + j * 5 + 2 + c, none⟩ = some (.int .i32 (X.delta c))) (c : Nat) (hc : c < 3) => Tryz.unicode_convertCase c hc (r : Int) R (oR + j * 5) X W (by omega) (by omega) hok.2 h0 (hd c hc))
          have hV2 : sfRow X (r : Int) = (V : Int) := by rw [hs, HV.out]
          have bV : (V : Int) ≤ 1114111 := by have h := (sf_cyc hr2).1; have h2 := HV.out; omega
          obtain ⟨L, hL⟩ : ∃ L, L = wrap32 (convertR 1 (r : Int) X) := ⟨_, rfl⟩
          obtain ⟨U, hU⟩ : ∃ U, U = wrap32 (convertR 0 (r : Int) X) := ⟨_, rfl⟩
          unfold sfRow at hV2
          rw [← hL, ← hU] at hV2
          have Hc1 := Lib.hid (show ∀ (W : World), W.cell? ⟨R, oR + j * 5, none⟩ = some (.int .u32 X.1) → (∀ c, c < 3 → W.cell? ⟨R, oR + j * 5 + 2 + c, none⟩ = some (.int .i32 (X.delta c))) → Calls Tryz.prog 83 #[.int .i64 1, .int .i32 r, .pointer (some ⟨R, oR + j * 5, none⟩)] W fun e w' => e = .returned (.int .i32 L) ∧ ∃ q, w' = W.drewN q by
            intro W h0 hd
            have h := Hcv.out W h0 hd 1 (by decide)
            rw [← hL] at h
            exact h)
          have Hc0 := Lib.hid (show ∀ (W : World), W.cell? ⟨R, oR + j * 5, none⟩ = some (.int .u32 X.1) → (∀ c, c < 3 → W.cell? ⟨R, oR + j * 5 + 2 + c, none⟩ = some (.int .i32 (X.delta c))) → Calls Tryz.prog 83 #[.int .i64 0, .int .i32 r, .pointer (some ⟨R, oR + j * 5, none⟩)] W fun e w' => e = .returned (.int .i32 U) ∧ ∃ q, w' = W.drewN q by
            intro W h0 hd
            have h := Hcv.out W h0 hd 0 (by decide)
            rw [← hU] at h
            exact h)
          have HC0 := Lib.hid c0
          have HCD := Lib.hid cD
          clear hs hlk Hlk hX hL hU Hcv hok hj2 hj3 c0 cD HV
          go_wp2_with (go_at_call 82; refine Hk.out.mono ?_; rintro e w' ⟨rfl, rfl⟩)
          refine (Hc1.out _ HC0.out HCD.out).mono ?_
          rintro e w' ⟨rfl, q1, rfl⟩
          have HC0' := Lib.hid (show ((_ : World).drewN q1).cell? ⟨R, oR + j * 5, none⟩ = some (.int .u32 X.1) from HC0.out)
          have HCD' := Lib.hid (show ∀ c, c < 3 → ((_ : World).drewN q1).cell? ⟨R, oR + j * 5 + 2 + c, none⟩ = some (.int .i32 (X.delta c)) from HCD.out)
          by_cases hL2 : L = (r : Int)
          · rw [if_neg (by simpa using hL2)] at hV2
            have q : (L != (r : Int)) = false := by rw [bne_eq_false_iff_eq]; exact hL2
            subst hV2
            clear hL2 HCD HC0 Hc1
            go_wp2_with fail
            refine (Hc0.out _ HC0'.out HCD'.out).mono ?_
            rintro e w2 ⟨rfl, q2, rfl⟩
            clear HC0' HCD' Hc0
            go_wp2_with fail
            go_ret
            exact ⟨rfl, ⟨rfl, rfl, rfl, Nat.le_refl _, fun _ _ => rfl⟩⟩
          · rw [if_pos hL2] at hV2
            have q : (L != (r : Int)) = true := by rw [bne_iff_ne]; exact hL2
            subst hV2
            clear hL2 HCD HC0 Hc1 Hc0 HC0' HCD'
            go_wp2_with fail
            go_ret
            exact ⟨rfl, ⟨rfl, rfl, rfl, Nat.le_refl _, fun _ _ => rfl⟩⟩
theorem fold_far (r : Nat) (w : World) (hr : 1114111 < r) (hr2 : r ≤ 2147483647) : Calls Tryz.prog 47 #[.int .i32 r] w fun e w' => e = .returned (.int .i32 (sf r)) ∧ Below w.heap.size w w' := by
  rw [sf_far hr]
  go_enter Tryz.func47, Tryz.ntmps47
  go_wp2_with fail
  go_ret
  exact ⟨rfl, Below.refl _ _⟩
/-- unicode.SimpleFold -/
theorem fold47 (r : Nat) (w : World) (hr : r ≤ 1114111) (hg : FG w) : Calls Tryz.prog 47 #[.int .i32 r] w fun e w' => e = .returned (.int .i32 (sf r)) ∧ Below w.heap.size w w' := by
  by_cases h : r < 128
  · exact fold_low r w h hg
  · exact fold_high r w (by omega) hr hg
end Go.Proofs.YtdfbokmjipdolaaGreatDoor
