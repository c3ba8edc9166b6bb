/- unicode.SimpleFold, plain: each rune's orbit comes back to it. -/
import Derived.Test.YtdfbokmjipdolaaGreatDoorShelf
import Derived.Shelf.Unicode.CaseLaid
import Derived.Shelf.Strings.CaseAny
set_option linter.unusedVariables false
set_option linter.unusedSimpArgs false
namespace Go.Proofs.YtdfbokmjipdolaaGreatDoor
open Go.RowKit Go.Lib

def ascT : List Nat := [0, 1, 2, 3, 4, 5, 6, 7, 8, 9, 10, 11, 12, 13, 14, 15, 16, 17, 18, 19, 20, 21, 22, 23, 24, 25, 26, 27, 28, 29, 30, 31, 32, 33, 34, 35, 36, 37, 38, 39, 40, 41, 42, 43, 44, 45, 46, 47, 48, 49, 50, 51, 52, 53, 54, 55, 56, 57, 58, 59, 60, 61, 62, 63, 64, 97, 98, 99, 100, 101, 102, 103, 104, 105, 106, 107, 108, 109, 110, 111, 112, 113, 114, 115, 116, 117, 118, 119, 120, 121, 122, 91, 92, 93, 94, 95, 96, 65, 66, 67, 68, 69, 70, 71, 72, 73, 74, 8490, 76, 77, 78, 79, 80, 81, 82, 383, 84, 85, 86, 87, 88, 89, 90, 123, 124, 125, 126, 127]
def orbT : List (Nat × Nat) := [(75, 107), (83, 115), (107, 8490), (115, 383), (181, 924), (197, 229), (223, 7838), (229, 8491), (304, 304), (305, 305), (383, 83), (452, 453), (453, 454), (454, 452), (455, 456), (456, 457), (457, 455), (458, 459), (459, 460), (460, 458), (497, 498), (498, 499), (499, 497), (837, 921), (912, 8147), (914, 946), (917, 949), (920, 952), (921, 953), (922, 954), (924, 956), (928, 960), (929, 961), (931, 962), (934, 966), (937, 969), (944, 8163), (946, 976), (949, 1013), (952, 977), (953, 8126), (954, 1008), (956, 181), (960, 982), (961, 1009), (962, 963), (963, 931), (966, 981), (969, 8486), (976, 914), (977, 1012), (981, 934), (982, 928), (1008, 922), (1009, 929), (1012, 920), (1013, 917), (1042, 1074), (1044, 1076), (1054, 1086), (1057, 1089), (1058, 1090), (1066, 1098), (1074, 7296), (1076, 7297), (1086, 7298), (1089, 7299), (1090, 7300), (1098, 7302), (1122, 1123), (1123, 7303), (7296, 1042), (7297, 1044), (7298, 1054), (7299, 1057), (7300, 7301), (7301, 1058), (7302, 1066), (7303, 1122), (7304, 42570), (7776, 7777), (7777, 7835), (7835, 7776), (7838, 223), (8126, 837), (8147, 912), (8163, 944), (8486, 937), (8490, 75), (8491, 197), (42570, 42571), (42571, 7304), (64261, 64262), (64262, 64261)]
theorem orbT_len : orbT.length = 94 := by decide +kernel
theorem ascT_len : ascT.length = 128 := by decide +kernel
def orb (r : Nat) : Option Nat := (orbT.find? (fun p => p.1 == r)).map (·.2)
theorem orbT_sorted : orbT.Pairwise (fun a b => a.1 < b.1) := by decide +kernel
theorem orb_at : ∀ i, i < 94 → orb (orbT.getD i (0, 0)).1 = some (orbT.getD i (0, 0)).2 := by decide +kernel
theorem orb_none {r : Nat} (h : ∀ i, i < 94 → (orbT.getD i (0, 0)).1 ≠ r) : orb r = none := by
  unfold orb
  rw [Option.map_eq_none_iff, List.find?_eq_none]
  intro p hp
  obtain ⟨i, hi, rfl⟩ := List.getElem_of_mem hp
  have := h i (by rw [← orbT_len]; exact hi)
  rw [List.getD_eq_getElem?_getD, List.getElem?_eq_getElem hi, Option.getD_some] at this
  simpa using this
theorem orb_lt {i j : Nat} (hij : i < j) (hj : j < 94) : (orbT.getD i (0, 0)).1 < (orbT.getD j (0, 0)).1 := by
  have h := List.pairwise_iff_getElem.1 orbT_sorted i j (by rw [orbT_len]; omega) (by rw [orbT_len]; omega) hij
  rw [List.getD_eq_getElem?_getD, List.getElem?_eq_getElem (by rw [orbT_len]; omega), Option.getD_some, List.getD_eq_getElem?_getD, List.getElem?_eq_getElem (by rw [orbT_len]; omega), Option.getD_some]
  exact h


def sfRow (x : CaseRow) (r : Int) : Int := if wrap32 (convertR 1 r x) ≠ r then wrap32 (convertR 1 r x) else wrap32 (convertR 0 r x)
/-- unicode.SimpleFold -/
def sf (r : Nat) : Nat :=
  if 1114111 < r then r
  else if r < 128 then ascT.getD r 0
  else match orb r with
    | some t => t
    | none => match lookupIdx caseA r (caseA.size + 1) 0 caseA.size with
      | some i => (sfRow (caseA.getD i (0, 0, 0, 0, 0)) r).toNat
      | none => r

/-- the rows are in order -/
theorem caseT_sorted : caseT.Pairwise (fun a b => a.2.1 < b.1) := by decide +kernel
theorem caseT_ne : ∀ x ∈ caseT, x.1 ≤ x.2.1 := by decide +kernel
theorem caseT_len : caseT.length = 336 := by decide +kernel
theorem caseA_get {i : Nat} (hi : i < 336) : caseA.getD i (0, 0, 0, 0, 0) = caseT[i]'(by rw [caseT_len]; exact hi) := by
  have h : i < caseA.size := by rw [caseA_size]; exact hi
  unfold Array.getD
  rw [dif_pos h]
  rfl
theorem case_lt {i j : Nat} (hij : i < j) (hj : j < 336) : (caseA.getD i (0, 0, 0, 0, 0)).2.1 < (caseA.getD j (0, 0, 0, 0, 0)).1 := by
  rw [caseA_get (by omega), caseA_get hj]
  exact List.pairwise_iff_getElem.1 caseT_sorted i j _ _ hij
theorem case_ne {i : Nat} (hi : i < 336) : (caseA.getD i (0, 0, 0, 0, 0)).1 ≤ (caseA.getD i (0, 0, 0, 0, 0)).2.1 := by
  rw [caseA_get hi]
  exact caseT_ne _ (List.getElem_mem _)
/-- the binary search finds the row -/
theorem lookup_full {r k : Nat} (hk : k < 336) (h1 : (caseA.getD k (0, 0, 0, 0, 0)).1 ≤ r) (h2 : r ≤ (caseA.getD k (0, 0, 0, 0, 0)).2.1) : ∀ (f lo hi : Nat), lo ≤ k → k < hi → hi ≤ 336 → hi - lo ≤ f → lookupIdx caseA (r : Int) f lo hi = some k
  | 0, lo, hi, a, b, _, d => by omega
  | f + 1, lo, hi, a, b, c, d => by
    rw [lookupIdx, if_pos (by omega)]
    obtain ⟨m, hm⟩ : ∃ m, m = (lo + hi) / 2 := ⟨_, rfl⟩
    rw [← hm]
    have n1 := case_ne (i := m) (by omega)
    rcases Nat.lt_trichotomy m k with h | h | h
    · have := case_lt h hk
      rw [if_neg (by omega), if_neg (by omega)]
      exact lookup_full hk h1 h2 f (m + 1) hi (by omega) b c (by omega)
    · subst h
      rw [if_pos (by omega)]
    · have := case_lt h (by omega)
      rw [if_neg (by omega), if_pos (by omega)]
      exact lookup_full hk h1 h2 f lo m a h (by omega) (by omega)

/-- the row that holds a rune, by going along -/
def scan (r : Nat) : List CaseRow → Option CaseRow
  | [] => none
  | x :: l => match Nat.blt x.2.1 r with
    | true => scan r l
    | false => match Nat.ble x.1 r with
      | true => some x
      | false => none
theorem scan_mem {r : Nat} {y : CaseRow} : ∀ {l : List CaseRow}, scan r l = some y → y ∈ l ∧ y.1 ≤ r ∧ r ≤ y.2.1
  | [], h => by cases h
  | x :: l, h => by
    unfold scan at h
    cases h1 : Nat.blt x.2.1 r with
    | true =>
      rw [h1] at h
      have := scan_mem h
      exact ⟨List.mem_cons_of_mem _ this.1, this.2⟩
    | false =>
      rw [h1] at h
      cases h2 : Nat.ble x.1 r with
      | false => rw [h2] at h; cases h
      | true =>
        rw [h2] at h
        injection h with h; subst h
        refine ⟨List.mem_cons_self, Nat.le_of_ble_eq_true h2, ?_⟩
        refine Decidable.byContradiction fun hc => ?_
        have h3 : Nat.blt x.2.1 r = true := Nat.ble_eq_true_of_le (by omega)
        rw [h3] at h1; cases h1
def inO (r : Nat) : List (Nat × Nat) → Bool
  | [] => false
  | p :: l => match Nat.beq p.1 r with
    | true => true
    | false => inO r l
theorem inO_iff {r : Nat} : ∀ {l : List (Nat × Nat)}, inO r l = (l.find? (fun p => p.1 == r)).isSome
  | [] => rfl
  | p :: l => by
    unfold inO
    rw [List.find?_cons]
    have e : (p.1 == r) = Nat.beq p.1 r := by
      rw [Bool.eq_iff_iff, beq_iff_eq, Nat.beq_eq]
    rw [e]
    cases Nat.beq p.1 r
    · exact inO_iff
    · rfl
def inT (r : Nat) : Bool := match Nat.blt r 128 with
  | true => true
  | false => inO r orbT
def okL (x : CaseRow) (r : Nat) : Int → Bool
  | .ofNat l => match Nat.beq l r with
    | true => true
    | false => match Nat.ble l 1114111 with
      | false => false
      | true => match inT l with
        | true => false
        | false => match scan l caseT with
          | some y => match sfRow y l with
            | .ofNat q => Nat.beq q r
            | .negSucc _ => false
          | none => false
  | .negSucc _ => false
/-- outside the tables, a rune in a row: its fold is outside the tables, and comes back -/
def chk (x : CaseRow) (r : Nat) : Bool := match inT r with
  | true => true
  | false => okL x r (sfRow x r)
def chkR (x : CaseRow) : Nat → Nat → Bool
  | 0, _ => true
  | n + 1, r => match chk x r with
    | true => chkR x n (r + 1)
    | false => false
def chkRow (x : CaseRow) : Bool := chkR x (x.2.1 - x.1 + 1) x.1
def chkL : List CaseRow → Bool
  | [] => true
  | x :: l => match chkRow x with
    | true => chkL l
    | false => false
theorem chk0 : chkL ((caseT.drop 0).take 28) = true := by kernel_rfl
theorem chk1 : chkL ((caseT.drop 28).take 28) = true := by kernel_rfl
theorem chk2 : chkL ((caseT.drop 56).take 28) = true := by kernel_rfl
theorem chk3 : chkL ((caseT.drop 84).take 28) = true := by kernel_rfl
theorem chk4 : chkL ((caseT.drop 112).take 28) = true := by kernel_rfl
theorem chk5 : chkL ((caseT.drop 140).take 28) = true := by kernel_rfl
theorem chk6 : chkL ((caseT.drop 168).take 28) = true := by kernel_rfl
theorem chk7 : chkL ((caseT.drop 196).take 28) = true := by kernel_rfl
theorem chk8 : chkL ((caseT.drop 224).take 28) = true := by kernel_rfl
theorem chk9 : chkL ((caseT.drop 252).take 28) = true := by kernel_rfl
theorem chk10 : chkL ((caseT.drop 280).take 28) = true := by kernel_rfl
theorem chk11 : chkL ((caseT.drop 308).take 28) = true := by kernel_rfl

end Go.Proofs.YtdfbokmjipdolaaGreatDoor
