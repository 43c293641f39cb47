import PyProof.Rows.All
import Wide.All
import OpenK.AllK
import Wide.FinOn
import PySem.Challenge.RW_ez5021_01
open PySem PySem.W PyProof.Rows
set_option Elab.async false

/-! TopA -/
namespace Mine
set_option maxRecDepth 100000 in
set_option maxHeartbeats 8000000 in
open_top hd for PySem.Challenge.rw_ez5021_01
end Mine

/-! PL -/
namespace Mine
open PySem.Builtin PySem.Builtin.Str

/-- a text of its code points -/
def tx (l : List Nat) : PySem.Str := ⟨l.toArray⟩
def cs (x : PySem.Str) : List Nat := x.cps.toList
@[simp] theorem cs_tx (l : List Nat) : cs (tx l) = l := rfl
@[simp] theorem tx_cs (x : PySem.Str) : tx (cs x) = x := by cases x; rfl
theorem len_cs (x : PySem.Str) : x.length = (cs x).length := by simp [PySem.Str.length, cs]
theorem len_tx (l : List Nat) : (tx l).length = l.length := by simp [PySem.Str.length, tx]
theorem tx_append (a b : List Nat) : tx a ++ tx b = tx (a ++ b) := by
  refine PySem.Str.ext' ?_
  rw [PySem.Str.cps_append]
  simp [tx]
theorem cs_append (a b : PySem.Str) : cs (a ++ b) = cs a ++ cs b := by
  unfold cs
  rw [PySem.Str.cps_append, Array.toList_append]
theorem cs_inj {a b : PySem.Str} (h : cs a = cs b) : a = b := by
  rw [← tx_cs a, ← tx_cs b, h]

/-- cut at the first c -/
def fsp (c : Nat) : List Nat → Option (List Nat × List Nat)
  | [] => none
  | a :: l => if a = c then some ([], l) else (fsp c l).map fun p => (a :: p.1, p.2)
/-- cut at the last c -/
def lsp (c : Nat) : List Nat → Option (List Nat × List Nat)
  | [] => none
  | a :: l => match lsp c l with
    | some p => some (a :: p.1, p.2)
    | none => if a = c then some ([], l) else none

theorem fsp_none {c : Nat} : ∀ {l : List Nat}, fsp c l = none ↔ c ∉ l
  | [] => by simp [fsp]
  | a :: l => by
    have ih := @fsp_none c l
    unfold fsp
    by_cases h : a = c
    · simp [h]
    · simp [h, ih, Ne.symm h]
theorem fsp_some {c : Nat} : ∀ {l p q : List Nat}, fsp c l = some (p, q) ↔ l = p ++ c :: q ∧ c ∉ p
  | [], p, q => by simp [fsp]
  | a :: l, p, q => by
    unfold fsp
    by_cases h : a = c
    · subst h
      simp only [if_true, Option.some.injEq, Prod.mk.injEq]
      constructor
      · rintro ⟨rfl, rfl⟩; simp
      · rintro ⟨h1, h2⟩
        cases p with
        | nil => simp at h1; simp [h1]
        | cons b p => simp at h1; exact absurd h1.1 (by intro e; subst e; simp at h2)
    · simp only [h, if_false, Option.map_eq_some_iff]
      constructor
      · rintro ⟨⟨p', q'⟩, h1, h2⟩
        simp only [Prod.mk.injEq] at h2
        obtain ⟨rfl, rfl⟩ := h2
        obtain ⟨e, hn⟩ := fsp_some.mp h1
        refine ⟨by rw [e]; rfl, ?_⟩
        simp [hn, Ne.symm h]
      · rintro ⟨h1, h2⟩
        cases p with
        | nil => simp at h1; exact absurd h1.1 h
        | cons b p =>
          simp at h1
          obtain ⟨rfl, e⟩ := h1
          exact ⟨(p, q), fsp_some.mpr ⟨e, fun hm => h2 (List.mem_cons_of_mem _ hm)⟩, rfl⟩
theorem lsp_none {c : Nat} : ∀ {l : List Nat}, lsp c l = none ↔ c ∉ l
  | [] => by simp [lsp]
  | a :: l => by
    have ih := @lsp_none c l
    unfold lsp
    cases h : lsp c l with
    | none =>
      have hn := ih.mp h
      by_cases e : a = c
      · simp [e]
      · simp [e, hn, Ne.symm e]
    | some p =>
      simp only [reduceCtorEq, false_iff, Classical.not_not]
      refine List.mem_cons_of_mem _ (Classical.byContradiction fun hn => ?_)
      rw [ih.mpr hn] at h
      cases h
theorem lsp_some {c : Nat} : ∀ {l p q : List Nat}, lsp c l = some (p, q) ↔ l = p ++ c :: q ∧ c ∉ q
  | [], p, q => by simp [lsp]
  | a :: l, p, q => by
    unfold lsp
    cases h : lsp c l with
    | none =>
      have hn := lsp_none.mp h
      by_cases e : a = c
      · subst e
        simp only [if_true, Option.some.injEq, Prod.mk.injEq]
        constructor
        · rintro ⟨rfl, rfl⟩; exact ⟨rfl, hn⟩
        · rintro ⟨h1, h2⟩
          cases p with
          | nil => simp at h1; simp [h1]
          | cons b p => simp at h1; exact absurd (by rw [h1.2]; simp) hn
      · simp only [e, if_false, reduceCtorEq, false_iff]
        rintro ⟨h1, _⟩
        cases p with
        | nil => simp at h1; exact e h1.1
        | cons b p => simp at h1; exact absurd (by rw [h1.2]; simp) hn
    | some r =>
      obtain ⟨r1, r2⟩ := r
      obtain ⟨e1, e2⟩ := lsp_some.mp h
      simp only [Option.some.injEq, Prod.mk.injEq]
      constructor
      · rintro ⟨rfl, rfl⟩
        exact ⟨by rw [e1]; rfl, e2⟩
      · rintro ⟨h1, h2⟩
        cases p with
        | nil =>
          simp at h1
          exact absurd (by rw [← h1.2, e1]; simp) h2
        | cons b p =>
          simp at h1
          have h3 : lsp c l = some (p, q) := lsp_some.mpr ⟨h1.2, h2⟩
          rw [h] at h3
          simp at h3
          exact ⟨by rw [h3.1, h1.1], h3.2⟩

/-- what stands behind the last "@" -/
def behind (l : List Nat) : List Nat := match lsp 64 l with
  | some p => p.2
  | none => l
def orNone (l : List Nat) : Option (List Nat) := if l = [] then none else some l
/-- the host in brackets, and what follows -/
def hostRest (r : List Nat) : Option (List Nat) × List Nat :=
  if r.head? = some 91 then (match fsp 93 r with
    | some p => (some (p.1 ++ [93]), p.2)
    | none => (none, r)) else (none, r)
def tailOf (h : Option (List Nat)) (r : List Nat) : Option (List Nat) × Option (List Nat) := match fsp 58 r with
  | some p => (h.or (orNone p.1), some p.2)
  | none => (h.or (orNone r), none)
/-- the three things that the statement asks for -/
def readL (l : List Nat) : Option (List Nat) × Option (List Nat) × Option (List Nat) :=
  ((lsp 64 l).map (·.1), (tailOf (hostRest (behind l)).1 (hostRest (behind l)).2).1, (tailOf (hostRest (behind l)).1 (hostRest (behind l)).2).2)
/-- a bracket at the host's head is closed -/
def okBr (l : List Nat) : Prop := (behind l).head? = some 91 → 93 ∈ behind l

-- the model's own words at one sign
theorem occ_empty {x : PySem.Str} {c : Nat} : (occurrences x ⟨#[c]⟩ 0 x.length 1).isEmpty = true ↔ c ∉ cs x := by
  have h := StrLaws.found_one x c
  unfold cs
  constructor
  · intro e; rw [e] at h; simpa using h.symm
  · intro e
    have : decide (c ∈ x.cps.toList) = false := decide_eq_false e
    rw [this] at h
    simpa using h
theorem occ_empty_f {x : PySem.Str} {c : Nat} : (occurrences x ⟨#[c]⟩ 0 x.length 1).isEmpty = false ↔ c ∈ cs x := by
  have h := @occ_empty x c
  rw [← Bool.not_eq_true, h, Classical.not_not]

theorem kind_le (x : PySem.Str) (c : Nat) (hc : c < 256) : decide (Builtin.Str.strKind x < Builtin.Str.strKind ⟨#[c]⟩) = false := by
  have e : Builtin.Str.strKind ⟨#[c]⟩ = 1 := by
    unfold Builtin.Str.strKind
    simp [hc]
  rw [e]
  refine decide_eq_false ?_
  unfold Builtin.Str.strKind
  split
  · decide
  · split <;> decide

theorem drop_at {l p q : List Nat} {c : Nat} (h : l = p ++ c :: q) : l.take p.length = p ∧ l.drop (p.length + 1) = q := by
  subst h
  refine ⟨by simp, ?_⟩
  rw [List.drop_append]
  simp

theorem at_one {x : PySem.Str} {c i : Nat} : StrLaws.At x ⟨#[c]⟩ x.length i ↔ (cs x)[i]? = some c := StrLaws.subAt_one x c i

theorem first_of {l : List Nat} {c i : Nat} (h : l[i]? = some c) (hn : ∀ k, k < i → l[k]? ≠ some c) : fsp c l = some (l.take i, l.drop (i + 1)) := by
  obtain ⟨hi, e⟩ := List.getElem?_eq_some_iff.mp h
  refine fsp_some.mpr ⟨?_, ?_⟩
  · conv => lhs; rw [← List.take_append_drop i l, List.drop_eq_getElem_cons hi, e]
  · intro hm
    obtain ⟨k, hk⟩ := List.mem_iff_getElem?.mp hm
    rw [List.getElem?_take] at hk
    split at hk
    · rename_i hlt
      exact hn k hlt hk
    · cases hk
theorem last_of {l : List Nat} {c i : Nat} (h : l[i]? = some c) (hn : ∀ k, i < k → l[k]? ≠ some c) : lsp c l = some (l.take i, l.drop (i + 1)) := by
  obtain ⟨hi, e⟩ := List.getElem?_eq_some_iff.mp h
  refine lsp_some.mpr ⟨?_, ?_⟩
  · conv => lhs; rw [← List.take_append_drop i l, List.drop_eq_getElem_cons hi, e]
  · intro hm
    obtain ⟨k, hk⟩ := List.mem_iff_getElem?.mp hm
    rw [List.getElem?_drop] at hk
    exact hn (i + 1 + k) (by omega) hk

theorem strSub_tx (x : PySem.Str) (i j : Nat) : strSub x i j = tx (((cs x).drop i).take (j - i)) := by
  refine cs_inj ?_
  rw [cs_tx]
  exact StrLaws.strSub_toList x i j

theorem parts_one (x : PySem.Str) (i : Nat) : partsBetween x [i] 1 = [tx ((cs x).take i), tx ((cs x).drop (i + 1))] := by
  have e : partsBetween x [i] 1 = [strSub x 0 i, strSub x (i + 1) x.length] := rfl
  rw [e, strSub_tx, strSub_tx]
  have h1 : ((cs x).drop 0).take (i - 0) = (cs x).take i := by simp
  have h2 : ((cs x).drop (i + 1)).take (x.length - (i + 1)) = (cs x).drop (i + 1) := by
    refine List.take_of_length_le ?_
    rw [List.length_drop, len_cs]
    omega
  rw [h1, h2]

theorem split_one {x : PySem.Str} {c : Nat} (hc : c < 256) (h : c ∈ cs x) : ∃ p q, fsp c (cs x) = some (p, q) ∧ Txt.splitMax x ⟨#[c]⟩ 1 = [tx p, tx q] := by
  have hne : 0 < (cs x).length := List.length_pos_of_mem h
  have h1 : (decide (x.length < (⟨#[c]⟩ : PySem.Str).length) || decide (Builtin.Str.strKind x < Builtin.Str.strKind ⟨#[c]⟩)) = false := by
    rw [kind_le x c hc, Bool.or_false]
    refine decide_eq_false ?_
    show ¬ x.length < 1
    rw [len_cs]
    omega
  rcases StrLaws.occ_head x ⟨#[c]⟩ 1 (Nat.le_refl _) with ⟨_, hn⟩ | ⟨i, r, e, ha, hn⟩
  · obtain ⟨k, hk⟩ := List.mem_iff_getElem?.mp h
    exact absurd (at_one.mpr hk) (hn k)
  · have hr : r = [] := by
      have hl := StrLaws.occ_length_le x ⟨#[c]⟩ 0 x.length 1
      rw [e] at hl
      simp at hl
      exact hl
    subst hr
    refine ⟨_, _, first_of (at_one.mp ha) fun k hk hc' => hn k hk (at_one.mpr hc'), ?_⟩
    unfold Txt.splitMax
    rw [h1, if_neg (by decide)]
    have hlim : limitOf x 1 = 1 := rfl
    rw [hlim, e, if_neg (by simp)]
    exact parts_one x i

theorem occR_stay (s sub : PySem.Str) (a : Nat) : ∀ (l : List Nat) (f : Nat), (forIn l ((#[a] : Array Nat), f) (StrLaws.occRBody s sub 1)).run.fst = #[a]
  | [], _ => rfl
  | b :: l, f => by
    rw [List.forIn_cons]
    unfold StrLaws.occRBody
    rw [if_neg (by simp)]
    exact occR_stay s sub a l f

theorem occR_one (s sub : PySem.Str) : ∀ (l : List Nat),
    ((forIn l ((#[] : Array Nat), s.length) (StrLaws.occRBody s sub 1)).run.fst = #[] ∧ ∀ k ∈ l, ¬ StrLaws.At s sub s.length (s.length - k)) ∨
    ∃ pre k post, l = pre ++ k :: post ∧ (forIn l ((#[] : Array Nat), s.length) (StrLaws.occRBody s sub 1)).run.fst = #[s.length - k] ∧ StrLaws.At s sub s.length (s.length - k) ∧ ∀ j ∈ pre, ¬ StrLaws.At s sub s.length (s.length - j)
  | [] => .inl ⟨rfl, fun _ h => nomatch h⟩
  | a :: l => by
    rw [List.forIn_cons]
    unfold StrLaws.occRBody
    by_cases hc : StrLaws.At s sub s.length (s.length - a)
    · rw [if_pos ⟨⟨by simp, hc.1⟩, hc.2⟩]
      exact .inr ⟨[], a, l, rfl, occR_stay s sub _ l _, hc, fun _ h => nomatch h⟩
    · rw [if_neg (fun h => hc ⟨h.1.2, h.2⟩)]
      rcases occR_one s sub l with ⟨h0, hn⟩ | ⟨pre, k, post, e, h0, ha, hn⟩
      · exact .inl ⟨h0, fun i hi => (List.mem_cons.mp hi).elim (fun e => e ▸ hc) (hn i)⟩
      · exact .inr ⟨a :: pre, k, post, by rw [e]; rfl, h0, ha, fun i hi => (List.mem_cons.mp hi).elim (fun e => e ▸ hc) (hn i)⟩

theorem rsplit_one {x : PySem.Str} {c : Nat} (hc : c < 256) (h : c ∈ cs x) : ∃ p q, lsp c (cs x) = some (p, q) ∧ Txt.rsplitMax x ⟨#[c]⟩ 1 = [tx p, tx q] := by
  have hne : 0 < (cs x).length := List.length_pos_of_mem h
  have h1 : (decide (x.length < (⟨#[c]⟩ : PySem.Str).length) || decide (Builtin.Str.strKind x < Builtin.Str.strKind ⟨#[c]⟩)) = false := by
    rw [kind_le x c hc, Bool.or_false]
    refine decide_eq_false ?_
    show ¬ x.length < 1
    rw [len_cs]
    omega
  rcases occR_one x ⟨#[c]⟩ (List.range' 0 (x.length + 1)) with ⟨_, hn⟩ | ⟨pre, k, post, e, h0, ha, hn⟩
  · obtain ⟨k, hk⟩ := List.mem_iff_getElem?.mp h
    have hlt := (List.getElem?_eq_some_iff.mp hk).1
    rw [← len_cs] at hlt
    refine absurd (at_one.mpr hk) ?_
    have := hn (x.length - k) (by simp [List.mem_range']; omega)
    rwa [show x.length - (x.length - k) = k by omega] at this
  · have hR : occurrencesFromRight x ⟨#[c]⟩ 1 = [x.length - k] := by
      rw [StrLaws.occR_eq, h0]
      rfl
    have hk0 := (List.getElem?_eq_some_iff.mp (at_one.mp ha)).1
    rw [← len_cs] at hk0
    refine ⟨_, _, last_of (at_one.mp ha) fun j hj hc' => ?_, ?_⟩
    · have hlt := (List.getElem?_eq_some_iff.mp hc').1
      rw [← len_cs] at hlt
      refine hn (x.length - j) (StrLaws.range'_split e _ (by omega)) ?_
      rw [show x.length - (x.length - j) = j by omega]
      exact at_one.mpr hc'
    · unfold Txt.rsplitMax
      rw [h1, if_neg (by decide)]
      have hlim : limitOf x 1 = 1 := rfl
      rw [hlim, hR, if_neg (by simp)]
      exact parts_one x _

theorem starts_one {x : PySem.Str} {c : Nat} {b : Bool} (h : Txt.startswith x ⟨#[c]⟩ = b) : ((cs x).head? = some c) = (b = true) := by
  subst h
  have e : Txt.startswith x ⟨#[c]⟩ = true ↔ (cs x)[0]? = some c := by
    rw [← at_one]
    unfold Txt.startswith StrLaws.At
    simp
  rw [e, List.head?_eq_getElem?]

theorem slice_to {x : PySem.Str} {k : Nat} (h : k ≤ (cs x).length) : Txt.slice x none (some (k : Int)) = tx ((cs x).take k) := by
  have := slice_closes_to (x := x) (j := (k : Int)) ⟨by omega, by unfold cs at h; omega⟩
  rw [beq_iff_eq.mp this]
  simp [tx, cs]
theorem slice_from {x : PySem.Str} {k : Nat} (h : k ≤ (cs x).length) : Txt.slice x (some (k : Int)) none = tx ((cs x).drop k) := by
  have := slice_closes_from (x := x) (i := (k : Int)) ⟨by omega, by unfold cs at h; omega⟩
  rw [beq_iff_eq.mp this]
  refine cs_inj ?_
  rw [cs_tx]
  show List.take _ (List.drop _ (cs x)) = _
  refine List.take_of_length_le ?_
  rw [List.length_drop]
  show _ ≤ (((cs x).length : Int) - (k : Int)).toNat
  omega
theorem slice_one (x : PySem.Str) : Txt.slice x none (some 1) = tx ((cs x).take 1) := by
  by_cases h : 1 ≤ (cs x).length
  · exact slice_to h
  · have e : cs x = [] := List.length_eq_zero_iff.mp (by omega)
    have ex : x = tx [] := by rw [← e, tx_cs]
    subst ex
    rfl
end Mine

/-! F1 -/
namespace Mine
open PySem.Spec PySem.Calls

def firstI (c : Nat) (l : List Nat) : Int := match fsp c l with
  | some p => (p.1.length : Int)
  | none => -1
def lastI (c : Nat) (l : List Nat) : Int := match lsp c l with
  | some p => (p.1.length : Int)
  | none => -1

theorem item_cs {x : PySem.Str} {k : Int} (h0 : 0 ≤ k) (h1 : k < (x.length : Int)) : (cs x)[k.toNat]? = some ((cs x)[k.toNat]'(by rw [← len_cs]; omega)) ∧ Txt.item x k = ⟨#[(cs x)[k.toNat]'(by rw [← len_cs]; omega)]⟩ := by
  have hk : k.toNat < (cs x).length := by rw [← len_cs]; omega
  refine ⟨List.getElem?_eq_getElem hk, ?_⟩
  unfold Txt.item Txt.charAt seqIndex?
  have h2 : ¬ k < 0 := by omega
  simp only [h2, if_false, h0, h1, decide_true, Bool.and_self, if_true, Option.bind_some]
  have : x.cps[k.toNat]? = some ((cs x)[k.toNat]'hk) := by
    rw [← Array.getElem?_toList]
    exact List.getElem?_eq_getElem hk
  rw [this]
  rfl
theorem item_true {x : PySem.Str} {k : Int} {c : Nat} (h0 : 0 ≤ k) (h1 : k < (x.length : Int)) (h : (Txt.item x k == ⟨#[c]⟩) = true) : (cs x)[k.toNat]? = some c := by
  obtain ⟨e1, e2⟩ := item_cs h0 h1
  rw [e2, beq_iff_eq] at h
  rw [e1]
  have := congrArg (fun z : PySem.Str => z.cps.toList) h
  simpa using this
theorem item_false {x : PySem.Str} {k : Int} {c : Nat} (h0 : 0 ≤ k) (h1 : k < (x.length : Int)) (h : (Txt.item x k == ⟨#[c]⟩) = false) : (cs x)[k.toNat]? ≠ some c := by
  obtain ⟨e1, e2⟩ := item_cs h0 h1
  rw [e2] at h
  rw [e1]
  intro e
  rw [Option.some.inj e] at h
  simp at h

theorem first_found {x : PySem.Str} {c n : Nat} {k : Int} {pre : List Int} (hk : k = 0 + (pre.length : Int)) (hl : pre.length < n) (hn : n = x.length) (hi : ∀ j, j < pre.length → (cs x)[j]? ≠ some c)
    (h : (Txt.item x k == ⟨#[c]⟩) = true) : k = firstI c (cs x) := by
  have hc := item_true (by omega) (by omega) h
  have e : k.toNat = pre.length := by omega
  rw [e] at hc
  have := first_of hc hi
  have hle : pre.length ≤ (cs x).length := by rw [← len_cs]; omega
  unfold firstI
  rw [this]
  simp only [List.length_take]
  omega
theorem first_not {x : PySem.Str} {c n : Nat} (hn : n = x.length) (hi : ∀ j, j < n → (cs x)[j]? ≠ some c) : (-1 : Int) = firstI c (cs x) := by
  unfold firstI
  have : fsp c (cs x) = none := fsp_none.mpr fun hm => by
    obtain ⟨j, hj⟩ := List.mem_iff_getElem?.mp hm
    refine hi j ?_ hj
    rw [hn, len_cs]
    exact (List.getElem?_eq_some_iff.mp hj).1
  rw [this]
theorem first_turn {x : PySem.Str} {c n : Nat} {k : Int} {pre : List Int} (hk : k = 0 + (pre.length : Int)) (hl : pre.length < n) (hn : n = x.length) (hi : ∀ j, j < pre.length → (cs x)[j]? ≠ some c)
    (h : (Txt.item x k == ⟨#[c]⟩) = false) : ∀ j, j < (pre ++ [k]).length → (cs x)[j]? ≠ some c := by
  intro j hj
  rw [List.length_append, List.length_singleton] at hj
  by_cases e : j < pre.length
  · exact hi j e
  · have hc := item_false (by omega) (by omega) h
    rwa [show j = k.toNat by omega]
theorem last_found {x : PySem.Str} {c n : Nat} {k : Int} {pre : List Int} (hk : k = (x.length : Int) - 1 - (pre.length : Int)) (hl : pre.length < n) (hn : n = x.length) (hi : ∀ j, j < pre.length → (cs x)[x.length - 1 - j]? ≠ some c)
    (h : (Txt.item x k == ⟨#[c]⟩) = true) : k = lastI c (cs x) := by
  have hc := item_true (by omega) (by omega) h
  have e : k.toNat = x.length - 1 - pre.length := by omega
  have := last_of hc (fun j hj hcj => by
    have hlt := (List.getElem?_eq_some_iff.mp hcj).1
    rw [← len_cs] at hlt
    refine hi (x.length - 1 - j) (by omega) ?_
    rwa [show x.length - 1 - (x.length - 1 - j) = j by omega])
  have hle : k.toNat ≤ (cs x).length := by rw [← len_cs]; omega
  unfold lastI
  rw [this]
  simp only [List.length_take]
  omega
theorem last_not {x : PySem.Str} {c n : Nat} (hn : n = x.length) (hi : ∀ j, j < n → (cs x)[x.length - 1 - j]? ≠ some c) : (-1 : Int) = lastI c (cs x) := by
  unfold lastI
  have : lsp c (cs x) = none := lsp_none.mpr fun hm => by
    obtain ⟨j, hj⟩ := List.mem_iff_getElem?.mp hm
    have hlt := (List.getElem?_eq_some_iff.mp hj).1
    rw [← len_cs] at hlt
    refine hi (x.length - 1 - j) (by omega) ?_
    rwa [show x.length - 1 - (x.length - 1 - j) = j by omega]
  rw [this]
theorem last_turn {x : PySem.Str} {c n : Nat} {k : Int} {pre : List Int} (hk : k = (x.length : Int) - 1 - (pre.length : Int)) (hl : pre.length < n) (hn : n = x.length) (hi : ∀ j, j < pre.length → (cs x)[x.length - 1 - j]? ≠ some c)
    (h : (Txt.item x k == ⟨#[c]⟩) = false) : ∀ j, j < (pre ++ [k]).length → (cs x)[x.length - 1 - j]? ≠ some c := by
  intro j hj
  rw [List.length_append, List.length_singleton] at hj
  by_cases e : j < pre.length
  · exact hi j e
  · have hc := item_false (by omega) (by omega) h
    rwa [show x.length - 1 - j = k.toNat by omega]

set_option maxRecDepth 100000 in
set_option maxHeartbeats 8000000 in
theorem first_claim (w : World) (p : Program) (loose : List Str) (mean : ExcName → Option Value) (mg mb : Str → Option Value) (news : List (Addr × Obj))
    (x : Str) (t : Tok) (c : Nat) (u : Tok) :
    CbClaim PySem.Challenge.rw_ez5021_01.row.prog w (hd.heap_39 w.params) p loose mean mg mb 58 news [] (x.length ≤ 1000) [.str x t, .str ⟨#[c]⟩ u] (fun t => .int (firstI c (cs x)) t) := by
  k_with_none
  k_fill
  dsimp only [CbClaim, CbLists, CbRet]
  intros; rename_i hret
  refine wpAny_call ?_
  k_dflt cell_enter
  k_with "pyIter ref" => k_search (fun pre => ∀ j, j < pre.length → (cs x)[j]? ≠ some c)
  k_with "state" => first | exact first_turn (by assumption) (by assumption) (by omega) (by assumption) (by assumption) | exact fun j hj => absurd hj (Nat.not_lt_zero j)
  k_steps
  · exact cb_retI hret (first_found (by assumption) (by assumption) (by omega) (by assumption) (by assumption)) (by k_asm) (cb_drop (by assumption) fun p hp => List.mem_append.mpr (.inl hp))
  · exact cb_retI hret (first_not (n := x.length) rfl (by simpa [rangeKs_length] using kInv)) (by k_asm) (by k_asm)

set_option maxRecDepth 100000 in
set_option maxHeartbeats 8000000 in
theorem last_claim (w : World) (p : Program) (loose : List Str) (mean : ExcName → Option Value) (mg mb : Str → Option Value) (news : List (Addr × Obj))
    (x : Str) (t : Tok) (c : Nat) (u : Tok) :
    CbClaim PySem.Challenge.rw_ez5021_01.row.prog w (hd.heap_39 w.params) p loose mean mg mb 65 news [] (x.length ≤ 1000) [.str x t, .str ⟨#[c]⟩ u] (fun t => .int (lastI c (cs x)) t) := by
  k_with_none
  k_fill
  dsimp only [CbClaim, CbLists, CbRet]
  intros; rename_i hret
  refine wpAny_call ?_
  k_dflt cell_enter
  k_with "pyIter ref" => (k_here; (rename Fr _ _ _ _ => lF'); (rename News _ _ _ _ => lN'); (rename IsRange _ _ _ _ _ _ _ _ => rgX); (with_unfolding_all refine' kst_rangeD (σ := Unit) (fun _ => news) (fun _ => []) (fun _ => True) [] (fun pre _ => ∀ j, j < pre.length → (cs x)[x.length - 1 - j]? ≠ some c) () (by rfl) rgX (small_down (by omega) (by omega) (by omega) (by omega)) (rangeSize_downNat _ _) lF' lN' True.intro (List.forall_mem_nil _) (fun j hj => absurd hj (Nat.not_lt_zero j)) ?kTurn ?kDone); (all_goals clear lF' lN'); (case' kTurn => (intro kC kPre kN kT kU kH kTk kOwn kEq kLt kOff kFacts kInv kFr kNews; (try dsimp only [kstB] at kFr); (try dsimp only at kNews); (have kMark := kstMark); (try k_fold))); (case' kDone => (intro kC kU kH kTk kFacts kInv kFr kNews; (try dsimp only [kstB] at kFr); (try dsimp only at kNews); (have kMark := kstMark); (try k_fold))))
  k_with "state" => exact last_turn (by assumption) (by assumption) (by omega) (by assumption) (by assumption)
  k_steps
  · exact cb_retI hret (last_not (n := (↑x.length - 1 - -1 : Int).toNat) (by omega) (by simpa [downKs_length] using kInv)) (by k_asm) (by k_asm)
  · exact cb_retI hret (last_found (by assumption) (by assumption) (by omega) (by assumption) (by assumption)) (by k_asm) (cb_drop (by assumption) fun p hp => List.mem_append.mpr (.inl hp))
end Mine

/-! F2 -/
namespace Mine
open PySem.Spec PySem.Calls

abbrev tup3 (v1 v2 v3 : Value) : Obj := { cls := .type "tuple", data := .seq #[v1, v2, v3] }
/-- a value that is none, or this text -/
def TV (o : Option (List Nat)) (v : Value) : Prop := match o with
  | none => v = .none
  | some l => ∃ t, v = .str (tx l) t

abbrev TupRet (h₀ : Heap) (L : Addr) (m : Str → Option Value) (news : List (Addr × Obj)) (s : Shared) (Q : Value → Shared → Prop) (r : Option (List Nat) × Option (List Nat) × Option (List Nat)) : Prop :=
  ∀ (D : Addr) (v1 v2 v3 : Value) (h' : Heap) (tk' : Nat), TV r.1 v1 → TV r.2.1 v2 → TV r.2.2 v3 → (∀ p ∈ news, p.1 < D) → Fr h₀ L h' m → News h₀ L h' ((D, tup3 v1 v2 v3) :: news) → Q (.ref D) { s with heap := h', toks := tk' }

abbrev TupClaim (prog : Program) (w : World) (K : Frag) (p : Program) (loose : List Str) (mean : ExcName → Option Value) (mg mb : Str → Option Value) (f : Addr) (news : List (Addr × Obj)) (pre : Prop) (vs : List Value) (r : Option (List Nat) × Option (List Nat) × Option (List Nat)) : Prop :=
  ∀ (dp un : Nat) (gd : Option (List Code)) (cn : Str) (cs : Scope) (a : Addr) (ccd : Value) (cl : List (Str × Addr)) (outer : List Env) (A₀ : Around) (base h₀ : Heap) (L : Addr) (m : Str → Option Value) (s : Shared) (Q E : Value → Shared → Prop),
    Below A₀ base outer h₀ → Fr h₀ L s.heap m → K.In h₀ → News h₀ L s.heap news → Top p loose mean mg mb h₀ → cs.kind = .function →
    pre → dp + 3 < recursionLimit → un + 40 < cLine → TupRet h₀ L m news s Q r →
      wpAny (model prog w) (ktrTop dp un gd cn cs L a ccd cl outer) (call (.ref f) vs) Q E s

theorem at_is : (Str.ofString "@" : Str) = ⟨#[64]⟩ := by decide
theorem co_is : (Str.ofString ":" : Str) = ⟨#[58]⟩ := by decide
theorem ob_is : (Str.ofString "[" : Str) = ⟨#[91]⟩ := by decide
theorem cb_is : (Str.ofString "]" : Str) = ⟨#[93]⟩ := by decide

theorem open2 {l : List (Str × Tok)} {a b : Str} (e : l.map (·.1) = [a, b]) : ∃ t u, l = [(a, t), (b, u)] := by
  obtain ⟨t, l1, rfl, e1⟩ := KSpl.cons_of e
  obtain ⟨u, l2, rfl, e2⟩ := KSpl.cons_of e1
  rw [KSpl.nil_of e2]
  exact ⟨t, u, rfl⟩

theorem lsp_len {c : Nat} {l p q : List Nat} (h : lsp c l = some (p, q)) : p.length ≤ l.length ∧ q.length ≤ l.length := by
  obtain ⟨e, _⟩ := lsp_some.mp h
  subst e
  simp only [List.length_append, List.length_cons]
  omega
theorem fsp_len {c : Nat} {l p q : List Nat} (h : fsp c l = some (p, q)) : p.length ≤ l.length ∧ q.length ≤ l.length := by
  obtain ⟨e, _⟩ := fsp_some.mp h
  subst e
  simp only [List.length_append, List.length_cons]
  omega
theorem open_at {x : Str} {n : Nat} {l : List (Str × Tok)} (h : l.map (·.1) = Txt.rsplitMax x (Str.ofString "@") 1) (hm : 64 ∈ cs x) (hn : x.length ≤ n) :
    ∃ p q t u, lsp 64 (cs x) = some (cs p, cs q) ∧ l = [(p, t), (q, u)] ∧ p.length ≤ n ∧ q.length ≤ n := by
  rw [at_is] at h
  obtain ⟨p, q, e1, e2⟩ := rsplit_one (by decide) hm
  rw [e2] at h
  obtain ⟨t, u, e⟩ := open2 h
  have hl := lsp_len e1
  rw [len_cs] at hn
  exact ⟨tx p, tx q, t, u, e1, e, by rw [len_tx]; omega, by rw [len_tx]; omega⟩
theorem open_co {x : Str} {n : Nat} {l : List (Str × Tok)} (h : l.map (·.1) = Txt.splitMax x (Str.ofString ":") 1) (hm : 58 ∈ cs x) (hn : x.length ≤ n) :
    ∃ p q t u, fsp 58 (cs x) = some (cs p, cs q) ∧ l = [(p, t), (q, u)] ∧ p.length ≤ n ∧ q.length ≤ n := by
  rw [co_is] at h
  obtain ⟨p, q, e1, e2⟩ := split_one (by decide) hm
  rw [e2] at h
  obtain ⟨t, u, e⟩ := open2 h
  have hl := fsp_len e1
  rw [len_cs] at hn
  exact ⟨tx p, tx q, t, u, e1, e, by rw [len_tx]; omega, by rw [len_tx]; omega⟩
theorem open_cb {x : Str} {n : Nat} {l : List (Str × Tok)} (h : l.map (·.1) = Txt.splitMax x (Str.ofString "]") 1) (hm : 93 ∈ cs x) (hn : x.length ≤ n) :
    ∃ p q t u, fsp 93 (cs x) = some (cs p, cs q) ∧ l = [(p, t), (q, u)] ∧ p.length ≤ n ∧ q.length ≤ n := by
  rw [cb_is] at h
  obtain ⟨p, q, e1, e2⟩ := split_one (by decide) hm
  rw [e2] at h
  obtain ⟨t, u, e⟩ := open2 h
  have hl := fsp_len e1
  rw [len_cs] at hn
  exact ⟨tx p, tx q, t, u, e1, e, by rw [len_tx]; omega, by rw [len_tx]; omega⟩
theorem has_at {x : Str} (h : (Builtin.Str.occurrences x (Str.ofString "@") 0 x.length 1).isEmpty = false) : 64 ∈ cs x := by
  rw [at_is] at h; exact occ_empty_f.mp h
theorem has_co {x : Str} (h : (Builtin.Str.occurrences x (Str.ofString ":") 0 x.length 1).isEmpty = false) : 58 ∈ cs x := by
  rw [co_is] at h; exact occ_empty_f.mp h
theorem no_at {x : Str} (h : (Builtin.Str.occurrences x (Str.ofString "@") 0 x.length 1).isEmpty = true) : lsp 64 (cs x) = none := by
  rw [at_is] at h; exact lsp_none.mpr (occ_empty.mp h)
theorem no_co {x : Str} (h : (Builtin.Str.occurrences x (Str.ofString ":") 0 x.length 1).isEmpty = true) : fsp 58 (cs x) = none := by
  rw [co_is] at h; exact fsp_none.mpr (occ_empty.mp h)
theorem starts_ob {x : Str} {b : Bool} (h : Txt.startswith x (Str.ofString "[") = b) : ((cs x).head? = some 91) = (b = true) := by
  rw [ob_is] at h; exact starts_one h
theorem behind_some {l p q : List Nat} (h : lsp 64 l = some (p, q)) : behind l = q := by unfold behind; rw [h]
theorem behind_none {l : List Nat} (h : lsp 64 l = none) : behind l = l := by unfold behind; rw [h]
theorem ok_some {x q : Str} {p : List Nat} (ok : okBr (cs x)) (h : lsp 64 (cs x) = some (p, cs q)) (hs : Txt.startswith q (Str.ofString "[") = true) : 93 ∈ cs q := by
  have e := starts_ob hs
  unfold okBr at ok
  rw [behind_some h] at ok
  exact ok (by simp [e])
theorem ok_none {x : Str} (ok : okBr (cs x)) (h : (Builtin.Str.occurrences x (Str.ofString "@") 0 x.length 1).isEmpty = true) (hs : Txt.startswith x (Str.ofString "[") = true) : 93 ∈ cs x := by
  have e := starts_ob hs
  unfold okBr at ok
  rw [behind_none (no_at h)] at ok
  exact ok (by simp [e])

theorem fsp_nil (c : Nat) : fsp c [] = none := rfl
theorem lsp_nil (c : Nat) : lsp c [] = none := rfl
theorem ne_of_len {x : Str} (h : (x.length : Int) ≠ 0) : cs x ≠ [] := by
  intro e
  rw [len_cs, e] at h
  exact h rfl
theorem eq_of_len {x : Str} (h : (x.length : Int) = 0) : cs x = [] := by
  rw [len_cs] at h
  exact List.length_eq_zero_iff.mp (by omega)
theorem head_f {x : Str} (h : Txt.startswith x (Str.ofString "[") = false) : ¬ (cs x).head? = some 91 := by
  rw [starts_ob h]; decide
theorem head_t {x : Str} (h : Txt.startswith x (Str.ofString "[") = true) : (cs x).head? = some 91 := by
  rw [starts_ob h]
theorem news_top {h₀ h : Heap} {L D : Addr} {o : Obj} {rest news : List (Addr × Obj)} (N : News h₀ L h ((D, o) :: rest)) (hs : ∀ p ∈ news, p ∈ rest) : News h₀ L h ((D, o) :: news) := fun p hp => N p (by
  rcases List.mem_cons.mp hp with rfl | hm
  · exact List.mem_cons_self
  · exact List.mem_cons_of_mem _ (hs p hm))
theorem tv_none {o : Option (List Nat)} (h : o = none) : TV o .none := by subst h; rfl
theorem tv_some {o : Option (List Nat)} {x : Str} {t : Tok} (h : o = some (cs x)) : TV o (.str x t) := by subst h; exact ⟨t, by rw [tx_cs]⟩
theorem cs_cb (x : Str) : cs (x ++ Str.ofString "]") = cs x ++ [93] := by rw [cs_append, cb_is]; rfl

local macro_rules | `(tactic| walk_at "assign Tuple") => `(tactic| (k_here; (first | ((with_reducible rename (List.map _ _ = Txt.rsplitMax _ _ _) => hMap); (obtain ⟨p9, q9, t9, u9, hCut, hEq, hLp, hLq⟩ := open_at hMap (has_at (by assumption)) (by assumption))) | ((with_reducible rename (List.map _ _ = Txt.splitMax _ (Str.ofString ":") _) => hMap); (obtain ⟨p9, q9, t9, u9, hCut, hEq, hLp, hLq⟩ := open_co hMap (has_co (by assumption)) (by assumption))) | ((with_reducible rename (List.map _ _ = Txt.splitMax _ (Str.ofString "]") _) => hMap); (obtain ⟨p9, q9, t9, u9, hCut, hEq, hLp, hLq⟩ := open_cb hMap (by first | exact ok_some (by assumption) (by assumption) (by assumption) | exact ok_none (by assumption) (by assumption) (by assumption)) (by assumption)))); (clear hMap); (subst hEq); (rename News _ _ _ _ => lN'); (simp only [strValues, List.map_cons, List.map_nil] at lN')))

set_option maxRecDepth 100000 in
set_option maxHeartbeats 8000000 in
theorem split_claim (w : World) (p : Program) (loose : List Str) (mean : ExcName → Option Value) (mg mb : Str → Option Value) (news : List (Addr × Obj))
    (x : Str) (t : Tok) :
    TupClaim PySem.Challenge.rw_ez5021_01.row.prog w (hd.heap_39 w.params) p loose mean mg mb 21 news (x.length ≤ 1000 ∧ okBr (cs x)) [.str x t] (readL (cs x)) := by
  k_with_none
  k_fill
  dsimp only [TupClaim, TupRet]
  intros; rename_i hpre _ _ hret
  obtain ⟨hLen, hOk⟩ := hpre
  refine wpAny_call ?_
  k_dflt cell_enter
  k_steps
  all_goals (
    (try have e1 := no_at (by assumption)); (try dsimp only at e1); (try have e2 := no_co (by assumption)); (try dsimp only at e2)
    (try have e3 := head_t (by assumption)); (try have e3' := head_f (by assumption)); (try dsimp only at e3); (try dsimp only at e3')
    (try have e4 := ne_of_len (by assumption)); (try have e4' := eq_of_len (by assumption)); (try dsimp only at e4); (try dsimp only at e4')
    (rename News _ _ _ _ => lN')
    refine hret _ _ _ _ _ _ ?_ ?_ ?_ ?_ (by k_asm) (news_top lN' ?_)
    case refine_1 => first | refine tv_none ?_ | refine tv_some ?_
                     all_goals simp [readL, behind, hostRest, tailOf, orNone, cs_cb, fsp_nil, lsp_nil, *]
    case refine_2 => first | refine tv_none ?_ | refine tv_some ?_
                     all_goals simp [readL, behind, hostRest, tailOf, orNone, cs_cb, fsp_nil, lsp_nil, *]
    case refine_3 => first | refine tv_none ?_ | refine tv_some ?_
                     all_goals simp [readL, behind, hostRest, tailOf, orNone, cs_cb, fsp_nil, lsp_nil, *]
    case refine_4 => first | assumption | (rename (_ < _ ∧ AllLt _ _) => lx; exact kst_ltOf lx.2) | (rename (_ < _ ∧ _ < _ ∧ AllLt _ _) => lx; exact kst_ltOf lx.2.2) | (rename (_ < _ ∧ _ < _ ∧ _ < _ ∧ AllLt _ _) => lx; exact kst_ltOf lx.2.2.2)
    case refine_5 => intro p hp; repeat (first | exact hp | apply List.mem_cons_of_mem))
end Mine

/-! F3 -/
namespace Mine
open PySem.Spec PySem.Calls

theorem last_at (w : World) (p : Program) (loose : List Str) (mean : ExcName → Option Value) (mg mb : Str → Option Value) (news : List (Addr × Obj)) (x : Str) (t : Tok) (u : Tok) :
    CbClaim PySem.Challenge.rw_ez5021_01.row.prog w (hd.heap_39 w.params) p loose mean mg mb 65 news [] (x.length ≤ 1000) [.str x t, .str (Str.ofString "@") u] (fun t => .int (lastI 64 (cs x)) t) := by
  rw [at_is]; exact last_claim w p loose mean mg mb news x t 64 u
theorem first_cb (w : World) (p : Program) (loose : List Str) (mean : ExcName → Option Value) (mg mb : Str → Option Value) (news : List (Addr × Obj)) (x : Str) (t : Tok) (u : Tok) :
    CbClaim PySem.Challenge.rw_ez5021_01.row.prog w (hd.heap_39 w.params) p loose mean mg mb 58 news [] (x.length ≤ 1000) [.str x t, .str (Str.ofString "]") u] (fun t => .int (firstI 93 (cs x)) t) := by
  rw [cb_is]; exact first_claim w p loose mean mg mb news x t 93 u
theorem first_co (w : World) (p : Program) (loose : List Str) (mean : ExcName → Option Value) (mg mb : Str → Option Value) (news : List (Addr × Obj)) (x : Str) (t : Tok) (u : Tok) :
    CbClaim PySem.Challenge.rw_ez5021_01.row.prog w (hd.heap_39 w.params) p loose mean mg mb 58 news [] (x.length ≤ 1000) [.str x t, .str (Str.ofString ":") u] (fun t => .int (firstI 58 (cs x)) t) := by
  rw [co_is]; exact first_claim w p loose mean mg mb news x t 58 u

theorem cut_at {c : Nat} {x : Str} {p q : List Nat} (h : cs x = p ++ c :: q) :
    Txt.slice x none (some ((tx p).length : Int)) = tx p ∧ Txt.slice x (some (((tx p).length : Int) + 1)) none = tx q ∧ Txt.slice x none (some (((tx p).length : Int) + 1)) = tx (p ++ [c]) := by
  have hl : (cs x).length = p.length + (q.length + 1) := by rw [h]; simp
  obtain ⟨d1, d2⟩ := drop_at h
  rw [len_tx]
  refine ⟨?_, ?_, ?_⟩
  · rw [slice_to (by omega), d1]
  · have := slice_from (x := x) (k := p.length + 1) (by omega)
    rw [d2] at this
    exact this
  · have := slice_to (x := x) (k := p.length + 1) (by omega)
    have e : (cs x).take (p.length + 1) = p ++ [c] := by
      rw [h, List.take_append, List.take_of_length_le (by omega)]
      simp
    rw [e] at this
    exact this
def CutR (a b : Str) : Prop := a = b
def CutU (a b : Str) : Prop := a = b
theorem CutR.eq {a b : Str} (h : CutR a b) : a = b := h
theorem CutU.eq {a b : Str} (h : CutU a b) : a = b := h
theorem slice_zero (x : Str) : Txt.slice x (some (-1 + 1)) none = x := by
  have := slice_from (x := x) (k := 0) (by omega)
  rw [List.drop_zero, tx_cs] at this
  exact this

section
variable {w : World} {p : Program} {loose : List Str} {mean : ExcName → Option Value} {mg mb : Str → Option Value} {news : List (Addr × Obj)} {x : Str} {t u : Tok}
    {dp un : Nat} {gd : Option (List Code)} {cn : Str} {sc : Scope} {a : Addr} {ccd : Value} {cl : List (Str × Addr)} {outer : List Env} {A₀ : Around} {base h₀ : Heap} {L : Addr} {m : Str → Option Value} {s : Shared} {Q E : Value → Shared → Prop}
theorem last_use (k1 : Below A₀ base outer h₀) (k2 : Fr h₀ L s.heap m) (k3 : (hd.heap_39 w.params).In h₀) (k4 : News h₀ L s.heap news) (k5 : Top p loose mean mg mb h₀) (kK : sc.kind = .function)
    (kp : x.length ≤ 1000) (kd : dp + 1 < recursionLimit) (ku : un + 8 < cLine)
    (kN : lsp 64 (cs x) = none → CutR (Txt.slice x (some (-1 + 1)) none) x → CbRet h₀ L m news s Q (fun t => .int (-1) t))
    (kS : ∀ p q : Str, lsp 64 (cs x) = some (cs p, cs q) → CutU (Txt.slice x none (some (p.length : Int))) p → CutR (Txt.slice x (some ((p.length : Int) + 1)) none) q → p.length ≤ 1000 → q.length ≤ 1000 →
      CbRet h₀ L m news s Q (fun t => .int (p.length : Int) t)) :
    wpAny (model PySem.Challenge.rw_ez5021_01.row.prog w) (ktrTop dp un gd cn sc L a ccd cl outer) (call (.ref 65) [.str x t, .str (Str.ofString "@") u]) Q E s := by
  refine last_at w p loose mean mg mb news x t u dp un gd cn sc a ccd cl outer A₀ base h₀ L m s Q E k1 k2 k3 k4 k5 kK kp kd ku ?_
  cases h : lsp 64 (cs x) with
  | none =>
    have e : lastI 64 (cs x) = -1 := by unfold lastI; rw [h]
    rw [e]
    exact kN h (slice_zero x)
  | some r =>
    obtain ⟨a1, a2⟩ := r
    have e : lastI 64 (cs x) = ((tx a1).length : Int) := by unfold lastI; rw [h, len_tx]
    rw [e]
    obtain ⟨s1, s2, _⟩ := cut_at (lsp_some.mp h).1
    have hl := lsp_len h
    rw [len_cs] at kp
    exact kS (tx a1) (tx a2) h s1 s2 (by rw [len_tx]; omega) (by rw [len_tx]; omega)
theorem cb_use1 (k1 : Below A₀ base outer h₀) (k2 : Fr h₀ L s.heap m) (k3 : (hd.heap_39 w.params).In h₀) (k4 : News h₀ L s.heap news) (k5 : Top p loose mean mg mb h₀) (kK : sc.kind = .function)
    (kp : x.length ≤ 1000) (km : 93 ∈ cs x) (kd : dp + 1 < recursionLimit) (ku : un + 8 < cLine)
    (kS : ∀ p q : Str, fsp 93 (cs x) = some (cs p, cs q) → CutU (Txt.slice x none (some ((p.length : Int) + 1))) (p ++ Str.ofString "]") → CutR (Txt.slice x (some ((p.length : Int) + 1)) none) q → p.length ≤ 1000 → q.length ≤ 1000 →
      CbRet h₀ L m news s Q (fun t => .int (p.length : Int) t)) :
    wpAny (model PySem.Challenge.rw_ez5021_01.row.prog w) (ktrTop dp un gd cn sc L a ccd cl outer) (call (.ref 58) [.str x t, .str (Str.ofString "]") u]) Q E s := by
  refine first_cb w p loose mean mg mb news x t u dp un gd cn sc a ccd cl outer A₀ base h₀ L m s Q E k1 k2 k3 k4 k5 kK kp kd ku ?_
  cases h : fsp 93 (cs x) with
  | none => exact absurd km (fsp_none.mp h)
  | some r =>
    obtain ⟨a1, a2⟩ := r
    have e : firstI 93 (cs x) = ((tx a1).length : Int) := by unfold firstI; rw [h, len_tx]
    rw [e]
    obtain ⟨_, s2, s3⟩ := cut_at (fsp_some.mp h).1
    have hl := fsp_len h
    rw [len_cs] at kp
    exact kS (tx a1) (tx a2) h (by show _ = _; rw [s3, cb_is, ← tx_append]; rfl) s2 (by rw [len_tx]; omega) (by rw [len_tx]; omega)
theorem co_use (k1 : Below A₀ base outer h₀) (k2 : Fr h₀ L s.heap m) (k3 : (hd.heap_39 w.params).In h₀) (k4 : News h₀ L s.heap news) (k5 : Top p loose mean mg mb h₀) (kK : sc.kind = .function)
    (kp : x.length ≤ 1000) (kd : dp + 1 < recursionLimit) (ku : un + 8 < cLine)
    (kN : fsp 58 (cs x) = none → CbRet h₀ L m news s Q (fun t => .int (-1) t))
    (kS : ∀ p q : Str, fsp 58 (cs x) = some (cs p, cs q) → CutU (Txt.slice x none (some (p.length : Int))) p → CutR (Txt.slice x (some ((p.length : Int) + 1)) none) q → p.length ≤ 1000 → q.length ≤ 1000 →
      CbRet h₀ L m news s Q (fun t => .int (p.length : Int) t)) :
    wpAny (model PySem.Challenge.rw_ez5021_01.row.prog w) (ktrTop dp un gd cn sc L a ccd cl outer) (call (.ref 58) [.str x t, .str (Str.ofString ":") u]) Q E s := by
  refine first_co w p loose mean mg mb news x t u dp un gd cn sc a ccd cl outer A₀ base h₀ L m s Q E k1 k2 k3 k4 k5 kK kp kd ku ?_
  cases h : fsp 58 (cs x) with
  | none =>
    have e : firstI 58 (cs x) = -1 := by unfold firstI; rw [h]
    rw [e]
    exact kN h
  | some r =>
    obtain ⟨a1, a2⟩ := r
    have e : firstI 58 (cs x) = ((tx a1).length : Int) := by unfold firstI; rw [h, len_tx]
    rw [e]
    obtain ⟨s1, s2, _⟩ := cut_at (fsp_some.mp h).1
    have hl := fsp_len h
    rw [len_cs] at kp
    exact kS (tx a1) (tx a2) h s1 s2 (by rw [len_tx]; omega) (by rw [len_tx]; omega)
end
theorem head_slice {x : Str} {b : Bool} (h : (Txt.slice x none (some 1) == Str.ofString "[") = b) : ((cs x).head? = some 91) = (b = true) := by
  subst h
  rw [slice_one, ob_is, beq_iff_eq]
  cases hx : cs x with
  | nil => simp [tx]
  | cons c r => simp [tx]
theorem head_st {x : Str} (h : (Txt.slice x none (some 1) == Str.ofString "[") = true) : (cs x).head? = some 91 := by
  rw [head_slice h]
theorem head_sf {x : Str} (h : (Txt.slice x none (some 1) == Str.ofString "[") = false) : ¬ (cs x).head? = some 91 := by
  rw [head_slice h]; decide
theorem mem_some {x q : Str} {p : List Nat} (ok : okBr (cs x)) (h : lsp 64 (cs x) = some (p, cs q)) (hs : (Txt.slice q none (some 1) == Str.ofString "[") = true) : 93 ∈ cs q := by
  have e := head_slice hs
  unfold okBr at ok
  rw [behind_some h] at ok
  exact ok (by simp [e])
theorem mem_none {x : Str} (ok : okBr (cs x)) (h : lsp 64 (cs x) = none) (hs : (Txt.slice x none (some 1) == Str.ofString "[") = true) : 93 ∈ cs x := by
  have e := head_slice hs
  unfold okBr at ok
  rw [behind_none h] at ok
  exact ok (by simp [e])

local macro_rules | `(tactic| walk_at "call ref") => `(tactic| (k_here; (with_reducible show wpAny _ _ (call (Value.ref 65) _) _ _ _); refine' last_use ?k1 ?k2 ?k3 ?k4 ?k5 ?kK ?kp ?kd ?ku ?_ ?_; (case k1 => k_asm); (case k2 => k_asm); (case k3 => k_asm); (case k4 => k_asm); (case k5 => k_asm); (case kK => first | exact rfl | assumption); (case kp => first | assumption | omega); (case kd => ktr_room); (case ku => ktr_units); (focus (intro hL9 hR9 t9 h9 tk9 F9 N9; (try dsimp only); (try k_fold))); rotate_left; (focus (intro p9 q9 hL9 hU9 hR9 hp9 hq9 t9 h9 tk9 F9 N9; (try dsimp only); (try k_fold))); rotate_right))
local macro_rules | `(tactic| walk_at "call ref") => `(tactic| (k_here; (with_reducible show wpAny _ _ (call (Value.ref 58) [_, Value.str (Str.ofString ":") _]) _ _ _); refine' co_use ?k1 ?k2 ?k3 ?k4 ?k5 ?kK ?kp ?kd ?ku ?_ ?_; (case k1 => k_asm); (case k2 => k_asm); (case k3 => k_asm); (case k4 => k_asm); (case k5 => k_asm); (case kK => first | exact rfl | assumption); (case kp => first | assumption | omega); (case kd => ktr_room); (case ku => ktr_units); (focus (intro hL9 t9 h9 tk9 F9 N9; (try dsimp only); (try k_fold))); rotate_left; (focus (intro p9 q9 hL9 hU9 hR9 hp9 hq9 t9 h9 tk9 F9 N9; (try dsimp only); (try k_fold))); rotate_right))

local macro_rules | `(tactic| walk_at "call ref") => `(tactic| (k_here; (with_reducible show wpAny _ _ (call (Value.ref 58) [_, Value.str (Str.ofString "]") _]) _ _ _); refine' cb_use1 ?k1 ?k2 ?k3 ?k4 ?k5 ?kK ?kp ?km ?kd ?ku ?_; (case k1 => k_asm); (case k2 => k_asm); (case k3 => k_asm); (case k4 => k_asm); (case k5 => k_asm); (case kK => first | exact rfl | assumption); (case kp => first | assumption | omega); (case km => first | exact mem_some (by assumption) (by assumption) (by assumption) | exact mem_none (by assumption) (by assumption) (by assumption)); (case kd => ktr_room); (case ku => ktr_units); (intro p9 q9 hL9 hU9 hR9 hp9 hq9 t9 h9 tk9 F9 N9; (try dsimp only); (try k_fold))))
local macro_rules | `(tactic| walk_at "storeName") => `(tactic| (k_here; (with_reducible rename CutR _ _ => hh); (rw [CutR.eq hh]); (clear hh)))
local macro_rules | `(tactic| walk_at "storeName") => `(tactic| (k_here; (with_reducible rename CutU _ _ => hh); (rw [CutU.eq hh]); (clear hh)))

set_option maxRecDepth 100000 in
set_option maxHeartbeats 8000000 in
theorem read_claim (w : World) (p : Program) (loose : List Str) (mean : ExcName → Option Value) (mg mb : Str → Option Value) (news : List (Addr × Obj))
    (x : Str) (t : Tok) :
    TupClaim PySem.Challenge.rw_ez5021_01.row.prog w (hd.heap_39 w.params) p loose mean mg mb 72 news (x.length ≤ 1000 ∧ okBr (cs x)) [.str x t] (readL (cs x)) := by
  k_with_none
  k_fill
  dsimp only [TupClaim, TupRet]
  intros; rename_i hpre _ _ hret
  obtain ⟨hLen, hOk⟩ := hpre
  refine wpAny_call ?_
  k_dflt cell_enter
  k_steps
  all_goals (
    (try (with_reducible rename CutU _ _ => z1); have u1 := CutU.eq z1); (try (with_reducible rename CutR _ _ => z2); have u2 := CutR.eq z2)
    (try have e3 := head_st (by assumption)); (try have e3' := head_sf (by assumption))
    (try have e4 := ne_of_len (by assumption)); (try have e4' := eq_of_len (by assumption))
    (try rw [u1] at e4); (try rw [u1] at e4')
    (rename News _ _ _ _ => lN')
    refine hret _ _ _ _ _ _ ?_ ?_ ?_ ?_ (by k_asm) (news_top lN' ?_)
    case refine_1 => first | refine tv_none ?_ | refine tv_some ?_
                     all_goals simp [readL, behind, hostRest, tailOf, orNone, cs_cb, fsp_nil, lsp_nil, *]
    case refine_2 => first | refine tv_none ?_ | refine tv_some ?_
                     all_goals simp [readL, behind, hostRest, tailOf, orNone, cs_cb, fsp_nil, lsp_nil, *]
    case refine_3 => first | refine tv_none ?_ | refine tv_some ?_
                     all_goals simp [readL, behind, hostRest, tailOf, orNone, cs_cb, fsp_nil, lsp_nil, *]
    case refine_4 => first | assumption | (rename (_ < _ ∧ AllLt _ _) => lx; exact kst_ltOf lx.2) | (rename (_ < _ ∧ _ < _ ∧ AllLt _ _) => lx; exact kst_ltOf lx.2.2) | (rename (_ < _ ∧ _ < _ ∧ _ < _ ∧ AllLt _ _) => lx; exact kst_ltOf lx.2.2.2)
    case refine_5 => intro p hp; repeat (first | exact hp | apply List.mem_cons_of_mem))
end Mine

/-! F4 -/
namespace Mine
open PySem.Spec PySem.Calls

/-- a text that the law may build -/
def fine (x : Str) : Prop := x.length ≤ 1000 ∧ PyData.strOk x = true ∧ okBr (cs x)

section
variable {w : World} {p : Program} {loose : List Str} {mean : ExcName → Option Value} {mg mb : Str → Option Value} {news : List (Addr × Obj)} {x : Str} {t u : Tok}
    {dp un : Nat} {gd : Option (List Code)} {cn : Str} {sc : Scope} {a : Addr} {ccd : Value} {cl : List (Str × Addr)} {outer : List Env} {A₀ : Around} {base h₀ : Heap} {L : Addr} {m : Str → Option Value} {s : Shared} {Q E : Value → Shared → Prop}
theorem cb_use2 (k1 : Below A₀ base outer h₀) (k2 : Fr h₀ L s.heap m) (k3 : (hd.heap_39 w.params).In h₀) (k4 : News h₀ L s.heap news) (k5 : Top p loose mean mg mb h₀) (kK : sc.kind = .function)
    (kp : x.length ≤ 1000) (kd : dp + 1 < recursionLimit) (ku : un + 8 < cLine)
    (kN : fsp 93 (cs x) = none → CbRet h₀ L m news s Q (fun t => .int (-1) t))
    (kS : ∀ k : Nat, 93 ∈ cs x → CbRet h₀ L m news s Q (fun t => .int (k : Int) t)) :
    wpAny (model PySem.Challenge.rw_ez5021_01.row.prog w) (ktrTop dp un gd cn sc L a ccd cl outer) (call (.ref 58) [.str x t, .str (Str.ofString "]") u]) Q E s := by
  refine first_cb w p loose mean mg mb news x t u dp un gd cn sc a ccd cl outer A₀ base h₀ L m s Q E k1 k2 k3 k4 k5 kK kp kd ku ?_
  cases h : fsp 93 (cs x) with
  | none =>
    have e : firstI 93 (cs x) = -1 := by unfold firstI; rw [h]
    rw [e]
    exact kN h
  | some r =>
    obtain ⟨a1, a2⟩ := r
    have e : firstI 93 (cs x) = ((a1.length : Nat) : Int) := by unfold firstI; rw [h]
    rw [e]
    refine kS a1.length ?_
    rw [(fsp_some.mp h).1]
    simp
end

def piecesL : List Str := [Str.ofString "@", Str.ofString ":", Str.ofString "[", Str.ofString "]", Str.ofString "a", Str.ofString "B.c", Str.ofString "80", Str.ofString "%41", Str.ofString "::1", Str.ofString "é", Str.ofString "1"]
theorem getD_all {α : Type} {P : α → Prop} {l : List α} {d : α} (h : ∀ x ∈ l, P x) (hd : P d) (k : Nat) : P (l.getD k d) := by
  rw [List.getD_eq_getElem?_getD]
  cases e : l[k]? with
  | none => exact hd
  | some y => exact h y (List.mem_of_getElem? e)
theorem piece_ok (k : Nat) : (piecesL.getD k Str.empty).length ≤ 3 ∧ PyData.strOk (piecesL.getD k Str.empty) = true :=
  getD_all (P := fun x => x.length ≤ 3 ∧ PyData.strOk x = true) (by decide +kernel) (by decide +kernel) k
theorem gen_piece {M : Model} {A : Around} {E : Value → Shared → Prop} {s : Shared} {Q : Value → Shared → Prop} {x : Str} {t u : Tok} {k : Nat}
    (h : ∀ z : Str, z.length ≤ 3 → PyData.strOk z = true → wpAny M A (inplaceOp Operator.Add (.str x t) (.str z u)) Q E s) :
    wpAny M A (inplaceOp Operator.Add (.str x t) (.str ([Str.ofString "@", Str.ofString ":", Str.ofString "[", Str.ofString "]", Str.ofString "a", Str.ofString "B.c", Str.ofString "80", Str.ofString "%41", Str.ofString "::1", Str.ofString "é", Str.ofString "1"].getD k Str.empty) u)) Q E s :=
  h _ (piece_ok k).1 (piece_ok k).2
theorem gen_mod {M : Model} {A : Around} {E : Value → Shared → Prop} {s : Shared} {Q : Unit → Shared → Prop} {x : Str} {env : Env} {t : Tok} {k : Int}
    (h : ∀ z : Int, 0 ≤ z → z < 25937424601 → wpAny M A (storeName env x (.int z t)) Q E s) :
    wpAny M A (storeName env x (.int (k.fmod 25937424601) t)) Q E s :=
  h _ (Int.fmod_nonneg_of_pos _ (by decide)) (Int.fmod_lt_of_pos _ (by decide))
theorem gen_range {M : Model} {A : Around} {E : Value → Shared → Prop} {s : Shared} {Q : Value → Shared → Prop} {t : Tok} {k : Int}
    (h : ∀ z : Int, 3 ≤ z → z ≤ 9 → wpAny M A (call (.type "range") [.int z t]) Q E s) :
    wpAny M A (call (.type "range") [.int (k.fmod 7 + 3) t]) Q E s := by
  have h1 := Int.fmod_nonneg_of_pos k (show (0 : Int) < 7 by decide)
  have h2 := Int.fmod_lt_of_pos k (show (0 : Int) < 7 by decide)
  exact h _ (by omega) (by omega)
theorem strOk_append {x y : Str} (hx : PyData.strOk x = true) (hy : PyData.strOk y = true) : PyData.strOk (x ++ y) = true := by
  unfold PyData.strOk at *
  rw [PySem.Str.cps_append, Array.all_append, hx, hy]
  rfl
def FW (pre : List Int) (n : Int) (x : Str) : Prop := 0 ≤ n ∧ n < 25937424601 ∧ x.length ≤ 3 * pre.length ∧ PyData.strOk x = true
theorem fw_start {n : Int} (h0 : 0 ≤ n) (h1 : n < 25937424601) : FW [] n (Str.ofString "") := ⟨h0, h1, by decide, by decide +kernel⟩
theorem fw_turn {pre : List Int} {k n : Int} {x z : Str} (h : FW pre n x) (hz1 : z.length ≤ 3) (hz2 : PyData.strOk z = true) : FW (pre ++ [k]) (n.fdiv 11) (x ++ z) := by
  obtain ⟨h0, h1, h2, h3⟩ := h
  have e : n.fdiv 11 = n / 11 := Int.fdiv_eq_ediv_of_nonneg _ (by decide)
  refine ⟨by omega, by omega, ?_, strOk_append h3 hz2⟩
  rw [PySem.Str.length_append, List.length_append, List.length_singleton]
  omega
theorem fw_ok {pre : List Int} {n : Int} {x : Str} (h : FW pre n x) : PyData.strOk x = true := h.2.2.2
theorem fw_len {pre : List Int} {n z : Int} {x : Str} (h : FW pre n x) (hk : pre.length < (z - 0).toNat) (hz : z ≤ 9) : x.length ≤ 24 := by
  have := h.2.2.1
  omega
theorem whole_le {z n : Int} {x : Str} (h : FW (rangeKs 0 (z - 0).toNat) n x) (hz : z ≤ 9) : x.length ≤ 27 := by
  have := h.2.2.1
  rw [rangeKs_length] at this
  omega
theorem okBr_cb (l : List Nat) : okBr (l ++ [93]) := by
  intro _
  unfold behind
  cases h : lsp 64 (l ++ [93]) with
  | none => simp
  | some r =>
    obtain ⟨a1, a2⟩ := r
    obtain ⟨e, _⟩ := lsp_some.mp h
    show 93 ∈ a2
    rcases List.eq_nil_or_concat a2 with rfl | ⟨a3, b, rfl⟩
    · have := congrArg List.getLast? e
      simp at this
    · have := congrArg List.getLast? e
      rw [List.concat_eq_append, ← List.cons_append, ← List.append_assoc, List.getLast?_concat, List.getLast?_concat] at this
      rw [List.concat_eq_append, ← Option.some.inj this]
      simp
theorem fine_cb {x : Str} (h1 : x.length ≤ 27) (h2 : PyData.strOk x = true) : fine (x ++ Str.ofString "]") := by
  refine ⟨?_, strOk_append h2 (by decide +kernel), ?_⟩
  · rw [PySem.Str.length_append]
    have : (Str.ofString "]").length = 1 := by decide
    omega
  · rw [cs_cb]
    exact okBr_cb _
theorem fine_same {x r : Str} (h1 : x.length ≤ 27) (h2 : PyData.strOk x = true) (hb : behind (cs x) = cs r) (h3 : (cs r).head? = some 91 → 93 ∈ cs r) : fine x := by
  refine ⟨by omega, h2, ?_⟩
  unfold okBr
  rw [hb]
  exact h3

local macro_rules | `(tactic| walk_at "call ref") => `(tactic| (k_here; (with_reducible show wpAny _ _ (call (Value.ref 65) _) _ _ _); (have hW9 := whole_le (by assumption) (by assumption)); refine' last_use ?k1 ?k2 ?k3 ?k4 ?k5 ?kK ?kp ?kd ?ku ?_ ?_; (case k1 => k_asm); (case k2 => k_asm); (case k3 => k_asm); (case k4 => k_asm); (case k5 => k_asm); (case kK => first | exact rfl | assumption); (case kp => first | assumption | omega); (case kd => ktr_room); (case ku => ktr_units); (focus (intro hL9 hR9 t9 h9 tk9 F9 N9; (try dsimp only); (try k_fold))); rotate_left; (focus (intro p9 q9 hL9 hU9 hR9 hp9 hq9 t9 h9 tk9 F9 N9; (try dsimp only); (try k_fold))); rotate_right))
local macro_rules | `(tactic| walk_at "call ref") => `(tactic| (k_here; (with_reducible show wpAny _ _ (call (Value.ref 58) [_, Value.str (Str.ofString "]") _]) _ _ _); refine' cb_use2 ?k1 ?k2 ?k3 ?k4 ?k5 ?kK ?kp ?kd ?ku ?_ ?_; (case k1 => k_asm); (case k2 => k_asm); (case k3 => k_asm); (case k4 => k_asm); (case k5 => k_asm); (case kK => first | exact rfl | assumption); (case kp => first | assumption | omega); (case kd => ktr_room); (case ku => ktr_units); (focus (intro hL9 t9 h9 tk9 F9 N9; (try dsimp only); (try k_fold))); rotate_left; (focus (intro n9 hM9 t9 h9 tk9 F9 N9; (try dsimp only); (try k_fold))); rotate_right))
local macro_rules | `(tactic| walk_at "storeName") => `(tactic| (k_here; (with_reducible rename CutR _ _ => hh); (rw [CutR.eq hh]); (clear hh)))
local macro_rules | `(tactic| walk_at "inplaceOp Add str str") => `(tactic| (k_here; refine' gen_piece ?_; (intro z9 hz1 hz2); (have hX9 := fw_len (by assumption) (by assumption) (by assumption))))
local macro_rules | `(tactic| walk_at "storeName") => `(tactic| (k_here; refine' gen_mod ?_; (intro z9 hz1 hz2)))
local macro_rules | `(tactic| walk_at "call type:range") => `(tactic| (k_here; refine' gen_range ?_; (intro z9 hz1 hz2)))

set_option maxRecDepth 100000 in
set_option maxHeartbeats 8000000 in
theorem free_claim (w : World) (p : Program) (loose : List Str) (mean : ExcName → Option Value) (mg mb : Str → Option Value) (news : List (Addr × Obj))
    (n : Int) (t : Tok) :
  ∀ (dp un : Nat) (gd : Option (List Code)) (cn : Str) (cs : Scope) (a : Addr) (ccd : Value) (cl : List (Str × Addr)) (outer : List Env) (A₀ : Around) (base h₀ : Heap) (L : Addr) (m : Str → Option Value) (s : Shared) (Q E : Value → Shared → Prop),
    Below A₀ base outer h₀ → Fr h₀ L s.heap m → (hd.heap_39 w.params).In h₀ → News h₀ L s.heap news → Top p loose mean mg mb h₀ → cs.kind = .function →
    dp + 3 < recursionLimit → un + 40 < cLine → 
    (∀ (x : Str) (t : Tok) (h' : Heap) (tk' : Nat), fine x → Fr h₀ L h' m → News h₀ L h' news → Q (.str x t) { s with heap := h', toks := tk' }) →
      wpAny (model PySem.Challenge.rw_ez5021_01.row.prog w) (ktrTop dp un gd cn cs L a ccd cl outer) (call (.ref 79) [.int n t]) Q E s := by
  k_with_none
  k_fill
  intros; rename_i hret
  refine wpAny_call ?_
  k_dflt cell_enter
  k_with "pyIter ref" => k_state (fun pre n x => FW pre n x) "number" "text"
  k_with "state" => first | exact fw_start (by assumption) (by assumption) | exact fw_turn (by assumption) (by assumption) (by assumption)
  k_steps
  all_goals (refine hret _ _ _ _ ?_ (by k_asm) (by k_asm))
  all_goals first
    | exact fine_cb (by assumption) (fw_ok (by assumption))
    | exact fine_same (by assumption) (fw_ok (by assumption)) (behind_none (by assumption)) (fun _ => by assumption)
    | exact fine_same (by assumption) (fw_ok (by assumption)) (behind_some (by assumption)) (fun _ => by assumption)
    | exact fine_same (by assumption) (fw_ok (by assumption)) (behind_none (by assumption)) (fun h => absurd h (head_sf (by assumption)))
    | exact fine_same (by assumption) (fw_ok (by assumption)) (behind_some (by assumption)) (fun h => absurd h (head_sf (by assumption)))
end Mine

/-! PL2 -/
namespace Mine
open PySem.Spec PySem.Calls

def userOk (x : Str) : Prop := x.length ≤ 3 ∧ PyData.strOk x = true
def portOk (x : Str) : Prop := x.length ≤ 3 ∧ PyData.strOk x = true ∧ 64 ∉ cs x
def behOk (x : Str) : Prop := x.length ≤ 2 ∧ PyData.strOk x = true ∧ 64 ∉ cs x ∧ 58 ∉ cs x
def hostOk (x : Str) : Prop := x.length ≤ 8 ∧ PyData.strOk x = true ∧ 64 ∉ cs x ∧ (((cs x).head? = some 91 ∧ fsp 93 (cs x) = some ((cs x).dropLast, [])) ∨ ((cs x).head? ≠ some 91 ∧ 58 ∉ cs x))
def userB (x : Str) : Bool := decide (x.length ≤ 3 ∧ PyData.strOk x = true)
def portB (x : Str) : Bool := decide (x.length ≤ 3 ∧ PyData.strOk x = true ∧ 64 ∉ cs x)
def behB (x : Str) : Bool := decide (x.length ≤ 2 ∧ PyData.strOk x = true ∧ 64 ∉ cs x ∧ 58 ∉ cs x)
def hostB (x : Str) : Bool := decide (x.length ≤ 8 ∧ PyData.strOk x = true ∧ 64 ∉ cs x ∧ (((cs x).head? = some 91 ∧ fsp 93 (cs x) = some ((cs x).dropLast, [])) ∨ ((cs x).head? ≠ some 91 ∧ 58 ∉ cs x)))
theorem userB_ok {x : Str} (h : userB x = true) : userOk x := by unfold userB at h; unfold userOk; exact of_decide_eq_true h
theorem portB_ok {x : Str} (h : portB x = true) : portOk x := by unfold portB at h; unfold portOk; exact of_decide_eq_true h
theorem behB_ok {x : Str} (h : behB x = true) : behOk x := by unfold behB at h; unfold behOk; exact of_decide_eq_true h
theorem hostB_ok {x : Str} (h : hostB x = true) : hostOk x := by unfold hostB at h; unfold hostOk; exact of_decide_eq_true h

theorem laid_list {U h b P : List Nat} {ou op : Option (List Nat)} (hU : (U = [] ∧ ou = none) ∨ ∃ u, U = u ++ [64] ∧ ou = some u) (hP : (P = [] ∧ op = none) ∨ ∃ q, P = 58 :: q ∧ 64 ∉ q ∧ op = some q)
    (hh : 64 ∉ h) (hb : 64 ∉ b) (hb' : 58 ∉ b) (hk : (h.head? = some 91 ∧ fsp 93 h = some (h.dropLast, [])) ∨ (h.head? ≠ some 91 ∧ 58 ∉ h ∧ b = [])) :
    okBr (U ++ (h ++ (b ++ P))) ∧ readL (U ++ (h ++ (b ++ P))) = (ou, orNone h, op) := by
  have hR : 64 ∉ h ++ (b ++ P) := by
    simp only [List.mem_append, not_or]
    refine ⟨hh, hb, ?_⟩
    rcases hP with ⟨rfl, _⟩ | ⟨q, rfl, hq, _⟩
    · simp
    · simp [hq]
  have hB : behind (U ++ (h ++ (b ++ P))) = h ++ (b ++ P) ∧ (lsp 64 (U ++ (h ++ (b ++ P)))).map (·.1) = ou := by
    rcases hU with ⟨rfl, rfl⟩ | ⟨u, rfl, rfl⟩
    · have e : lsp 64 ([] ++ (h ++ (b ++ P))) = none := lsp_none.mpr hR
      exact ⟨behind_none e, by rw [e]; rfl⟩
    · have e : lsp 64 (u ++ [64] ++ (h ++ (b ++ P))) = some (u, h ++ (b ++ P)) := lsp_some.mpr ⟨by simp, hR⟩
      exact ⟨behind_some e, by rw [e]; rfl⟩
  unfold okBr readL
  rw [hB.1, hB.2]
  rcases hk with ⟨k1, k2⟩ | ⟨k1, k2, rfl⟩
  · obtain ⟨e, hn⟩ := fsp_some.mp k2
    have hne : h ≠ [] := by rintro rfl; simp at k1
    have h93 : 93 ∈ h := by rw [e]; simp
    have hd : (h ++ (b ++ P)).head? = some 91 := by
      cases h with
      | nil => simp at k1
      | cons c r => simpa using k1
    have hf : fsp 93 (h ++ (b ++ P)) = some (h.dropLast, b ++ P) := by
      refine fsp_some.mpr ⟨?_, hn⟩
      conv => lhs; rw [e]
      simp
    have hH : hostRest (h ++ (b ++ P)) = (some h, b ++ P) := by
      unfold hostRest
      rw [if_pos hd, hf]
      show (some (h.dropLast ++ [93]), b ++ P) = _
      rw [← e]
    refine ⟨fun _ => List.mem_append.mpr (.inl h93), ?_⟩
    rw [hH]
    rcases hP with ⟨rfl, rfl⟩ | ⟨q, rfl, hq, rfl⟩
    · have e2 : fsp 58 (b ++ []) = none := fsp_none.mpr (by simpa using hb')
      simp [tailOf, orNone, e2, hne, fsp_none.mpr hb']
    · have e2 : fsp 58 (b ++ 58 :: q) = some (b, q) := fsp_some.mpr ⟨rfl, hb'⟩
      simp [tailOf, orNone, e2, hne]
  · have hd : (h ++ ([] ++ P)).head? ≠ some 91 := by
      cases h with
      | nil =>
        rcases hP with ⟨rfl, _⟩ | ⟨q, rfl, _, _⟩
        · simp
        · simp
      | cons c r => simpa using k1
    refine ⟨fun z => absurd z hd, ?_⟩
    have hH : hostRest (h ++ ([] ++ P)) = (none, h ++ ([] ++ P)) := by
      unfold hostRest
      rw [if_neg hd]
    rw [hH]
    rcases hP with ⟨rfl, rfl⟩ | ⟨q, rfl, hq, rfl⟩
    · have e2 : fsp 58 h = none := fsp_none.mpr k2
      simp [tailOf, e2]
    · have e2 : fsp 58 (h ++ 58 :: q) = some (h, q) := fsp_some.mpr ⟨rfl, k2⟩
      simp [tailOf, e2]

def UOk (U : Str) (ou : Option (List Nat)) : Prop := (U = Str.ofString "" ∧ ou = none) ∨ ∃ u, userOk u ∧ U = u ++ Str.ofString "@" ∧ ou = some (cs u)
def POk (P : Str) (op : Option (List Nat)) : Prop := (P = Str.ofString "" ∧ op = none) ∨ ∃ q, portOk q ∧ P = Str.ofString ":" ++ q ∧ op = some (cs q)
theorem uok0 : UOk (Str.ofString "") none := .inl ⟨rfl, rfl⟩
theorem uok1 {u : Str} (h : userOk u) : UOk (u ++ Str.ofString "@") (some (cs u)) := .inr ⟨u, h, rfl, rfl⟩
theorem pok0 : POk (Str.ofString "") none := .inl ⟨rfl, rfl⟩
theorem pok1 {q : Str} (h : portOk q) : POk (Str.ofString ":" ++ q) (some (cs q)) := .inr ⟨q, h, rfl, rfl⟩
theorem cs_nil : cs (Str.ofString "") = [] := by decide
theorem cs_at : cs (Str.ofString "@") = [64] := by decide
theorem cs_co : cs (Str.ofString ":") = [58] := by decide
theorem UOk.tell {U : Str} {ou : Option (List Nat)} (h : UOk U ou) : U.length ≤ 4 ∧ PyData.strOk U = true ∧ ((cs U = [] ∧ ou = none) ∨ ∃ u, cs U = u ++ [64] ∧ ou = some u) := by
  rcases h with ⟨rfl, rfl⟩ | ⟨u, hu, rfl, rfl⟩
  · exact ⟨by decide, by decide +kernel, .inl ⟨cs_nil, rfl⟩⟩
  · refine ⟨?_, strOk_append hu.2 (by decide +kernel), .inr ⟨cs u, by rw [cs_append, cs_at], rfl⟩⟩
    have h1 := hu.1
    have e : (Str.ofString "@" : Str).length = 1 := by decide
    rw [PySem.Str.length_append]
    omega
theorem POk.tell {P : Str} {op : Option (List Nat)} (h : POk P op) : P.length ≤ 4 ∧ PyData.strOk P = true ∧ ((cs P = [] ∧ op = none) ∨ ∃ q, cs P = 58 :: q ∧ 64 ∉ q ∧ op = some q) := by
  rcases h with ⟨rfl, rfl⟩ | ⟨q, hq, rfl, rfl⟩
  · exact ⟨by decide, by decide +kernel, .inl ⟨cs_nil, rfl⟩⟩
  · refine ⟨?_, strOk_append (by decide +kernel) hq.2.1, .inr ⟨cs q, by rw [cs_append, cs_co]; rfl, hq.2.2, rfl⟩⟩
    have h1 := hq.1
    have e : (Str.ofString ":" : Str).length = 1 := by decide
    rw [PySem.Str.length_append]
    omega
section
variable {U h b P : Str} {ou op : Option (List Nat)} {v : Value}
theorem endA (hU : UOk U ou) (hP : POk P op) (hh : hostOk h) (hs : (Txt.slice h none (some 1) == Str.ofString "[") = false) :
    fine (U ++ h ++ P) ∧ readL (cs (U ++ h ++ P)) = (ou, orNone (cs h), op) := by
  obtain ⟨u1, u2, u3⟩ := hU.tell
  obtain ⟨p1, p2, p3⟩ := hP.tell
  obtain ⟨h1, h2, h3, h4⟩ := hh
  have hn := head_sf hs
  have key := laid_list (U := cs U) (h := cs h) (b := []) (P := cs P) u3 p3 h3 (by simp) (by simp) (.inr ⟨hn, (by
    rcases h4 with ⟨z, _⟩ | ⟨_, z⟩
    · exact absurd z hn
    · exact z), rfl⟩)
  have e : cs (U ++ h ++ P) = cs U ++ (cs h ++ ([] ++ cs P)) := by rw [cs_append, cs_append, List.append_assoc]; rfl
  unfold fine
  rw [e]
  refine ⟨⟨?_, strOk_append (strOk_append u2 h2) p2, key.1⟩, key.2⟩
  rw [PySem.Str.length_append, PySem.Str.length_append]
  omega
theorem endB (hU : UOk U ou) (hP : POk P op) (hh : hostOk h) (hb : behOk b) (hs : (Txt.slice h none (some 1) == Str.ofString "[") = true) :
    fine (U ++ h ++ b ++ P) ∧ readL (cs (U ++ h ++ b ++ P)) = (ou, orNone (cs h), op) := by
  obtain ⟨u1, u2, u3⟩ := hU.tell
  obtain ⟨p1, p2, p3⟩ := hP.tell
  obtain ⟨h1, h2, h3, h4⟩ := hh
  obtain ⟨b1, b2, b3, b4⟩ := hb
  have hn := head_st hs
  have key := laid_list (U := cs U) (h := cs h) (b := cs b) (P := cs P) u3 p3 h3 b3 b4 (.inl ⟨hn, (by
    rcases h4 with ⟨_, z⟩ | ⟨z, _⟩
    · exact z
    · exact absurd hn z)⟩)
  have e : cs (U ++ h ++ b ++ P) = cs U ++ (cs h ++ (cs b ++ cs P)) := by rw [cs_append, cs_append, cs_append, List.append_assoc, List.append_assoc]
  unfold fine
  rw [e]
  refine ⟨⟨?_, strOk_append (strOk_append (strOk_append u2 h2) b2) p2, key.1⟩, key.2⟩
  rw [PySem.Str.length_append, PySem.Str.length_append, PySem.Str.length_append]
  omega
theorem tvA1 (hU : UOk U ou) (hP : POk P op) (hh : hostOk h) (hs : (Txt.slice h none (some 1) == Str.ofString "[") = false) (hv : TV ou v) : TV (readL (cs (U ++ h ++ P))).1 v := by rw [(endA hU hP hh hs).2]; exact hv
theorem tvA2 (hU : UOk U ou) (hP : POk P op) (hh : hostOk h) (hs : (Txt.slice h none (some 1) == Str.ofString "[") = false) (hv : TV (orNone (cs h)) v) : TV (readL (cs (U ++ h ++ P))).2.1 v := by rw [(endA hU hP hh hs).2]; exact hv
theorem tvA3 (hU : UOk U ou) (hP : POk P op) (hh : hostOk h) (hs : (Txt.slice h none (some 1) == Str.ofString "[") = false) (hv : TV op v) : TV (readL (cs (U ++ h ++ P))).2.2 v := by rw [(endA hU hP hh hs).2]; exact hv
theorem tvB1 (hU : UOk U ou) (hP : POk P op) (hh : hostOk h) (hb : behOk b) (hs : (Txt.slice h none (some 1) == Str.ofString "[") = true) (hv : TV ou v) : TV (readL (cs (U ++ h ++ b ++ P))).1 v := by rw [(endB hU hP hh hb hs).2]; exact hv
theorem tvB2 (hU : UOk U ou) (hP : POk P op) (hh : hostOk h) (hb : behOk b) (hs : (Txt.slice h none (some 1) == Str.ofString "[") = true) (hv : TV (orNone (cs h)) v) : TV (readL (cs (U ++ h ++ b ++ P))).2.1 v := by rw [(endB hU hP hh hb hs).2]; exact hv
theorem tvB3 (hU : UOk U ou) (hP : POk P op) (hh : hostOk h) (hb : behOk b) (hs : (Txt.slice h none (some 1) == Str.ofString "[") = true) (hv : TV op v) : TV (readL (cs (U ++ h ++ b ++ P))).2.2 v := by rw [(endB hU hP hh hb hs).2]; exact hv
theorem tv_n : TV none .none := rfl
theorem tv_s {x : Str} {t : Tok} : TV (some (cs x)) (.str x t) := tv_some rfl
theorem tv_hs {x : Str} {t : Tok} (h : (x.length : Int) ≠ 0) : TV (orNone (cs x)) (.str x t) := tv_some (by unfold orNone; rw [if_neg (ne_of_len h)])
theorem tv_hn {x : Str} (h : (x.length : Int) = 0) : TV (orNone (cs x)) .none := tv_none (by unfold orNone; rw [if_pos (eq_of_len h)])
end
theorem news_top2 {h₀ h : Heap} {L D1 D2 : Addr} {o1 o2 : Obj} {rest news : List (Addr × Obj)} (N : News h₀ L h ((D2, o2) :: (D1, o1) :: rest)) (hs : ∀ p ∈ news, p ∈ rest) : News h₀ L h ((D2, o2) :: (D1, o1) :: news) := fun p hp => N p (by
  rcases List.mem_cons.mp hp with rfl | hm
  · exact List.mem_cons_self
  · rcases List.mem_cons.mp hm with rfl | hm
    · exact List.mem_cons_of_mem _ List.mem_cons_self
    · exact List.mem_cons_of_mem _ (List.mem_cons_of_mem _ (hs p hm)))
end Mine

/-! F5 -/
namespace Mine
open PySem.Spec PySem.Calls

def datTell (P : Str → Bool) (none? : Bool) : Dat → Bool
  | .none => none?
  | .str x => P x
  | _ => false
theorem dat_opt {L9 : List (Addr × Obj)} {v : Value} {d : Dat} {ds : List Dat} (P : Str → Bool) (hm : d ∈ ds) (hD : DatIn L9 v d) (h : ds.all (datTell P true) = true) : v = .none ∨ ∃ x t, v = .str x t ∧ P x = true := by
  have := List.all_eq_true.mp h d hm
  cases hD with
  | none => exact .inl rfl
  | str x t => exact .inr ⟨x, t, rfl, this⟩
  | _ => simp [datTell] at this
theorem dat_str {L9 : List (Addr × Obj)} {v : Value} {d : Dat} {ds : List Dat} (P : Str → Bool) (hm : d ∈ ds) (hD : DatIn L9 v d) (h : ds.all (datTell P false) = true) : ∃ x t, v = .str x t ∧ P x = true := by
  have := List.all_eq_true.mp h d hm
  cases hD with
  | str x t => exact ⟨x, t, rfl, this⟩
  | _ => simp [datTell] at this
def behindL : List Str := [Str.ofString "", Str.ofString "zz", Str.ofString ".", Str.ofString "]"]
theorem beh_ok (k : Nat) : behOk (behindL.getD k Str.empty) := behB_ok (getD_all (P := fun x => behB x = true) (by decide +kernel) (by decide +kernel) k)
theorem gen_behind {M : Model} {A : Around} {E : Value → Shared → Prop} {s : Shared} {Q : Value → Shared → Prop} {x : Str} {t u : Tok} {k : Nat}
    (h : ∀ z : Str, behOk z → z.length ≤ 2 → wpAny M A (inplaceOp Operator.Add (.str x t) (.str z u)) Q E s) :
    wpAny M A (inplaceOp Operator.Add (.str x t) (.str ([Str.ofString "", Str.ofString "zz", Str.ofString ".", Str.ofString "]"].getD k Str.empty) u)) Q E s :=
  h _ (beh_ok k) (beh_ok k).1

def hostsL : List Str := [Str.ofString "", Str.ofString "h", Str.ofString "a.b", Str.ofString "[::1]", Str.ofString "[v1.x:y]", Str.ofString "[]", Str.ofString "%41", Str.ofString "é"]
theorem host_ok (k : Nat) : hostOk (hostsL.getD k Str.empty) := hostB_ok (getD_all (P := fun x => hostB x = true) (by decide +kernel) (by decide +kernel) k)
theorem gen_host {M : Model} {A : Around} {E : Value → Shared → Prop} {s : Shared} {Q : Unit → Shared → Prop} {x : Str} {env : Env} {t : Tok} {k : Nat}
    (h : ∀ z : Str, hostOk z → z.length ≤ 8 → wpAny M A (storeName env x (.str z t)) Q E s) :
    wpAny M A (storeName env x (.str ([Str.ofString "", Str.ofString "h", Str.ofString "a.b", Str.ofString "[::1]", Str.ofString "[v1.x:y]", Str.ofString "[]", Str.ofString "%41", Str.ofString "é"].getD k Str.empty) t)) Q E s :=
  h _ (host_ok k) (host_ok k).1
theorem gen_toks {M : Model} {A : Around} {α : Type} {c : Sem α} {Q : α → Shared → Prop} {E : Value → Shared → Prop} {hp : Heap} {gs : Array GenState} {dr : Drawn} {os : OsState} {n k : Nat}
    (h : ∀ t : Nat, wpAny M A c Q E { heap := hp, gens := gs, drawn := dr, toks := t, os := os }) : wpAny M A c Q E { heap := hp, gens := gs, drawn := dr, toks := n + k, os := os } := h _
local macro_rules | `(tactic| walk_at "execs cons") => `(tactic| (k_here; refine gen_toks ?_; intro tk9))
local macro_rules | `(tactic| walk_at "execs nil") => `(tactic| (k_here; refine gen_toks ?_; intro tk9))
local macro_rules | `(tactic| walk_at "no such key") => `(tactic| fail)
local macro_rules | `(tactic| walk_at "storeName") => `(tactic| (k_here; refine' gen_host ?_; (intro z9 hz1 hz2)))
local macro_rules | `(tactic| walk_at "call ref nil") => `(tactic| (k_here; refine wpAny_call ?_; k_dflt (refine' code_def ?k1 ?k2 ?k3 ?k4 ?k5 ?kA ?kF ?kK ?k6 ?k7 ?k8 ?k9 ?kB ?_ ?c2 ?c3 ?c4 ?c5; (case kA => exact rfl); (case kF => exact rfl); (case kK => exact rfl); (case k1 => k_asm); (case k2 => k_asm); (case k3 => k_asm); (case k4 => k_asm); (case k5 => k_asm); (case k6 => k_is); (case k7 => k_is); (case k8 => ktr_room); (case k9 => exact BindsTo.of_eq rfl); (case c5 => decide); (case kB => exact locs rfl); (case c2 => exact rfl); (case c3 => exact rfl); (case c4 => exact rfl); k_whole; intro g' L' h' FG' F' N' B' X' T'; (try dsimp only); (try k_lift B'); (try k_fold))))
local macro_rules | `(tactic| walk_at "inplaceOp Add str str") => `(tactic| (k_here; refine' gen_behind ?_; (intro z9 hz1 hz2)))
local macro_rules | `(tactic| walk_at "subscriptTail") => `(tactic| (k_here; (with_reducible show wpAny _ _ (subscriptTail _ _ (Value.ref _) (Value.int _ _)) _ _ _); (with_unfolding_all refine' kd_item (L9 := []) ?k1 ?k2 ?k3 ?k4 ?k5 ?k6 ?_ ?k7; (case k1 => k_asm); (case k2 => k_memK); (case k3 => kqd_all); (case k4 => exact Int.fmod_nonneg_of_pos _ (by decide)); (case k5 => exact Int.fmod_lt_of_pos _ (by decide)); (case k6 => exact Int.lt_trans (Int.fmod_lt_of_pos _ (by decide)) (by decide)); (case k7 => with_unfolding_all rfl)); (intro v9 d9 hk9 hm9 hD9); (first | ((have hA9 := dat_str hostB hm9 hD9 ?hz); (case hz => decide +kernel); (obtain ⟨x9, t9, e9, hP9⟩ := hA9); (have hQ9 := hostB_ok hP9); (have hL9 := hQ9.1); (clear hP9); (clear hk9 hm9 hD9); (subst e9)) | ((have hA9 := dat_opt portB hm9 hD9 ?hz); (case hz => decide +kernel); (rcases hA9 with e9 | ⟨x9, t9, e9, hP9⟩); (focus (clear hk9 hm9 hD9; subst e9)); rotate_left; (focus ((have hQ9 := portB_ok hP9); (have hL9 := hQ9.1); (clear hP9); (clear hk9 hm9 hD9); (subst e9))); rotate_right) | ((have hA9 := dat_opt userB hm9 hD9 ?hz); (case hz => decide +kernel); (rcases hA9 with e9 | ⟨x9, t9, e9, hP9⟩); (focus (clear hk9 hm9 hD9; subst e9)); rotate_left; (focus ((have hQ9 := userB_ok hP9); (have hL9 := hQ9.1); (clear hP9); (clear hk9 hm9 hD9); (subst e9))); rotate_right))))

set_option maxRecDepth 100000 in
set_option maxHeartbeats 40000000 in
theorem laid_claim (w : World) (p : Program) (loose : List Str) (mean : ExcName → Option Value) (mg mb : Str → Option Value) (news : List (Addr × Obj))
    (n : Int) (t : Tok) :
  ∀ (dp un : Nat) (gd : Option (List Code)) (cn : Str) (sc : Scope) (a : Addr) (ccd : Value) (cl : List (Str × Addr)) (outer : List Env) (A₀ : Around) (base h₀ : Heap) (L : Addr) (m : Str → Option Value) (s : Shared) (Q E : Value → Shared → Prop),
    Below A₀ base outer h₀ → Fr h₀ L s.heap m → (hd.heap_39 w.params).In h₀ → News h₀ L s.heap news → Top p loose mean mg mb h₀ → sc.kind = .function →
    dp + 3 < recursionLimit → un + 40 < cLine → 
    (∀ (x : Str) (t : Tok) (D1 D2 : Addr) (v1 v2 v3 : Value) (h' : Heap) (tk' : Nat), fine x → TV (readL (cs x)).1 v1 → TV (readL (cs x)).2.1 v2 → TV (readL (cs x)).2.2 v3 → 
      (∀ p ∈ news, p.1 < D1) → D1 < D2 → Fr h₀ L h' m → News h₀ L h' ((D2, { cls := .type "tuple", data := .seq #[.str x t, .ref D1] }) :: (D1, tup3 v1 v2 v3) :: news) → Q (.ref D2) { s with heap := h', toks := tk' }) →
      wpAny (model PySem.Challenge.rw_ez5021_01.row.prog w) (ktrTop dp un gd cn sc L a ccd cl outer) (call (.ref 86) [.int n t]) Q E s := by
  k_with_none
  k_fill
  intros; rename_i hret
  refine wpAny_call ?_
  k_dflt cell_enter
  k_with "table" => skip
  k_steps
  all_goals (
    (rename News _ _ _ _ => lN')
    refine hret _ _ _ _ _ _ _ _ _ ?kf ?t1 ?t2 ?t3 ?l1 ?l2 (by k_asm) (news_top2 lN' ?sub)
    case kf => first
      | exact (endA (by first | exact uok0 | exact uok1 (by assumption)) (by first | exact pok0 | exact pok1 (by assumption)) (by assumption) (by assumption)).1
      | exact (endB (by first | exact uok0 | exact uok1 (by assumption)) (by first | exact pok0 | exact pok1 (by assumption)) (by assumption) (by assumption) (by assumption)).1
    case t1 => first
      | exact tvA1 (by first | exact uok0 | exact uok1 (by assumption)) (by first | exact pok0 | exact pok1 (by assumption)) (by assumption) (by assumption) (by first | exact tv_n | exact tv_s)
      | exact tvB1 (by first | exact uok0 | exact uok1 (by assumption)) (by first | exact pok0 | exact pok1 (by assumption)) (by assumption) (by assumption) (by assumption) (by first | exact tv_n | exact tv_s)
    case t2 => first
      | exact tvA2 (by first | exact uok0 | exact uok1 (by assumption)) (by first | exact pok0 | exact pok1 (by assumption)) (by assumption) (by assumption) (by first | exact tv_hs (by assumption) | exact tv_hn (by assumption))
      | exact tvB2 (by first | exact uok0 | exact uok1 (by assumption)) (by first | exact pok0 | exact pok1 (by assumption)) (by assumption) (by assumption) (by assumption) (by first | exact tv_hs (by assumption) | exact tv_hn (by assumption))
    case t3 => first
      | exact tvA3 (by first | exact uok0 | exact uok1 (by assumption)) (by first | exact pok0 | exact pok1 (by assumption)) (by assumption) (by assumption) (by first | exact tv_n | exact tv_s)
      | exact tvB3 (by first | exact uok0 | exact uok1 (by assumption)) (by first | exact pok0 | exact pok1 (by assumption)) (by assumption) (by assumption) (by assumption) (by first | exact tv_n | exact tv_s)
    case l1 => first | assumption | (rename (_ < _ ∧ AllLt _ _) => lx; exact kst_ltOf lx.2) | (rename (_ < _ ∧ _ < _ ∧ AllLt _ _) => lx; exact kst_ltOf lx.2.2) | (rename (_ < _ ∧ _ < _ ∧ _ < _ ∧ AllLt _ _) => lx; exact kst_ltOf lx.2.2.2) | (rename (_ < _ ∧ _ < _ ∧ _ < _ ∧ _ < _ ∧ AllLt _ _) => lx; exact kst_ltOf lx.2.2.2.2) | (rename (_ < _ ∧ _ < _ ∧ _ < _ ∧ _ < _ ∧ _ < _ ∧ AllLt _ _) => lx; exact kst_ltOf lx.2.2.2.2.2) | (rename (_ < _ ∧ _ < _ ∧ _ < _ ∧ _ < _ ∧ _ < _ ∧ _ < _ ∧ AllLt _ _) => lx; exact kst_ltOf lx.2.2.2.2.2.2) | (rename (_ < _ ∧ _ < _ ∧ _ < _ ∧ _ < _ ∧ _ < _ ∧ _ < _ ∧ _ < _ ∧ AllLt _ _) => lx; exact kst_ltOf lx.2.2.2.2.2.2.2) | (rename (_ < _ ∧ _ < _ ∧ _ < _ ∧ _ < _ ∧ _ < _ ∧ _ < _ ∧ _ < _ ∧ _ < _ ∧ AllLt _ _) => lx; exact kst_ltOf lx.2.2.2.2.2.2.2.2)
    case l2 => first | (rename (_ < _ ∧ AllLt _ _) => lx; exact lx.1) | (rename (_ < _ ∧ _ < _ ∧ AllLt _ _) => lx; exact lx.1) | (rename (_ < _ ∧ _ < _ ∧ _ < _ ∧ AllLt _ _) => lx; exact lx.1) | (rename (_ < _ ∧ _ < _ ∧ _ < _ ∧ _ < _ ∧ AllLt _ _) => lx; exact lx.1) | (rename (_ < _ ∧ _ < _ ∧ _ < _ ∧ _ < _ ∧ _ < _ ∧ AllLt _ _) => lx; exact lx.1) | (rename (_ < _ ∧ _ < _ ∧ _ < _ ∧ _ < _ ∧ _ < _ ∧ _ < _ ∧ AllLt _ _) => lx; exact lx.1) | (rename (_ < _ ∧ _ < _ ∧ _ < _ ∧ _ < _ ∧ _ < _ ∧ _ < _ ∧ _ < _ ∧ AllLt _ _) => lx; exact lx.1) | (rename (_ < _ ∧ _ < _ ∧ _ < _ ∧ _ < _ ∧ _ < _ ∧ _ < _ ∧ _ < _ ∧ _ < _ ∧ AllLt _ _) => lx; exact lx.1)
    case sub => intro p hp; repeat (first | exact hp | apply List.mem_cons_of_mem))
end Mine

/-! PL3 -/
namespace Mine
open PySem.Spec PySem.Calls

def dO : Option (List Nat) → Dat
  | none => .none
  | some l => .str (tx l)
def dR (r : Option (List Nat) × Option (List Nat) × Option (List Nat)) : Dat := .tuple [dO r.1, dO r.2.1, dO r.2.2]
theorem din_O {L9 : List (Addr × Obj)} {o : Option (List Nat)} {v : Value} (h : TV o v) : DatIn L9 v (dO o) := by
  cases o with
  | none => rw [show v = .none from h]; exact .none
  | some l => obtain ⟨t, e⟩ := h; rw [e]; exact .str _ _
theorem din_R {L9 : List (Addr × Obj)} {D : Addr} {v1 v2 v3 : Value} {r : Option (List Nat) × Option (List Nat) × Option (List Nat)} (hm : (D, tup3 v1 v2 v3) ∈ L9)
    (T1 : TV r.1 v1) (T2 : TV r.2.1 v2) (T3 : TV r.2.2 v3) : DatIn L9 (.ref D) (dR r) :=
  DatIn.tuple (vs := [v1, v2, v3]) hm (.cons (din_O T1) (.cons (din_O T2) (.cons (din_O T3) .nil)))

def sgn (l : List Nat) : Prop := ∀ c ∈ l, c < 0x110000
theorem strOk_iff {l : List Nat} : PyData.strOk (tx l) = true ↔ sgn l := by
  unfold PyData.strOk tx sgn
  simp
theorem sgn_of {x : Str} (h : PyData.strOk x = true) : sgn (cs x) := by
  rw [← tx_cs x] at h
  exact strOk_iff.mp h
theorem sgn_app {a b : List Nat} (h : sgn (a ++ b)) : sgn a ∧ sgn b := ⟨fun c hc => h c (List.mem_append.mpr (.inl hc)), fun c hc => h c (List.mem_append.mpr (.inr hc))⟩
theorem sgn_lsp {c : Nat} {l p q : List Nat} (h : sgn l) (e : lsp c l = some (p, q)) : sgn p ∧ sgn q := by
  obtain ⟨e1, _⟩ := lsp_some.mp e
  subst e1
  exact ⟨(sgn_app h).1, fun d hd => (sgn_app h).2 d (List.mem_cons_of_mem _ hd)⟩
theorem sgn_fsp {c : Nat} {l p q : List Nat} (h : sgn l) (e : fsp c l = some (p, q)) : sgn p ∧ sgn q := by
  obtain ⟨e1, _⟩ := fsp_some.mp e
  subst e1
  exact ⟨(sgn_app h).1, fun d hd => (sgn_app h).2 d (List.mem_cons_of_mem _ hd)⟩
def sgnO (o : Option (List Nat)) : Prop := ∀ l, o = some l → sgn l
theorem sgn_behind {l : List Nat} (h : sgn l) : sgn (behind l) := by
  unfold behind
  cases e : lsp 64 l with
  | none => exact h
  | some p => exact (sgn_lsp (p := p.1) (q := p.2) h e).2
theorem sgn_host {r : List Nat} (h : sgn r) : sgnO (hostRest r).1 ∧ sgn (hostRest r).2 := by
  unfold hostRest
  split
  · cases e : fsp 93 r with
    | none => exact ⟨(fun _ z => by cases z), h⟩
    | some p =>
      have q := sgn_fsp (p := p.1) (q := p.2) h e
      refine ⟨fun l z => ?_, q.2⟩
      cases z
      intro c hc
      rcases List.mem_append.mp hc with hc | hc
      · exact q.1 c hc
      · rw [List.mem_singleton.mp hc]; decide
  · exact ⟨(fun _ z => by cases z), h⟩
theorem sgn_orNone {r : List Nat} (h : sgn r) : sgnO (orNone r) := by
  unfold orNone
  split
  · intro _ z; cases z
  · intro _ z; cases z; exact h
theorem sgn_or {a b : Option (List Nat)} (h : sgnO a) (k : sgnO b) : sgnO (a.or b) := by
  cases a with
  | none => exact k
  | some l => exact h
theorem sgn_tail {o : Option (List Nat)} {r : List Nat} (ho : sgnO o) (h : sgn r) : sgnO (tailOf o r).1 ∧ sgnO (tailOf o r).2 := by
  unfold tailOf
  cases e : fsp 58 r with
  | none => exact ⟨sgn_or ho (sgn_orNone h), fun _ z => by cases z⟩
  | some p =>
    have q := sgn_fsp (p := p.1) (q := p.2) h e
    exact ⟨sgn_or ho (sgn_orNone q.1), fun _ z => by cases z; exact q.2⟩
theorem sgn_read {l : List Nat} (h : sgn l) : sgnO (readL l).1 ∧ sgnO (readL l).2.1 ∧ sgnO (readL l).2.2 := by
  have hb := sgn_host (sgn_behind h)
  have ht := sgn_tail hb.1 hb.2
  refine ⟨fun q z => ?_, ht.1, ht.2⟩
  show sgn q
  have z' : (lsp 64 l).map (·.1) = some q := z
  cases e : lsp 64 l with
  | none => rw [e] at z'; cases z'
  | some p =>
    rw [e] at z'
    cases z'
    exact (sgn_lsp (p := p.1) (q := p.2) h e).1
theorem ok_O {o : Option (List Nat)} (n : Nat) (h : sgnO o) : kqdOk n (dO o) = true := by
  cases o with
  | none => cases n <;> rfl
  | some l =>
    have := strOk_iff.mpr (h l rfl)
    cases n <;> simpa [dO, kqdOk] using this
theorem ok_R {x : Str} (h : fine x) : kqdOk 8 (dR (readL (cs x))) = true := by
  obtain ⟨h1, h2, h3⟩ := sgn_read (sgn_of h.2.1)
  simp [dR, kqdOk, ok_O 7 h1, ok_O 7 h2, ok_O 7 h3]
end Mine

/-! F6 -/
namespace Mine
open PySem.Spec PySem.Calls

structure Halt (q : Prop) : Prop where
  out : q
theorem fine_len {x : Str} (h : fine x) : x.length ≤ 1000 := h.1
theorem fine_pre {x : Str} (h : fine x) : x.length ≤ 1000 ∧ okBr (cs x) := ⟨h.1, h.2.2⟩
theorem din_at {D : Addr} {v1 v2 v3 : Value} {r : Option (List Nat) × Option (List Nat) × Option (List Nat)} (T1 : TV r.1 v1) (T2 : TV r.2.1 v2) (T3 : TV r.2.2 v3) : DatIn [(D, tup3 v1 v2 v3)] (.ref D) (dR r) :=
  din_R (List.mem_singleton.mpr rfl) T1 T2 T3
section
variable {w : World} {p : Program} {loose : List Str} {mean : ExcName → Option Value} {mg mb : Str → Option Value} {news : List (Addr × Obj)} {x : Str} {n : Int} {t u : Tok}
    {dp un : Nat} {gd : Option (List Code)} {cn : Str} {sc : Scope} {a : Addr} {ccd : Value} {cl : List (Str × Addr)} {outer : List Env} {A₀ : Around} {base h₀ : Heap} {L : Addr} {m : Str → Option Value} {s : Shared} {Q E : Value → Shared → Prop}
theorem free_use (k1 : Below A₀ base outer h₀) (k2 : Fr h₀ L s.heap m) (k3 : (hd.heap_39 w.params).In h₀) (k4 : News h₀ L s.heap news) (k5 : Top p loose mean mg mb h₀) (kK : sc.kind = .function)
    (kd : dp + 3 < recursionLimit) (ku : un + 40 < cLine)
    (kR : ∀ (x : Str) (t : Tok) (h' : Heap) (tk' : Nat), fine x → Fr h₀ L h' m → News h₀ L h' news → Q (.str x t) { s with heap := h', toks := tk' }) :
    wpAny (model PySem.Challenge.rw_ez5021_01.row.prog w) (ktrTop dp un gd cn sc L a ccd cl outer) (call (.ref 79) [.int n t]) Q E s :=
  free_claim w p loose mean mg mb news n t dp un gd cn sc a ccd cl outer A₀ base h₀ L m s Q E k1 k2 k3 k4 k5 kK kd ku kR
theorem laid_use (k1 : Below A₀ base outer h₀) (k2 : Fr h₀ L s.heap m) (k3 : (hd.heap_39 w.params).In h₀) (k4 : News h₀ L s.heap news) (k5 : Top p loose mean mg mb h₀) (kK : sc.kind = .function)
    (kd : dp + 3 < recursionLimit) (ku : un + 40 < cLine)
    (kR : ∀ (x : Str) (t : Tok) (D1 D2 : Addr) (v1 v2 v3 : Value) (h' : Heap) (tk' : Nat), fine x → TV (readL (cs x)).1 v1 → TV (readL (cs x)).2.1 v2 → TV (readL (cs x)).2.2 v3 → 
      (∀ p ∈ news, p.1 < D1) → D1 < D2 → Fr h₀ L h' m → News h₀ L h' ((D2, { cls := .type "tuple", data := .seq #[.str x t, .ref D1] }) :: (D1, tup3 v1 v2 v3) :: news) → Q (.ref D2) { s with heap := h', toks := tk' }) :
    wpAny (model PySem.Challenge.rw_ez5021_01.row.prog w) (ktrTop dp un gd cn sc L a ccd cl outer) (call (.ref 86) [.int n t]) Q E s :=
  laid_claim w p loose mean mg mb news n t dp un gd cn sc a ccd cl outer A₀ base h₀ L m s Q E k1 k2 k3 k4 k5 kK kd ku kR
theorem read_use (k1 : Below A₀ base outer h₀) (k2 : Fr h₀ L s.heap m) (k3 : (hd.heap_39 w.params).In h₀) (k4 : News h₀ L s.heap news) (k5 : Top p loose mean mg mb h₀) (kK : sc.kind = .function)
    (kp : fine x) (kd : dp + 3 < recursionLimit) (ku : un + 40 < cLine) (kR : TupRet h₀ L m news s Q (readL (cs x))) :
    wpAny (model PySem.Challenge.rw_ez5021_01.row.prog w) (ktrTop dp un gd cn sc L a ccd cl outer) (call (.ref 72) [.str x t]) Q E s :=
  read_claim w p loose mean mg mb news x t dp un gd cn sc a ccd cl outer A₀ base h₀ L m s Q E k1 k2 k3 k4 k5 kK (fine_pre kp) kd ku kR
theorem split_use (k1 : Below A₀ base outer h₀) (k2 : Fr h₀ L s.heap m) (k3 : (hd.heap_39 w.params).In h₀) (k4 : News h₀ L s.heap news) (k5 : Top p loose mean mg mb h₀) (kK : sc.kind = .function)
    (kp : fine x) (kd : dp + 3 < recursionLimit) (ku : un + 40 < cLine) (kR : TupRet h₀ L m news s Q (readL (cs x))) :
    wpAny (model PySem.Challenge.rw_ez5021_01.row.prog w) (ktrTop dp un gd cn sc L a ccd cl outer) (call (.ref 21) [.str x t]) Q E s :=
  split_claim w p loose mean mg mb news x t dp un gd cn sc a ccd cl outer A₀ base h₀ L m s Q E k1 k2 k3 k4 k5 kK (fine_pre kp) kd ku kR
end

local macro_rules | `(tactic| walk_at "call ref") => `(tactic| (k_here; (with_reducible show wpAny _ _ (call (Value.ref 79) _) _ _ _); k_dflt (refine' free_use ?k1 ?k2 ?k3 ?k4 ?k5 ?kK ?kd ?ku ?_; (case k1 => k_asm); (case k2 => k_asm); (case k3 => k_asm); (case k4 => k_asm); (case k5 => k_asm); (case kK => first | exact rfl | assumption); (case kd => ktr_room); (case ku => ktr_units)); (intro x9 t9 h9 tk9 hFine9 F9 N9; (have hLen9 := fine_len hFine9); (try dsimp only); (try k_fold))))
local macro_rules | `(tactic| walk_at "call ref") => `(tactic| (k_here; (with_reducible show wpAny _ _ (call (Value.ref 72) _) _ _ _); k_dflt (refine' read_use ?k1 ?k2 ?k3 ?k4 ?k5 ?kK ?kp ?kd ?ku ?_; (case k1 => k_asm); (case k2 => k_asm); (case k3 => k_asm); (case k4 => k_asm); (case k5 => k_asm); (case kK => first | exact rfl | assumption); (case kp => assumption); (case kd => ktr_room); (case ku => ktr_units)); (intro D9 v91 v92 v93 h9 tk9 hT91 hT92 hT93 l9 F9 N9; (have hD9 := din_at (D := D9) hT91 hT92 hT93); (try k_lt l9); (try dsimp only); (try k_fold))))
local macro_rules | `(tactic| walk_at "call ref") => `(tactic| (k_here; (with_reducible show wpAny _ _ (call (Value.ref 21) _) _ _ _); k_dflt (refine' split_use ?k1 ?k2 ?k3 ?k4 ?k5 ?kK ?kp ?kd ?ku ?_; (case k1 => k_asm); (case k2 => k_asm); (case k3 => k_asm); (case k4 => k_asm); (case k5 => k_asm); (case kK => first | exact rfl | assumption); (case kp => assumption); (case kd => ktr_room); (case ku => ktr_units)); (intro D9 v91 v92 v93 h9 tk9 hT91 hT92 hT93 l9 F9 N9; (have hD9 := din_at (D := D9) hT91 hT92 hT93); (try k_lt l9); (try dsimp only); (try k_fold))))
local macro_rules | `(tactic| walk_at "call ref") => `(tactic| (k_here; (with_reducible show wpAny _ _ (call (Value.ref 86) _) _ _ _); k_dflt (refine' laid_use ?k1 ?k2 ?k3 ?k4 ?k5 ?kK ?kd ?ku ?_; (case k1 => k_asm); (case k2 => k_asm); (case k3 => k_asm); (case k4 => k_asm); (case k5 => k_asm); (case kK => first | exact rfl | assumption); (case kd => ktr_room); (case ku => ktr_units)); (intro x9 t9 D91 D92 v91 v92 v93 h9 tk9 hFine9 hT91 hT92 hT93 l9 l8 F9 N9; (have hLen9 := fine_len hFine9); (have hD9 := din_at (D := D91) hT91 hT92 hT93); (try k_lt l9); (try k_lt2 l8); (try dsimp only); (try k_fold))))

theorem ok_snoc {ds : List Dat} {x : Str} (h : ∀ d ∈ ds, kqdOk 8 d = true) (hf : fine x) : ∀ d ∈ ds ++ [dR (readL (cs x))], kqdOk 8 d = true := fun d hd =>
  (List.mem_append.mp hd).elim (h d) fun e => by rw [List.mem_singleton.mp e]; exact ok_R hf
theorem len_snoc {ds : List Dat} {d : Dat} {pre : List Int} {n : Int} (h : ds.length = pre.length) : (ds ++ [d]).length = (pre ++ [n]).length := by
  rw [List.length_append, List.length_append, h]; rfl
theorem len_snoc2 {k : Nat} {ds : List Dat} {d : Dat} {pre : List Int} {n : Int} (h : ds.length ≤ k + pre.length) : (ds ++ [d]).length ≤ k + (pre ++ [n]).length := by
  rw [List.length_append, List.length_append]; simp only [List.length_cons, List.length_nil]; omega
local macro_rules | `(tactic| kmk_nums) => `(tactic| (refine' kmk_from ?gi ?gx; (case gi => l_ints); (case gx => kmk_sign)))

set_option maxRecDepth 100000 in
set_option maxHeartbeats 20000000 in
theorem law_holds : PySem.Challenge.rw_ez5021_01.Holds := by
  k_with_none
  refine hd ?_
  k_go0
  all_goals try k_fold
  k_with "state" => exact And.intro rfl (And.intro (ok_snoc (by assumption) (by assumption)) (len_snoc (by assumption)))
  k_with "pyIter ref" => (k_dat (fun (pre : List Int) (told due : List Dat) => told = due ∧ (∀ d ∈ told, kqdOk 8 d = true) ∧ told.length = pre.length) "told*" "due*"; all_goals (refine Halt.out ?_))
  k_steps
  refine Halt.mk ?_
  k_steps
  refine Halt.mk ?_
  k_with_none
  k_with "state" => exact And.intro rfl (And.intro (ok_snoc (by assumption) (by assumption)) (len_snoc2 (by assumption)))
  k_with "pyIter ref" => (k_dat (fun (pre : List Int) (told due : List Dat) => told = due ∧ (∀ d ∈ told, kqdOk 8 d = true) ∧ told.length ≤ 1000 + pre.length) "told*" "due*"; all_goals (refine Halt.out ?_))
  k_steps
  refine Halt.mk ?_
  k_steps
  refine Halt.mk ?_
  k_steps
end Mine

theorem PySem.Challenge.cw_ez5021_01_holds : PySem.Challenge.rw_ez5021_01.Holds :=
  Mine.law_holds
