import PyProof.Rows.All
import Wide.All
import OpenK.AllK
import Wide.FinOn
import PySem.Challenge.RW_dz0024_01
/-! The law of _ellipsis_match (dz0024-01). The plain law first (words of a pattern, rows of the table, pieces, the greedy search), then the walks
of _ellipsis_match, _law_run, _law_sign, _law_table, each once and over any ledger, then law itself. -/
set_option Elab.async false
set_option maxRecDepth 100000
set_option maxHeartbeats 8000000
section
open PySem PySem.Builtin PySem.Builtin.Str PySem.StrLaws
namespace Mine
/-- a pattern's word: three dots, or a sign -/
inductive Tk where
  | ell
  | sign (c : Nat)

/-- a pattern's words, counted off from the left -/
noncomputable def tk : List Nat → List Tk
  | [] => []
  | c :: r => if (c :: r).take 3 = [46, 46, 46] then .ell :: tk (r.drop 2) else .sign c :: tk r
termination_by l => l.length
decreasing_by all_goals (simp only [List.length_cons, List.length_drop]; omega)

theorem tk_nil : tk [] = [] := by rw [tk]
theorem tk_dots (r : List Nat) : tk (46 :: 46 :: 46 :: r) = .ell :: tk r := by rw [tk]; simp
theorem tk_sign {c : Nat} {r : List Nat} (h : (c :: r).take 3 ≠ [46, 46, 46]) : tk (c :: r) = .sign c :: tk r := by rw [tk, if_neg h]

/-- a text is read as a pattern -/
noncomputable def mt : List Tk → List Nat → Prop
  | [], t => t = []
  | .sign c :: r, t => ∃ t', t = c :: t' ∧ mt r t'
  | .ell :: r, t => ∃ u v, t = u ++ v ∧ mt r v

theorem mt_append : ∀ (a b : List Tk) (t : List Nat), mt (a ++ b) t ↔ ∃ u v, t = u ++ v ∧ mt a u ∧ mt b v
  | [], b, t => by
    constructor
    · intro h; exact ⟨[], t, rfl, rfl, h⟩
    · rintro ⟨u, v, rfl, hu, hv⟩; have hu' : u = [] := hu; subst hu'; exact hv
  | .sign c :: r, b, t => by
    simp only [List.cons_append, mt]
    constructor
    · rintro ⟨t', rfl, h⟩
      obtain ⟨u, v, rfl, hu, hv⟩ := (mt_append r b t').mp h
      exact ⟨c :: u, v, rfl, ⟨u, rfl, hu⟩, hv⟩
    · rintro ⟨u, v, rfl, ⟨u', rfl, hu⟩, hv⟩
      exact ⟨u' ++ v, rfl, (mt_append r b _).mpr ⟨u', v, rfl, hu, hv⟩⟩
  | .ell :: r, b, t => by
    simp only [List.cons_append, mt]
    constructor
    · rintro ⟨x, y, rfl, h⟩
      obtain ⟨u, v, rfl, hu, hv⟩ := (mt_append r b y).mp h
      exact ⟨x ++ u, v, by simp, ⟨x, u, rfl, hu⟩, hv⟩
    · rintro ⟨u, v, rfl, ⟨x, y, rfl, hu⟩, hv⟩
      exact ⟨x, y ++ v, by simp, (mt_append r b _).mpr ⟨y, v, rfl, hu, hv⟩⟩

theorem mt_snoc_sign (a : List Tk) (c : Nat) (t : List Nat) : mt (a ++ [.sign c]) t ↔ ∃ u, t = u ++ [c] ∧ mt a u := by
  rw [mt_append]
  constructor
  · rintro ⟨u, v, rfl, hu, t', rfl, ht⟩
    have : t' = [] := ht
    subst this
    exact ⟨u, rfl, hu⟩
  · rintro ⟨u, rfl, hu⟩
    exact ⟨u, [c], rfl, hu, [], rfl, rfl⟩
theorem mt_snoc_ell (a : List Tk) (t : List Nat) : mt (a ++ [.ell]) t ↔ ∃ u v, t = u ++ v ∧ mt a u := by
  rw [mt_append]
  constructor
  · rintro ⟨u, v, rfl, hu, x, y, rfl, hy⟩
    exact ⟨u, x ++ y, rfl, hu⟩
  · rintro ⟨u, v, rfl, hu⟩
    exact ⟨u, v, rfl, hu, v, [], by simp, rfl⟩

open Classical in
/-- the due answer -/
noncomputable def due (p t : List Nat) : Bool := decide (mt (tk p) t)
theorem due_iff (p t : List Nat) : due p t = true ↔ mt (tk p) t := by unfold due; simp

/-! the table's rows -/
/-- a place of the pattern at which a word begins -/
def Bd (P : List Nat) (k : Nat) : Prop := ∀ x, x <+: P.drop k → tk (P.take k ++ x) = tk (P.take k) ++ tk x

theorem bd_zero (P : List Nat) : Bd P 0 := by intro x _; simp [tk_nil]

theorem take_add {P : List Nat} {k : Nat} {x r : List Nat} (h : P.drop k = x ++ r) (_hk : k ≤ P.length) : P.take (k + x.length) = P.take k ++ x := by
  rw [List.take_add, h]; simp
theorem drop_add {P : List Nat} {k : Nat} {x r : List Nat} (h : P.drop k = x ++ r) : P.drop (k + x.length) = r := by
  rw [← List.drop_drop, h]; simp

theorem bd_dots {P : List Nat} {k : Nat} {r : List Nat} (hb : Bd P k) (hk : k ≤ P.length) (h : P.drop k = 46 :: 46 :: 46 :: r) :
    tk (P.take (k + 1)) = tk (P.take k) ++ [.sign 46] ∧ tk (P.take (k + 2)) = (tk (P.take k) ++ [.sign 46]) ++ [.sign 46] ∧ tk (P.take (k + 3)) = tk (P.take k) ++ [.ell] ∧ Bd P (k + 3) := by
  have e1 : P.take (k + 1) = P.take k ++ [46] := take_add (x := [46]) (r := 46 :: 46 :: r) h hk
  have e2 : P.take (k + 2) = P.take k ++ [46, 46] := take_add (x := [46, 46]) (r := 46 :: r) h hk
  have e3 : P.take (k + 3) = P.take k ++ [46, 46, 46] := take_add (x := [46, 46, 46]) (r := r) h hk
  have d3 : P.drop (k + 3) = r := drop_add (x := [46, 46, 46]) h
  have s1 : tk [46] = [.sign 46] := by rw [tk_sign (by decide), tk_nil]
  have s2 : tk [46, 46] = [.sign 46, .sign 46] := by rw [tk_sign (by decide), s1]
  have s3 : tk [46, 46, 46] = [.ell] := by rw [tk_dots, tk_nil]
  refine ⟨?_, ?_, ?_, ?_⟩
  · rw [e1, hb _ (by rw [h]; exact ⟨46 :: 46 :: r, rfl⟩), s1]
  · rw [e2, hb _ (by rw [h]; exact ⟨46 :: r, rfl⟩), s2]; simp
  · rw [e3, hb _ (by rw [h]; exact ⟨r, rfl⟩), s3]
  · intro x hx
    rw [d3] at hx
    obtain ⟨y, hy⟩ := hx
    rw [e3, List.append_assoc, hb _ (by rw [h]; exact ⟨y, by rw [← hy]; rfl⟩), hb _ (by rw [h]; exact ⟨r, rfl⟩), s3]
    show _ ++ tk (46 :: 46 :: 46 :: x) = _
    rw [tk_dots]; simp

theorem bd_sign {P : List Nat} {k c : Nat} {r : List Nat} (hb : Bd P k) (hk : k ≤ P.length) (h : P.drop k = c :: r) (hn : (c :: r).take 3 ≠ [46, 46, 46]) :
    tk (P.take (k + 1)) = tk (P.take k) ++ [.sign c] ∧ Bd P (k + 1) := by
  have e1 : P.take (k + 1) = P.take k ++ [c] := take_add (x := [c]) (r := r) h hk
  have d1 : P.drop (k + 1) = r := drop_add (x := [c]) h
  have key : ∀ x, x <+: r → tk (c :: x) = .sign c :: tk x := by
    rintro x ⟨y, rfl⟩
    refine tk_sign fun e => hn ?_
    rw [← List.cons_append, List.take_append_of_le_length, e]
    have := congrArg List.length e
    simp only [List.length_take, List.length_cons, List.length_nil] at this
    simp only [List.length_cons]; omega
  have s1 : tk [c] = [.sign c] := by rw [key [] ⟨r, rfl⟩, tk_nil]
  refine ⟨?_, ?_⟩
  · rw [e1, hb _ (by rw [h]; exact ⟨r, rfl⟩), s1]
  · intro x hx
    rw [d1] at hx
    rw [e1, List.append_assoc, hb _ (by rw [h]; obtain ⟨y, hy⟩ := hx; exact ⟨y, by rw [← hy]; rfl⟩), hb _ (by rw [h]; exact ⟨r, rfl⟩), s1]
    show _ ++ tk (c :: x) = _
    rw [key x hx]; simp

/-- the table's row: what a list of words makes of every beginning of the text -/
def IsRow (a : List Tk) (T : List Nat) (row : List Bool) : Prop := row.length = T.length + 1 ∧ ∀ j b, row[j]? = some b → (b = true ↔ mt a (T.take j))

theorem row_zero (T : List Nat) : IsRow [] T (true :: List.replicate T.length false) := by
  refine ⟨by simp, fun j b hb => ?_⟩
  cases j with
  | zero => simp at hb; subst hb; simp [mt]
  | succ j =>
    simp only [List.getElem?_cons_succ] at hb
    obtain ⟨h1, h2⟩ := List.getElem?_eq_some_iff.mp hb
    simp only [List.length_replicate] at h1
    simp only [List.getElem_replicate] at h2
    subst h2
    simp only [Bool.false_eq_true, false_iff, mt]
    intro e
    have := congrArg List.length e
    simp only [List.length_take, List.length_nil] at this
    omega

/-- _law_sign -/
def signRow (row : List Bool) (c : Nat) (T : List Nat) : List Bool := false :: (List.range T.length).map fun k => row.getD k false && T.getD k 0 == c

theorem row_sign {a : List Tk} {T : List Nat} {row : List Bool} (c : Nat) (h : IsRow a T row) : IsRow (a ++ [.sign c]) T (signRow row c T) := by
  refine ⟨by simp [signRow], fun j b hb => ?_⟩
  rw [mt_snoc_sign]
  cases j with
  | zero =>
    simp [signRow] at hb
    subst hb
    simp
  | succ j =>
    simp only [signRow, List.getElem?_cons_succ, List.getElem?_map] at hb
    have hj : j < T.length := by
      rcases Nat.lt_or_ge j T.length with h1 | h1
      · exact h1
      · rw [List.getElem?_eq_none (by simpa using h1)] at hb; cases hb
    rw [List.getElem?_range hj] at hb
    simp only [Option.map_some, Option.some.injEq] at hb
    have hr : j < row.length := by rw [h.1]; omega
    have e1 : row.getD j false = row[j] := by simp [List.getD, hr]
    have e2 : T.getD j 0 = T[j] := by simp [List.getD, hj]
    rw [e1, e2] at hb
    have key := h.2 j row[j] (by simp [hr])
    have et : T.take (j + 1) = T.take j ++ [T[j]] := by simp
    rw [← hb, Bool.and_eq_true, beq_iff_eq, key, et]
    constructor
    · rintro ⟨h1, h2⟩; exact ⟨_, by rw [h2], h1⟩
    · rintro ⟨u, e, hu⟩
      have := List.append_inj' e rfl
      refine ⟨by rw [this.1]; exact hu, by simpa using this.2⟩

/-- _law_run -/
noncomputable def runFrom : Bool → List Bool → List Bool
  | _, [] => []
  | r, b :: bs => (r || b) :: runFrom (r || b) bs
theorem runFrom_length : ∀ (bs : List Bool) (r : Bool), (runFrom r bs).length = bs.length
  | [], _ => rfl
  | b :: bs, r => by simp [runFrom, runFrom_length bs]
theorem runFrom_get : ∀ (bs : List Bool) (r : Bool) (j : Nat) (b : Bool), (runFrom r bs)[j]? = some b → (b = true ↔ r = true ∨ ∃ i, i ≤ j ∧ bs[i]? = some true)
  | [], _, _, _, h => by simp [runFrom] at h
  | c :: bs, r, 0, b, h => by
    simp only [runFrom, List.getElem?_cons_zero, Option.some.injEq] at h
    rw [← h, Bool.or_eq_true]
    constructor
    · rintro (h1 | h1)
      · exact .inl h1
      · exact .inr ⟨0, Nat.le_refl _, by simp [h1]⟩
    · rintro (h1 | ⟨i, hi, h1⟩)
      · exact .inl h1
      · have : i = 0 := by omega
        subst this
        exact .inr (by simpa using h1)
  | c :: bs, r, j + 1, b, h => by
    simp only [runFrom, List.getElem?_cons_succ] at h
    rw [runFrom_get bs (r || c) j b h, Bool.or_eq_true]
    constructor
    · rintro ((h1 | h1) | ⟨i, hi, h1⟩)
      · exact .inl h1
      · exact .inr ⟨0, Nat.zero_le _, by simp [h1]⟩
      · exact .inr ⟨i + 1, by omega, by simpa using h1⟩
    · rintro (h1 | ⟨i, hi, h1⟩)
      · exact .inl (.inl h1)
      · cases i with
        | zero => exact .inl (.inr (by simpa using h1))
        | succ i => exact .inr ⟨i, by omega, by simpa using h1⟩

theorem row_run {a : List Tk} {T : List Nat} {row : List Bool} (h : IsRow a T row) : IsRow (a ++ [.ell]) T (runFrom false row) := by
  refine ⟨by rw [runFrom_length, h.1], fun j b hb => ?_⟩
  have hj : j < T.length + 1 := by
    rcases Nat.lt_or_ge j (T.length + 1) with h1 | h1
    · exact h1
    · rw [List.getElem?_eq_none (by rw [runFrom_length, h.1]; exact h1)] at hb; cases hb
  rw [mt_snoc_ell, runFrom_get _ _ _ _ hb]
  constructor
  · rintro (h1 | ⟨i, hi, h1⟩)
    · cases h1
    · refine ⟨T.take i, (T.take j).drop i, ?_, (h.2 i true h1).mp rfl⟩
      have : T.take i = (T.take j).take i := by rw [List.take_take]; congr 1; omega
      rw [this, List.take_append_drop]
  · rintro ⟨u, v, e, hu⟩
    refine .inr ⟨u.length, ?_, ?_⟩
    · have := congrArg List.length e
      simp only [List.length_take, List.length_append] at this
      omega
    · have hl : u.length ≤ j := by
        have := congrArg List.length e
        simp only [List.length_take, List.length_append] at this
        omega
      have eu : T.take u.length = u := by
        have h1 : (T.take j).take u.length = u := by rw [e]; simp
        rw [List.take_take] at h1
        rwa [Nat.min_eq_left hl] at h1
      have hr : u.length < row.length := by rw [h.1]; omega
      have := (h.2 u.length row[u.length] (by simp [hr])).mpr (by rw [eu]; exact hu)
      rw [← this]; simp [hr]
end Mine

end
section
open PySem PySem.Builtin PySem.Builtin.Str PySem.StrLaws
namespace Mine
/-! pieces between the dots -/
def consHead (c : Nat) : List (List Nat) → List (List Nat)
  | [] => [[c]]
  | p :: ps => (c :: p) :: ps
noncomputable def pcs : List Tk → List (List Nat)
  | [] => [[]]
  | .ell :: r => [] :: pcs r
  | .sign c :: r => consHead c (pcs r)
theorem pcs_ne : ∀ a, ∃ p ps, pcs a = p :: ps
  | [] => ⟨_, _, rfl⟩
  | .ell :: _ => ⟨_, _, rfl⟩
  | .sign c :: r => by
    obtain ⟨p, ps, e⟩ := pcs_ne r
    exact ⟨c :: p, ps, by rw [pcs, e]; rfl⟩
/-- the pieces stand in the text, the first at its begin, the last at its end -/
noncomputable def mp : List (List Nat) → List Nat → Prop
  | [], t => t = []
  | [w], t => t = w
  | w :: x :: r, t => ∃ u v, t = w ++ (u ++ v) ∧ mp (x :: r) v
theorem mt_mp : ∀ (a : List Tk) (t : List Nat), mt a t ↔ mp (pcs a) t
  | [], t => Iff.rfl
  | .ell :: r, t => by
    obtain ⟨p, ps, e⟩ := pcs_ne r
    simp only [mt, pcs, e, mp, List.nil_append]
    constructor
    · rintro ⟨u, v, rfl, h⟩; exact ⟨u, v, rfl, by rw [← e]; exact (mt_mp r v).mp h⟩
    · rintro ⟨u, v, rfl, h⟩; exact ⟨u, v, rfl, (mt_mp r v).mpr (by rw [e]; exact h)⟩
  | .sign c :: r, t => by
    obtain ⟨p, ps, e⟩ := pcs_ne r
    have ih := mt_mp r
    simp only [e] at ih
    simp only [mt, pcs, e, consHead]
    cases ps with
    | nil =>
      simp only [mp] at ih ⊢
      constructor
      · rintro ⟨t', rfl, h⟩; rw [(ih t').mp h]
      · rintro rfl; exact ⟨p, rfl, (ih p).mpr rfl⟩
    | cons q qs =>
      simp only [mp] at ih ⊢
      constructor
      · rintro ⟨t', rfl, h⟩
        obtain ⟨u, v, rfl, hm⟩ := (ih t').mp h
        exact ⟨u, v, rfl, hm⟩
      · rintro ⟨u, v, rfl, hm⟩
        exact ⟨p ++ (u ++ v), rfl, (ih _).mpr ⟨u, v, rfl, hm⟩⟩
/-- the pieces stand in the text, one behind the other -/
noncomputable def mm : List (List Nat) → List Nat → Prop
  | [], _ => True
  | w :: r, t => ∃ u v, t = u ++ (w ++ v) ∧ mm r v
theorem mm_more : ∀ (r : List (List Nat)) (u v : List Nat), mm r v → mm r (u ++ v)
  | [], _, _, _ => trivial
  | w :: r, u, v, ⟨x, y, e, h⟩ => ⟨u ++ x, y, by rw [e]; simp, h⟩
theorem mm_nil_cons (r : List (List Nat)) (t : List Nat) : mm ([] :: r) t ↔ mm r t := by
  constructor
  · rintro ⟨u, v, rfl, h⟩; exact mm_more r u _ h
  · intro h; exact ⟨[], t, rfl, h⟩
theorem mm_snoc_nil : ∀ (r : List (List Nat)) (t : List Nat), mm (r ++ [[]]) t ↔ mm r t
  | [], t => ⟨fun _ => trivial, fun _ => ⟨[], t, rfl, trivial⟩⟩
  | w :: r, t => by
    simp only [List.cons_append, mm, mm_snoc_nil r]
theorem mp_ends : ∀ (mid : List (List Nat)) (w0 wn t : List Nat), mp (w0 :: (mid ++ [wn])) t ↔ ∃ x, t = w0 ++ (x ++ wn) ∧ mm mid x
  | [], w0, wn, t => by
    simp only [List.nil_append, mp, mm]
    constructor
    · rintro ⟨u, v, rfl, rfl⟩; exact ⟨u, rfl, trivial⟩
    · rintro ⟨x, rfl, _⟩; exact ⟨x, wn, rfl, rfl⟩
  | w1 :: mid, w0, wn, t => by
    simp only [List.cons_append, mp, mm, mp_ends mid w1 wn]
    constructor
    · rintro ⟨u, v, rfl, x, rfl, h⟩; exact ⟨u ++ (w1 ++ x), by simp, u, x, rfl, h⟩
    · rintro ⟨x, rfl, u, v, rfl, h⟩; exact ⟨u, w1 ++ (v ++ wn), by simp, v, rfl, h⟩

/-- a text from a to b -/
def sl (t : List Nat) (a b : Nat) : List Nat := (t.take b).drop a

theorem mp_cut (mid : List (List Nat)) (w0 wn t : List Nat) : mp (w0 :: (mid ++ [wn])) t ↔ t.take w0.length = w0 ∧ t.drop (t.length - wn.length) = wn ∧ w0.length + wn.length ≤ t.length ∧ mm mid (sl t w0.length (t.length - wn.length)) := by
  rw [mp_ends]
  constructor
  · rintro ⟨x, rfl, h⟩
    have e1 : (w0 ++ (x ++ wn)).length - wn.length = (w0 ++ x).length := by simp; omega
    refine ⟨by simp, ?_, by simp only [List.length_append]; omega, ?_⟩
    · rw [e1, ← List.append_assoc, List.drop_left]
    · rw [sl, e1, ← List.append_assoc, List.take_left, List.drop_left]; exact h
  · rintro ⟨h1, h2, h3, h⟩
    refine ⟨_, ?_, h⟩
    rw [sl]
    have a1 : t = t.take (t.length - wn.length) ++ wn := by conv => lhs; rw [← List.take_append_drop (t.length - wn.length) t, h2]
    have a2 : t.take (t.length - wn.length) = w0 ++ (t.take (t.length - wn.length)).drop w0.length := by
      conv => lhs; rw [← List.take_append_drop w0.length (t.take (t.length - wn.length))]
      rw [List.take_take, Nat.min_eq_left (by omega), h1]
    rw [← List.append_assoc, ← a2]
    exact a1

/-- w stands in t at i, ending by e -/
def Sits (t w : List Nat) (e i : Nat) : Prop := i + w.length ≤ e ∧ (t.drop i).take w.length = w

theorem sl_split {t w : List Nat} {a b i : Nat} (hi : a ≤ i) (hs : Sits t w b i) : sl t a b = sl t a i ++ (w ++ sl t (i + w.length) b) := by
  obtain ⟨h1, h2⟩ := hs
  have e1 : (t.take b).drop i = w ++ (t.take b).drop (i + w.length) := by
    have : ((t.take b).drop i).take w.length = w := by
      rw [List.drop_take, List.take_take, Nat.min_eq_left (by omega)]; exact h2
    conv => lhs; rw [← List.take_append_drop w.length ((t.take b).drop i), this, List.drop_drop]
  have e2 : sl t a b = sl t a i ++ (t.take b).drop i := by
    unfold sl
    have : t.take i = (t.take b).take i := by rw [List.take_take]; congr 1; omega
    rw [this]
    conv => lhs; rw [← List.take_append_drop (i - a) ((t.take b).drop a)]
    rw [List.drop_drop, ← List.drop_take]
    congr 2
    omega
  rw [e2, e1]; rfl

theorem sits_of {t w u v : List Nat} {a b : Nat} (hb : b ≤ t.length) (hab : a ≤ b) (h : sl t a b = u ++ (w ++ v)) : Sits t w b (a + u.length) ∧ v = sl t (a + u.length + w.length) b := by
  have hl := congrArg List.length h
  simp only [sl, List.length_drop, List.length_take, List.length_append] at hl
  have e1 : (t.take b).drop (a + u.length) = w ++ v := by
    rw [← List.drop_drop]; show (sl t a b).drop u.length = _; rw [h]; simp
  refine ⟨⟨by omega, ?_⟩, ?_⟩
  · have : ((t.take b).drop (a + u.length)).take w.length = w := by rw [e1]; simp
    rw [List.drop_take, List.take_take, Nat.min_eq_left (by omega)] at this
    exact this
  · unfold sl; rw [← List.drop_drop, e1]; simp

theorem mm_found {t w : List Nat} {r : List (List Nat)} {a b i : Nat} (hb : b ≤ t.length) (hab : a ≤ b) (hi : a ≤ i) (hs : Sits t w b i) (hf : ∀ k, a ≤ k → k < i → ¬ Sits t w b k) :
    mm (w :: r) (sl t a b) ↔ mm r (sl t (i + w.length) b) := by
  constructor
  · rintro ⟨u, v, e, h⟩
    obtain ⟨hs', rfl⟩ := sits_of hb hab e
    have hle : i ≤ a + u.length := Nat.le_of_not_lt fun hlt => hf _ (by omega) hlt hs'
    have : sl t (i + w.length) b = sl t (i + w.length) (a + u.length + w.length) ++ sl t (a + u.length + w.length) b := by
      have h0 := sl_split (w := []) (t := t) (a := i + w.length) (b := b) (i := a + u.length + w.length) (by omega) ⟨by have := hs'.1; simp; omega, by simp⟩
      simpa using h0
    rw [this]
    exact mm_more r _ _ h
  · intro h
    exact ⟨_, _, sl_split hi hs, h⟩
theorem mm_lost {t w : List Nat} {r : List (List Nat)} {a b : Nat} (hb : b ≤ t.length) (hab : a ≤ b) (hf : ∀ k, a ≤ k → ¬ Sits t w b k) : ¬ mm (w :: r) (sl t a b) := by
  rintro ⟨u, v, e, _⟩
  exact hf _ (by omega) (sits_of hb hab e).1

/-! texts -/
theorem at_sits (x y : Str) (e i : Nat) : At x y e i ↔ Sits x.cps.toList y.cps.toList e i := by
  unfold At Sits
  rw [subAt_eq, beq_iff_eq]
  simp [Str.length]
theorem occ_between (x y : Str) (lo hi : Nat) :
    (occurrences x y lo hi 1 = [] ∧ ∀ k, lo ≤ k → ¬ At x y hi k) ∨ ∃ i r, occurrences x y lo hi 1 = i :: r ∧ lo ≤ i ∧ At x y hi i ∧ ∀ k, lo ≤ k → k < i → ¬ At x y hi k := by
  rw [occ_eq]
  rcases occ_first x y hi 1 (Nat.le_refl _) (List.range' lo (hi + 1 - lo)) lo (fun i h => by simp [List.mem_range'] at h; omega) with ⟨h0, hn⟩ | ⟨pre, a, post, e, h0, ha, hn⟩
  · refine .inl ⟨by rw [h0], fun i hl hi' => ?_⟩
    exact hn i (List.mem_range'_1.mpr ⟨hl, by have := hi'.1; omega⟩) hi'
  · have hs := range'_split_from e
    refine .inr ⟨a, ((forIn (List.range' lo (hi + 1 - lo)) ((#[] : Array Nat), lo) (occBody x y hi 1)).run.fst.toList).tail, ?_, hs.1, ha, fun k h1 h2 => hn k (hs.2 k h1 h2)⟩
    generalize (forIn (List.range' lo (hi + 1 - lo)) ((#[] : Array Nat), lo) (occBody x y hi 1)).run.fst = arr at h0
    have h1 : arr.toList[0]? = some a := by simpa using h0
    cases hL : arr.toList with
    | nil => rw [hL] at h1; cases h1
    | cons b t => rw [hL] at h1; simp at h1; rw [h1]; rfl

/-- text.find(w, lo, hi) -/
def findIn (x y : Str) (lo hi : Nat) : Int := match occurrences x y lo hi 1 with | i :: _ => (i : Int) | [] => -1

theorem find_turn (x y : Str) (r : List (List Nat)) (lo hi : Nat) (hh : hi ≤ x.length) (hl : lo ≤ hi) :
    (findIn x y lo hi = -1 ∧ ¬ mm (y.cps.toList :: r) (sl x.cps.toList lo hi)) ∨
    ∃ i : Nat, findIn x y lo hi = (i : Int) ∧ i + y.length ≤ hi ∧ (mm (y.cps.toList :: r) (sl x.cps.toList lo hi) ↔ mm r (sl x.cps.toList (i + y.length) hi)) := by
  have hh' : hi ≤ x.cps.toList.length := by simpa [Str.length] using hh
  rcases occ_between x y lo hi with ⟨e, hn⟩ | ⟨i, r', e, h1, h2, h3⟩
  · exact .inl ⟨by rw [findIn, e], mm_lost hh' hl fun k hk hs => hn k hk ((at_sits x y hi k).mpr hs)⟩
  · refine .inr ⟨i, by rw [findIn, e], h2.1, ?_⟩
    have := mm_found (r := r) hh' hl h1 ((at_sits x y hi i).mp h2) fun k hk hk' hs => h3 k hk hk' ((at_sits x y hi k).mpr hs)
    simpa [Str.length] using this

/-! the split -/
def dots : Str := Str.ofString "..."
theorem dots_cps : dots.cps.toList = [46, 46, 46] := by decide +kernel
theorem dots_len : dots.length = 3 := by decide +kernel

theorem pcs_signs : ∀ (u : List Nat) (v : List Nat), (∀ k, k < u.length → ¬ Sits (u ++ v) [46, 46, 46] (u ++ v).length k) → ∃ p ps, pcs (tk v) = p :: ps ∧ pcs (tk (u ++ v)) = (u ++ p) :: ps
  | [], v, _ => by
    obtain ⟨p, ps, e⟩ := pcs_ne (tk v)
    exact ⟨p, ps, e, e⟩
  | c :: u, v, h => by
    obtain ⟨p, ps, e, e'⟩ := pcs_signs u v (fun k hk hs => by
      refine h (k + 1) (by simpa using hk) ⟨?_, ?_⟩
      · have := hs.1; simp only [List.length_append, List.length_cons, List.length_nil] at this ⊢; omega
      · simpa using hs.2)
    refine ⟨p, ps, e, ?_⟩
    have h0 := h 0 (by simp)
    rw [List.cons_append, tk_sign (fun e3 => h0 ⟨?_, ?_⟩), pcs, e']
    · rfl
    · have := congrArg List.length e3
      simp only [List.length_take, List.length_cons, List.length_nil, List.length_append] at this ⊢
      omega
    · simpa using e3

theorem parts_pcs (x : Str) : ∀ (cuts : List Nat) (a f : Nat), a ≤ x.length → ChainG x dots x.length a cuts f → (∀ k, f ≤ k → ¬ At x dots x.length k) →
    (partsFrom x 3 a cuts).map (·.cps.toList) = pcs (tk (x.cps.toList.drop a))
  | [], a, f, ha, hc, hf => by
    have e : f = a := hc
    subst e
    have hn : ∀ k, k < (x.cps.toList.drop f).length → ¬ Sits (x.cps.toList.drop f ++ []) [46, 46, 46] (x.cps.toList.drop f ++ []).length k := by
      intro k _ hs
      refine hf (f + k) (by omega) ((at_sits x dots _ _).mpr ⟨?_, ?_⟩)
      · have := hs.1
        rw [dots_cps]
        simp only [List.append_nil, List.length_drop, List.length_cons, List.length_nil, Array.length_toList, Str.length] at this ha ⊢
        omega
      · rw [dots_cps, ← List.drop_drop]
        simpa using hs.2
    obtain ⟨p, ps, e1, e2⟩ := pcs_signs (x.cps.toList.drop f) [] hn
    rw [List.append_nil] at e2
    rw [e2]
    have : p = [] ∧ ps = [] := by rw [tk_nil] at e1; simp [pcs] at e1; exact ⟨e1.1, e1.2⟩
    rw [this.1, this.2]
    simp only [partsFrom, List.map_cons, List.map_nil, strSub_toList, List.append_nil]
    congr 1
    apply List.take_of_length_le
    simp [Str.length]
  | c :: r, a, f, ha, hc, hf => by
    obtain ⟨h1, h2, h3, h4⟩ := hc
    have hcx := h2.1
    rw [dots_len] at hcx h4
    have ih := parts_pcs x r (c + 3) f hcx h4 hf
    have hs := (at_sits x dots _ _).mp h2
    rw [dots_cps] at hs
    have ed : x.cps.toList.drop a = (x.cps.toList.drop a).take (c - a) ++ (46 :: 46 :: 46 :: x.cps.toList.drop (c + 3)) := by
      conv => lhs; rw [← List.take_append_drop (c - a) (x.cps.toList.drop a)]
      congr 1
      rw [List.drop_drop, show a + (c - a) = c by omega]
      conv => lhs; rw [← List.take_append_drop 3 (x.cps.toList.drop c)]
      have h3' : (x.cps.toList.drop c).take 3 = [46, 46, 46] := hs.2
      rw [h3', List.drop_drop]; rfl
    have hl : ((x.cps.toList.drop a).take (c - a)).length = c - a := by
      simp only [List.length_take, List.length_drop, Array.length_toList]
      simp only [Str.length] at hcx
      omega
    obtain ⟨p, ps, e1, e2⟩ := pcs_signs ((x.cps.toList.drop a).take (c - a)) (46 :: 46 :: 46 :: x.cps.toList.drop (c + 3)) (by
      intro k hk hs'
      rw [← ed] at hs'
      rw [hl] at hk
      refine h3 (a + k) (by omega) (by omega) ((at_sits x dots _ _).mpr ⟨?_, ?_⟩)
      · have := hs'.1
        rw [dots_cps]
        simp only [List.length_drop, List.length_cons, List.length_nil, Array.length_toList, Str.length] at this ha ⊢
        omega
      · rw [dots_cps, ← List.drop_drop]
        exact hs'.2)
    rw [← ed] at e2
    rw [e2]
    rw [tk_dots, pcs] at e1
    simp only [List.cons.injEq] at e1
    simp only [partsFrom, List.map_cons, strSub_toList, ih]
    rw [← e1.1, ← e1.2, List.append_nil]

theorem split_pcs (x : Str) : (Txt.split x dots).map (·.cps.toList) = pcs (tk x.cps.toList) := by
  obtain ⟨f, hc, hf⟩ := occ_tight x dots (by rw [dots_len]; omega)
  have key := parts_pcs x _ 0 f (Nat.zero_le _) hc hf
  rw [List.drop_zero] at key
  have whole : ∀ y : Str, occurrences y dots 0 y.length (y.length + 1) = [] → partsFrom y 3 0 (occurrences y dots 0 y.length (y.length + 1)) = [y] := by
    intro y e; rw [e]; simp only [partsFrom, sub_whole]
  unfold Txt.split
  split
  · rename_i h
    have hno : occurrences x dots 0 x.length (x.length + 1) = [] := by
      rcases occ_head x dots (x.length + 1) (by omega) with ⟨e, _⟩ | ⟨i, r, e, hi, _⟩
      · exact e
      · exfalso
        rw [Bool.or_eq_true, decide_eq_true_eq, decide_eq_true_eq] at h
        rcases h with h | h
        · have := hi.1; omega
        · have hd : PySem.Builtin.Str.strKind dots = 1 := by decide +kernel
          rw [hd] at h
          unfold PySem.Builtin.Str.strKind at h
          split at h <;> (try split at h) <;> omega
    rw [← key, whole x hno]
    try rfl
  · split
    · rename_i h
      rw [← key, whole x (by simpa using h)]
      try rfl
    · rw [partsBetween_eq, dots_len]
      exact key

theorem found_two {x : Str} (h : (occurrences x dots 0 x.length 1).isEmpty = false) : 2 ≤ (Txt.split x dots).length := by
  have hx : ∃ i, At x dots x.length i := by
    obtain ⟨i, h1, h2⟩ := (found_iff x dots).mp (by rw [h]; rfl)
    exact ⟨i, h1, h2⟩
  obtain ⟨i, hi⟩ := hx
  rcases occ_head x dots (x.length + 1) (by omega) with ⟨e, hn⟩ | ⟨j, r, e, hj, _⟩
  · exact absurd hi (hn i)
  · unfold Txt.split
    rw [if_neg, if_neg, partsBetween_eq, e]
    · obtain ⟨p, q, e'⟩ := partsFrom_ne x dots.length (j + dots.length) r
      simp only [partsFrom, e', List.length_cons]; omega
    · rw [e]; simp
    · rw [Bool.or_eq_true, decide_eq_true_eq, decide_eq_true_eq]
      rintro (h | h)
      · have := hj.1; omega
      · have hd : PySem.Builtin.Str.strKind dots = 1 := by decide +kernel
        rw [hd] at h
        unfold PySem.Builtin.Str.strKind at h
        split at h <;> (try split at h) <;> omega
theorem not_found {x : Str} (h : (occurrences x dots 0 x.length 1).isEmpty = true) (t : List Nat) : mt (tk x.cps.toList) t ↔ t = x.cps.toList := by
  have hn : ∀ i, ¬ At x dots x.length i := by
    rcases occ_head x dots 1 (Nat.le_refl _) with ⟨_, hn⟩ | ⟨i, r, e, _⟩
    · exact hn
    · rw [e] at h; cases h
  have e : Txt.split x dots = [x] := by
    unfold Txt.split
    split
    · rfl
    · rw [if_pos]
      rcases occ_head x dots (x.length + 1) (by omega) with ⟨e, _⟩ | ⟨i, r, e, hi, _⟩
      · rw [e]; rfl
      · exact absurd hi (hn i)
  rw [mt_mp, ← split_pcs, e]
  rfl
end Mine
namespace Mine
theorem sliceIdx_clamp (l : Option Int) {j : Int} (len : Nat) (h0 : 0 ≤ j) : strSliceIndices l (some j) 1 len = strSliceIndices l (some (min j (len : Int))) 1 len := by
  have a : ¬ (j < 0) := by omega
  have b : ¬ (min j (len : Int) < 0) := by omega
  have c : max 0 (min j (len : Int)) = max 0 (min (min j (len : Int)) (len : Int)) := by omega
  simp only [strSliceIndices, a, b, if_false]
  simp only [show (1 : Int) > 0 by decide, if_true]
  rw [c]
theorem slice_list (x : Str) {a b : Nat} (hab : a ≤ b) (ha : a ≤ x.length) : (Txt.slice x (some (a : Int)) (some (b : Int))).cps.toList = (x.cps.toList.drop a).take (b - a) := by
  have e : Txt.slice x (some (a : Int)) (some (b : Int)) = sliceText x (some (a : Int)) (some ((min b x.length : Nat) : Int)) := by
    have e1 : ((min b x.length : Nat) : Int) = min (b : Int) (x.length : Int) := by omega
    unfold Txt.slice sliceText
    rw [sliceIdx_clamp _ _ (by omega), e1]
  rw [e, sliceText_nat x (by omega) (by omega)]
  show (x.cps.toList.drop a).take (min b x.length - a) = _
  rw [List.take_eq_take_iff]
  simp only [List.length_drop, Array.length_toList, Str.length]
  omega
theorem slice_to_list (x : Str) {b : Nat} (hb : b ≤ x.length) : (Txt.slice x none (some (b : Int))).cps.toList = x.cps.toList.take b := by
  have e : Txt.slice x none (some (b : Int)) = sliceText x none (some (b : Int)) := rfl
  rw [e, sliceText_to ⟨by omega, by simp only [Array.length_toList]; simp only [Str.length] at hb; omega⟩]
  simp
theorem slice_dots {x : Str} {a : Nat} {i j : Int} (hi : i = (a : Nat)) (hj : j = (a + 3 : Nat)) (ha : a ≤ x.length) : (Txt.slice x (some i) (some j) == Str.ofString "...") = true ↔ (x.cps.toList.drop a).take 3 = [46, 46, 46] := by
  subst hi hj
  have h := slice_list x (a := a) (b := a + 3) (by omega) ha
  rw [show a + 3 - a = 3 by omega] at h
  rw [beq_iff_eq, ← h, ← dots_cps]
  constructor
  · intro e; rw [e]; rfl
  · intro e; exact Str.ext' (Array.ext' e)
end Mine

end
section
open PySem PySem.W PyProof.Rows
namespace Mine
open_top hd for PySem.Challenge.rw_dz0024_01
end Mine

end
section
open PySem PySem.W PyProof.Rows
namespace Mine
/-- a call of one of the text's defs, from any frame, over any ledger -/
abbrev Claims (lv : Nat) (w : World) (f : Addr) (news : List (Addr × Obj)) (vs : List Value) (Ret : Heap → Addr → (Str → Option Value) → Shared → (Value → Shared → Prop) → Prop) : Prop :=
  ∀ (mean : ExcName → Option Value) (mg mb : Str → Option Value) (dp un : Nat) (gd : Option (List Code)) (cn : Str) (cs : Scope) (a : Addr) (ccd : Value) (cl : List (Str × Addr)) (outer : List Env) (A₀ : Around) (base h₀ : Heap) (L : Addr) (m : Str → Option Value) (s : Shared) (Q E : Value → Shared → Prop),
    Below A₀ base outer h₀ → Fr h₀ L s.heap m → (hd.heap_39 w.params).In h₀ → News h₀ L s.heap news → Top hd.view_39 (looseW hd.view_39 []) mean mg mb h₀ → cs.kind = .function →
    dp + lv < recursionLimit → un + 10 * lv < cLine → Ret h₀ L m s Q →
      wpAny (model PySem.Challenge.rw_dz0024_01.row.prog w) (ktrTop dp un gd cn cs L a ccd cl outer) (call (.ref f) vs) Q E s
end Mine

end
section
open PySem PySem.W PyProof.Rows
namespace Mine
section
open Builtin Builtin.Str
theorem gives_find_between (x y : Str) (i j : Int) (t u v v' : Tok) :
    Gives («str.find» ⟨[.str x t, .str y u, .int i v, .int j v'], []⟩) (.int (match occurrences x y (fromIndex x.length i) (min (fromIndex x.length j) x.length) 1 with | k :: _ => (k : Int) | [] => -1)) := by
  show Gives (match occurrences x y (fromIndex x.length i) (min (fromIndex x.length j) x.length) 1 with | k :: _ => retInt k | [] => (do rule "str.find.not-found"; retInt (-1))) _
  cases occurrences x y (fromIndex x.length i) (min (fromIndex x.length j) x.length) 1 with
  | nil => exact .rule (.of_eq rfl)
  | cons k _ => exact .of_eq rfl
end
section
variable {prog : Program} {w : World} {A : Around} {E : Value → Shared → Prop} {s : Shared}
theorem find_between {x y : Str} {t u v v' : Tok} {lo hi : Nat} {Q : Value → Shared → Prop} (hh : hi ≤ x.length) (hq : Q (.int (findIn x y lo hi) s.toks) { s with toks := s.toks + 1 }) :
    wpAny (model prog w) A (call (.builtin "str.find") [.str x t, .str y u, .int (lo : Int) v, .int (hi : Int) v']) Q E s := by
  refine call_gives F.slot_str_find (typeIs_str _ _ _) F.entry_str_find (F.args_str_find_4 _ _ _ _) (gives_find_between x y lo hi t u v v') ?_
  have e : ∀ n : Nat, fromIndex x.length (n : Int) = n := by intro n; unfold fromIndex; rw [if_neg (by omega)]; omega
  rw [e, e, Nat.min_eq_left hh]
  exact hq

variable {h₀ : Heap} {L D : Addr} {m : Str → Option Value} {news news' : List (Addr × Obj)}
theorem split_led {x y : Str} {t u : Tok} {Q : Value → Shared → Prop} (F : Fr h₀ L s.heap m) (N : News h₀ L s.heap news) (hy : (y.length == 0) = false) (hsz : x.length + 2 ≤ sizeLine)
    (h : ∀ D l h' k, l.map (·.1) = Txt.split x y → L < D → (∀ p ∈ news, p.1 < D) → Fr h₀ L h' m → News h₀ L h' ((D, listOf (strValues l).toArray 0) :: news) → Q (.ref D) { s with heap := h', toks := k }) :
    wpAny (model prog w) A (call (.builtin "str.split") [.str x t, .str y u]) Q E s :=
  splitN1 F N hy (fun l h' k hs F' N' => h _ l h' k hs F.ns.lt (fun p hp => Heap.lt_size (N p hp).1) F' N') hsz

theorem del_led {vs vs' : List Value} {n k : Nat} {i : Int} {u : Tok} {rest : List (Addr × Obj)} {Q : Unit → Shared → Prop} (F : Fr h₀ L s.heap m) (N : News h₀ L s.heap ((D, listOf vs.toArray n) :: rest)) (hD : ∀ p ∈ rest, p.1 ≠ D)
    (hfit : Builtin.List.listFitsIndex i = true) (hk : seqIndex? i vs.length = some k) (he : vs.eraseIdx k = vs') (hsz : vs.length ≤ sizeLine)
    (h : ∀ n' h', Fr h₀ L h' m → News h₀ L h' ((D, listOf vs'.toArray n') :: rest) → Q () { s with heap := h' }) : wpAny (model prog w) A (delItem (.ref D) (.int i u)) Q E s := by
  have z := N _ (.head _)
  refine wpAny_delItem_plain (items := vs.toArray) (k := k) ⟨n, z.1⟩ hfit (by simpa using hk) (fun h' hp hs => ?_) (by simpa using hsz)
  obtain ⟨n', ho⟩ := hp
  have ev : vs.toArray.eraseIdxIfInBounds k = vs'.toArray := by rw [← he]; simp
  rw [ev] at ho
  exact h n' h' (F.change hs z.2.1 z.2.2) (news_set (pre := []) N (fun _ hp => (nomatch hp)) hD hs ho)
theorem item_led {value slice : PySem.Expr} {vs : List Value} {n : Nat} {k : Int} {u : Tok} {x : Value} {Q : Value → Shared → Prop} (N : News h₀ L s.heap news) (hm : (D, listOf vs.toArray n) ∈ news) (h0 : 0 ≤ k) (hhi : k < 2 ^ 63) (hx : vs[k.toNat]? = some x) (h : Q x s)
    (hs : subscripted slice false (.ref D) (.int k u) = operate [.ref D, .int k u] (getItem (.ref D) (.int k u)) := by with_unfolding_all rfl) :
    wpAny (model prog w) A (subscriptTail value slice (.ref D) (.int k u)) Q E s := by
  have hl : s.heap.IsList D vs.toArray := ⟨_, (N _ hm).1, rfl, n, rfl⟩
  exact tail_any hl.typeIs slot_list_getitem.lookup (wpAny_getItem_list hl h0 hhi (by simpa using hx) h) hs
theorem item_neg_led {value slice : PySem.Expr} {vs : List Value} {n : Nat} {k : Int} {u : Tok} {x : Value} {Q : Value → Shared → Prop} (N : News h₀ L s.heap news) (hm : (D, listOf vs.toArray n) ∈ news) (h0 : k < 0) (h1 : -(vs.length : Int) ≤ k) (hlo : -(2 ^ 63) ≤ k) (hx : vs[(k + vs.length).toNat]? = some x) (h : Q x s)
    (hs : subscripted slice false (.ref D) (.int k u) = operate [.ref D, .int k u] (getItem (.ref D) (.int k u)) := by with_unfolding_all rfl) :
    wpAny (model prog w) A (subscriptTail value slice (.ref D) (.int k u)) Q E s := by
  have hl : s.heap.IsList D vs.toArray := ⟨_, (N _ hm).1, rfl, n, rfl⟩
  exact tail_any hl.typeIs slot_list_getitem.lookup (wpAny_getItem_list_neg hl h0 (by simpa using h1) hlo (by simpa using hx) h) hs
theorem news_less {h : Heap} {l l' : List (Addr × Obj)} (N : News h₀ L h l) (hs : ∀ p ∈ l', p ∈ l) : News h₀ L h l' := fun p hp => N p (hs p hp)
theorem fr_eq {h : Heap} {m' : Str → Option Value} (F : Fr h₀ L h m) (e : m = m') : Fr h₀ L h m' := e ▸ F
end
section
variable {prog : Program} {w : World} {A A₀ : Around} {E : Value → Shared → Prop} {s : Shared} {K : Frag} {C L : Addr} {h₀ base : Heap} {m mg mb : Str → Option Value} {news : List (Addr × Obj)} {p : Program} {loose : List Str} {mean : ExcName → Option Value}
/-- code_def, the ledger's addresses told -/
theorem code_defL {env : Env} {outer : List Env} {R : Result → Shared → Prop} {name qual : Str} {params : Arguments} {body : List Stmt} {scope : Scope} {dV kV doc pm cdv ct oc : Value} {an od : Option Addr} {osl : Array (Option Value)} {f : Addr} {args : Args} {binds : List (Str × Value)}
    (B : Below A₀ base outer h₀) (F : Fr h₀ L s.heap m) (X₀ : K.In h₀) (N : News h₀ L s.heap news) (T : Top p loose mean mg mb h₀) (hA : A.frames = some (env :: outer)) (hf : env.frame = some L) (hke : env.scope.kind = .function)
    (ho : K.lookup f = some ⟨oc, od, .func (fnOf name qual params body scope dV kV doc pm an cdv ct), osl⟩) (hcd : codeIn K cdv qual = true) (hroom : A.depth < recursionLimit)
    (hbind : BindsTo s (fnOf name qual params body scope dV kV doc pm an cdv ct) args binds) (hloc : ∀ y ∈ binds, scope.names.lookup y.1 = some .local)
    (h : ∀ g L' h₁, Fr h₀ L g m → Fr g L' h₁ (fun y => binds.reverse.lookup y) → News g L' h₁ news → Below A base (env :: outer) g → K.In g → Top p loose mean mg mb g → (∀ p ∈ news, p.1 < L') →
      wpAny (model prog w) (A.deeper (envOf qual scope L' f cdv)) (execs body (envOf qual scope L' f cdv))
        (fun fl s' => LeaveK h₀ L m g R (match fl with | .ret v => v | _ => .none) s')
        (fun e s' => wpAny (model prog w) (A.deeper (envOf qual scope L' f cdv)) (leaving (envOf qual scope L' f cdv) e) (fun _ s'' => R (.error e) s'') (fun e' s'' => R (.error e') s'') s')
        { s with heap := h₁, toks := s.toks + binds.length })
    (hco : scope.isCoroutine = false) (hgen : scope.isGenerator = false) (hk : scope.kind = .function)
    (hcell : ∀ x ∈ scope.names, x.2 ≠ .cell) : codeAny (model prog w) A (.call (.ref f) args) R s :=
  callX_plain (cl := []) B F N T.nolimit hA hf hke ((X₀.keeps F.keep) _ _ ho) rfl (codeRec_of (X₀.keeps F.keep) hcd) hroom hbind hloc (fun g L' h₁ FG F' N' B' st l => h g L' h₁ FG F' N' B' (X₀.keeps st) (T.keeps st) l) hcell hco hgen hk
end
end Mine
namespace Mine
section
open Sem (wp)
variable {M : Model} {A : Around} {E : Value → Shared → Prop} {s : Shared} {env : Env} {Q : Flow → Shared → Prop}
theorem wp_execs_append (Γ : Ctx) (rest : List Stmt) (Q' : Flow → Pos → Shared → Prop) (E' : Value → Pos → Shared → Prop) : ∀ (pre : List Stmt) (p : Pos) (s : Shared),
    wp M Γ (execs (pre ++ rest) env) Q' E' p s = wp M Γ (execs pre env) (fun f p' s' => match f with | .next => wp M Γ (execs rest env) Q' E' p' s' | f => Q' f p' s') E' p s
  | [], p, s => rfl
  | st :: pre, p, s => by
    rw [List.cons_append, execs_cons, execs_cons, Sem.wp_bind', Sem.wp_bind']
    congr 1
    funext f p' s'
    cases f
    · exact wp_execs_append Γ rest Q' E' pre p' s'
    all_goals rfl
/-- a fact that the walk does not open -/
structure Hold (P : Prop) : Prop where
  out : P
/-- statements in two parts, what holds between them -/
theorem seq_cut {pre rest : List Stmt} (J : Shared → Prop) (h1 : wpAny M A (execs pre env) (fun f s' => match f with | .next => Hold (J s') | f => Q f s') E s) (h2 : ∀ s', J s' → wpAny M A (execs rest env) Q E s') :
    wpAny M A (execs (pre ++ rest) env) Q E s := fun Γ p hΓ => by
  rw [wp_execs_append]
  refine Sem.wp_mono M Γ _ (fun f p' s' h' => ?_) (fun _ _ _ h' => h') _ _ (h1 Γ p hΓ)
  cases f <;> first | exact h2 _ h'.out Γ p' hΓ | exact h'
theorem cut1 {a : Stmt} {rest : List Stmt} (J : Shared → Prop) (h1 : wpAny M A (execs [a] env) (fun f s' => match f with | .next => Hold (J s') | f => Q f s') E s) (h2 : ∀ s', J s' → wpAny M A (execs rest env) Q E s') :
    wpAny M A (execs (a :: rest) env) Q E s := seq_cut (pre := [a]) J h1 h2
theorem cut2 {a b : Stmt} {rest : List Stmt} (J : Shared → Prop) (h1 : wpAny M A (execs [a, b] env) (fun f s' => match f with | .next => Hold (J s') | f => Q f s') E s) (h2 : ∀ s', J s' → wpAny M A (execs rest env) Q E s') :
    wpAny M A (execs (a :: b :: rest) env) Q E s := seq_cut (pre := [a, b]) J h1 h2
theorem cut3 {a b c : Stmt} {rest : List Stmt} (J : Shared → Prop) (h1 : wpAny M A (execs [a, b, c] env) (fun f s' => match f with | .next => Hold (J s') | f => Q f s') E s) (h2 : ∀ s', J s' → wpAny M A (execs rest env) Q E s') :
    wpAny M A (execs (a :: b :: c :: rest) env) Q E s := seq_cut (pre := [a, b, c]) J h1 h2
theorem cut6 {a b c d e f : Stmt} {rest : List Stmt} (J : Shared → Prop) (h1 : wpAny M A (execs [a, b, c, d, e, f] env) (fun f s' => match f with | .next => Hold (J s') | f => Q f s') E s) (h2 : ∀ s', J s' → wpAny M A (execs rest env) Q E s') :
    wpAny M A (execs (a :: b :: c :: d :: e :: f :: rest) env) Q E s := seq_cut (pre := [a, b, c, d, e, f]) J h1 h2
end
end Mine
namespace Mine
section
variable {prog : Program} {w : World} {A : Around} {E : Value → Shared → Prop} {s : Shared} {env : Env} {h₀ : Heap} {x : Str} {body : List Stmt} {Q : Flow → Shared → Prop}
/-- a for over a list of the ledger's, by what holds at each turn -/
theorem for_led {D : Addr} {vs : List Value} {nn : Nat} {m₀ : Str → Option Value} {news : List (Addr × Obj)} {iter : PySem.Expr} {px pos : Pos} (J : Nat → (Str → Option Value) → List (Addr × Obj) → Prop)
    (hx : env.kindOf x = some .local) (hp : (env.scope.kind == .class || (env.scope.kind == .module && env.locals != env.globals)) = false)
    (hh : A.handled = none) (hl : (D, listOf vs.toArray nn) ∈ news) (F : Fr h₀ env.locals s.heap m₀) (N : News h₀ env.locals s.heap news) (hj : J 0 m₀ news)
    (hev : ∀ Q' : Value → Shared → Prop, Q' (.ref D) s → wpAny (model prog w) A (eval iter env) Q' E s)
    (turn : ∀ i v m₁ nx h tk own, vs[i]? = some v → OwnOff own (nx.map (·.1)) → (D, listOf vs.toArray nn) ∈ nx → J i m₁ nx → Fr h₀ env.locals h (fun y => if y = x then some v else m₁ y) → News h₀ env.locals h (nx ++ own) →
      wpAny (model prog w) A (execs body env) (fun f s₂ => match f with
        | .ret v => Q (.ret v) s₂
        | .brk => Q .next s₂
        | _ => Hold (InvEndG h₀ env.locals (fun m' nx' => (D, listOf vs.toArray nn) ∈ nx' ∧ J (i + 1) m' nx') own { s with heap := h, toks := tk } s₂)) E { s with heap := h, toks := tk })
    (done : ∀ m₁ nx h tk, J vs.length m₁ nx → Fr h₀ env.locals h m₁ → News h₀ env.locals h nx → Q .next { s with heap := h, toks := tk })
    (hE : PassesOwn (model prog w) A env E) (hs : ∀ x, foldedSetIterable iter env x = pure x := by intro _; rfl) :
    wpAny (model prog w) A (exec (.For (.Name x px) iter body [] pos) env) Q E s := by
  refine For_invV h₀ hx hp (hev _ ?_) hs hE
  refine kdl_iter J hh hl F N hj (fun i v m₁ nx h tk own h1 h2 h3 h4 F' N' => ?_) done
  refine wpAny_mono (turn i v m₁ nx h tk own h1 h2 h3 h4 F' N') (fun f s₂ p => ?_) fun _ _ e => e
  cases f
  · exact p.out
  · exact p
  · exact p.out
  · exact p
end
end Mine
namespace Mine
section
variable {prog : Program} {w : World} {A : Around} {E : Value → Shared → Prop} {s : Shared} {h₀ : Heap} {L D : Addr} {m : Str → Option Value}
theorem append_led {vs : List Value} {n : Nat} {x : Value} {rest : List (Addr × Obj)} {Q : Value → Shared → Prop} (F : Fr h₀ L s.heap m) (N : News h₀ L s.heap ((D, listOf vs.toArray n) :: rest)) (hD : ∀ p ∈ rest, p.1 ≠ D) (hsz : vs.length ≤ sizeLine)
    (h : ∀ h', Fr h₀ L h' m → News h₀ L h' ((D, listOf (vs ++ [x]).toArray (n + 1)) :: rest) → Q .none { s with heap := h' }) : wpAny (model prog w) A (call (.builtin "list.append") [.ref D, x]) Q E s := by
  refine append_K F N (Upd.head hD) (fun h' F' N' => h h' F' ?_) (by simpa using hsz)
  have e : vs.toArray.push x = (vs ++ [x]).toArray := by simp
  rw [← e]
  exact N'
end
theorem drop_at {α : Type} {l : List α} {i : Nat} {a : α} (h : l[i]? = some a) : l.drop i = a :: l.drop (i + 1) := by
  obtain ⟨h1, h2⟩ := List.getElem?_eq_some_iff.mp h
  rw [List.drop_eq_getElem_cons h1, h2]
/-- a row's values -/
abbrev bvals (bs : List Bool) : List Value := bs.map Value.bool
theorem bools_at {bs : List Bool} {i : Nat} {v : Value} (h : (bvals bs)[i]? = some v) : ∃ b, bs[i]? = some b ∧ v = .bool b := by
  simp only [bvals, List.getElem?_map, Option.map_eq_some_iff] at h
  obtain ⟨b, h1, h2⟩ := h
  exact ⟨b, h1, h2.symm⟩
end Mine
namespace Mine
section
variable {prog : Program} {w : World} {A : Around} {E : Value → Shared → Prop} {s : Shared} {h₀ : Heap} {L : Addr} {m : Str → Option Value} {env : Env}
theorem listComp_hold {elt iter : PySem.Expr} {x : Str} {px : Pos} {scope : Scope} {cl : List (Str × Addr)} {pos : Pos} {Q : Value → Shared → Prop} (F₀ : Fr h₀ L s.heap m)
    (hclos : closureFor scope env = pure cl) (hcell : ∀ y ∈ scope.names, y.2 ≠ .cell) (hkind : scope.kind = .function)
    (hnames : ∀ y ∈ scope.names, y.2 = .local → scope.names.lookup y.1 = some .local) (hx : scope.names.lookup x = some .local)
    (h : wpAny (model prog w) A (eval iter env) (fun xv s₁ => Hold (LCg.CompSrc prog w A h₀ L m env elt x scope cl (fun s₂ => LCg.FinE h₀ L m s₂ Q) xv s₁)) E s)
    (hs : ∀ x, foldedSetIterable iter env x = pure x := by intro _; rfl) :
    wpAny (model prog w) A (eval (.ListComp elt [⟨.Name x px, iter, [], 0⟩] scope pos) env) Q E s :=
  LCg.ListComp_U F₀ hclos hcell hkind hnames hx (wpAny_mono h (fun _ _ p => p.out) fun _ _ e => e) hs
/-- a comprehension over range(n) whose element is a bool that makes nothing -/
theorem comp_bools {elt : PySem.Expr} {x : Str} {scope : Scope} {cl : List (Str × Addr)} {Fin : List Value → List (Addr × Obj) → Prop} {news : List (Addr × Obj)} {n : Nat} (g : Nat → Bool)
    (turn : ∀ (k : Nat) t I oI C oC D m₂ ys h tk (E' : Value → Shared → Prop), k < n → LCg.NsObj oC m₂ → m₂ x = some (.int (k : Int) t) → Fr h₀ L h m → News h₀ L h ((I, oI) :: (C, oC) :: (D, LCg.lst ys) :: news) →
      wpAny (model prog w) A (eval elt (compEnvC scope cl C env)) (fun y s₂ => Hold (y = .bool (g k) ∧ ∃ tk', s₂ = { s with heap := h, toks := tk' })) E' { s with heap := h, toks := tk })
    (fin : Fin (bvals ((List.range n).map g)) news) : LCg.CompRest prog w A h₀ L m env elt x scope cl s (fun _ => True) (fun i v => ∃ t, v = .int (0 + (i : Int)) t) Fin n 0 [] news := by
  have key : ∀ (j i : Nat), i + j = n → LCg.CompRest prog w A h₀ L m env elt x scope cl s (fun _ => True) (fun i v => ∃ t, v = .int (0 + (i : Int)) t) Fin j i (bvals ((List.range i).map g)) news := by
    intro j
    induction j with
    | zero =>
      intro i hi
      have e : i = n := by omega
      subst e
      exact LCg.CompRest.zero fin
    | succ j ih =>
      intro i hi
      refine LCg.CompRest.succ ?_
      intro v I oI C oC D m₂ h tk E' hv hC hx F N off ne
      obtain ⟨t, hv'⟩ := hv
      rw [hv', Int.zero_add] at hx
      refine wpAny_mono (turn i t I oI C oC D m₂ _ h tk E' (by omega) hC hx F N) (fun y s₂ hq => ?_) fun _ _ e => e
      obtain ⟨⟨rfl, tk', rfl⟩⟩ := hq
      refine ⟨h, tk', news, rfl, F, N, off, trivial, ?_⟩
      have e : bvals ((List.range i).map g) ++ [Value.bool (g i)] = bvals ((List.range (i + 1)).map g) := by rw [List.range_succ]; simp [bvals]
      show LCg.CompRest prog w A h₀ L m env elt x scope cl s _ _ Fin j (i + 1) (bvals ((List.range i).map g) ++ [Value.bool (g i)]) news
      rw [e]
      exact ih (i + 1) (by omega)
  exact key n 0 (by omega)
end
end Mine
namespace Mine
section
variable {prog : Program} {w : World} {A : Around} {E : Value → Shared → Prop} {s : Shared} {h₀ : Heap} {L : Addr} {m : Str → Option Value} {news : List (Addr × Obj)}
theorem add_led {l b : Addr} {vs ws : List Value} {n1 n2 : Nat} {Q : Value → Shared → Prop} (F : Fr h₀ L s.heap m) (N : News h₀ L s.heap news) (hl : (l, listOf vs.toArray n1) ∈ news) (hb : (b, listOf ws.toArray n2) ∈ news) (hsz : vs.length + ws.length ≤ sizeLine)
    (h : ∀ D h', (∀ p ∈ news, p.1 < D) → Fr h₀ L h' m → News h₀ L h' ((D, listOf (vs ++ ws).toArray 0) :: news) → Q (.ref D) { s with heap := h' }) : wpAny (model prog w) A (binaryOp .Add (.ref l) (.ref b)) Q E s :=
  add_lists (hsz := hsz) F N ⟨_, (N _ hl).1, rfl, n1, rfl⟩ ⟨_, (N _ hb).1, rfl, n2, rfl⟩ fun h' F' N' => h _ h' (fun p hp => Heap.lt_size (N p hp).1) F' N'
end
end Mine
namespace Mine
section
variable {prog : Program} {w : World} {A : Around} {E : Value → Shared → Prop} {s : Shared} {h₀ : Heap} {L : Addr} {env : Env} {Q : Flow → Shared → Prop}
theorem while_led {test : PySem.Expr} {body : List Stmt} {pos : Pos} {m : Str → Option Value} {news : List (Addr × Obj)} (J : Nat → (Str → Option Value) → List (Addr × Obj) → Prop) {n₀ : Nat}
    (F : Fr h₀ L s.heap m) (N : News h₀ L s.heap news) (hJ : J n₀ m news)
    (turn : ∀ n m₁ nx h tk, J n m₁ nx → Fr h₀ L h m₁ → News h₀ L h nx →
      wpAny (model prog w) A (isTrue test env (eval test env)) (fun b s₂ =>
        if b = true then wpAny (model prog w) A (execs body env) (fun f s₃ => match f with
          | .ret v => Q (.ret v) s₃
          | .brk => Q .next s₃
          | _ => Hold (∃ h' tk' m' nx' n', s₃ = { s with heap := h', toks := tk' } ∧ Fr h₀ L h' m' ∧ News h₀ L h' nx' ∧ n' < n ∧ J n' m' nx')) E s₂ else Q .next s₂) E { s with heap := h, toks := tk })
    (hE : PassesOwn (model prog w) A env E) :
    wpAny (model prog w) A (exec (.While test body [] pos) env) Q E s := by
  refine While_inv2 J F N hJ (fun n m₁ nx h tk F' N' hj => ?_) hE
  refine wpAny_mono (turn n m₁ nx h tk hj F' N') (fun b s₂ p => ?_) fun _ _ x => x
  cases b with
  | false => simpa using p
  | true =>
    simp only [if_true] at p ⊢
    refine wpAny_mono p (fun f s₃ q => ?_) fun _ _ x => x
    cases f with
    | ret v => exact q
    | brk => exact q
    | next => exact q.out
    | cont => exact q.out
end
theorem hold_call {M : Model} {A : Around} {E : Value → Shared → Prop} {s : Shared} {f : Value} {vs : List Value} {Q : Value → Shared → Prop} (h : Hold (wpAny M A (call f vs) Q E s)) : wpAny M A (call f vs) Q E s := h.out
end Mine
namespace Mine
theorem hold_op {M : Model} {A : Around} {E : Value → Shared → Prop} {s : Shared} {op : Operator} {a b : Value} {Q : Value → Shared → Prop} (h : Hold (wpAny M A (binaryOp op a b) Q E s)) : wpAny M A (binaryOp op a b) Q E s := h.out
theorem foldl_rep (v : Value) : ∀ (k : Nat) (acc : Array Value), List.foldl (fun x1 x2 => x1 ++ x2) acc (List.replicate k #[v]) = acc ++ (List.replicate k v).toArray
  | 0, acc => by simp
  | k + 1, acc => by rw [List.replicate_succ, List.foldl_cons, foldl_rep v k, List.replicate_succ]; apply Array.ext'; simp
section
variable {prog : Program} {w : World} {A : Around} {E : Value → Shared → Prop} {s : Shared} {h₀ : Heap} {L : Addr} {m : Str → Option Value} {news : List (Addr × Obj)}
theorem mul_one_led {l : Addr} {v : Value} {n k : Nat} {u : Tok} {Q : Value → Shared → Prop} (F : Fr h₀ L s.heap m) (N : News h₀ L s.heap news) (hl : (l, listOf #[v] n) ∈ news) (hk : k ≤ 1000)
    (h : ∀ D h', (∀ p ∈ news, p.1 < D) → Fr h₀ L h' m → News h₀ L h' ((D, listOf (List.replicate k v).toArray 0) :: news) → Q (.ref D) { s with heap := h' }) : wpAny (model prog w) A (binaryOp .Mult (.ref l) (.int (k : Int) u)) Q E s := by
  refine mul_list F N (N _ hl).1 (by omega) (by omega) (by rw [Int.toNat_natCast]; show 1 * k ≤ 2 ^ 24; omega) fun h' F' N' => h _ h' (fun p hp => Heap.lt_size (N p hp).1) F' ?_
  have e : List.foldl (fun x1 x2 => x1 ++ x2) #[] (List.replicate (if (#[v] : Array Value).isEmpty = true then 0 else ((k : Int)).toNat) #[v]) = (List.replicate k v).toArray := by
    rw [if_neg (by simp), Int.toNat_natCast, foldl_rep]; simp
  rw [e] at N'
  exact N'
end
end Mine
namespace Mine
section
variable {prog : Program} {w : World} {A : Around} {E : Value → Shared → Prop} {s : Shared} {env : Env} {h₀ : Heap} {xi xc : Str} {body : List Stmt} {Q : Flow → Shared → Prop}
/-- for i, x in enumerate(a list of the ledger's), nothing of the ledger's turned -/
theorem enum_at {e it l : Addr} {vs : List Value} {nn : Nat} {old : Value} {m₀ : Str → Option Value} {news : List (Addr × Obj)} (J : Nat → (Str → Option Value) → Prop)
    (hh : A.handled = none) (he : IsEnum s.heap e it 0 old) (hit : s.heap.IsListIter it l 0) (hl : (l, listOf vs.toArray nn) ∈ news) (F : Fr h₀ env.locals s.heap m₀) (N : News h₀ env.locals s.heap news)
    (hei : e ≠ it) (he₀ : h₀.get? e = none) (hi₀ : h₀.get? it = none) (hoff : ∀ p ∈ news, p.1 ≠ e ∧ p.1 ≠ it) (hLe : env.locals ≠ e) (hLi : env.locals ≠ it) (hj : J 0 m₀)
    (turn : ∀ (i : Nat) x t m₁ h tk own, vs[i]? = some x → J i m₁ → Fr h₀ env.locals h (fun y => if y = xc then some x else if y = xi then some (.int (i : Int) t) else m₁ y) → News h₀ env.locals h (own ++ news) →
      wpAny (model prog w) A (execs body env) (fun f s₂ => match f with
        | .ret v => Q (.ret v) s₂
        | .brk => Q .next s₂
        | _ => Hold (∃ h' tk' m', s₂ = { s with heap := h', toks := tk' } ∧ Fr h₀ env.locals h' m' ∧ News h₀ env.locals h' (own ++ news) ∧ J (i + 1) m')) E { s with heap := h, toks := tk })
    (done : ∀ m' h tk, J vs.length m' → Fr h₀ env.locals h m' → News h₀ env.locals h news → Q .next { s with heap := h, toks := tk }) :
    wpAny (model prog w) A (pyIter (.ref e)) (fun itv s₂ => PairAt3 prog w A h₀ env xi xc body Q E itv s₂) E s := by
  have hls : s.heap.IsList l vs.toArray := ⟨_, (N _ hl).1, rfl, nn, rfl⟩
  have hlo := hoff _ hl
  have hlL : env.locals ≠ l := fun q => (N _ hl).2.1 q.symm
  refine wpAny_pyIter_enum he ?_
  have W := WalksT.enumerate (prog := prog) (w := w) hh e it l hei hlo.1 hlo.2 vs.toArray
  have hlen : vs.toArray.size = vs.length := by simp
  rw [hlen] at W
  refine ⟨e, _, _, vs.length, _, _, _, (fun i v0 v1 => ∃ t, v0 = .int (i : Int) t ∧ vs[i]? = some v1), m₀, news, (fun i m nx => nx = news ∧ J i m), rfl, W, ?_, ?_, ?_, ?_, ⟨⟨old, he⟩, hit, hls⟩, F, N, ⟨rfl, hj⟩, ?_, ?_⟩
  · rintro i vals ⟨t, x, hx, rfl⟩
    exact ⟨_, _, rfl, t, rfl, by simpa using hx⟩
  · intro hm
    rcases List.mem_cons.mp hm with q | hm
    · exact hLe q
    · rcases List.mem_cons.mp hm with q | hm
      · exact hLi q
      · exact hlL (List.mem_singleton.mp hm)
  · intro b hb
    rcases List.mem_cons.mp hb with rfl | hb
    · exact he₀
    · rw [List.mem_singleton.mp hb]; exact hi₀
  · intro p hp hb
    rcases List.mem_cons.mp hb with q | hb
    · exact (hoff p hp).1 q
    · exact (hoff p hp).2 (List.mem_singleton.mp hb)
  · rintro i v0 v1 m₁ nx s₁ own ⟨h, tk, rfl⟩ hi ⟨t, rfl, hx⟩ ⟨rfl, hJ⟩ _ _ F₁ N₁
    refine wpAny_mono (turn i v1 t m₁ h tk own hx hJ F₁ N₁) (fun f s₂ p => ?_) fun _ _ e => e
    cases f with
    | ret v => exact p
    | brk => exact p
    | next =>
      obtain ⟨⟨h', tk', m', rfl, F', N', hJ'⟩⟩ := p
      exact ⟨rfl, h', tk', m', nx, rfl, F', N', rfl, rfl, hJ'⟩
    | cont =>
      obtain ⟨⟨h', tk', m', rfl, F', N', hJ'⟩⟩ := p
      exact ⟨rfl, h', tk', m', nx, rfl, F', N', rfl, rfl, hJ'⟩
  · rintro h' tk m' nx F' N' _ ⟨rfl, hJ⟩
    exact done m' h' tk hJ F' N'
/-- enumerate(a list of the ledger's) -/
theorem enum_make {l : Addr} {vs : List Value} {nn : Nat} {L : Addr} {m : Str → Option Value} {news : List (Addr × Obj)} {Q : Value → Shared → Prop} (hl : (l, listOf vs.toArray nn) ∈ news) (F : Fr h₀ L s.heap m) (N : News h₀ L s.heap news)
    (h : ∀ e it h', IsEnum h' e it 0 .none → h'.IsListIter it l 0 → e ≠ it → h₀.get? e = none → h₀.get? it = none → (∀ p ∈ news, p.1 ≠ e ∧ p.1 ≠ it) → L ≠ e → L ≠ it → Fr h₀ L h' m → News h₀ L h' news → Q (.ref e) { s with heap := h' }) :
    wpAny (model prog w) A (call (.type "enumerate") [.ref l]) Q E s := by
  refine call_enumerate_list (items := vs.toArray) ⟨_, (N _ hl).1, rfl, nn, rfl⟩ fun h' he hit hsz hk => ?_
  have hL := F.ns.lt
  have hab := F.above
  refine h _ _ h' he hit (Nat.succ_ne_self _) (Heap.get?_none_of_le (Nat.le_trans hab (Nat.le_of_lt (Nat.lt_succ_of_lt hL)))) (Heap.get?_none_of_le (Nat.le_trans hab (Nat.le_of_lt hL)))
    (fun p hp => ?_) (Nat.ne_of_lt (Nat.lt_succ_of_lt hL)) (Nat.ne_of_lt hL) ⟨F.ns.keeps hk, fun b o e => hk b o (F.keep b o e), F.above⟩ fun p hp => ⟨hk _ _ (N p hp).1, (N p hp).2⟩
  have hq : p.1 < s.heap.objs.size := Heap.lt_size (N p hp).1
  exact ⟨Nat.ne_of_lt (Nat.lt_succ_of_lt hq), Nat.ne_of_lt hq⟩
end
end Mine
namespace Mine
theorem hold_iter {M : Model} {A : Around} {E : Value → Shared → Prop} {s : Shared} {v : Value} {Q : Value → Shared → Prop} (h : Hold (wpAny M A (pyIter v) Q E s)) : wpAny M A (pyIter v) Q E s := h.out
section
variable {prog : Program} {w : World} {A : Around} {E : Value → Shared → Prop} {s : Shared} {env : Env} {h₀ : Heap} {x : Str} {body : List Stmt} {Q : Flow → Shared → Prop}
theorem iter_led {D : Addr} {vs : List Value} {nn : Nat} {m₀ : Str → Option Value} {news : List (Addr × Obj)} (J : Nat → (Str → Option Value) → List (Addr × Obj) → Prop)
    (hh : A.handled = none) (hl : (D, listOf vs.toArray nn) ∈ news) (F : Fr h₀ env.locals s.heap m₀) (N : News h₀ env.locals s.heap news) (hj : J 0 m₀ news)
    (turn : ∀ i v m₁ nx h tk own, vs[i]? = some v → OwnOff own (nx.map (·.1)) → (D, listOf vs.toArray nn) ∈ nx → J i m₁ nx → Fr h₀ env.locals h (fun y => if y = x then some v else m₁ y) → News h₀ env.locals h (nx ++ own) →
      wpAny (model prog w) A (execs body env) (fun f s₂ => match f with
        | .ret v => Q (.ret v) s₂
        | .brk => Q .next s₂
        | _ => Hold (InvEndG h₀ env.locals (fun m' nx' => (D, listOf vs.toArray nn) ∈ nx' ∧ J (i + 1) m' nx') own { s with heap := h, toks := tk } s₂)) E { s with heap := h, toks := tk })
    (done : ∀ m₁ nx h tk, J vs.length m₁ nx → Fr h₀ env.locals h m₁ → News h₀ env.locals h nx → Q .next { s with heap := h, toks := tk }) :
    wpAny (model prog w) A (pyIter (.ref D)) (fun it s₂ => LoopAtV prog w A h₀ env x body Q E it s₂) E s := by
  refine kdl_iter J hh hl F N hj (fun i v m₁ nx h tk own h1 h2 h3 h4 F' N' => ?_) done
  refine wpAny_mono (turn i v m₁ nx h tk own h1 h2 h3 h4 F' N') (fun f s₂ p => ?_) fun _ _ e => e
  cases f
  · exact p.out
  · exact p
  · exact p.out
  · exact p
end
end Mine

end
section
open PySem PySem.W PyProof.Rows
namespace Mine
theorem two_ends {α : Type} {l : List α} (h : 2 ≤ l.length) : ∃ a mid b, l = a :: (mid ++ [b]) := by
  match l, h with
  | a :: x :: r, _ =>
    refine ⟨a, (x :: r).dropLast, (x :: r).getLast (by simp), ?_⟩
    rw [List.dropLast_concat_getLast]
abbrev txs (l : List (Str × Tok)) : List (List Nat) := l.map fun p => p.1.cps.toList

theorem em_none {want got : Str} (h : (Builtin.Str.occurrences want (Str.ofString "...") 0 want.length 1).isEmpty = true) : (want == got) = due want.cps.toList got.cps.toList := by
  rw [Bool.eq_iff_iff, due_iff, beq_iff_eq, not_found h]
  constructor
  · rintro rfl; rfl
  · intro e
    have : got.cps = want.cps := Array.ext' (by simpa using e)
    exact (Str.ext' this).symm
theorem split_short {want : Str} {l : List (Str × Tok)} (h : l.map (·.1) = Txt.split want (Str.ofString "...")) : ∀ a ∈ l.map (·.1), a.length ≤ want.length := by
  intro a ha
  rw [h] at ha
  exact part_short ha
theorem starts_iff (x y : Str) : Txt.startswith x y = true ↔ x.cps.toList.take y.length = y.cps.toList := by
  unfold Txt.startswith
  rw [Bool.and_eq_true, decide_eq_true_eq, StrLaws.subAt_eq, beq_iff_eq, List.drop_zero]
  constructor
  · exact fun h => h.2
  · intro h
    refine ⟨?_, h⟩
    have := congrArg List.length h
    simp only [List.length_take, Array.length_toList, Str.length] at this ⊢
    omega
theorem ends_iff (x y : Str) : Txt.endswith x y = true ↔ y.length ≤ x.length ∧ x.cps.toList.drop (x.length - y.length) = y.cps.toList := by
  unfold Txt.endswith
  rw [Bool.and_eq_true, decide_eq_true_eq, StrLaws.subAt_eq, beq_iff_eq, Nat.zero_add]
  constructor
  · rintro ⟨h1, h2⟩
    refine ⟨h1, ?_⟩
    rwa [List.take_of_length_le] at h2
    simp only [List.length_drop, Array.length_toList, Str.length] at h1 ⊢
    omega
  · rintro ⟨h1, h2⟩
    refine ⟨h1, ?_⟩
    rwa [List.take_of_length_le]
    simp only [List.length_drop, Array.length_toList, Str.length] at h1 ⊢
    omega
theorem em_due {want got w0 wn : Str} {mid : List (Str × Tok)} (h : Txt.split want (Str.ofString "...") = w0 :: (mid.map (·.1) ++ [wn])) :
    due want.cps.toList got.cps.toList = true ↔ Txt.startswith got w0 = true ∧ Txt.endswith got wn = true ∧ w0.length + wn.length ≤ got.length ∧ mm (txs mid) (sl got.cps.toList w0.length (got.length - wn.length)) := by
  have e := split_pcs want
  rw [show dots = Str.ofString "..." from rfl, h] at e
  rw [due_iff, mt_mp, ← e, starts_iff, ends_iff]
  have e2 : (w0 :: (mid.map (·.1) ++ [wn])).map (·.cps.toList) = w0.cps.toList :: (txs mid ++ [wn.cps.toList]) := by simp [txs]
  rw [e2, mp_cut]
  simp only [Array.length_toList, Str.length]
  constructor
  · rintro ⟨h1, h2, h3, h4⟩; exact ⟨h1, ⟨by omega, h2⟩, h3, h4⟩
  · rintro ⟨h1, ⟨_, h2⟩, h3, h4⟩; exact ⟨h1, h2, h3, h4⟩
theorem em_no_start {want got w0 wn : Str} {mid : List (Str × Tok)} (h : Txt.split want (Str.ofString "...") = w0 :: (mid.map (·.1) ++ [wn])) (hs : Txt.startswith got w0 = false) :
    due want.cps.toList got.cps.toList = false := by
  rw [Bool.eq_false_iff, ne_eq, em_due h, hs]; simp
theorem em_no_end {want got w0 wn : Str} {mid : List (Str × Tok)} (h : Txt.split want (Str.ofString "...") = w0 :: (mid.map (·.1) ++ [wn])) (hs : Txt.endswith got wn = false) :
    due want.cps.toList got.cps.toList = false := by
  rw [Bool.eq_false_iff, ne_eq, em_due h, hs]; simp
theorem starts_nil {x y : Str} (h : ((y.length : Nat) : Int) = 0) : Txt.startswith x y = true := by
  rw [starts_iff]
  have : y.length = 0 := by omega
  rw [this, List.take_zero]
  exact (List.eq_nil_of_length_eq_zero (by simpa [Str.length] using this)).symm
theorem toList_nil {y : Str} (h : ((y.length : Nat) : Int) = 0) : y.cps.toList = [] := List.eq_nil_of_length_eq_zero (by simp only [Array.length_toList]; simp only [Str.length] at h; omega)
theorem mm_head {w0 : Str} {u0 : Tok} {mid : List (Str × Tok)} (h : ((w0.length : Nat) : Int) = 0) (x : List Nat) : mm (txs ((w0, u0) :: mid)) x ↔ mm (txs mid) x := by
  simp only [txs, List.map_cons, toList_nil h]; exact mm_nil_cons _ x
theorem mm_last {wn : Str} {u0 : Tok} {mid : List (Str × Tok)} (h : ((wn.length : Nat) : Int) = 0) (x : List Nat) : mm (txs (mid ++ [(wn, u0)])) x ↔ mm (txs mid) x := by
  simp only [txs, List.map_append, List.map_cons, List.map_nil, toList_nil h]; exact mm_snoc_nil _ x

theorem fr_over {h₀ h : Heap} {L : Addr} {x y : Str} {v v0 u : Value} {r : Str → Option Value} (hne : y ≠ x) (F : Fr h₀ L h (fun z => if z = x then some v else if z = y then some u else if z = x then some v0 else r z)) :
    Fr h₀ L h (fun z => if z = y then some u else if z = x then some v else r z) := by
  refine fr_eq F (funext fun z => ?_)
  by_cases h1 : z = x
  · subst h1; rw [if_pos rfl, if_neg (Ne.symm hne), if_pos rfl]
  · simp only [if_neg h1]
local macro_rules | `(tactic| walk_at "call builtin:str.split") => `(tactic| (k_here; (try dsimp only [List.nil_append, List.cons_append]); (with_reducible show wpAny _ _ (call (Value.builtin "str.split") [Value.str _ _, Value.str _ _]) _ _ _); k_dflt (refine' split_led ?k1 ?k2 ?k3 ?k4 ?_; (case k1 => k_asm); (case k2 => k_asm); (case k3 => rfl); (case k4 => (rw [sizeLine_eq]; omega)); k_whole); intro D' l' h' k' hs' lD' lN' F' N'; (try k_sweep)))

/-- the frame of _ellipsis_match -/
abbrev emM (want got : Str) (t1 t2 : Tok) (D : Addr) (w : Str) (tw : Tok) (sp : Nat) (tsp : Tok) (ep : Nat) (tep : Tok) : Str → Option Value := fun y =>
  if y = Str.ofString "w" then some (.str w tw) else if y = Str.ofString "startpos" then some (.int sp tsp) else if y = Str.ofString "endpos" then some (.int ep tep) else if y = Str.ofString "ws" then some (.ref D)
  else List.lookup y [(Str.ofString "got", .str got t2), (Str.ofString "want", .str want t1)]

theorem erase_last (l : List (Str × Tok)) (p : Str × Tok) : (strValues (l ++ [p])).eraseIdx l.length = strValues l := by
  have : strValues (l ++ [p]) = strValues l ++ strValues [p] := by simp [strValues]
  rw [this, List.eraseIdx_append_of_length_le (by simp [strValues])]
  simp [strValues]
theorem strs_at {l : List (Str × Tok)} {i : Nat} {v : Value} (h : (strValues l)[i]? = some v) : ∃ x t, l[i]? = some (x, t) ∧ v = .str x t := by
  simp only [strValues, List.getElem?_map, Option.map_eq_some_iff] at h
  obtain ⟨⟨x, t⟩, h1, h2⟩ := h
  exact ⟨x, t, h1, h2.symm⟩
theorem em_no_room {want got w0 wn : Str} {mid : List (Str × Tok)} (h : Txt.split want (Str.ofString "...") = w0 :: (mid.map (·.1) ++ [wn])) (hs : ¬ w0.length + wn.length ≤ got.length) :
    due want.cps.toList got.cps.toList = false := by
  rw [Bool.eq_false_iff, ne_eq, em_due h]
  exact fun x => hs x.2.2.1
section
variable {h₀ h : Heap} {L D : Addr} {want got w' x : Str} {t1 t2 tw tsp tep u t : Tok} {sp ep e : Nat} {i : Int}
theorem em_fr1 (F : Fr h₀ L h (fun y => if y = Str.ofString "w" then some (.str x u) else emM want got t1 t2 D w' tw sp tsp ep tep y)) : Fr h₀ L h (emM want got t1 t2 D x u sp tsp ep tep) := by
  refine fr_eq F (funext fun y => ?_)
  by_cases h1 : y = Str.ofString "w"
  · subst h1; rfl
  · simp only [emM, if_neg h1]
theorem em_fr2 (F : Fr h₀ L h (fun y => if y = Str.ofString "endpos" then some (.int i t) else if y = Str.ofString "w" then some (.str x u) else emM want got t1 t2 D w' tw sp tsp ep tep y)) (hi : i = (e : Nat)) : Fr h₀ L h (emM want got t1 t2 D x u sp tsp e t) := by
  subst hi
  refine fr_eq F (funext fun y => ?_)
  by_cases h1 : y = Str.ofString "w"
  · subst h1; rfl
  · by_cases h2 : y = Str.ofString "endpos"
    · subst h2; rfl
    · simp only [emM, if_neg h1, if_neg h2]
end
theorem em_fr3 {h₀ h : Heap} {L D : Addr} {want got w' : Str} {t1 t2 tw tsp tep t : Tok} {sp ep e : Nat} {i : Int} {v : Value} (F : Fr h₀ L h (fun y => if y = Str.ofString "startpos" then some (.int i t) else if y = Str.ofString "startpos" then some v else emM want got t1 t2 D w' tw sp tsp ep tep y))
    (hi : i = (e : Nat)) : Fr h₀ L h (emM want got t1 t2 D w' tw e t ep tep) := by
  subst hi
  refine fr_eq F (funext fun y => ?_)
  by_cases h2 : y = Str.ofString "startpos"
  · subst h2; rfl
  · simp only [emM, if_neg h2]
theorem ends_nil {x y : Str} (h : ((y.length : Nat) : Int) = 0) : Txt.endswith x y = true := by
  rw [ends_iff]
  have : y.length = 0 := by omega
  refine ⟨by omega, ?_⟩
  rw [toList_nil h, this, Nat.sub_zero]
  simp [Str.length]

theorem em (w : World) (news : List (Addr × Obj)) (want got : Str) (t1 t2 : Tok) (hw : want.length ≤ 1000) (hg : got.length ≤ 1000) :
    Claims 3 w 21 news [.str want t1, .str got t2] (fun h₀ L m s Q => ∀ h' tk', Fr h₀ L h' m → News h₀ L h' news → Q (.bool (due want.cps.toList got.cps.toList)) { s with heap := h', toks := tk' }) := by
  w_on
  unfold Claims
  k_fill
  intro mean mg mb dp un gd cn cs a ccd cl outer A₀ base h₀ L m s Q E B F X N T hk hd hu hret
  refine wpAny_call ?_
  k_dflt (refine' code_defL (binds := [(Str.ofString "want", .str want t1), (Str.ofString "got", .str got t2)]) ?k1 ?k2 ?k3 ?k4 ?k5 ?kA ?kF ?kK ?k6 ?k7 ?k8 ?k9 ?kB ?_ ?c2 ?c3 ?c4 ?c5; (case kA => exact rfl); (case kF => exact rfl); (case kK => assumption); (case k1 => k_asm); (case k2 => k_asm); (case k3 => k_asm); (case k4 => k_asm); (case k5 => k_asm); (case k6 => k_is); (case k7 => k_is); (case k8 => ktr_room); (case k9 => exact BindsTo.of_eq rfl); (case c5 => decide); (case kB => exact locs rfl); (case c2 => exact rfl); (case c3 => exact rfl); (case c4 => exact rfl); k_whole)
  intro g L' h1 FG F' N' B' X' T' lt
  (try dsimp only); (try k_lift B')
  refine cut6 (fun s' => ∃ (h : Heap) (tk : Nat) (w0 : Str) (mid : List (Str × Tok)) (wn : Str) (un0 : Tok) (w' : Str) (tw : Tok) (sp : Nat) (tsp tep : Tok) (D : Addr) (n : Nat) (l0 : List (Str × Tok)), s' = { s with heap := h, toks := tk } ∧ Fr g L' h (emM want got t1 t2 D w' tw sp tsp got.length tep) ∧
      News g L' h ((D, listOf (strValues (l0 ++ [(wn, un0)])).toArray n) :: news) ∧ (∀ p ∈ news, p.1 < D) ∧ Txt.split want (Str.ofString "...") = w0 :: (mid.map (·.1) ++ [wn]) ∧
      sp = w0.length ∧ Txt.startswith got w0 = true ∧ (∀ x, mm (txs l0) x ↔ mm (txs mid) x) ∧ l0.length ≤ 2000 ∧ ∀ p ∈ l0, p.1.length ≤ 1000) ?_ ?_
  · k_fold
    k_steps
    · rename Fr h₀ L _ m => kF
      rename News h₀ L _ news => kN
      rename List.isEmpty _ = true => he
      rw [show (want == got) = due want.cps.toList got.cps.toList from em_none he]
      exact hret _ _ kF kN
    · rename News _ _ _ _ => N1
      rename Fr _ _ _ _ => F1
      rename List (Str × Tok) => l0
      rename List.isEmpty _ = false => he
      rename (_ : List _) = Txt.split _ _ => hlk
      rename _[Int.toNat 0]? = some _ => hy0
      rename 2 ≤ ((_ : Nat) : Int) => h2
      have hle := split_short hlk
      rename ∀ p ∈ news, p.1 < _ => lN
      obtain ⟨⟨w0, u0⟩, mid, ⟨wn, un0⟩, rfl⟩ := two_ends (l := l0) (by omega)
      simp at hy0
      subst hy0
      have hw0 : w0.length ≤ 1000 := Nat.le_trans (hle _ (by simp)) hw
      have hwn : wn.length ≤ 1000 := Nat.le_trans (hle _ (by simp)) hw
      refine KXt.truthy rfl (by omega) ?_
      intro _
      have hsp : Txt.split want (Str.ofString "...") = w0 :: (mid.map (·.1) ++ [wn]) := by rw [← hlk]; simp
      have hmid : ∀ p ∈ mid, p.1.length ≤ 1000 := fun p hp => Nat.le_trans (hle _ (by simp; exact .inr (.inl ⟨_, hp⟩))) hw
      have hlen : mid.length ≤ 1500 := by
        have := len_le_of_split hlk
        simp only [List.length_cons, List.length_append, List.length_nil] at this
        omega
      k_steps
      · rename News _ _ _ _ => N2
        rename Fr _ _ _ _ => F2
        rename Txt.startswith got w0 = true => hst
        refine del_led (vs := strValues ((w0, u0) :: (mid ++ [(wn, un0)]))) (vs' := strValues (mid ++ [(wn, un0)])) (k := 0) F2 (news_less N2 fun p hp => List.mem_cons_of_mem _ hp) (fun p hp => Nat.ne_of_lt (lN p hp)) (by decide)
          (StrLaws.seqIndex_nonneg (by decide) (by simp [strValues]; omega)) rfl (by rw [sizeLine_eq]; simp [strValues]; omega) ?_
        intro n' h' F3 N3
        k_steps
        exact ⟨⟨_, _, w0, mid, wn, un0, _, _, w0.length, _, _, _, n', mid, rfl, fr_over (by decide) F3, N3, lN, hsp, rfl, hst, fun _ => Iff.rfl, by omega, hmid⟩⟩
      · rename Fr h₀ L _ m => kF
        rename News h₀ L _ _ => kN
        rename Txt.startswith got w0 = false => hst
        rw [← em_no_start hsp hst]
        exact hret _ _ kF (news_less kN fun p hp => List.mem_cons_of_mem _ (List.mem_cons_of_mem _ hp))
      · rename ((w0.length : Nat) : Int) = 0 => h0
        have e0 : w0.length = 0 := by omega
        exact ⟨⟨_, _, w0, mid, wn, un0, _, _, 0, _, _, _, 0, (w0, u0) :: mid, rfl, fr_eq F1 rfl, news_less N1 fun p hp => List.mem_cons_of_mem _ hp, lN, hsp, e0.symm, starts_nil h0, mm_head h0, by simp only [List.length_cons]; omega, List.forall_mem_cons.mpr ⟨hw0, hmid⟩⟩⟩
    · exfalso
      rename List.isEmpty _ = false => he
      rename (_ : List _) = Txt.split _ _ => hlk
      rename ¬ 2 ≤ ((_ : Nat) : Int) => h2
      have := found_two he
      rw [show dots = Str.ofString "..." from rfl, ← hlk, List.length_map] at this
      omega
  · rintro s' ⟨h, tk, w0, mid, wn, un0, w', tw, sp, tsp, tep, D, n, l0, rfl, F2, N2, lN, hsp, rfl, hst, hmm, hl0, hb0⟩
    have hwn : wn.length ≤ 1000 := Nat.le_trans (part_short (x := want) (y := Str.ofString "...") (by rw [hsp]; simp)) hw
    refine cut2 (fun s' => ∃ (h : Heap) (tk : Nat) (w' : Str) (tw : Tok) (ep : Nat) (tep : Tok) (n : Nat) (l2 : List (Str × Tok)), s' = { s with heap := h, toks := tk } ∧ Fr g L' h (emM want got t1 t2 D w' tw w0.length tsp ep tep) ∧
      News g L' h ((D, listOf (strValues l2).toArray n) :: news) ∧ ep = got.length - wn.length ∧ Txt.endswith got wn = true ∧ (∀ x, mm (txs l2) x ↔ mm (txs mid) x) ∧ l2.length ≤ 2001 ∧ ∀ p ∈ l2, p.1.length ≤ 1000) ?_ ?_
    · k_fold
      k_steps
      refine item_neg_led (x := .str wn un0) N2 (.head _) (by decide) (by simp [strValues]; omega) (by decide) (by simp [strValues]; rw [show (-1 + ((l0.length : Int) + 1)).toNat = l0.length by omega]; simp) ?_
      k_steps
      · rename News _ _ _ _ => N3
        rename Fr _ _ _ _ => F3
        rename Txt.endswith got wn = true => hen
        refine del_led (vs := strValues (l0 ++ [(wn, un0)])) (vs' := strValues l0) (k := l0.length) F3 N3 (fun p hp => Nat.ne_of_lt (lN p hp)) (by decide)
          ((StrLaws.seqIndex_neg (by decide) (by simp [strValues]; omega)).trans (congrArg some (by simp [strValues]; omega))) (erase_last _ _) (by rw [sizeLine_eq]; simp [strValues]; omega) ?_
        intro n' h' F4 N4
        k_steps
        exact ⟨⟨_, _, _, _, got.length - wn.length, _, n', l0, rfl, em_fr2 F4 (by have := ((ends_iff got wn).mp hen).1; omega), N4, rfl, hen, hmm, by omega, hb0⟩⟩
      · rename Fr h₀ L _ m => kF
        rename News h₀ L _ _ => kN
        rename Txt.endswith got wn = false => hen
        rw [← em_no_end hsp hen]
        exact hret _ _ kF (news_less kN fun p hp => List.mem_cons_of_mem _ hp)
      · rename ((wn.length : Nat) : Int) = 0 => h0
        rename News _ _ _ _ => N3
        rename Fr _ _ _ _ => F3
        exact ⟨⟨_, _, _, _, got.length, _, n, l0 ++ [(wn, un0)], rfl, em_fr1 F3, N3, by omega, ends_nil h0, fun x => (mm_last h0 x).trans (hmm x), by simp; omega, fun p hp => (List.mem_append.mp hp).elim (hb0 p) fun h => by rw [List.mem_singleton.mp h]; exact hwn⟩⟩
    · rintro s' ⟨h, tk, w', tw, ep, tep, n, l2, rfl, F3, N3, hep, hen, hmm2, hl2, hb2⟩
      k_fold
      k_steps
      · have hen1 := ((ends_iff got wn).mp hen).1
        rename Fr h₀ L _ m => kF
        rename News h₀ L _ _ => kN
        rename ((ep : Nat) : Int) < _ => hlt
        rw [← em_no_room hsp (got := got) (by omega)]
        exact hret _ _ kF (news_less kN fun p hp => List.mem_cons_of_mem _ hp)
      · rename ¬ ((ep : Nat) : Int) < _ => hge
        refine for_led (fun i m' nx => ∃ (w1 : Str) (tw1 : Tok) (sp : Nat) (tsp1 : Tok), m' = emM want got t1 t2 D w1 tw1 sp tsp1 ep tep ∧ sp ≤ ep ∧ nx = (D, listOf (strValues l2).toArray n) :: news ∧
            (mm (txs l2) (sl got.cps.toList w0.length ep) ↔ mm (txs (l2.drop i)) (sl got.cps.toList sp ep))) rfl rfl rfl (.head _) F3 N3 ⟨w', tw, w0.length, tsp, rfl, by omega, rfl, by rw [List.drop_zero]⟩
            (fun Q' hQ => ld F3 rfl hQ) ?_ ?_ PassesOwn.leaving
        · rintro i v m₁ nx hh tk' own hv hoff hmem ⟨w1, tw1, sp, tsp1, rfl, hle, rfl, hiff⟩ F4 N4
          obtain ⟨wi, ui, hli, rfl⟩ := strs_at hv
          have hwi : wi.length ≤ 1000 := hb2 _ (List.mem_of_getElem? hli)
          have F5 := em_fr1 F4
          clear F4 F3 N3
          replace F5 : Fr g L' hh _ := F5
          replace N4 : News g L' hh _ := N4
          show wpAny _ _ _ _ _ _
          k_fold
          k_steps
          refine find_between (by omega) ?_
          have hdr : txs (l2.drop i) = wi.cps.toList :: txs (l2.drop (i + 1)) := by rw [drop_at hli]; rfl
          rw [hdr] at hiff
          rcases find_turn got wi (txs (l2.drop (i + 1))) sp ep (by omega) hle with ⟨e, hno⟩ | ⟨j, e, hj, hiff2⟩
          · rw [e]
            k_steps
            rename Fr h₀ L _ m => kF
            rename News h₀ L _ _ => kN
            have hnot : due want.cps.toList got.cps.toList = false := by
              rw [Bool.eq_false_iff, ne_eq, em_due hsp]
              rintro ⟨_, _, _, h⟩
              rw [← hmm2, ← hep, hiff] at h
              exact hno h
            rw [← hnot]
            exact hret _ _ kF (news_less kN fun p hp => List.mem_append_left _ (List.mem_cons_of_mem _ hp))
          · rw [e]
            k_steps
            rename Fr g L' _ _ => F6
            rename News g L' _ _ => N6
            exact ⟨InvEndG.intro (em_fr3 F6 rfl) N6 ⟨.head _, wi, ui, j + wi.length, _, rfl, hj, rfl, hiff.trans hiff2⟩ hoff (fun p hp => List.mem_append_left _ hp) fun p hp => List.mem_append_right _ hp⟩
        · intro m₁ nx hh tk' hJ F4 N4
          obtain ⟨w1, tw1, sp, tsp1, rfl, hle, rfl, hiff⟩ := hJ
          replace F4 : Fr g L' hh _ := F4
          replace N4 : News g L' hh _ := N4
          clear F3 N3
          have hyes : due want.cps.toList got.cps.toList = true := by
            rw [em_due hsp]
            refine ⟨hst, hen, by have := ((ends_iff got wn).mp hen).1; omega, ?_⟩
            rw [← hmm2, ← hep, hiff, show (strValues l2).length = l2.length by simp [strValues], List.drop_length]
            trivial
          k_steps
          rename Fr h₀ L _ m => kF
          rename News h₀ L _ _ => kN
          rw [← hyes]
          exact hret _ _ kF (news_less kN fun p hp => List.mem_cons_of_mem _ hp)
end Mine

end
section
open PySem PySem.W PyProof.Rows
namespace Mine
/-- the frame of _law_run -/
abbrev runM (r D : Addr) (u : Option Value) (b : Bool) : Str → Option Value := fun y =>
  if y = Str.ofString "here" then u else if y = Str.ofString "reached" then some (.bool b) else if y = Str.ofString "after" then some (.ref D) else List.lookup y [(Str.ofString "row", .ref r)]

section
variable {h₀ h : Heap} {L r D : Addr} {u u' : Option Value} {b c : Bool} {v : Value}
theorem run_fr0 (F : Fr h₀ L h (fun y => if y = Str.ofString "after" then some (.ref D) else if y = Str.ofString "reached" then some (.bool b) else List.lookup y [(Str.ofString "row", .ref r)])) : Fr h₀ L h (runM r D none b) := by
  refine fr_eq F (funext fun y => ?_)
  by_cases h1 : y = Str.ofString "here"
  · subst h1; rfl
  · by_cases h2 : y = Str.ofString "reached"
    · subst h2; rfl
    · simp only [runM, if_neg h1, if_neg h2]
theorem run_fr1 (F : Fr h₀ L h (fun y => if y = Str.ofString "here" then some v else runM r D u b y)) : Fr h₀ L h (runM r D (some v) b) := by
  refine fr_eq F (funext fun y => ?_)
  by_cases h1 : y = Str.ofString "here"
  · subst h1; rfl
  · simp only [runM, if_neg h1]
theorem run_fr2 (F : Fr h₀ L h (fun y => if y = Str.ofString "reached" then some (.bool c) else runM r D u b y)) : Fr h₀ L h (runM r D u c) := by
  refine fr_eq F (funext fun y => ?_)
  by_cases h1 : y = Str.ofString "reached"
  · subst h1; rfl
  · simp only [runM, if_neg h1]
end
theorem snoc_bools (acc : List Bool) (c : Bool) : bvals acc ++ [Value.bool c] = bvals (acc ++ [c]) := by simp [bvals]
local macro_rules | `(tactic| walk_at "call builtin:list.append") => `(tactic| (refine hold_call ?_))
theorem run (w : World) (news : List (Addr × Obj)) (r : Addr) (bs : List Bool) (n : Nat) (hr : (r, listOf (bvals bs).toArray n) ∈ news) (hb : bs.length ≤ 2000) :
    Claims 3 w 33 news [.ref r] (fun h₀ L m s Q => ∀ D n' h' tk', (∀ p ∈ news, p.1 < D) → Fr h₀ L h' m → News h₀ L h' ((D, listOf (bvals (runFrom false bs)).toArray n') :: news) → Q (.ref D) { s with heap := h', toks := tk' }) := by
  w_on
  unfold Claims
  k_fill
  intro mean mg mb dp un gd cn cs a ccd cl outer A₀ base h₀ L m s Q E B F X N T hk hd hu hret
  refine wpAny_call ?_
  k_dflt (refine' code_defL (binds := [(Str.ofString "row", .ref r)]) ?k1 ?k2 ?k3 ?k4 ?k5 ?kA ?kF ?kK ?k6 ?k7 ?k8 ?k9 ?kB ?_ ?c2 ?c3 ?c4 ?c5; (case kA => exact rfl); (case kF => exact rfl); (case kK => assumption); (case k1 => k_asm); (case k2 => k_asm); (case k3 => k_asm); (case k4 => k_asm); (case k5 => k_asm); (case k6 => k_is); (case k7 => k_is); (case k8 => ktr_room); (case k9 => exact BindsTo.of_eq rfl); (case c5 => decide); (case kB => exact locs rfl); (case c2 => exact rfl); (case c3 => exact rfl); (case c4 => exact rfl); k_whole)
  intro g L' h1 FG F' N' B' X' T' lt
  (try dsimp only); (try k_lift B')
  refine cut2 (fun s' => ∃ (h : Heap) (tk : Nat) (D n' : Nat), s' = { s with heap := h, toks := tk } ∧ Fr g L' h (runM r D none false) ∧ (∀ p ∈ news, p.1 < D) ∧ News g L' h ((D, listOf (bvals []).toArray n') :: news)) ?_ ?_
  · k_fold
    k_steps
    rename Fr g L' _ _ => F2
    rename News g L' _ _ => N2
    rename ∀ p ∈ news, p.1 < _ => lD
    exact ⟨⟨_, _, _, _, rfl, run_fr0 F2, lD, N2⟩⟩
  · rintro s' ⟨h, tk, D, n', rfl, F2, lD, N2⟩
    show wpAny _ _ _ _ _ _
    k_fold
    refine wpAny_execs_cons ?_
    refine for_led (fun i m' nx => ∃ (u : Option Value) (b : Bool) (acc : List Bool) (n'' : Nat), m' = runM r D u b ∧ acc.length = i ∧ nx = (D, listOf (bvals acc).toArray n'') :: news ∧ acc ++ runFrom b (bs.drop i) = runFrom false bs)
      (D := r) (vs := bvals bs) (nn := n) rfl rfl rfl (List.mem_cons_of_mem _ hr) F2 N2 ⟨none, false, [], n', rfl, rfl, rfl, rfl⟩ (fun Q' hQ => ld F2 rfl hQ) ?_ ?_ PassesOwn.leaving
    · rintro i v m₁ nx hh tk' own hv hoff hmem ⟨u, b, acc, n'', rfl, rfl, rfl, hacc⟩ F4 N4
      obtain ⟨c, hbi, rfl⟩ := bools_at hv
      replace F4 : Fr g L' hh _ := run_fr1 F4
      replace N4 : News g L' hh _ := N4
      have hlt : acc.length < bs.length := (List.getElem?_eq_some_iff.mp hbi).1
      rw [drop_at hbi] at hacc
      have hacc' : (acc ++ [b || c]) ++ runFrom (b || c) (bs.drop (acc.length + 1)) = runFrom false bs := by rw [← hacc]; simp [runFrom]
      clear F2 N2
      have hne : ∀ p ∈ news ++ own, p.1 ≠ D := fun p hp => (List.mem_append.mp hp).elim (fun h => Nat.ne_of_lt (lD p h)) fun h => hoff p h D (.head _)
      show wpAny _ _ _ _ _ _
      k_fold
      cases b <;> cases c
      all_goals
        k_steps
        rename Fr g L' _ _ => F5
        rename News g L' _ _ => N5
        refine ⟨append_led (vs := bvals acc) F5 N5 hne (by rw [sizeLine_eq, List.length_map]; omega) ?_⟩
        intro h6 F6 N6
        rw [snoc_bools] at N6
        k_steps
        exact ⟨InvEndG.intro (run_fr2 F6) N6 ⟨List.mem_cons_of_mem _ hr, _, _, acc ++ [_], _, rfl, by simp, rfl, hacc'⟩ hoff (fun p hp => List.mem_append_left own hp) fun p hp => List.mem_append_right (_ :: news) hp⟩
    · rintro m₁ nx hh tk' ⟨u, b, acc, n'', rfl, hlen, rfl, hacc⟩ F4 N4
      replace F4 : Fr g L' hh _ := F4
      replace N4 : News g L' hh _ := N4
      clear F2 N2
      have hall : acc = runFrom false bs := by
        rw [← hacc, show (bvals bs).length = bs.length by simp, List.drop_length]; simp [runFrom]
      subst hall
      k_steps
      rename Fr h₀ L _ m => kF
      rename News h₀ L _ _ => kN
      exact hret _ _ _ _ lD kF kN
end Mine

end
section
open PySem PySem.W PyProof.Rows
namespace Mine
theorem item_is {text : Str} {k : Nat} (c : Nat) (hk : k < text.length) : (Txt.item text (k : Int) == (⟨#[c]⟩ : Str)) = (true && text.cps.toList.getD k 0 == c) := by
  have h1 : Txt.charAt text (k : Int) = text.cps[k]? := by
    unfold Txt.charAt
    rw [StrLaws.seqIndex_nonneg (by omega) (by omega)]
    simp
  have hk' : k < text.cps.size := hk
  have e : text.cps.toList.getD k 0 = text.cps[k] := by simp [List.getD, hk']
  unfold Txt.item
  rw [h1, e, Bool.true_and, Bool.eq_iff_iff, beq_iff_eq, beq_iff_eq]
  simp [hk']
local macro_rules | `(tactic| walk_at "eval ListComp") => `(tactic| (k_here; k_dflt (refine listComp_hold (F₀ := by k_asm) (by with_unfolding_all rfl) (by decide) (by rfl) (by decide) (by rfl) ?_)))
theorem sign (w : World) (news : List (Addr × Obj)) (r : Addr) (bs : List Bool) (n : Nat) (c : Nat) (tc : Tok) (text : Str) (tt : Tok) (hr : (r, listOf (bvals bs).toArray n) ∈ news) (hb : bs.length = text.length + 1) (ht : text.length ≤ 1000) :
    Claims 3 w 26 news [.ref r, .str ⟨#[c]⟩ tc, .str text tt] (fun h₀ L m s Q => ∀ D n' h' tk', (∀ p ∈ news, p.1 < D) → Fr h₀ L h' m → News h₀ L h' ((D, listOf (bvals (signRow bs c text.cps.toList)).toArray n') :: news) → Q (.ref D) { s with heap := h', toks := tk' }) := by
  w_on
  unfold Claims
  k_fill
  intro mean mg mb dp un gd cn cs a ccd cl outer A₀ base h₀ L m s Q E B F X N T hk hd hu hret
  refine wpAny_call ?_
  k_dflt (refine' code_defC (binds := [(Str.ofString "row", .ref r), (Str.ofString "sign", .str ⟨#[c]⟩ tc), (Str.ofString "text", .str text tt)]) ?k1 ?k2 ?k3 ?k4 ?k5 ?kA ?kF ?kK ?k6 ?k7 ?k8 ?k9 ?kB ?kD ?_ ?c2 ?c3 ?c4; (case kA => exact rfl); (case kF => exact rfl); (case kK => assumption); (case k1 => k_asm); (case k2 => k_asm); (case k3 => k_asm); (case k4 => k_asm); (case k5 => k_asm); (case k6 => k_is); (case k7 => k_is); (case k8 => ktr_room); (case k9 => exact BindsTo.of_eq rfl); (case kB => exact rfl); (case kD => decide +kernel); (case c2 => exact rfl); (case c3 => exact rfl); (case c4 => exact rfl); k_whole)
  intro g L' h1 tk' cells FG F' N' Y' B' X' T' lt
  obtain ⟨o1, o2, o3, rfl, d1, d2, d3⟩ := CellsAre.three Y'
  replace d1 : o1.data = .cell (some (.str text tt)) := d1
  replace d2 : o2.data = .cell (some (.str ⟨#[c]⟩ tc)) := d2
  replace d3 : o3.data = .cell (some (.ref r)) := d3
  clear Y'
  simp only [List.cons_append, List.nil_append] at N'
  show wpAny _ _ _ _ _ _
  k_fold
  k_steps
  rename Fr g L' _ _ => F2
  rename News g L' _ _ => N2
  rename IsRange _ _ _ _ _ _ _ _ => R2
  refine ⟨LCg.CompSrc.range rfl F2 N2 R2 (small_one (by decide) (by decide) (by omega) (by omega)) ((rangeSize_nat _ _).trans (congrArg Int.ofNat (show ((text.length : Int) - 0).toNat = text.length by omega))) (by rw [sizeLine_eq]; omega)
    fun gg => comp_bools (fun k => bs.getD k false && text.cps.toList.getD k 0 == c) ?_ ?_⟩
  · intro k t I oI C oC D m₂ ys hh tk E' hk hC hx F3 N3
    clear F2 N2
    have hbk : bs[k]? = some (bs.getD k false) := by rw [List.getD_eq_getElem?_getD, List.getElem?_eq_getElem (by omega)]; rfl
    show wpAny _ _ _ _ _ _
    k_steps
    refine item_led (vs := bvals bs) (n := n) (x := .bool (bs.getD k false)) N3 (.tail _ (.tail _ (.tail _ (.tail _ (.tail _ (.tail _ (.tail _ hr))))))) (by omega) (by omega) (by rw [Int.toNat_natCast, List.getElem?_map, hbk]; rfl) ?_
    cases hv : bs.getD k false
    · k_steps
      exact ⟨⟨rfl, _, rfl⟩⟩
    · k_steps
      exact ⟨⟨congrArg Value.bool (item_is c hk), _, rfl⟩⟩
  · show LCg.FinE _ _ _ _ _ _ _
    unfold LCg.FinE
    intro D hh tk F3 N3 off
    clear F2 N2
    refine add_led (vs := bvals [false]) (ws := bvals ((List.range text.length).map fun k => bs.getD k false && text.cps.toList.getD k 0 == c)) F3 N3 (.tail _ (.head _)) (.head _) (by rw [sizeLine_eq]; simp [bvals]; omega) ?_
    intro D2 h2 lD2 F4 N4
    have e : bvals [false] ++ bvals ((List.range text.length).map fun k => bs.getD k false && text.cps.toList.getD k 0 == c) = bvals (signRow bs c text.cps.toList) := by
      simp [bvals, signRow, Str.length]
    rw [e] at N4
    k_steps
    rename Fr h₀ L _ m => kF
    rename News h₀ L _ _ => kN
    exact hret _ _ _ _ (fun p hp => lD2 p (.tail _ (.tail _ (.tail _ (.tail _ (.tail _ hp)))))) kF (news_less kN fun p hp => (List.mem_cons.mp hp).elim (fun h => h ▸ .head _) fun h => .tail _ (.tail _ (.tail _ (.tail _ (.tail _ (.tail _ h))))))
end Mine

end
section
open PySem PySem.W PyProof.Rows
namespace Mine
local macro_rules | `(tactic| walk_at "call ref") => `(tactic| (refine hold_call ?_))
local macro_rules | `(tactic| walk_at "binaryOp Mult ref int") => `(tactic| (refine hold_op ?_))
local macro_rules | `(tactic| walk_at "binaryOp Add ref ref") => `(tactic| (refine hold_op ?_))
local macro_rules | `(tactic| walk_at "call builtin:list.append") => `(tactic| (refine hold_call ?_))
/-- rows: an address, its bools, the list's own count -/
abbrev Rows := List (Addr × List Bool × Nat)
abbrev rowRefs (rs : Rows) : List Value := rs.map fun q => Value.ref q.1
abbrev rowObjs (rs : Rows) : List (Addr × Obj) := rs.map fun q => (q.1, listOf (bvals q.2.1).toArray q.2.2)
abbrev tabM (pattern text : Str) (tp tt : Tok) (R : Addr) (ur up : Option Value) : Str → Option Value := fun y =>
  if y = Str.ofString "row" then ur else if y = Str.ofString "place" then up else if y = Str.ofString "rows" then some (.ref R) else List.lookup y [(Str.ofString "text", .str text tt), (Str.ofString "pattern", .str pattern tp)]
/-- the rows of the pattern's beginnings, as far as they go -/
def RowsOk (P T : List Nat) (rs : Rows) : Prop := ∀ k q, rs[k]? = some q → IsRow (tk (P.take k)) T q.2.1

section
variable {h₀ h : Heap} {L R : Addr} {pattern text : Str} {tp tt : Tok} {ur up : Option Value} {v v' : Value}
theorem tab_fr0 (F : Fr h₀ L h (fun y => if y = Str.ofString "rows" then some (.ref R) else List.lookup y [(Str.ofString "text", .str text tt), (Str.ofString "pattern", .str pattern tp)])) : Fr h₀ L h (tabM pattern text tp tt R none none) := by
  refine fr_eq F (funext fun y => ?_)
  by_cases h1 : y = Str.ofString "row"
  · subst h1; rfl
  · by_cases h2 : y = Str.ofString "place"
    · subst h2; rfl
    · simp only [tabM, if_neg h1, if_neg h2]
theorem tab_fr1 (F : Fr h₀ L h (fun y => if y = Str.ofString "row" then some v else if y = Str.ofString "place" then some v' else tabM pattern text tp tt R ur up y)) : Fr h₀ L h (tabM pattern text tp tt R (some v) (some v')) := by
  refine fr_eq F (funext fun y => ?_)
  by_cases h1 : y = Str.ofString "row"
  · subst h1; rfl
  · by_cases h2 : y = Str.ofString "place"
    · subst h2; rfl
    · simp only [tabM, if_neg h1, if_neg h2]
end
theorem rows_one {P : List Nat} {text : Str} {q : Addr × List Bool × Nat} (h : q.2.1 = true :: List.replicate text.length false) : RowsOk P text.cps.toList [q] := by
  intro k q' hk
  cases k with
  | zero =>
    simp only [List.getElem?_cons_zero, Option.some.injEq] at hk
    subst hk
    rw [h, List.take_zero, tk_nil]
    have := row_zero text.cps.toList
    rwa [show text.cps.toList.length = text.length by simp [Str.length]] at this
  | succ k => simp at hk

theorem sign' {sg : Str} {c : Nat} (hsg : sg = ⟨#[c]⟩) (w : World) (news : List (Addr × Obj)) (r : Addr) (bs : List Bool) (n : Nat) (tc : Tok) (text : Str) (tt : Tok) (hr : (r, listOf (bvals bs).toArray n) ∈ news) (hb : bs.length = text.length + 1) (ht : text.length ≤ 1000) :
    Claims 3 w 26 news [.ref r, .str sg tc, .str text tt] (fun h₀ L m s Q => ∀ D n' h' tk', (∀ p ∈ news, p.1 < D) → Fr h₀ L h' m → News h₀ L h' ((D, listOf (bvals (signRow bs c text.cps.toList)).toArray n') :: news) → Q (.ref D) { s with heap := h', toks := tk' }) := by
  subst hsg
  exact sign w news r bs n c tc text tt hr hb ht
theorem dot_is : Str.ofString "." = ⟨#[46]⟩ := by decide +kernel
theorem item_one {x : Str} {k c : Nat} {r : List Nat} {i : Int} (hi : i = (k : Nat)) (hk : k < x.length) (h : x.cps.toList.drop k = c :: r) : Txt.item x i = ⟨#[c]⟩ := by
  subst hi
  have h1 : Txt.charAt x (k : Int) = x.cps[k]? := by
    unfold Txt.charAt
    rw [StrLaws.seqIndex_nonneg (by omega) (by omega)]
    simp
  have h2 : x.cps.toList[k]? = some c := by
    have : (x.cps.toList.drop k)[0]? = some c := by rw [h]; rfl
    simpa using this
  unfold Txt.item
  rw [h1, ← Array.getElem?_toList, h2]
  rfl
theorem take3 {l : List Nat} (h : l.take 3 = [46, 46, 46]) : ∃ r, l = 46 :: 46 :: 46 :: r := ⟨l.drop 3, by have := List.take_append_drop 3 l; rw [h] at this; exact this.symm⟩
theorem push_row {h₀ h : Heap} {L R D : Addr} {rs : Rows} {bs : List Bool} {n k : Nat} {news : List (Addr × Obj)} (N : News h₀ L h ((R, listOf (rowRefs rs ++ [Value.ref D]).toArray n) :: ((D, listOf (bvals bs).toArray k) :: (rowObjs rs ++ news)))) :
    News h₀ L h ((R, listOf (rowRefs (rs ++ [(D, bs, k)])).toArray n) :: (rowObjs (rs ++ [(D, bs, k)]) ++ news)) := by
  have e : rowRefs (rs ++ [(D, bs, k)]) = rowRefs rs ++ [Value.ref D] := by simp
  rw [e]
  refine news_less N fun p hp => ?_
  rcases List.mem_cons.mp hp with rfl | hp
  · exact .head _
  · refine .tail _ ?_
    rcases List.mem_append.mp hp with hp | hp
    · simp only [rowObjs, List.map_append] at hp
      rcases List.mem_append.mp hp with hp | hp
      · exact .tail _ (List.mem_append_left _ hp)
      · simp only [List.map_cons, List.map_nil, List.mem_singleton] at hp
        subst hp
        exact .head _
    · exact .tail _ (List.mem_append_right _ hp)
theorem swap2 (a b : Addr × Obj) (r : List (Addr × Obj)) : ∀ p ∈ b :: a :: r, p ∈ a :: b :: r := fun p hp => by
  rcases List.mem_cons.mp hp with rfl | hp
  · exact .tail _ (.head _)
  · rcases List.mem_cons.mp hp with rfl | hp
    · exact .head _
    · exact .tail _ (.tail _ hp)
theorem off_head {R D : Addr} {o o' : Obj} {rs : Rows} {news : List (Addr × Obj)} (l : ∀ p ∈ (R, o) :: (rowObjs rs ++ news), p.1 < D) (h1 : ∀ q ∈ rs, q.1 ≠ R) (h2 : ∀ p ∈ news, p.1 ≠ R) : ∀ p ∈ (D, o') :: (rowObjs rs ++ news), p.1 ≠ R := fun p hp => by
  rcases List.mem_cons.mp hp with rfl | hp
  · exact fun e => Nat.lt_irrefl _ (e ▸ l _ (.head _))
  · rcases List.mem_append.mp hp with hp | hp
    · obtain ⟨q, hq, rfl⟩ := List.mem_map.mp hp
      exact h1 q hq
    · exact h2 p hp
theorem ne_snoc {R : Addr} {o : Obj} {rs : Rows} {q : Addr × List Bool × Nat} {news : List (Addr × Obj)} (h1 : ∀ q ∈ rs, q.1 ≠ R) (l : ∀ p ∈ (R, o) :: (rowObjs rs ++ news), p.1 < q.1) : ∀ q' ∈ rs ++ [q], q'.1 ≠ R := fun q' hq => by
  rcases List.mem_append.mp hq with hq | hq
  · exact h1 q' hq
  · rw [List.mem_singleton.mp hq]
    exact fun e => Nat.lt_irrefl _ (e ▸ l _ (.head _))
theorem rows_snoc {P T : List Nat} {rs : Rows} {q : Addr × List Bool × Nat} (h : RowsOk P T rs) (hq : IsRow (tk (P.take rs.length)) T q.2.1) : RowsOk P T (rs ++ [q]) := by
  intro k q' hk
  rcases Nat.lt_trichotomy k rs.length with hlt | heq | hgt
  · rw [List.getElem?_append_left hlt] at hk
    exact h k q' hk
  · subst heq
    simp at hk
    subst hk
    exact hq
  · rw [List.getElem?_eq_none (by simp; omega)] at hk
    cases hk
theorem rowRefs_len (rs : Rows) : (rowRefs rs).length = rs.length := by simp
local macro_rules | `(tactic| walk_at "call builtin:len") => `(tactic| (k_here; (with_reducible show wpAny _ _ (call (Value.builtin "len") [Value.ref _]) _ _ _); k_dflt (refine' kst_len ?N ?mm (rowRefs_len _) ?ff ?_; (case N => k_asm); (case mm => k_mem); (case ff => omega); k_whole)))
theorem table (w : World) (news : List (Addr × Obj)) (pattern text : Str) (tp tt : Tok) (hp : pattern.length ≤ 1000) (ht : text.length ≤ 1000) :
    Claims 6 w 40 news [.str pattern tp, .str text tt] (fun h₀ L m s Q => ∀ R n rs h' tk', rs.length = pattern.length + 1 → RowsOk pattern.cps.toList text.cps.toList rs → (∀ q ∈ rs, q.1 ≠ R) → Fr h₀ L h' m → News h₀ L h' ((R, listOf (rowRefs rs).toArray n) :: (rowObjs rs ++ news)) → Q (.ref R) { s with heap := h', toks := tk' }) := by
  w_on
  unfold Claims
  k_fill
  intro mean mg mb dp un gd cn cs a ccd cl outer A₀ base h₀ L m s Q E B F X N T hk hd hu hret
  refine wpAny_call ?_
  k_dflt (refine' code_defL (binds := [(Str.ofString "pattern", .str pattern tp), (Str.ofString "text", .str text tt)]) ?k1 ?k2 ?k3 ?k4 ?k5 ?kA ?kF ?kK ?k6 ?k7 ?k8 ?k9 ?kB ?_ ?c2 ?c3 ?c4 ?c5; (case kA => exact rfl); (case kF => exact rfl); (case kK => assumption); (case k1 => k_asm); (case k2 => k_asm); (case k3 => k_asm); (case k4 => k_asm); (case k5 => k_asm); (case k6 => k_is); (case k7 => k_is); (case k8 => ktr_room); (case k9 => exact BindsTo.of_eq rfl); (case c5 => decide); (case kB => exact locs rfl); (case c2 => exact rfl); (case c3 => exact rfl); (case c4 => exact rfl); k_whole)
  intro g L' h1 FG F' N' B' X' T' lt
  (try dsimp only); (try k_lift B')
  refine cut1 (fun s' => ∃ (h : Heap) (tk' : Nat) (R n : Nat) (q : Addr × List Bool × Nat), s' = { s with heap := h, toks := tk' } ∧ Fr g L' h (tabM pattern text tp tt R none none) ∧ (∀ p ∈ news, p.1 ≠ R) ∧ q.1 ≠ R ∧ q.2.1 = true :: List.replicate text.length false ∧
      News g L' h ((R, listOf (rowRefs [q]).toArray n) :: (rowObjs [q] ++ news))) ?_ ?_
  · k_fold
    k_steps
    rename Fr g L' _ _ => F2
    rename News g L' _ _ => N2
    refine ⟨mul_one_led (k := text.length) F2 N2 (.head _) ht ?_⟩
    intro D2 h2 l2 F3 N3
    clear F2 N2
    k_steps
    refine ⟨add_led (vs := bvals [true]) (ws := List.replicate text.length (.bool false)) F3 N3 (.tail _ (.tail _ (.head _))) (.head _) (by rw [sizeLine_eq]; simp [bvals]; omega) ?_⟩
    intro D3 h3 l3 F4 N4
    clear F3 N3
    k_steps
    rename Fr g L' _ _ => F5
    rename News g L' _ _ => N5
    rename @LT.lt Nat _ D3 _ ∧ _ => l4
    have e : bvals [true] ++ List.replicate text.length (.bool false) = bvals (true :: List.replicate text.length false) := by simp [bvals]
    rw [e] at N5
    exact ⟨⟨_, _, _, _, (D3, true :: List.replicate text.length false, 0), rfl, tab_fr0 F5, fun p hp => Nat.ne_of_lt (kst_ltOf l4.2.2.2.2 p hp), Nat.ne_of_lt l4.1, rfl,
      news_less N5 fun p hp => (List.mem_cons.mp hp).elim (fun h => h ▸ .head _) fun h => .tail _ ((List.mem_cons.mp h).elim (fun h => h ▸ .head _) fun h => .tail _ (.tail _ (.tail _ (.tail _ h))))⟩⟩
  · rintro s' ⟨h, tk', R, nR, q, rfl, F2, lR, hqR, hq, N2⟩
    show wpAny _ _ _ _ _ _
    k_fold
    refine wpAny_execs_cons ?_
    refine while_led (fun n m' nx => ∃ (ur up : Option Value) (rs : Rows) (nR : Nat), m' = tabM pattern text tp tt R ur up ∧ nx = (R, listOf (rowRefs rs).toArray nR) :: (rowObjs rs ++ news) ∧ 1 ≤ rs.length ∧ rs.length ≤ pattern.length + 1 ∧
        n = pattern.length + 1 - rs.length ∧ RowsOk pattern.cps.toList text.cps.toList rs ∧ Bd pattern.cps.toList (rs.length - 1) ∧ ∀ q ∈ rs, q.1 ≠ R)
      F2 N2 ⟨none, none, [q], nR, rfl, rfl, by simp, by simp, rfl, rows_one hq, bd_zero _, fun q' hq' => by rw [List.mem_singleton.mp hq']; exact hqR⟩ ?_ PassesOwn.leaving
    rintro n m₁ nx hh tk2 ⟨ur, up, rs, nR, rfl, rfl, h1, h2, rfl, hok, hbd, hne⟩ F4 N4
    clear F2 N2
    show wpAny _ _ _ _ _ _
    k_fold
    k_steps
    · rename ((List.length rs : Nat) : Int) ≤ _ => hlen
      rename Fr g L' _ _ => F5
      rename News g L' _ _ => N5
      obtain ⟨q0, hq0⟩ : ∃ q0, rs[rs.length - 1]? = some q0 := ⟨rs[rs.length - 1], by simp⟩
      obtain ⟨pl, hpl⟩ : ∃ pl, rs.length = pl + 1 := ⟨rs.length - 1, by omega⟩
      have epl : rs.length - 1 = pl := by omega
      rw [epl] at hq0 hbd
      have hplP : pl ≤ pattern.length := by omega
      have hplL : pl ≤ pattern.cps.toList.length := by simp only [Array.length_toList]; simp only [Str.length] at hplP; exact hplP
      have row0 := hok pl q0 hq0
      have hq0m : q0 ∈ rs := List.mem_of_getElem? hq0
      have hb0 : q0.2.1.length = text.length + 1 := by rw [row0.1]; simp [Str.length]
      refine item_led (vs := rowRefs rs) (x := .ref q0.1) N5 (.head _) (by omega) (by omega) (by rw [show ((rs.length : Int) - 1).toNat = pl by omega, List.getElem?_map, hq0]; rfl) ?_
      k_steps
      · rename Fr g L' _ _ => F6
        rename News g L' _ _ => N6
        rename (_ == _) = true => hdots
        have hdr := (slice_dots (a := pl) (by omega) (by omega) hplP).mp hdots
        obtain ⟨r, hr⟩ := take3 hdr
        obtain ⟨t1, t2, t3, hbd3⟩ := bd_dots hbd hplL hr
        refine ⟨sign' dot_is w _ q0.1 q0.2.1 q0.2.2 _ text tt (.tail _ (List.mem_append_left _ (List.mem_map.mpr ⟨q0, hq0m, rfl⟩))) hb0 ht _ _ _ _ _ _ _ _ _ _ _ _ _ _ _ _ _ _ _ _ B' F6 X' N6 T' rfl (by ktr_room) (by ktr_units) ?_⟩
        intro D1 n1 h1' tk1 l1 F7 N7
        clear F6 N6
        k_steps
        refine ⟨append_led (vs := rowRefs rs) F7 (news_less N7 (swap2 _ _ _)) (off_head l1 hne lR) (by rw [sizeLine_eq, rowRefs_len]; omega) ?_⟩
        intro h2' F8 N8
        replace N8 := push_row N8
        clear F7 N7
        have row1 : IsRow (Mine.tk (pattern.cps.toList.take (pl + 1))) text.cps.toList (signRow q0.2.1 46 text.cps.toList) := by rw [t1]; exact row_sign 46 row0
        have hok1 := rows_snoc (q := (D1, signRow q0.2.1 46 text.cps.toList, n1)) hok (by rw [hpl]; exact row1)
        have hne1 := ne_snoc (q := (D1, signRow q0.2.1 46 text.cps.toList, n1)) hne l1
        have hat1 : (rs ++ [(D1, signRow q0.2.1 46 text.cps.toList, n1)])[pl + 1]? = some (D1, signRow q0.2.1 46 text.cps.toList, n1) := by rw [← hpl]; simp
        have hlen1 : (rs ++ [(D1, signRow q0.2.1 46 text.cps.toList, n1)]).length = pl + 2 := by simp [hpl]
        have hq0m1 : q0 ∈ rs ++ [(D1, signRow q0.2.1 46 text.cps.toList, n1)] := List.mem_append_left _ hq0m
        generalize rs ++ [(D1, signRow q0.2.1 46 text.cps.toList, n1)] = rs1 at *
        k_steps
        refine item_led (vs := rowRefs rs1) (x := .ref D1) N8 (.head _) (by omega) (by omega) (by rw [show ((rs.length : Int) - 1 + 1).toNat = pl + 1 by omega, List.getElem?_map, hat1]; rfl) ?_
        k_steps
        refine ⟨sign' dot_is w _ D1 (signRow q0.2.1 46 text.cps.toList) n1 _ text tt (.tail _ (List.mem_append_left _ (List.mem_map.mpr ⟨_, List.mem_of_getElem? hat1, rfl⟩))) (by rw [row1.1]; simp [Str.length]) ht _ _ _ _ _ _ _ _ _ _ _ _ _ _ _ _ _ _ _ _ B' F8 X' N8 T' rfl (by ktr_room) (by ktr_units) ?_⟩
        intro D2 n2 h3' tk3 l2 F9 N9
        clear F8 N8
        k_steps
        refine ⟨append_led (vs := rowRefs rs1) F9 (news_less N9 (swap2 _ _ _)) (off_head l2 hne1 lR) (by rw [sizeLine_eq, rowRefs_len]; omega) ?_⟩
        intro h4' F10 N10
        replace N10 := push_row N10
        clear F9 N9
        have row2 : IsRow (Mine.tk (pattern.cps.toList.take (pl + 2))) text.cps.toList (signRow (signRow q0.2.1 46 text.cps.toList) 46 text.cps.toList) := by rw [t2]; exact row_sign 46 (row_sign 46 row0)
        generalize signRow (signRow q0.2.1 46 text.cps.toList) 46 text.cps.toList = b2 at *
        have hok2 := rows_snoc (q := (D2, b2, n2)) hok1 (by rw [hlen1]; exact row2)
        have hne2 := ne_snoc (q := (D2, b2, n2)) hne1 l2
        have hlen2 : (rs1 ++ [(D2, b2, n2)]).length = pl + 3 := by simp [hlen1]
        have hq0m2 : q0 ∈ rs1 ++ [(D2, b2, n2)] := List.mem_append_left _ hq0m1
        generalize rs1 ++ [(D2, b2, n2)] = rs2 at *
        k_steps
        refine ⟨run w _ q0.1 q0.2.1 q0.2.2 (.tail _ (List.mem_append_left _ (List.mem_map.mpr ⟨q0, hq0m2, rfl⟩))) (by omega) _ _ _ _ _ _ _ _ _ _ _ _ _ _ _ _ _ _ _ _ B' F10 X' N10 T' rfl (by ktr_room) (by ktr_units) ?_⟩
        intro D3 n3 h5' tk5 l3 F11 N11
        clear F10 N10
        k_steps
        refine ⟨append_led (vs := rowRefs rs2) F11 (news_less N11 (swap2 _ _ _)) (off_head l3 hne2 lR) (by rw [sizeLine_eq, rowRefs_len]; omega) ?_⟩
        intro h6' F12 N12
        replace N12 := push_row N12
        clear F11 N11
        have row3 : IsRow (Mine.tk (pattern.cps.toList.take (pl + 3))) text.cps.toList (runFrom false q0.2.1) := by rw [t3]; exact row_run row0
        have hok3 := rows_snoc (q := (D3, runFrom false q0.2.1, n3)) hok2 (by rw [hlen2]; exact row3)
        have hne3 := ne_snoc (q := (D3, runFrom false q0.2.1, n3)) hne2 l3
        have hlen3 : (rs2 ++ [(D3, runFrom false q0.2.1, n3)]).length = pl + 4 := by simp [hlen2]
        generalize rs2 ++ [(D3, runFrom false q0.2.1, n3)] = rs3 at *
        have hpl3 : pl + 3 ≤ pattern.length := by
          have := congrArg List.length hr
          simp only [List.length_drop, List.length_cons, Array.length_toList] at this
          simp only [Str.length]
          omega
        k_steps
        show Hold _
        exact ⟨⟨_, _, _, _, pattern.length + 1 - rs3.length, rfl, tab_fr1 F12, N12, by omega, _, _, rs3, _, rfl, rfl, by omega, by omega, rfl, hok3, by rw [hlen3]; exact hbd3, hne3⟩⟩
      · rename Fr g L' _ _ => F6
        rename News g L' _ _ => N6
        rename (_ == _) = false => hdots
        have hlt : pl < pattern.length := by omega
        have hndr : (pattern.cps.toList.drop pl).take 3 ≠ [46, 46, 46] := fun h => by
          rw [(slice_dots (a := pl) (by omega) (by omega) hplP).mpr h] at hdots
          cases hdots
        obtain ⟨c, r, hr⟩ : ∃ c r, pattern.cps.toList.drop pl = c :: r := by
          cases hd : pattern.cps.toList.drop pl with
          | nil =>
            have := congrArg List.length hd
            simp only [List.length_drop, Array.length_toList, List.length_nil] at this
            simp only [Str.length] at hlt
            omega
          | cons c r => exact ⟨c, r, rfl⟩
        rw [hr] at hndr
        obtain ⟨t1, hbd1⟩ := bd_sign hbd hplL hr hndr
        refine ⟨sign' (item_one (by omega) hlt hr) w _ q0.1 q0.2.1 q0.2.2 _ text tt (.tail _ (List.mem_append_left _ (List.mem_map.mpr ⟨q0, hq0m, rfl⟩))) hb0 ht _ _ _ _ _ _ _ _ _ _ _ _ _ _ _ _ _ _ _ _ B' F6 X' N6 T' rfl (by ktr_room) (by ktr_units) ?_⟩
        intro D1 n1 h1' tk1 l1 F7 N7
        clear F6 N6
        k_steps
        refine ⟨append_led (vs := rowRefs rs) F7 (news_less N7 (swap2 _ _ _)) (off_head l1 hne lR) (by rw [sizeLine_eq, rowRefs_len]; omega) ?_⟩
        intro h2' F8 N8
        replace N8 := push_row N8
        clear F7 N7
        have row1 : IsRow (Mine.tk (pattern.cps.toList.take (pl + 1))) text.cps.toList (signRow q0.2.1 c text.cps.toList) := by rw [t1]; exact row_sign c row0
        have hok1 := rows_snoc (q := (D1, signRow q0.2.1 c text.cps.toList, n1)) hok (by rw [hpl]; exact row1)
        have hne1 := ne_snoc (q := (D1, signRow q0.2.1 c text.cps.toList, n1)) hne l1
        have hlen1 : (rs ++ [(D1, signRow q0.2.1 c text.cps.toList, n1)]).length = pl + 2 := by simp [hpl]
        generalize rs ++ [(D1, signRow q0.2.1 c text.cps.toList, n1)] = rs1 at *
        k_steps
        show Hold _
        exact ⟨⟨_, _, _, _, pattern.length + 1 - rs1.length, rfl, tab_fr1 F8, N8, by omega, _, _, rs1, _, rfl, rfl, by omega, by omega, rfl, hok1, by rw [hlen1]; exact hbd1, hne1⟩⟩
    · rename ¬ ((List.length rs : Nat) : Int) ≤ _ => hlen
      rename Fr h₀ L _ m => kF
      rename News h₀ L _ _ => kN
      exact hret _ _ rs _ _ (by omega) hok hne kF kN
end Mine

end
section
open PySem PySem.W PyProof.Rows
namespace Mine
local macro_rules | `(tactic| walk_at "call ref") => `(tactic| (refine hold_call ?_))
local macro_rules | `(tactic| walk_at "call type:enumerate") => `(tactic| (refine hold_call ?_))
local macro_rules | `(tactic| walk_at "pyIter ref") => `(tactic| (refine hold_iter ?_))
local macro_rules | `(tactic| walk_at "exec For Name Subscript cons nil") => `(tactic| (k_here; (rename Fr _ _ _ _ => lF'); (with_unfolding_all refine' For_invVF lF' ?k1 ?k2 ?_; (case k1 => exact rfl); (case k2 => exact rfl); k_whole)))
local macro_rules | `(tactic| walk_at "exec For Tuple Call cons nil") => `(tactic| (k_here; (rename Fr _ _ _ _ => lF'); (with_unfolding_all refine' For_pair3F lF' ?k1 ?k2 ?k3 ?k4 ?_ ?k5 ?k6; (case k1 => exact rfl); (case k2 => exact rfl); (case k3 => exact rfl); (case k4 => exact rfl); (case k5 => (intro _; rfl)); (case k6 => passes_own); k_whole)))
/-- the frame of law -/
abbrev lawM (p : Str) (tp : Tok) (t : Str) (tt : Tok) (u : Str → Option Value) : Str → Option Value := fun y =>
  if y = Str.ofString "pattern" then some (.str p tp) else if y = Str.ofString "text" then some (.str t tt) else u y
theorem law_fr {h₀ h : Heap} {L : Addr} {p t : Str} {tp tt : Tok} {m : Str → Option Value} (F : Fr h₀ L h m) (h1 : m (Str.ofString "pattern") = some (.str p tp)) (h2 : m (Str.ofString "text") = some (.str t tt)) : Fr h₀ L h (lawM p tp t tt m) := by
  refine fr_eq F (funext fun y => ?_)
  by_cases e1 : y = Str.ofString "pattern"
  · subst e1; simp only [lawM, if_pos]; exact h1
  · by_cases e2 : y = Str.ofString "text"
    · subst e2; simp only [lawM, if_neg e1, if_pos]; exact h2
    · simp only [lawM, if_neg e1, if_neg e2]
abbrev lawM3 (p : Str) (tp : Tok) (t : Str) (tt : Tok) (k : Nat) (tk : Tok) (u : Str → Option Value) : Str → Option Value := fun y =>
  if y = Str.ofString "pattern" then some (.str p tp) else if y = Str.ofString "text" then some (.str t tt) else if y = Str.ofString "k" then some (.int (k : Int) tk) else u y
theorem law_fr3 {h₀ h : Heap} {L : Addr} {p t : Str} {tp tt : Tok} {k : Nat} {tk : Tok} {m : Str → Option Value} (F : Fr h₀ L h m) (h1 : m (Str.ofString "pattern") = some (.str p tp)) (h2 : m (Str.ofString "text") = some (.str t tt)) (h3 : m (Str.ofString "k") = some (.int (k : Int) tk)) : Fr h₀ L h (lawM3 p tp t tt k tk m) := by
  refine fr_eq F (funext fun y => ?_)
  by_cases e1 : y = Str.ofString "pattern"
  · subst e1; simp only [lawM3, if_pos]; exact h1
  · by_cases e2 : y = Str.ofString "text"
    · subst e2; simp only [lawM3, if_neg e1, if_pos]; exact h2
    · by_cases e3 : y = Str.ofString "k"
      · subst e3; simp only [lawM3, if_neg e1, if_neg e2, if_pos]; exact h3
      · simp only [lawM3, if_neg e1, if_neg e2, if_neg e3]
theorem due_row {P T : List Nat} {row : List Bool} {j k : Nat} {b : Bool} (h : IsRow (tk (P.take k)) T row) (hb : row[j]? = some b) : due (P.take k) (T.take j) = b := by
  rw [Bool.eq_iff_iff, due_iff]
  exact (h.2 j b hb).symm
theorem refs_at {rs : Rows} {i : Nat} {v : Value} (h : (rowRefs rs)[i]? = some v) : ∃ q, rs[i]? = some q ∧ v = .ref q.1 := by
  simp only [rowRefs, List.getElem?_map, Option.map_eq_some_iff] at h
  obtain ⟨q, h1, h2⟩ := h
  exact ⟨q, h1, h2.symm⟩
theorem law_holds : PySem.Challenge.rw_dz0024_01.Holds := by
  w_on
  refine hd ?_
  k_go0
  rename World => w
  rename Fr _ _ _ _ => F0
  rename News _ _ _ _ => N0
  rename Below _ _ _ _ => B0
  rename Frag.In _ _ => X0
  rename Top _ _ _ _ _ _ => T0
  rename IntsAre _ _ => hI
  rename Heap => hh1
  rename Shared => s1
  show wpAny _ _ _ _ _ _
  k_fold
  refine cut3 (fun s' => ∃ (h : Heap) (tk : Nat) (p t : Str) (tp tt : Tok) (u : Str → Option Value), s' = { s1 with heap := h, toks := tk } ∧ Fr s1.heap s1.heap.objs.size h (lawM p tp t tt u) ∧ p.length ≤ 100 ∧ t.length ≤ 100) ?_ ?_
  · k_fold
    k_steps
    rename Fr _ _ _ _ => F2
    rename News _ _ _ _ => N2
    rename IntsAre _ (List.take 10 _) => hI2
    rename List.length (List.take 10 _) = _ => hl10
    rename List Value => ws
    rename Addr => D0
    refine ⟨iter_led (vs := ws) (nn := 0) (fun i m' nx => ∃ (p t : Str) (tp tt : Tok), m' (Str.ofString "pattern") = some (.str p tp) ∧ m' (Str.ofString "text") = some (.str t tt) ∧ p.length ≤ 5 + 7 * i ∧ t.length ≤ 2 + 7 * i ∧ nx = [(D0, listOf ws.toArray 0)])
      rfl (.head _) F2 N2 ⟨_, _, _, _, rfl, rfl, by decide +kernel, by decide +kernel, rfl⟩ ?_ ?_⟩
    · rintro i v m₁ nx hh tk own hv hoff hmem ⟨p, t, tp, tt, hp, ht, hlp, hlt, rfl⟩ F4 N4
      obtain ⟨num, tn, rfl, hn⟩ := IntsAre.at hI2 i v hv
      have hi10 : i < 10 := by
        have := (List.getElem?_eq_some_iff.mp hn).1
        omega
      replace F4 := law_fr F4 ((if_neg (by decide)).trans hp) ((if_neg (by decide)).trans ht)
      clear F2 N2
      have e1 : (Str.ofString "...").length = 3 := by decide +kernel
      have e2 : (Str.ofString "..").length = 2 := by decide +kernel
      have e3 : (Str.ofString ".").length = 1 := by decide +kernel
      have e4 : (Str.ofString "a").length = 1 := by decide +kernel
      have e5 : (Str.ofString "b").length = 1 := by decide +kernel
      have hsl := Txt.slice_le (Str.ofString "a.b\nab.") (some ((num.fdiv 9).fmod 4)) (some ((num.fdiv 9).fmod 4 + ((num.fdiv 9).fdiv 4).fmod 4))
      rw [show (Str.ofString "a.b\nab.").length = 7 from by decide +kernel] at hsl
      show wpAny _ _ _ _ _ _
      k_fold
      k_steps
      all_goals
        rename Fr s1.heap _ _ _ => F5
        rename News s1.heap _ _ _ => N5
        exact ⟨InvEndG.intro F5 N5 ⟨.head _, _, _, _, _, rfl, rfl, by omega, by omega, rfl⟩ hoff (fun p hp => List.mem_append_left _ hp) fun p hp => List.mem_append_right _ hp⟩
    · rintro m₁ nx hh tk ⟨p, t, tp, tt, hp, ht, hlp, hlt, rfl⟩ F4 N4
      have hw10 : ws.length ≤ 10 := by rw [hI2.length]; omega
      replace F4 : Fr s1.heap s1.heap.objs.size hh _ := law_fr F4 hp ht
      clear F2 N2
      k_steps
      exact ⟨⟨_, _, p, t, tp, tt, _, rfl, F4, by omega, by omega⟩⟩
  · rintro s' ⟨h, tk, p, t, tp, tt, u, rfl, F2, hlp, hlt⟩
    have N2 : News s1.heap s1.heap.objs.size h [] := News.nil
    have e1 : (Str.ofString "aa").length = 2 := by decide +kernel
    clear F0 N0
    show wpAny _ _ _ _ _ _
    k_steps
    rename Fr s1.heap _ _ _ => F3
    rename News s1.heap _ _ _ => N3
    have hlP : (p ++ Str.ofString "aa").length ≤ 200 := by omega
    have hlT : (t ++ Str.ofString "aa").length ≤ 200 := by omega
    generalize p ++ Str.ofString "aa" = P at *
    generalize t ++ Str.ofString "aa" = T at *
    refine ⟨table w _ P T _ _ (by omega) (by omega) _ _ _ _ _ _ _ _ _ _ _ _ _ _ _ _ _ _ _ _ B0 F3 X0 N3 T0 rfl (by ktr_room) (by ktr_units) ?_⟩
    intro R n rs h' tk' hlen hok hne F4 N4
    clear F3 N3
    k_steps
    refine ⟨enum_make (vs := rowRefs rs) (.head _) F4 N4 ?_⟩
    intro e it h2 he hit hei he0 hi0 hoff hLe hLi F5 N5
    clear F4 N4
    k_steps
    refine ⟨enum_at (vs := rowRefs rs) (fun i m' => (∃ tp, m' (Str.ofString "pattern") = some (.str P tp)) ∧ ∃ tt, m' (Str.ofString "text") = some (.str T tt)) rfl he hit (.head _) F5 N5 hei he0 hi0 hoff hLe hLi ⟨⟨_, rfl⟩, _, rfl⟩ ?_ ?_⟩
    · rintro i x ti m₁ hh tk own hx ⟨⟨tp1, hp1⟩, tt1, ht1⟩ F6 N6
      obtain ⟨q, hq, rfl⟩ := refs_at hx
      replace F6 : Fr s1.heap s1.heap.objs.size hh _ := law_fr F6 ((if_neg (by decide)).trans ((if_neg (by decide)).trans hp1)) ((if_neg (by decide)).trans ((if_neg (by decide)).trans ht1))
      replace N6 : News s1.heap s1.heap.objs.size hh _ := N6
      have hrow := hok i q hq
      have hi : i ≤ P.length := by have := (List.getElem?_eq_some_iff.mp hq).1; omega
      clear F5 N5
      show wpAny _ _ _ _ _ _
      k_fold
      k_steps
      rename Fr s1.heap _ _ _ => F7
      have hmem : (q.1, listOf (bvals q.2.1).toArray q.2.2) ∈ own ++ (R, listOf (rowRefs rs).toArray n) :: (rowObjs rs ++ []) := List.mem_append_right _ (.tail _ (List.mem_append_left _ (List.mem_map.mpr ⟨q, List.mem_of_getElem? hq, rfl⟩)))
      refine ⟨enum_make (vs := bvals q.2.1) hmem F7 N6 ?_⟩
      intro e' it' h3 he' hit' hei' he0' hi0' hoff' hLe' hLi' F8 N8
      clear F7 N6
      k_steps
      refine ⟨enum_at (vs := bvals q.2.1) (fun j m' => (∃ tp, m' (Str.ofString "pattern") = some (.str P tp)) ∧ (∃ tt, m' (Str.ofString "text") = some (.str T tt)) ∧ ∃ tk, m' (Str.ofString "k") = some (.int (i : Int) tk)) rfl he' hit' hmem F8 N8 hei' he0' hi0' hoff' hLe' hLi' ⟨⟨_, rfl⟩, ⟨_, rfl⟩, _, rfl⟩ ?_ ?_⟩
      · rintro j x tj m₂ hh2 tk2 own2 hx2 ⟨⟨tp2, hp2⟩, ⟨tt2, ht2⟩, tk3, hk2⟩ F9 N9
        obtain ⟨b, hb, rfl⟩ := bools_at hx2
        replace F9 : Fr s1.heap s1.heap.objs.size hh2 _ := law_fr3 F9 ((if_neg (by decide)).trans ((if_neg (by decide)).trans hp2)) ((if_neg (by decide)).trans ((if_neg (by decide)).trans ht2)) ((if_neg (by decide)).trans ((if_neg (by decide)).trans hk2))
        replace N9 : News s1.heap s1.heap.objs.size hh2 _ := N9
        have hj : j ≤ T.length := by
          have := (List.getElem?_eq_some_iff.mp hb).1
          rw [hrow.1] at this
          simp only [Array.length_toList] at this
          simp only [Str.length]
          omega
        clear F8 N8
        show wpAny _ _ _ _ _ _
        k_fold
        k_steps
        rename Fr s1.heap _ _ _ => F10
        rename News s1.heap _ _ _ => N10
        refine ⟨em w _ (Txt.slice P none (some (i : Int))) (Txt.slice T none (some (j : Int))) _ _ (by omega) (by omega) _ _ _ _ _ _ _ _ _ _ _ _ _ _ _ _ _ _ _ _ B0 F10 X0 N10 T0 rfl (by ktr_room) (by ktr_units) ?_⟩
        intro h5 tk5 F11 N11
        have e : due (Txt.slice P none (some (i : Int))).cps.toList (Txt.slice T none (some (j : Int))).cps.toList = b := by
          rw [slice_to_list P hi, slice_to_list T hj]
          exact due_row hrow hb
        rw [e]
        clear F10 N10
        cases b
        all_goals
          k_steps
          exact ⟨⟨_, _, _, rfl, F11, N11, ⟨_, rfl⟩, ⟨_, rfl⟩, _, rfl⟩⟩
      · rintro m₂ hh2 tk2 ⟨hp2, ht2, _⟩ F9 N9
        k_steps
        exact ⟨⟨_, _, _, rfl, F9, N9, hp2, ht2⟩⟩
    · rintro m₂ hh2 tk2 _ F9 N9
      replace F9 : Fr s1.heap s1.heap.objs.size hh2 _ := F9
      replace N9 : News s1.heap s1.heap.objs.size hh2 _ := N9
      k_steps
end Mine

end
theorem PySem.Challenge.cw_dz0024_01_holds : PySem.Challenge.rw_dz0024_01.Holds := by
  exact Mine.law_holds
