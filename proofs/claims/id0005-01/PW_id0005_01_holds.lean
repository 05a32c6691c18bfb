import PyProof.Rows.All
import Wide.All
import OpenK.AllK
import Wide.FinOn
import Lean
import PySem.Challenge.RW_id0005_01
set_option Elab.async false

/-! part Top1 -/
namespace Mine
open PySem PySem.W PyProof.Rows
set_option maxRecDepth 100000 in
set_option maxHeartbeats 8000000 in
open_top hd for PySem.Challenge.rw_id0005_01
noncomputable abbrev LV := hd.view_39
noncomputable abbrev LL := looseW hd.view_39 [Str.ofString "bisect_right", Str.ofString "insort_left", Str.ofString "bisect_left"]
end Mine

/-! part Lem1 -/
namespace Mine
/-- a goal that the walk leaves alone -/
structure Hold (P : Prop) : Prop where
  out : P

def BsR (ns : List Int) (x lo hi : Int) : Prop := (∀ i : Nat, (i : Int) < lo → i < ns.length → ns.getD i 0 ≤ x) ∧ (∀ i : Nat, hi ≤ (i : Int) → i < ns.length → x < ns.getD i 0)
def BsL (ns : List Int) (x lo hi : Int) : Prop := (∀ i : Nat, (i : Int) < lo → i < ns.length → ns.getD i 0 < x) ∧ (∀ i : Nat, hi ≤ (i : Int) → i < ns.length → x ≤ ns.getD i 0)

def cntLe (ns : List Int) (x : Int) : Int := ((ns.countP (fun y => decide (y ≤ x)) : Nat) : Int)
def cntLt (ns : List Int) (x : Int) : Int := ((ns.countP (fun y => decide (y < x)) : Nat) : Int)

theorem getD_mono {ns : List Int} (h : ns.Pairwise (· ≤ ·)) {i j : Nat} (hij : i ≤ j) (hj : j < ns.length) : ns.getD i 0 ≤ ns.getD j 0 := by
  have hi : i < ns.length := by omega
  simp only [List.getD_eq_getElem?_getD, List.getElem?_eq_getElem hi, List.getElem?_eq_getElem hj, Option.getD_some]
  rcases Nat.lt_or_ge i j with h1 | h1
  · exact List.pairwise_iff_getElem.mp h i j hi hj h1
  · have : i = j := by omega
    subst this; exact Int.le_refl _

theorem fdiv_mid {lo hi : Int} (h0 : 0 ≤ lo) (h1 : lo < hi) : lo ≤ (lo + hi).fdiv 2 ∧ (lo + hi).fdiv 2 < hi := by
  rw [Int.fdiv_eq_ediv_of_nonneg _ (by omega)]
  omega

theorem bsr_start (ns : List Int) (x : Int) : (0:Int) ≤ 0 ∧ (0:Int) ≤ (ns.length : Int) ∧ ((ns.length : Int) ≤ ns.length) ∧ BsR ns x 0 ns.length :=
  ⟨by omega, by omega, by omega, fun i h => by omega, fun i h h2 => by omega⟩
theorem bsr_hi {ns : List Int} {x lo hi : Int} (hs : ns.Pairwise (· ≤ ·)) (h0 : 0 ≤ lo) (h2 : hi ≤ ns.length) (hb : BsR ns x lo hi) (hlt : lo < hi) (hx : x < ns.getD ((lo + hi).fdiv 2).toNat 0) :
    0 ≤ lo ∧ lo ≤ (lo + hi).fdiv 2 ∧ (lo + hi).fdiv 2 ≤ ns.length ∧ BsR ns x lo ((lo + hi).fdiv 2) := by
  obtain ⟨a, b⟩ := fdiv_mid h0 hlt
  refine ⟨h0, a, by omega, hb.1, fun i hi' hl => ?_⟩
  exact Int.lt_of_lt_of_le hx (getD_mono hs (by omega) hl)
theorem bsr_lo {ns : List Int} {x lo hi : Int} (hs : ns.Pairwise (· ≤ ·)) (h0 : 0 ≤ lo) (h2 : hi ≤ ns.length) (hb : BsR ns x lo hi) (hlt : lo < hi) (hx : ¬ x < ns.getD ((lo + hi).fdiv 2).toNat 0) :
    0 ≤ (lo + hi).fdiv 2 + 1 ∧ (lo + hi).fdiv 2 + 1 ≤ hi ∧ hi ≤ ns.length ∧ BsR ns x ((lo + hi).fdiv 2 + 1) hi := by
  obtain ⟨a, b⟩ := fdiv_mid h0 hlt
  refine ⟨by omega, by omega, h2, fun i hi' hl => ?_, hb.2⟩
  exact Int.le_trans (getD_mono hs (j := ((lo + hi).fdiv 2).toNat) (by omega) (by omega)) (Int.not_lt.mp hx)

theorem bsl_start (ns : List Int) (x : Int) : (0:Int) ≤ 0 ∧ (0:Int) ≤ (ns.length : Int) ∧ ((ns.length : Int) ≤ ns.length) ∧ BsL ns x 0 ns.length :=
  ⟨by omega, by omega, by omega, fun i h => by omega, fun i h h2 => by omega⟩
theorem bsl_lo {ns : List Int} {x lo hi : Int} (hs : ns.Pairwise (· ≤ ·)) (h0 : 0 ≤ lo) (h2 : hi ≤ ns.length) (hb : BsL ns x lo hi) (hlt : lo < hi) (hx : ns.getD ((lo + hi).fdiv 2).toNat 0 < x) :
    0 ≤ (lo + hi).fdiv 2 + 1 ∧ (lo + hi).fdiv 2 + 1 ≤ hi ∧ hi ≤ ns.length ∧ BsL ns x ((lo + hi).fdiv 2 + 1) hi := by
  obtain ⟨a, b⟩ := fdiv_mid h0 hlt
  refine ⟨by omega, by omega, h2, fun i hi' hl => ?_, hb.2⟩
  exact Int.lt_of_le_of_lt (getD_mono hs (j := ((lo + hi).fdiv 2).toNat) (by omega) (by omega)) hx
theorem bsl_hi {ns : List Int} {x lo hi : Int} (hs : ns.Pairwise (· ≤ ·)) (h0 : 0 ≤ lo) (h2 : hi ≤ ns.length) (hb : BsL ns x lo hi) (hlt : lo < hi) (hx : ¬ ns.getD ((lo + hi).fdiv 2).toNat 0 < x) :
    0 ≤ lo ∧ lo ≤ (lo + hi).fdiv 2 ∧ (lo + hi).fdiv 2 ≤ ns.length ∧ BsL ns x lo ((lo + hi).fdiv 2) := by
  obtain ⟨a, b⟩ := fdiv_mid h0 hlt
  refine ⟨h0, a, by omega, hb.1, fun i hi' hl => ?_⟩
  exact Int.le_trans (Int.not_lt.mp hx) (getD_mono hs (by omega) hl)

theorem countP_split {p : Int → Bool} : ∀ {ns : List Int} {k : Nat}, k ≤ ns.length → (∀ i, i < k → i < ns.length → p (ns.getD i 0) = true) → (∀ i, k ≤ i → i < ns.length → p (ns.getD i 0) = false) → ns.countP p = k
  | [], k, h, _, _ => by simp at h; subst h; rfl
  | y :: r, 0, _, _, h2 => by
    have h3 := h2 0 (by omega) (by simp)
    simp only [List.getD_cons_zero] at h3
    rw [List.countP_cons, h3]
    have ih := countP_split (p := p) (ns := r) (k := 0) (by omega) (fun i h => by omega) (fun i _ hl => by
      have := h2 (i + 1) (by omega) (by simp; omega)
      simpa using this)
    simp [ih]
  | y :: r, k + 1, h, h1, h2 => by
    have h3 := h1 0 (by omega) (by simp)
    simp only [List.getD_cons_zero] at h3
    rw [List.countP_cons, h3]
    have ih := countP_split (p := p) (ns := r) (k := k) (by simpa using h) (fun i hi hl => by
      have := h1 (i + 1) (by omega) (by simp; omega)
      simpa using this) (fun i hi hl => by
      have := h2 (i + 1) (by omega) (by simp; omega)
      simpa using this)
    simp [ih]

theorem bsr_end {ns : List Int} {x lo hi : Int} (h0 : 0 ≤ lo) (h1 : lo ≤ hi) (h2 : hi ≤ ns.length) (hb : BsR ns x lo hi) (hlt : ¬ lo < hi) : lo = cntLe ns x := by
  unfold cntLe
  have e : ns.countP (fun y => decide (y ≤ x)) = lo.toNat := by
    refine countP_split (by omega) (fun i hi hl => ?_) (fun i hi hl => ?_)
    · exact decide_eq_true (hb.1 i (by omega) hl)
    · exact decide_eq_false (by have := hb.2 i (by omega) hl; omega)
  rw [e]; omega
theorem bsl_end {ns : List Int} {x lo hi : Int} (h0 : 0 ≤ lo) (h1 : lo ≤ hi) (h2 : hi ≤ ns.length) (hb : BsL ns x lo hi) (hlt : ¬ lo < hi) : lo = cntLt ns x := by
  unfold cntLt
  have e : ns.countP (fun y => decide (y < x)) = lo.toNat := by
    refine countP_split (by omega) (fun i hi hl => ?_) (fun i hi hl => ?_)
    · exact decide_eq_true (hb.1 i (by omega) hl)
    · exact decide_eq_false (by have := hb.2 i (by omega) hl; omega)
  rw [e]; omega
theorem cntLt_bounds (ns : List Int) (x : Int) : 0 ≤ cntLt ns x ∧ cntLt ns x ≤ ns.length := by
  unfold cntLt
  have := List.countP_le_length (p := fun y => decide (y < x)) (l := ns)
  omega
theorem cntLe_bounds (ns : List Int) (x : Int) : 0 ≤ cntLe ns x ∧ cntLe ns x ≤ ns.length := by
  unfold cntLe
  have := List.countP_le_length (p := fun y => decide (y ≤ x)) (l := ns)
  omega

/-- insertion ahead of what is no less -/
def insL (ns : List Int) (x : Int) : List Int := ns.take (cntLt ns x).toNat ++ x :: ns.drop (cntLt ns x).toNat

theorem insL_length (ns : List Int) (x : Int) : (insL ns x).length = ns.length + 1 := by
  have := cntLt_bounds ns x
  unfold insL
  rw [List.length_append, List.length_cons, List.length_take, List.length_drop]
  omega

theorem cntLt_lt {ns : List Int} (hs : ns.Pairwise (· ≤ ·)) (x : Int) : ∀ y ∈ ns.take (cntLt ns x).toNat, y ≤ x := by
  induction ns with
  | nil => intro y hy; simp at hy
  | cons a r ih =>
    intro y hy
    rw [List.pairwise_cons] at hs
    unfold cntLt at hy ih
    rw [List.countP_cons] at hy
    by_cases h : a < x
    · simp only [h, decide_true, if_true] at hy
      have e : (((List.countP (fun y => decide (y < x)) r + 1 : Nat) : Int)).toNat = List.countP (fun y => decide (y < x)) r + 1 := by omega
      rw [e, List.take_succ_cons, List.mem_cons] at hy
      rcases hy with rfl | hy
      · omega
      · exact ih hs.2 y (by simpa using hy)
    · have h0 : List.countP (fun y => decide (y < x)) r = 0 := by
        rw [List.countP_eq_zero]
        intro z hz
        have := hs.1 z hz
        simp; omega
      simp [h, h0] at hy
theorem cntLt_ge {ns : List Int} (hs : ns.Pairwise (· ≤ ·)) (x : Int) : ∀ y ∈ ns.drop (cntLt ns x).toNat, x ≤ y := by
  induction ns with
  | nil => intro y hy; simp at hy
  | cons a r ih =>
    intro y hy
    rw [List.pairwise_cons] at hs
    unfold cntLt at hy ih
    rw [List.countP_cons] at hy
    by_cases h : a < x
    · simp only [h, decide_true, if_true] at hy
      have e : (((List.countP (fun y => decide (y < x)) r + 1 : Nat) : Int)).toNat = List.countP (fun y => decide (y < x)) r + 1 := by omega
      rw [e, List.drop_succ_cons] at hy
      exact ih hs.2 y (by simpa using hy)
    · have h0 : List.countP (fun y => decide (y < x)) r = 0 := by
        rw [List.countP_eq_zero]
        intro z hz
        have := hs.1 z hz
        simp; omega
      simp [h, h0] at hy
      rcases hy with rfl | hy
      · omega
      · have := hs.1 y hy; omega
theorem insL_sorted {ns : List Int} (hs : ns.Pairwise (· ≤ ·)) (x : Int) : (insL ns x).Pairwise (· ≤ ·) := by
  unfold insL
  rw [List.pairwise_append]
  refine ⟨List.Pairwise.sublist (List.take_sublist _ _) hs, ?_, ?_⟩
  · rw [List.pairwise_cons]
    exact ⟨cntLt_ge hs x, List.Pairwise.sublist (List.drop_sublist _ _) hs⟩
  · intro y hy z hz
    rcases List.mem_cons.mp hz with rfl | hz
    · exact cntLt_lt hs _ y hy
    · exact Int.le_trans (cntLt_lt hs x y hy) (cntLt_ge hs x z hz)
end Mine

/-! part Lem2 -/
namespace Mine
/-- the row, far enough -/
def GL : List Int := [1,2,2,3,3,4,4,4,5,5,5,6,6,6,6,7,7,7,7,8,8,8,8,9,9,9,9,9,10,10,10,10,10,11,11,11,11,11,12,12,12,12,12,12]
/-- how long the row is when its next number is k (3 ≤ k ≤ 13) -/
def rowLen (k : Int) : Nat := [3,5,8,11,15,19,23,28,33,38,44].getD (k - 3).toNat 44
def rowK (k : Int) : List Int := GL.take (rowLen k)

theorem rowK_three : rowK 3 = [1, 2, 2] := by decide
theorem k_cases {P : Int → Prop} {k : Int} (h1 : 3 ≤ k) (h2 : k ≤ 12) (h : ∀ j : Fin 10, P (3 + (j.val : Int))) : P k := by
  have := h ⟨(k - 3).toNat, by omega⟩
  have e : (3 + (((k - 3).toNat : Nat) : Int)) = k := by omega
  simpa only [e] using this
theorem k_cases' {P : Int → Prop} {k : Int} (h1 : 3 ≤ k) (h2 : k ≤ 13) (h : ∀ j : Fin 11, P (3 + (j.val : Int))) : P k := by
  have := h ⟨(k - 3).toNat, by omega⟩
  have e : (3 + (((k - 3).toNat : Nat) : Int)) = k := by omega
  simpa only [e] using this
theorem rowK_len {k : Int} (h1 : 3 ≤ k) (h2 : k ≤ 13) : (rowK k).length = rowLen k :=
  k_cases' (P := fun k => (rowK k).length = rowLen k) h1 h2 (by decide)
theorem rowK_facts {k : Int} (h1 : 3 ≤ k) (h2 : k ≤ 13) : k - 1 < (rowK k).length ∧ 1 ≤ (rowK k).getD (k - 1).toNat 0 ∧ (rowK k).getD (k - 1).toNat 0 ≤ 7 ∧ (rowK k).length ≤ 44 :=
  k_cases' (P := fun k => k - 1 < ((rowK k).length : Int) ∧ 1 ≤ (rowK k).getD (k - 1).toNat 0 ∧ (rowK k).getD (k - 1).toNat 0 ≤ 7 ∧ (rowK k).length ≤ 44) h1 h2 (by decide)
theorem rowK_small {k many : Int} (h1 : 3 ≤ k) (h2 : k ≤ 13) (h : ((rowK k).length : Int) < many) (hm : many ≤ 40) : k ≤ 12 := by
  have h3 : k = 13 → (rowK k).length = 44 := by rintro rfl; decide
  by_cases h4 : k < 13
  · omega
  · have := h3 (by omega); omega
theorem rowK_next {k : Int} (h1 : 3 ≤ k) (h2 : k ≤ 12) : rowK (k + 1) = rowK k ++ List.replicate ((rowK k).getD (k - 1).toNat 0).toNat k :=
  k_cases (P := fun k => rowK (k + 1) = rowK k ++ List.replicate ((rowK k).getD (k - 1).toNat 0).toNat k) h1 h2 (by decide)
theorem rowK_take {k many : Int} (h : many ≤ (rowK k).length) : (rowK k).take many.toNat = GL.take many.toNat := by
  unfold rowK at h ⊢
  rw [List.length_take] at h
  rw [List.take_take, Nat.min_eq_left]
  omega
theorem p_cases {P : Int → Prop} {k : Int} (h1 : 2 ≤ k) (h2 : k ≤ 40) (h : ∀ j : Fin 39, P (2 + (j.val : Int))) : P k := by
  have := h ⟨(k - 2).toNat, by omega⟩
  have e : (2 + (((k - 2).toNat : Nat) : Int)) = k := by omega
  simpa only [e] using this
def BackFacts (k : Int) (L : List Int) : Prop :=
  (L.length : Int) = k - 1 ∧ (1 ≤ L.getD (k - 2).toNat 0 ∧ L.getD (k - 2).toNat 0 ≤ k - 1) ∧ (1 ≤ L.getD (L.getD (k - 2).toNat 0 - 1).toNat 0 ∧ L.getD (L.getD (k - 2).toNat 0 - 1).toNat 0 ≤ k - 1) ∧
  GL.take k.toNat = L ++ [1 + L.getD (k - 1 - L.getD (L.getD (k - 2).toNat 0 - 1).toNat 0).toNat 0]
theorem back_facts {k : Int} (h1 : 2 ≤ k) (h2 : k ≤ 40) : BackFacts k (GL.take (k - 1).toNat) :=
  p_cases (P := fun k => BackFacts k (GL.take (k - 1).toNat)) h1 h2 (by unfold BackFacts; decide +kernel)
end Mine

/-! part D1 -/
namespace Mine
open PySem PySem.W PyProof.Rows PySem.Calls

/-! a dict whose keys are tuples of a str, an int and a str -/

section
variable {prog : Program} {w : World}
theorem eqB_si {A : Around} {E : Value → Shared → Prop} {s : Shared} {a : Str} {t : Tok} {b : Int} {u : Tok} {Q : Bool → Shared → Prop} (h : Q false s) : wpAny (model prog w) A (eqBool (.str a t) (.int b u)) Q E s := by
  unfold eqBool
  refine wpAny_holding ?_
  rw [if_neg (show ¬ (Value.str a t == Value.int b u) = true from Bool.false_ne_true)]
  exact wpAny_bind (EqMixed.eq_str_int (wpAny_truthy_bool h))
theorem eqB_is {A : Around} {E : Value → Shared → Prop} {s : Shared} {a : Str} {t : Tok} {b : Int} {u : Tok} {Q : Bool → Shared → Prop} (h : Q false s) : wpAny (model prog w) A (eqBool (.int b u) (.str a t)) Q E s := by
  unfold eqBool
  refine wpAny_holding ?_
  rw [if_neg (show ¬ (Value.int b u == Value.str a t) = true from Bool.false_ne_true)]
  exact wpAny_bind (EqMixed.eq_int_str (wpAny_truthy_bool h))

theorem dec_inr (a b : Int) : (a == b) = decide ((Sum.inr a : Str ⊕ Int) = Sum.inr b) := by
  by_cases h1 : a = b
  · subst h1; simp
  · simp [h1]

def mixIs : Str ⊕ Int → Value → Bool
  | .inl x, v => Value.isStrOf x v
  | .inr k, v => Value.isInt k v
def mixHash (w : World) : Str ⊕ Int → Int
  | .inl x => hashStr w x
  | .inr k => hashInt k

def mixKind (prog : Program) (w : World) : KeyKind prog w (Str ⊕ Int) where
  is := mixIs
  hash := mixHash w
  inj := fun v a b ha hb => by
    cases a <;> cases b <;> simp only [mixIs] at ha hb
    · rw [Value.isStrOf_inj v _ _ ha hb]
    · obtain ⟨t, rfl⟩ := Value.isStrOf_shape ha; simp [Value.isInt] at hb
    · obtain ⟨t, rfl⟩ := Value.isInt_shape ha; simp [Value.isStrOf] at hb
    · rw [Value.isInt_inj v _ _ ha hb]
  byValue := fun k v h => by
    cases k <;> simp only [mixIs] at h
    · obtain ⟨t, rfl⟩ := Value.isStrOf_shape h; rfl
    · obtain ⟨t, rfl⟩ := Value.isInt_shape h; rfl
  pyHash := fun {_ _ _ k _ _} hv h => by
    cases k <;> simp only [mixIs] at hv
    · obtain ⟨t, rfl⟩ := Value.isStrOf_shape hv; exact wpAny_pyHash_str h
    · obtain ⟨t, rfl⟩ := Value.isInt_shape hv; exact wpAny_pyHash_int h
  eqBool := fun {_ _ _ a b _ _ _} hu hv h => by
    cases a <;> cases b <;> simp only [mixIs] at hu hv
    · obtain ⟨t, rfl⟩ := Value.isStrOf_shape hu; obtain ⟨t', rfl⟩ := Value.isStrOf_shape hv
      exact wpAny_eqBool_str (by simpa using h)
    · obtain ⟨t, rfl⟩ := Value.isStrOf_shape hu; obtain ⟨t', rfl⟩ := Value.isInt_shape hv
      exact eqB_si (by simpa using h)
    · obtain ⟨t, rfl⟩ := Value.isInt_shape hu; obtain ⟨t', rfl⟩ := Value.isStrOf_shape hv
      exact eqB_is (by simpa using h)
    · obtain ⟨t, rfl⟩ := Value.isInt_shape hu; obtain ⟨t', rfl⟩ := Value.isInt_shape hv
      exact wpAny_eqBool_int (by rw [dec_inr]; exact h)
  «strs» := fun k x t v h => by
    cases k <;> simp only [mixIs] at h
    · obtain ⟨u, hu⟩ := Value.isStrOf_shape h
      injection hu with hx
      subst hx
      cases v <;> rfl
    · simp [Value.isInt] at h

def keyOf (n : Int) : List (Str ⊕ Int) := [.inl (Str.ofString "of"), .inr n, .inl (Str.ofString "row")]
theorem keyOf_inj {a b : Int} (h : keyOf a = keyOf b) : a = b := by
  simp only [keyOf, List.cons.injEq, Sum.inr.injEq, true_and, and_true] at h
  exact h
theorem keyOf_dec (a b : Int) : decide (keyOf a = keyOf b) = decide (a = b) := by
  by_cases h : a = b
  · subst h; simp
  · rw [decide_eq_false h, decide_eq_false fun e => h (keyOf_inj e)]

/-- the ints of the keys stand for the keys -/
def numKind (prog : Program) (w : World) : HeapKind prog w Int where
  is := fun h n a => IsTupleKey (mixKind prog w) h (keyOf n) a
  hash := fun n => tupleKeyHash (mixKind prog w) (keyOf n)
  draws := fun _ => 4
  room := fun A => A.units < cLine
  inj := fun hx hy => keyOf_inj (IsTupleKey.inj hx hy)
  keeps := fun x ho hd hs => IsTupleKey.keeps x ho hd hs
  pyHash := fun hu hk h => wpAny_pyHash_tuple hu hk h
  eqBool := fun hu hx hy h => wpAny_eqBool_tuple hu hx hy (by rw [keyOf_dec]; exact h)
  quiet := fun hk h => wpAny_eqIsQuiet_tuple hk h

def KeyObj (n : Int) (o : Obj) : Prop := ∃ t u v k, o = { cls := .type "tuple", data := .seq #[.str (Str.ofString "of") t, .int n u, .str (Str.ofString "row") v] k }
theorem KeyObj.key {h : Heap} {n : Int} {o : Obj} {a : Addr} (x : KeyObj n o) (ho : h.get? a = some o) : (numKind prog w).is h n a := by
  obtain ⟨t, u, v, k, rfl⟩ := x
  refine ⟨_, _, k, ho, rfl, rfl, ?_⟩
  exact .cons (by simp [mixKind, mixIs, Value.isStrOf]) (.cons (by simp [mixKind, mixIs, Value.isInt]) (.cons (by simp [mixKind, mixIs, Value.isStrOf]) .nil))
end

end Mine

/-! part D2 -/
namespace Mine
open PySem PySem.W PyProof.Rows PySem.Calls

/-! walking a dict whatever its keys are -/

def RawAt (h : Heap) (d : Addr) (es : Array DictEntry) (ep : Nat) : Prop := ∃ o, h.get? d = some o ∧ o.ExactDict ∧ o.data = .dict es ep
theorem RawAt.to {h h' : Heap} {d : Addr} {es : Array DictEntry} {ep : Nat} (x : RawAt h d es ep) (e : ∀ o, h.get? d = some o → h'.get? d = some o) : RawAt h' d es ep :=
  let ⟨o, ho, r⟩ := x; ⟨o, e _ ho, r⟩
theorem RawAt.typeIs {s : Shared} {d : Addr} {es : Array DictEntry} {ep : Nat} (x : RawAt s.heap d es ep) : s.TypeIs (.ref d) "dict" := let ⟨o, ho, hc, _⟩ := x; ⟨o, ho, hc.1⟩
theorem RawAt.lt {h : Heap} {d : Addr} {es : Array DictEntry} {ep : Nat} (x : RawAt h d es ep) : d < h.objs.size := let ⟨_, ho, _⟩ := x; Heap.lt_size ho

section
variable {prog : Program} {w : World} {A : Around} {E : Value → Shared → Prop} {s : Shared} {d : Addr} {es : Array DictEntry} {ep : Nat}

theorem raw_items {Q : Value → Shared → Prop} (hd : (d == sysModules) = false) (hm : RawAt s.heap d es ep)
    (h : Q (.ref s.heap.objs.size) { s with heap := s.heap.push { cls := .type "dict_items", data := .fields #[.ref d] } }) :
    wpAny (model prog w) A (call (.builtin "dict.items") [.ref d]) Q E s := by
  refine wpAny_call_entry PySem.F.slot_dict_items hm.typeIs PySem.F.entry_dict_items ?_ (PySem.F.args_dict_items_1 _)
  unfold Builtin.«dict.items»
  refine wpAny_bind ?_
  unfold Builtin.Dict.noArgs
  refine wpAny_bind (wpAny_notOrdered_dict hm.typeIs ?_)
  show wpAny _ _ (pure d) _ _ s
  refine wpAny_pure ?_
  show wpAny _ _ (Builtin.Dict.showsAll d >>= _) _ _ s
  unfold Builtin.Dict.showsAll
  rw [if_neg (by rw [hd]; exact Bool.false_ne_true)]
  refine wpAny_bind (wpAny_pure ?_)
  exact wpAny_bind (wpAny_newObj_type (wpAny_pure ⟨_, rfl, h⟩))

theorem raw_values {Q : Value → Shared → Prop} (hd : (d == sysModules) = false) (hm : RawAt s.heap d es ep)
    (h : Q (.ref s.heap.objs.size) { s with heap := s.heap.push { cls := .type "dict_values", data := .fields #[.ref d] } }) :
    wpAny (model prog w) A (call (.builtin "dict.values") [.ref d]) Q E s := by
  refine wpAny_call_entry PySem.F.slot_dict_values hm.typeIs PySem.F.entry_dict_values ?_ (PySem.F.args_dict_values_1 _)
  unfold Builtin.«dict.values»
  refine wpAny_bind ?_
  unfold Builtin.Dict.noArgs
  refine wpAny_bind (wpAny_notOrdered_dict hm.typeIs ?_)
  show wpAny _ _ (pure d) _ _ s
  refine wpAny_pure ?_
  show wpAny _ _ (Builtin.Dict.showsAll d >>= _) _ _ s
  unfold Builtin.Dict.showsAll
  rw [if_neg (by rw [hd]; exact Bool.false_ne_true)]
  refine wpAny_bind (wpAny_pure ?_)
  exact wpAny_bind (wpAny_newObj_type (wpAny_pure ⟨_, rfl, h⟩))

/-- an iterator over a dict: which one, and how many fields of its own -/
def RawIter (cls : String) (h : Heap) (it d : Addr) (i n ep : Nat) : Prop := ∃ o, h.get? it = some o ∧ o.cls = .type cls ∧ o.data = .fields #[.ref d, .int i 0, .int n 0, .int ep 0]
theorem RawIter.to {cls : String} {h h' : Heap} {it d : Addr} {i n ep : Nat} (x : RawIter cls h it d i n ep) (e : ∀ o, h.get? it = some o → h'.get? it = some o) : RawIter cls h' it d i n ep :=
  let ⟨o, ho, r⟩ := x; ⟨o, e _ ho, r⟩

theorem raw_iter_keys {Q : Value → Shared → Prop} (hd : (d == sysModules) = false) (hm : RawAt s.heap d es ep)
    (hQ : Q (.ref s.heap.objs.size) { s with heap := s.heap.push { cls := .type "dict_keyiterator", data := .fields #[.ref d, .int 0 0, .int es.size 0, .int ep 0] } }) :
    wpAny (model prog w) A (pyIter (.ref d)) Q E s := by
  obtain ⟨o, ho, hc, hdat⟩ := id hm
  have hT := hm.typeIs
  refine wpAny_pyIter_slot hT PySem.F.slot_dict_iter (wpAny_call_entry PySem.F.slot_dict_iter hT PySem.F.entry_dict_iter ?_ (PySem.F.args_dict_iter_1 _))
  unfold Builtin.«dict.__iter__»
  refine wpAny_bind ?_
  unfold Builtin.Dict.dictSlotNone
  refine wpAny_bind (wpAny_notOrdered_dict hT ?_)
  show wpAny _ _ (pure (Value.ref d)) _ _ s
  refine wpAny_pure ?_
  show wpAny _ _ (Builtin.Dict.showsAll d >>= _) _ _ s
  unfold Builtin.Dict.showsAll
  rw [if_neg (by rw [hd]; exact Bool.false_ne_true)]
  refine wpAny_bind (wpAny_pure ?_)
  refine wpAny_bind (wpAny_dictEntries ho hdat ?_)
  refine wpAny_bind (wpAny_dictEpoch ho hdat ?_)
  refine wpAny_bind (wpAny_newObj_type (wpAny_pure ⟨_, rfl, "dict_keyiterator", _, ⟨_, Heap.get?_push_size _ rfl, rfl⟩, PySem.F.slot_dict_keyiterator_next.lookup, ?_⟩))
  simpa [rawInt] using hQ

theorem raw_iter_values {v : Addr} {Q : Value → Shared → Prop} (hv : s.heap.IsValuesView v d) (hm : RawAt s.heap d es ep)
    (hQ : Q (.ref s.heap.objs.size) { s with heap := s.heap.push { cls := .type "dict_valueiterator", data := .fields #[.ref d, .int 0 0, .int es.size 0, .int ep 0] } }) :
    wpAny (model prog w) A (pyIter (.ref v)) Q E s := by
  obtain ⟨ov, hov, hcv, hdv⟩ := id hv
  obtain ⟨o, ho, hc, hdat⟩ := id hm
  refine wpAny_pyIter_slot hv.typeIs PySem.F.slot_dict_values_iter (wpAny_call_entry PySem.F.slot_dict_values_iter hv.typeIs PySem.F.entry_dict_values_iter ?_ (PySem.F.args_dict_values_iter_1 _))
  unfold Builtin.«dict_values.__iter__»
  refine wpAny_bind (wpAny_pure ?_)
  refine wpAny_bind ?_
  unfold Builtin.Dict_items.dictOf
  refine wpAny_bind (wpAny_field hov hdv (x := .ref d) rfl (wpAny_pure ?_))
  refine wpAny_bind ?_
  unfold Builtin.Dict_items.newIterator
  refine wpAny_bind (wpAny_dictEntries ho hdat ?_)
  refine wpAny_bind (wpAny_dictEpoch ho hdat ?_)
  have hown : Builtin.Dict_items.ownsTuple "dict_valueiterator" = false := by decide
  simp only [hown, Bool.false_eq_true, if_false]
  refine wpAny_newObj_type (wpAny_pure ⟨_, rfl, "dict_valueiterator", _, ⟨_, Heap.get?_push_size _ rfl, rfl⟩, PySem.F.slot_dict_valueiterator_next.lookup, ?_⟩)
  simpa [rawInt] using hQ

theorem raw_iter_items {v : Addr} {Q : Value → Shared → Prop} (hv : s.heap.IsItemsView v d) (hm : RawAt s.heap d es ep)
    (hQ : Q (.ref s.heap.objs.size) { s with heap := s.heap.push { cls := .type "dict_itemiterator", data := .fields #[.none, .bool false, .ref d, .int 0 0, .int es.size 0, .int ep 0, .none, .none] } }) :
    wpAny (model prog w) A (pyIter (.ref v)) Q E s := by
  obtain ⟨ov, hov, hcv, hdv⟩ := id hv
  obtain ⟨o, ho, hc, hdat⟩ := id hm
  refine wpAny_pyIter_slot hv.typeIs PySem.F.slot_dict_items_iter (wpAny_call_entry PySem.F.slot_dict_items_iter hv.typeIs PySem.F.entry_dict_items_iter ?_ (PySem.F.args_dict_items_iter_1 _))
  unfold Builtin.«dict_items.__iter__»
  refine wpAny_bind (wpAny_pure ?_)
  refine wpAny_bind ?_
  unfold Builtin.Dict_items.dictOf
  refine wpAny_bind (wpAny_field hov hdv (x := .ref d) rfl (wpAny_pure ?_))
  refine wpAny_bind ?_
  unfold Builtin.Dict_items.newIterator
  refine wpAny_bind (wpAny_dictEntries ho hdat ?_)
  refine wpAny_bind (wpAny_dictEpoch ho hdat ?_)
  have hown : Builtin.Dict_items.ownsTuple "dict_itemiterator" = true := by decide
  simp only [hown, if_true]
  refine wpAny_newObj_type (wpAny_pure ⟨_, rfl, "dict_itemiterator", _, ⟨_, Heap.get?_push_size _ rfl, rfl⟩, PySem.F.slot_dict_itemiterator_next.lookup, ?_⟩)
    (by simp only [sizeOk, Builtin.Dict_items.ownedTupleFields, List.size_toArray, List.length_append, List.length_cons, List.length_nil, sizeLine_eq]; omega)
  simpa [rawInt, Builtin.Dict_items.ownedTupleFields] using hQ

theorem raw_next_key {it : Addr} {i : Nat} {Q : Option Value → Shared → Prop} (hit : RawIter "dict_keyiterator" s.heap it d i es.size ep) (hm : RawAt s.heap d es ep) (hi : i < es.size)
    (hQ : ∀ h', RawIter "dict_keyiterator" h' it d (i + 1) es.size ep → Heap.SameBut it s.heap h' → Q (some es[i].key) { s with heap := h' }) : wpAny (model prog w) A (pyNext (.ref it)) Q E s := by
  obtain ⟨o, ho, hc, hd⟩ := id hit
  obtain ⟨od, hod, hcd, hdd⟩ := id hm
  have hT : s.TypeIs (.ref it) "dict_keyiterator" := ⟨o, ho, hc⟩
  unfold pyNext
  refine wpAny_bind (wpAny_attempt (wpAny_callSpecial?_slot (name := Str.ofString "__next__") hT PySem.F.slot_dict_keyiterator_next
    (wpAny_call_entry PySem.F.slot_dict_keyiterator_next hT PySem.F.entry_dict_keyiterator_next ?_ (PySem.F.args_dict_keyiterator_next_1 _))))
  refine wpAny_bind (wpAny_pure ?_)
  refine wpAny_bind ?_
  refine wpAny_bind ?_
  first | refine wpAny_bind (wpAny_typeNameOfWhole_keyiter hT (wpAny_pure ?_)) | refine wpAny_bind (wpAny_typeNameOf_keyiter hT (wpAny_pure ?_))
  refine wpAny_bind (wpAny_fieldsOf ho hd ?_)
  have hown : Builtin.Dict_items.ownsTuple "dict_keyiterator" = false := by decide
  simp only [hown, Bool.false_eq_true, if_false]
  show wpAny _ _ (if (Value.ref d == Value.none) = true then _ else _) _ _ s
  rw [if_neg (show ¬ ((Value.ref d == Value.none) = true) from Bool.false_ne_true)]
  refine wpAny_bind (wpAny_pure ?_)
  refine wpAny_bind (wpAny_dictEntries hod hdd ?_)
  rw [if_neg (by simp)]
  refine wpAny_bind (wpAny_pure ?_)
  refine wpAny_bind (wpAny_dictEpoch hod hdd ?_)
  rw [if_neg (by simp)]
  refine wpAny_pure ?_
  simp only [show ¬ ((i : Int) < 0) from by omega, if_false, Int.toNat_natCast, Array.getElem?_eq_getElem hi]
  refine wpAny_bind ?_
  first | refine wpAny_bind (wpAny_typeNameOfWhole_keyiter hT (wpAny_pure ?_)) | refine wpAny_bind (wpAny_typeNameOf_keyiter hT (wpAny_pure ?_))
  refine wpAny_bind (wpAny_isOneOf_keyiter hT ?_)
  show wpAny _ _ (setField (.ref it) 1 (rawInt ((i : Int) + 1)) >>= _) _ _ s
  refine wpAny_bind (wpAny_setField ho hd (by simp) ?_)
  have hit' : RawIter "dict_keyiterator" (s.heap.update it (Obj.mapFields (·.setIfInBounds 1 (rawInt ((i : Int) + 1))))) it d (i + 1) es.size ep :=
    ⟨_, Heap.get?_update_self _ ho (Obj.isFreed_of_fields (Obj.data_mapFields hd _)), (Obj.cls_mapFields ..).trans hc, by rw [Obj.data_mapFields hd]; simp [rawInt]⟩
  have hT' : Shared.TypeIs { s with heap := s.heap.update it (Obj.mapFields (·.setIfInBounds 1 (rawInt ((i : Int) + 1)))) } (.ref it) "dict_keyiterator" := let ⟨o', ho', hc', _⟩ := hit'; ⟨o', ho', hc'⟩
  refine wpAny_bind (wpAny_holding ?_)
  refine wpAny_bind (wpAny_isOneOf_keyiter hT' ?_)
  show wpAny _ _ (pure es[i].key) _ _ _
  exact wpAny_pure (wpAny_pure ⟨_, rfl, wpAny_pure (hQ _ hit' (Heap.SameBut.update ..))⟩)

theorem raw_end_key {it : Addr} {Q : Option Value → Shared → Prop} (hh : A.handled = none) (hit : RawIter "dict_keyiterator" s.heap it d es.size es.size ep) (hm : RawAt s.heap d es ep)
    (hQ : ∀ h', Heap.ExtBut it s.heap h' → Q none { s with heap := h' }) : wpAny (model prog w) A (pyNext (.ref it)) Q E s := by
  obtain ⟨o, ho, hc, hd⟩ := id hit
  obtain ⟨od, hod, hcd, hdd⟩ := id hm
  have hT : s.TypeIs (.ref it) "dict_keyiterator" := ⟨o, ho, hc⟩
  unfold pyNext
  refine wpAny_bind (wpAny_attempt (wpAny_callSpecial?_slot (name := Str.ofString "__next__") hT PySem.F.slot_dict_keyiterator_next
    (wpAny_call_entry PySem.F.slot_dict_keyiterator_next hT PySem.F.entry_dict_keyiterator_next ?_ (PySem.F.args_dict_keyiterator_next_1 _))))
  refine wpAny_bind (wpAny_pure ?_)
  refine wpAny_bind ?_
  refine wpAny_bind ?_
  first | refine wpAny_bind (wpAny_typeNameOfWhole_keyiter hT (wpAny_pure ?_)) | refine wpAny_bind (wpAny_typeNameOf_keyiter hT (wpAny_pure ?_))
  refine wpAny_bind (wpAny_fieldsOf ho hd ?_)
  have hown : Builtin.Dict_items.ownsTuple "dict_keyiterator" = false := by decide
  simp only [hown, Bool.false_eq_true, if_false]
  show wpAny _ _ (if (Value.ref d == Value.none) = true then _ else _) _ _ s
  rw [if_neg (show ¬ ((Value.ref d == Value.none) = true) from Bool.false_ne_true)]
  refine wpAny_bind (wpAny_pure ?_)
  refine wpAny_bind (wpAny_dictEntries hod hdd ?_)
  rw [if_neg (by simp)]
  refine wpAny_bind (wpAny_pure ?_)
  refine wpAny_bind (wpAny_dictEpoch hod hdd ?_)
  rw [if_neg (by simp)]
  refine wpAny_pure ?_
  simp only [show ¬ ((es.size : Int) < 0) from by omega, if_false, Int.toNat_natCast, Array.getElem?_eq_none (Nat.le_refl _)]
  refine wpAny_bind ?_
  first | refine wpAny_bind (wpAny_typeNameOfWhole_keyiter hT (wpAny_pure ?_)) | refine wpAny_bind (wpAny_typeNameOf_keyiter hT (wpAny_pure ?_))
  show wpAny _ _ (setField (.ref it) 0 .none >>= _) _ _ s
  refine wpAny_bind (wpAny_setField ho hd (by simp) ?_)
  show wpAny _ _ (newExc (.type "StopIteration") [] >>= _) _ _ _
  refine wpAny_bind ?_
  simp only [newExc, newTuple]
  refine wpAny_bind (wpAny_newObj_type ?_ (by size_fits))
  refine wpAny_bind (m := firstArgMember _ _) (wpAny_of_eq (a := Value.none) (by first | rfl | (simp only [firstArgMember]; rfl)) ?_)
  refine wpAny_newObj_type ?_ (by size_fits)
  simp only [raiseNew]
  refine wpAny_bind (wpAny_handled ?_)
  rw [show A.in1.handled = none from hh]
  refine wpAny_bind (wpAny_pure (wpAny_throw ?_))
  refine wpAny_bind (wpAny_isInstance (T := "StopIteration") (b := true) ⟨_, Heap.get?_push_size _ rfl, rfl⟩ isSubtype_stop ?_)
  exact wpAny_pure (hQ _ (((Heap.SameBut.update ..).extBut.push _).push _))

theorem raw_next_val {it : Addr} {i : Nat} {Q : Option Value → Shared → Prop} (hit : RawIter "dict_valueiterator" s.heap it d i es.size ep) (hm : RawAt s.heap d es ep) (hi : i < es.size)
    (hQ : ∀ h', RawIter "dict_valueiterator" h' it d (i + 1) es.size ep → Heap.SameBut it s.heap h' → Q (some es[i].val) { s with heap := h' }) : wpAny (model prog w) A (pyNext (.ref it)) Q E s := by
  obtain ⟨o, ho, hc, hd⟩ := id hit
  obtain ⟨od, hod, hcd, hdd⟩ := id hm
  have hT : s.TypeIs (.ref it) "dict_valueiterator" := ⟨o, ho, hc⟩
  unfold pyNext
  refine wpAny_bind (wpAny_attempt (wpAny_callSpecial?_slot (name := Str.ofString "__next__") hT PySem.F.slot_dict_valueiterator_next
    (wpAny_call_entry PySem.F.slot_dict_valueiterator_next hT PySem.F.entry_dict_valueiterator_next ?_ (PySem.F.args_dict_valueiterator_next_1 _))))
  refine wpAny_bind (wpAny_pure ?_)
  refine wpAny_bind ?_
  refine wpAny_bind ?_
  first | refine wpAny_bind (wpAny_typeNameOfWhole_valiter hT (wpAny_pure ?_)) | refine wpAny_bind (wpAny_typeNameOf_valiter hT (wpAny_pure ?_))
  refine wpAny_bind (wpAny_fieldsOf ho hd ?_)
  have hown : Builtin.Dict_items.ownsTuple "dict_valueiterator" = false := by decide
  simp only [hown, Bool.false_eq_true, if_false]
  show wpAny _ _ (if (Value.ref d == Value.none) = true then _ else _) _ _ s
  rw [if_neg (show ¬ ((Value.ref d == Value.none) = true) from Bool.false_ne_true)]
  refine wpAny_bind (wpAny_pure ?_)
  refine wpAny_bind (wpAny_dictEntries hod hdd ?_)
  rw [if_neg (by simp)]
  refine wpAny_bind (wpAny_pure ?_)
  refine wpAny_bind (wpAny_dictEpoch hod hdd ?_)
  rw [if_neg (by simp)]
  refine wpAny_pure ?_
  simp only [show ¬ ((i : Int) < 0) from by omega, if_false, Int.toNat_natCast, Array.getElem?_eq_getElem hi]
  refine wpAny_bind ?_
  first | refine wpAny_bind (wpAny_typeNameOfWhole_valiter hT (wpAny_pure ?_)) | refine wpAny_bind (wpAny_typeNameOf_valiter hT (wpAny_pure ?_))
  refine wpAny_bind (wpAny_isOneOf_valiter hT ?_)
  show wpAny _ _ (setField (.ref it) 1 (rawInt ((i : Int) + 1)) >>= _) _ _ s
  refine wpAny_bind (wpAny_setField ho hd (by simp) ?_)
  have hit' : RawIter "dict_valueiterator" (s.heap.update it (Obj.mapFields (·.setIfInBounds 1 (rawInt ((i : Int) + 1))))) it d (i + 1) es.size ep :=
    ⟨_, Heap.get?_update_self _ ho (Obj.isFreed_of_fields (Obj.data_mapFields hd _)), (Obj.cls_mapFields ..).trans hc, by rw [Obj.data_mapFields hd]; simp [rawInt]⟩
  have hT' : Shared.TypeIs { s with heap := s.heap.update it (Obj.mapFields (·.setIfInBounds 1 (rawInt ((i : Int) + 1)))) } (.ref it) "dict_valueiterator" := let ⟨o', ho', hc', _⟩ := hit'; ⟨o', ho', hc'⟩
  refine wpAny_bind (wpAny_holding ?_)
  refine wpAny_bind (wpAny_isOneOf_valiter hT' ?_)
  refine wpAny_bind (wpAny_isOneOf_valiter hT' ?_)
  show wpAny _ _ (pure es[i].val) _ _ _
  exact wpAny_pure (wpAny_pure ⟨_, rfl, wpAny_pure (hQ _ hit' (Heap.SameBut.update ..))⟩)

theorem raw_end_val {it : Addr} {Q : Option Value → Shared → Prop} (hh : A.handled = none) (hit : RawIter "dict_valueiterator" s.heap it d es.size es.size ep) (hm : RawAt s.heap d es ep)
    (hQ : ∀ h', Heap.ExtBut it s.heap h' → Q none { s with heap := h' }) : wpAny (model prog w) A (pyNext (.ref it)) Q E s := by
  obtain ⟨o, ho, hc, hd⟩ := id hit
  obtain ⟨od, hod, hcd, hdd⟩ := id hm
  have hT : s.TypeIs (.ref it) "dict_valueiterator" := ⟨o, ho, hc⟩
  unfold pyNext
  refine wpAny_bind (wpAny_attempt (wpAny_callSpecial?_slot (name := Str.ofString "__next__") hT PySem.F.slot_dict_valueiterator_next
    (wpAny_call_entry PySem.F.slot_dict_valueiterator_next hT PySem.F.entry_dict_valueiterator_next ?_ (PySem.F.args_dict_valueiterator_next_1 _))))
  refine wpAny_bind (wpAny_pure ?_)
  refine wpAny_bind ?_
  refine wpAny_bind ?_
  first | refine wpAny_bind (wpAny_typeNameOfWhole_valiter hT (wpAny_pure ?_)) | refine wpAny_bind (wpAny_typeNameOf_valiter hT (wpAny_pure ?_))
  refine wpAny_bind (wpAny_fieldsOf ho hd ?_)
  have hown : Builtin.Dict_items.ownsTuple "dict_valueiterator" = false := by decide
  simp only [hown, Bool.false_eq_true, if_false]
  show wpAny _ _ (if (Value.ref d == Value.none) = true then _ else _) _ _ s
  rw [if_neg (show ¬ ((Value.ref d == Value.none) = true) from Bool.false_ne_true)]
  refine wpAny_bind (wpAny_pure ?_)
  refine wpAny_bind (wpAny_dictEntries hod hdd ?_)
  rw [if_neg (by simp)]
  refine wpAny_bind (wpAny_pure ?_)
  refine wpAny_bind (wpAny_dictEpoch hod hdd ?_)
  rw [if_neg (by simp)]
  refine wpAny_pure ?_
  simp only [show ¬ ((es.size : Int) < 0) from by omega, if_false, Int.toNat_natCast, Array.getElem?_eq_none (Nat.le_refl _)]
  refine wpAny_bind ?_
  first | refine wpAny_bind (wpAny_typeNameOfWhole_valiter hT (wpAny_pure ?_)) | refine wpAny_bind (wpAny_typeNameOf_valiter hT (wpAny_pure ?_))
  show wpAny _ _ (setField (.ref it) 0 .none >>= _) _ _ s
  refine wpAny_bind (wpAny_setField ho hd (by simp) ?_)
  show wpAny _ _ (newExc (.type "StopIteration") [] >>= _) _ _ _
  refine wpAny_bind ?_
  simp only [newExc, newTuple]
  refine wpAny_bind (wpAny_newObj_type ?_ (by size_fits))
  refine wpAny_bind (m := firstArgMember _ _) (wpAny_of_eq (a := Value.none) (by first | rfl | (simp only [firstArgMember]; rfl)) ?_)
  refine wpAny_newObj_type ?_ (by size_fits)
  simp only [raiseNew]
  refine wpAny_bind (wpAny_handled ?_)
  rw [show A.in1.handled = none from hh]
  refine wpAny_bind (wpAny_pure (wpAny_throw ?_))
  refine wpAny_bind (wpAny_isInstance (T := "StopIteration") (b := true) ⟨_, Heap.get?_push_size _ rfl, rfl⟩ isSubtype_stop ?_)
  exact wpAny_pure (hQ _ (((Heap.SameBut.update ..).extBut.push _).push _))

theorem raw_next_item {it : Addr} {i : Nat} {ok ov : Value} {Q : Option Value → Shared → Prop} (hit : IsItemIter s.heap it d i es.size ep ok ov) (hm : RawAt s.heap d es ep) (hi : i < es.size)
    (hQ : ∀ h', IsItemIterOut h' it d (i + 1) es.size ep es[i].key es[i].val s.heap.objs.size →
      h'.get? s.heap.objs.size = some { cls := .type "tuple", data := .seq #[es[i].key, es[i].val] } → h'.objs.size = s.heap.objs.size + 1 →
      (∀ b o, b ≠ it → s.heap.get? b = some o → h'.get? b = some o) → Q (some (.ref s.heap.objs.size)) { s with heap := h' }) :
    wpAny (model prog w) A (pyNext (.ref it)) Q E s := by
  obtain ⟨hp, g, dr, tk, os⟩ := s
  obtain ⟨od, hod, hcd, hdd⟩ := id hm
  have hT : Shared.TypeIs ⟨hp, g, dr, tk, os⟩ (.ref it) "dict_itemiterator" := ⟨_, hit, rfl⟩
  unfold pyNext
  refine wpAny_bind (wpAny_attempt (wpAny_callSpecial?_slot (name := Str.ofString "__next__") hT PySem.F.slot_dict_itemiterator_next
    (wpAny_call_entry PySem.F.slot_dict_itemiterator_next hT PySem.F.entry_dict_itemiterator_next ?_ (PySem.F.args_dict_itemiterator_next_1 _))))
  refine wpAny_bind (wpAny_pure ?_)
  refine wpAny_bind ?_
  refine wpAny_bind ?_
  first | refine wpAny_bind (wpAny_typeNameOfWhole_itemiter hT (wpAny_pure ?_)) | refine wpAny_bind (wpAny_typeNameOf_itemiter hT (wpAny_pure ?_))
  refine wpAny_bind (wpAny_fieldsOf hit rfl ?_)
  have hown : Builtin.Dict_items.ownsTuple "dict_itemiterator" = true := by decide
  simp only [hown, if_true]
  show wpAny _ _ (if (Value.ref d == Value.none) = true then _ else _) _ _ _
  rw [if_neg (show ¬ ((Value.ref d == Value.none) = true) from Bool.false_ne_true)]
  refine wpAny_bind (wpAny_pure ?_)
  refine wpAny_bind (wpAny_dictEntries hod hdd ?_)
  rw [if_neg (by simp)]
  refine wpAny_bind (wpAny_pure ?_)
  refine wpAny_bind (wpAny_dictEpoch hod hdd ?_)
  rw [if_neg (by simp)]
  refine wpAny_pure ?_
  simp only [show ¬ ((i : Int) < 0) from by omega, if_false, Int.toNat_natCast, Array.getElem?_eq_getElem hi]
  refine wpAny_bind ?_
  first | refine wpAny_bind (wpAny_typeNameOfWhole_itemiter hT (wpAny_pure ?_)) | refine wpAny_bind (wpAny_typeNameOf_itemiter hT (wpAny_pure ?_))
  refine wpAny_bind (wpAny_isOneOf_itemiter hT ?_)
  show wpAny _ _ (setField (.ref it) 3 (rawInt ((i : Int) + 1)) >>= _) _ _ ⟨hp, g, dr, tk, os⟩
  refine wpAny_bind (wpAny_setField_rec hit (by simp) fun h₁ he₁ hs₁ => ?_)
  replace hs₁ : Heap.SameBut it hp h₁ := hs₁
  replace he₁ : IsItemIter h₁ it d (i + 1) es.size ep ok ov := by
    have e : ((i + 1 : Nat) : Int) = (i : Int) + 1 := by omega
    unfold IsItemIter; rw [e]; simpa [rawInt] using he₁
  have hT₁ : Shared.TypeIs ⟨h₁, g, dr, tk, os⟩ (.ref it) "dict_itemiterator" := ⟨_, he₁, rfl⟩
  refine wpAny_bind (wpAny_holding ?_)
  refine wpAny_bind (wpAny_isOneOf_itemiter hT₁ ?_)
  refine wpAny_bind (wpAny_isOneOf_itemiter hT₁ ?_)
  show wpAny _ _ (Builtin.Dict_items.pairFromOwner (.ref it) 6 es[i].key es[i].val) _ _ ⟨h₁, g, dr, tk, os⟩
  unfold Builtin.Dict_items.pairFromOwner
  refine wpAny_bind (wpAny_newTuple ?_)
  have he₂ : IsItemIter (h₁.push { cls := .type "tuple", data := .seq #[es[i].key, es[i].val] }) it d (i + 1) es.size ep ok ov := Heap.get?_push_of_some _ he₁
  generalize hh₂ : h₁.push { cls := .type "tuple", data := .seq #[es[i].key, es[i].val] } = h₂ at he₂
  have hz₁ : h₁.objs.size = hp.objs.size := hs₁.1
  have hil : it < hp.objs.size := Heap.lt_size hit
  have ht₂ : h₂.get? hp.objs.size = some { cls := .type "tuple", data := .seq #[es[i].key, es[i].val] } := by rw [← hh₂, ← hz₁]; exact Heap.get?_push_size _ rfl
  have hz₂ : h₂.objs.size = hp.objs.size + 1 := by rw [← hh₂, Heap.size_push, hz₁]
  have hk₂ : ∀ b o, b ≠ it → hp.get? b = some o → h₂.get? b = some o := fun b o hb e => by rw [← hh₂]; exact Heap.get?_push_of_some _ (hs₁.extBut b o hb e)
  show wpAny _ _ (Builtin.Dict_items.ownedTupleIsFree (.ref it) >>= _) _ _ ⟨h₂, g, dr, tk, os⟩
  rw [hz₁]
  clear hh₂ he₁ hs₁ hT₁ hz₁ h₁
  refine wpAny_bind ?_
  unfold Builtin.Dict_items.ownedTupleIsFree
  refine wpAny_bind (wpAny_field he₂ rfl (x := .none) rfl (wpAny_pure ?_))
  simp only [if_true]
  refine wpAny_bind (wpAny_field he₂ rfl (x := ok) rfl ?_)
  refine wpAny_bind (wpAny_field he₂ rfl (x := ov) rfl ?_)
  refine wpAny_bind (wpAny_setField_rec he₂ (by simp) fun h₃ he₃ hs₃ => ?_)
  replace hs₃ : Heap.SameBut it h₂ h₃ := hs₃
  replace he₃ : IsItemIter h₃ it d (i + 1) es.size ep es[i].key ov := he₃
  refine wpAny_bind (wpAny_setField_rec he₃ (by simp) fun h₄ he₄ hs₄ => ?_)
  replace hs₄ : Heap.SameBut it h₃ h₄ := hs₄
  replace he₄ : IsItemIter h₄ it d (i + 1) es.size ep es[i].key es[i].val := he₄
  refine wpAny_bind (wpAny_setField_rec he₄ (by simp) fun h₅ he₅ hs₅ => ?_)
  replace hs₅ : Heap.SameBut it h₄ h₅ := hs₅
  replace he₅ : IsItemIterOut h₅ it d (i + 1) es.size ep es[i].key es[i].val hp.objs.size := he₅
  refine wpAny_bind (wpAny_setField_rec he₅ (by simp) fun h₆ he₆ hs₆ => ?_)
  replace hs₆ : Heap.SameBut it h₅ h₆ := hs₆
  replace he₆ : IsItemIterOut h₆ it d (i + 1) es.size ep es[i].key es[i].val hp.objs.size := he₆
  have ne : hp.objs.size ≠ it := Nat.ne_of_gt hil
  refine wpAny_bind (wpAny_letGo (wpAny_pure (wpAny_pure ⟨_, rfl, wpAny_pure (hQ h₆ he₆ (hs₆.extBut _ _ ne (hs₅.extBut _ _ ne (hs₄.extBut _ _ ne (hs₃.extBut _ _ ne ht₂)))) ?_ ?_)⟩)))
  · show h₆.objs.size = hp.objs.size + 1
    rw [hs₆.1, hs₅.1, hs₄.1, hs₃.1, hz₂]
  · exact fun b o hb e => hs₆.extBut b o hb (hs₅.extBut b o hb (hs₄.extBut b o hb (hs₃.extBut b o hb (hk₂ b o hb e))))

theorem raw_end_item {it : Addr} {ok ov : Value} {Q : Option Value → Shared → Prop} (hh : A.handled = none) (hit : IsItemIter s.heap it d es.size es.size ep ok ov) (hm : RawAt s.heap d es ep)
    (hQ : ∀ h', Heap.ExtBut it s.heap h' → Q none { s with heap := h' }) : wpAny (model prog w) A (pyNext (.ref it)) Q E s := by
  obtain ⟨od, hod, hcd, hdd⟩ := id hm
  have hT : s.TypeIs (.ref it) "dict_itemiterator" := ⟨_, hit, rfl⟩
  unfold pyNext
  refine wpAny_bind (wpAny_attempt (wpAny_callSpecial?_slot (name := Str.ofString "__next__") hT PySem.F.slot_dict_itemiterator_next
    (wpAny_call_entry PySem.F.slot_dict_itemiterator_next hT PySem.F.entry_dict_itemiterator_next ?_ (PySem.F.args_dict_itemiterator_next_1 _))))
  refine wpAny_bind (wpAny_pure ?_)
  refine wpAny_bind ?_
  refine wpAny_bind ?_
  first | refine wpAny_bind (wpAny_typeNameOfWhole_itemiter hT (wpAny_pure ?_)) | refine wpAny_bind (wpAny_typeNameOf_itemiter hT (wpAny_pure ?_))
  refine wpAny_bind (wpAny_fieldsOf hit rfl ?_)
  have hown : Builtin.Dict_items.ownsTuple "dict_itemiterator" = true := by decide
  simp only [hown, if_true]
  show wpAny _ _ (if (Value.ref d == Value.none) = true then _ else _) _ _ _
  rw [if_neg (show ¬ ((Value.ref d == Value.none) = true) from Bool.false_ne_true)]
  refine wpAny_bind (wpAny_pure ?_)
  refine wpAny_bind (wpAny_dictEntries hod hdd ?_)
  rw [if_neg (by simp)]
  refine wpAny_bind (wpAny_pure ?_)
  refine wpAny_bind (wpAny_dictEpoch hod hdd ?_)
  rw [if_neg (by simp)]
  refine wpAny_pure ?_
  simp only [show ¬ ((es.size : Int) < 0) from by omega, if_false, Int.toNat_natCast, Array.getElem?_eq_none (Nat.le_refl _)]
  refine wpAny_bind ?_
  first | refine wpAny_bind (wpAny_typeNameOfWhole_itemiter hT (wpAny_pure ?_)) | refine wpAny_bind (wpAny_typeNameOf_itemiter hT (wpAny_pure ?_))
  show wpAny _ _ (setField (.ref it) 2 .none >>= _) _ _ s
  refine wpAny_bind (wpAny_setField hit rfl (by simp) ?_)
  show wpAny _ _ (newExc (.type "StopIteration") [] >>= _) _ _ _
  refine wpAny_bind ?_
  simp only [newExc, newTuple]
  refine wpAny_bind (wpAny_newObj_type ?_ (by size_fits))
  refine wpAny_bind (m := firstArgMember _ _) (wpAny_of_eq (a := Value.none) (by first | rfl | (simp only [firstArgMember]; rfl)) ?_)
  refine wpAny_newObj_type ?_ (by size_fits)
  simp only [raiseNew]
  refine wpAny_bind (wpAny_handled ?_)
  rw [show A.in1.handled = none from hh]
  refine wpAny_bind (wpAny_pure (wpAny_throw ?_))
  refine wpAny_bind (wpAny_isInstance (T := "StopIteration") (b := true) ⟨_, Heap.get?_push_size _ rfl, rfl⟩ isSubtype_stop ?_)
  exact wpAny_pure (hQ _ (((Heap.SameBut.update ..).extBut.push _).push _))
end

section
variable {prog : Program} {w : World} {A : Around} {d : Addr} {es : Array DictEntry} {ep : Nat}

theorem turns_items {elts : List Expr} {kk : Nat} {pos : Pos} (hh : A.handled = none) (I : Addr) (hne : d ≠ I) :
    KTurns prog w A (.Tuple elts kk pos) I [I, d] [I] es.size
      (fun i v h => ∃ T e, v = .ref T ∧ es[i]? = some e ∧ h.IsTuple T #[e.key, e.val])
      (fun i v h => ∃ T e ok ov, v = .ref T ∧ es[i]? = some e ∧ h.IsTuple T #[e.key, e.val] ∧ IsItemIterOut h I d (i + 1) es.size ep ok ov T ∧ RawAt h d es ep ∧ T ≠ I)
      (fun i h => (∃ ok ov, IsItemIter h I d i es.size ep ok ov) ∧ RawAt h d es ep) where
  sub := fun b hb => by simp at hb; simp [hb]
  frame := fun i h h' st hk => by
    obtain ⟨⟨ok, ov, he⟩, hm⟩ := st
    exact ⟨⟨ok, ov, hk I (by simp) _ he⟩, hm.to fun o e => hk d (by simp) o e⟩
  item := fun i s Q E hi st hQ => by
    obtain ⟨⟨ok, ov, he⟩, hm⟩ := st
    refine raw_next_item he hm hi fun h' ho hT hsz hk => ?_
    exact hQ (.ref s.heap.objs.size) h' s.toks ⟨s.heap.objs.size, es[i], _, _, rfl, by simp [hi], ⟨_, hT, rfl, _, rfl⟩, ho, hm.to (fun o e => hk d o hne e), Nat.ne_of_gt (Heap.lt_size he)⟩ fun b o hb e => hk b o (fun h => hb (by simp [h])) e
  go := fun i v s Q E hm hQ => by
    obtain ⟨T, e, ok, ov, rfl, hx, hT, ho, hd, hTI⟩ := hm
    refine wpAny_letOwnedTupleGo_items ho fun h' he hs => ?_
    exact hQ h' ⟨T, e, rfl, hx, hT.at fun o e => hs.extBut T o hTI e⟩ ⟨⟨ok, ov, he⟩, hd.to fun o e => hs.extBut d o hne e⟩ fun b o hb e => hs.extBut b o (fun h => hb (by simp [h])) e
  done := fun s Q E st hQ => by
    obtain ⟨⟨ok, ov, he⟩, hm⟩ := st
    exact raw_end_item hh he hm fun h' hx => hQ h' s.toks fun b o hb e => hx b o (fun h => hb (by simp [h])) e

theorem walks_keys (hh : A.handled = none) (I : Addr) (hne : d ≠ I) :
    Walks prog w A I [I, d] [I] es.size (fun i v => ∃ e, es[i]? = some e ∧ v = e.key) (fun i h => RawIter "dict_keyiterator" h I d i es.size ep ∧ RawAt h d es ep) where
  sub := fun b hb => by simp at hb; simp [hb]
  frame := fun _ _ _ st hk => ⟨st.1.to fun o e => hk I (by simp) o e, st.2.to fun o e => hk d (by simp) o e⟩
  item := fun i s Q E hi st hQ => by
    refine raw_next_key st.1 st.2 hi fun h' hit' hs' => ?_
    exact hQ _ h' s.toks ⟨es[i], by simp [hi], rfl⟩ ⟨hit', st.2.to fun o e => hs'.extBut d o hne e⟩ fun b o hb e => hs'.extBut b o (fun h => hb (by simp [h])) e
  done := fun s Q E st hQ => raw_end_key hh st.1 st.2 fun h' he' => hQ h' s.toks fun b o hb e => he' b o (fun h => hb (by simp [h])) e
  self := fun _ _ _ _ st hQ => wpAny_pyIter_keyiter st.1 hQ

theorem walks_vals (hh : A.handled = none) (I : Addr) (hne : d ≠ I) :
    Walks prog w A I [I, d] [I] es.size (fun i v => ∃ e, es[i]? = some e ∧ v = e.val) (fun i h => RawIter "dict_valueiterator" h I d i es.size ep ∧ RawAt h d es ep) where
  sub := fun b hb => by simp at hb; simp [hb]
  frame := fun _ _ _ st hk => ⟨st.1.to fun o e => hk I (by simp) o e, st.2.to fun o e => hk d (by simp) o e⟩
  item := fun i s Q E hi st hQ => by
    refine raw_next_val st.1 st.2 hi fun h' hit' hs' => ?_
    exact hQ _ h' s.toks ⟨es[i], by simp [hi], rfl⟩ ⟨hit', st.2.to fun o e => hs'.extBut d o hne e⟩ fun b o hb e => hs'.extBut b o (fun h => hb (by simp [h])) e
  done := fun s Q E st hQ => raw_end_val hh st.1 st.2 fun h' he' => hQ h' s.toks fun b o hb e => he' b o (fun h => hb (by simp [h])) e
  self := fun _ _ _ _ st hQ => wpAny_pyIter_valiter st.1 hQ
end
end Mine

/-! part D3 -/
namespace Mine
open PySem PySem.W PyProof.Rows PySem.Calls

/-! a table of counts in the ledger -/

inductive TabRel : List (Int × Addr × Value) → List (Int × Int) → Prop
  | nil : TabRel [] []
  | cons {n c : Int} {a : Addr} {t : Tok} {xs : List (Int × Addr × Value)} {tab : List (Int × Int)} : TabRel xs tab → TabRel ((n, a, .int c t) :: xs) ((n, c) :: tab)

theorem TabRel.length {xs tab} (h : TabRel xs tab) : xs.length = tab.length := by
  induction h with
  | nil => rfl
  | cons _ ih => simp [ih]
theorem TabRel.keys {xs tab} (h : TabRel xs tab) : xs.map (·.1) = tab.map (·.1) := by
  induction h with
  | nil => rfl
  | cons _ ih => simp [ih]
theorem TabRel.get {xs tab} (h : TabRel xs tab) : ∀ {i : Nat} {x : Int × Addr × Value}, xs[i]? = some x → ∃ c t, x.2.2 = .int c t ∧ tab[i]? = some (x.1, c) := by
  induction h with
  | nil => intro i x hx; simp at hx
  | @cons n c a t xs tab _ ih =>
    intro i x hx
    cases i with
    | zero => simp at hx; subst hx; exact ⟨c, t, rfl, by simp⟩
    | succ j => simpa using ih (by simpa using hx)
theorem TabRel.append {xs ys tab tab'} (h : TabRel xs tab) (h' : TabRel ys tab') : TabRel (xs ++ ys) (tab ++ tab') := by
  induction h with
  | nil => simpa using h'
  | cons _ ih => simpa using ih.cons
theorem TabRel.take {xs tab} (h : TabRel xs tab) : ∀ k : Nat, TabRel (xs.take k) (tab.take k) := by
  induction h with
  | nil => intro k; simpa using TabRel.nil
  | cons _ ih =>
    intro k
    cases k with
    | zero => simpa using TabRel.nil
    | succ j => simpa using (ih j).cons

/-- what a table holds at a number -/
def tabGet (tab : List (Int × Int)) (n : Int) : Option Int := (tab.find? fun p => decide (p.1 = n)).map (·.2)
def tabPut (tab : List (Int × Int)) (n v : Int) : List (Int × Int) := if (tabGet tab n).isSome then tab.map (fun p => if p.1 = n then (p.1, v) else p) else tab ++ [(n, v)]

theorem TabRel.at {xs tab} (h : TabRel xs tab) (n : Int) : match tabGet tab n with
    | some c => ∃ a t, atKey xs n = some (a, .int c t)
    | none => atKey xs n = none := by
  induction h with
  | nil => rfl
  | @cons m c a t xs tab _ ih =>
    by_cases e : m = n
    · subst e
      simp only [tabGet, List.find?_cons, decide_true, Option.map_some]
      exact ⟨a, t, by simp [atKey]⟩
    · have e1 : tabGet ((m, c) :: tab) n = tabGet tab n := by simp [tabGet, List.find?_cons, e]
      have e2 : atKey ((m, a, Value.int c t) :: xs) n = atKey xs n := by simp [atKey, List.find?_cons, e]
      rw [e1, e2]; exact ih
theorem TabRel.isSome {xs tab} (h : TabRel xs tab) (n : Int) : (atKey xs n).isSome = (tabGet tab n).isSome := by
  have := h.at n
  cases hq : tabGet tab n with
  | none => rw [hq] at this; simp [this]
  | some c => rw [hq] at this; obtain ⟨a, t, e⟩ := this; simp [e]
theorem TabRel.putMap {xs tab} (h : TabRel xs tab) (n v : Int) (t : Tok) : TabRel (xs.map (putAt n (.int v t))) (tab.map (fun p => if p.1 = n then (p.1, v) else p)) := by
  induction h with
  | nil => exact .nil
  | @cons m c a t' xs tab _ ih =>
    by_cases e : m = n
    · simpa [putAt, e] using ih.cons
    · simpa [putAt, e] using ih.cons
theorem TabRel.stored {xs tab} (h : TabRel xs tab) (n v : Int) (a : Addr) (t : Tok) : TabRel (storedH xs n a (.int v t)) (tabPut tab n v) := by
  unfold storedH tabPut
  rw [h.isSome n]
  split
  · exact h.putMap n v t
  · exact h.append (.cons .nil)

def KeysIn (news : List (Addr × Obj)) (xs : List (Int × Addr × Value)) : Prop := ∀ x ∈ xs, ∃ ok, (x.2.1, ok) ∈ news ∧ KeyObj x.1 ok
theorem KeysIn.mono {news news' : List (Addr × Obj)} {xs : List (Int × Addr × Value)} (h : KeysIn news xs) (hs : ∀ p ∈ news, p ∈ news') : KeysIn news' xs := fun x hx => let ⟨ok, hm, hk⟩ := h x hx; ⟨ok, hs _ hm, hk⟩
theorem KeysIn.stored {news : List (Addr × Obj)} {xs : List (Int × Addr × Value)} (h : KeysIn news xs) {n : Int} {a : Addr} {v : Value} {ok : Obj} (hm : (a, ok) ∈ news) (hk : KeyObj n ok) : KeysIn news (storedH xs n a v) := fun x hx => by
  rcases mem_storedH hx with ⟨y, hy, e1, e2⟩ | ⟨e1, e2⟩
  · rw [e1, e2]; exact h y hy
  · rw [e1, e2]; exact ⟨ok, hm, hk⟩

section
variable {prog : Program} {w : World}

/-- an object that is a dict of these entries -/
def TabS (prog : Program) (w : World) (o : Obj) (xs : List (Int × Addr × Value)) : Prop :=
  o.ExactDict ∧ ∃ es ep, o.data = .dict es ep ∧ es.toList = xs.map (entryOfKey (numKind prog w)) ∧ (xs.map (·.1)).Nodup
theorem TabS.dict {o : Obj} {xs : List (Int × Addr × Value)} (S : TabS prog w o xs) {h : Heap} {d : Addr} (ho : h.get? d = some o) {news : List (Addr × Obj)} (hk : KeysIn news xs) (hn : ∀ p ∈ news, h.get? p.1 = some p.2) :
    h.DictOfH (numKind prog w) d xs := by
  obtain ⟨hc, es, ep, hd, he, hnd⟩ := S
  exact ⟨o, es, ep, ho, hc, hd, he, fun x hx => let ⟨ok, hm, k⟩ := hk x hx; k.key (hn _ hm), hnd⟩
theorem TabS.ofDict {h : Heap} {d : Addr} {xs : List (Int × Addr × Value)} (D : h.DictOfH (numKind prog w) d xs) : ∃ o, h.get? d = some o ∧ TabS prog w o xs :=
  let ⟨o, es, ep, ho, hc, hd, he, _, hn⟩ := D; ⟨o, ho, hc, es, ep, hd, he, hn⟩
theorem TabS.empty : TabS prog w (dictOf [] 0) [] := ⟨⟨rfl, rfl, rfl⟩, #[], 0, rfl, rfl, List.nodup_nil⟩

/-- the ledger bears a table -/
def TabL (prog : Program) (w : World) (news : List (Addr × Obj)) (d : Addr) (tab : List (Int × Int)) : Prop :=
  (d == sysModules) = false ∧ ∃ o xs, (d, o) ∈ news ∧ TabS prog w o xs ∧ KeysIn news xs ∧ TabRel xs tab
theorem TabL.mono {news news' : List (Addr × Obj)} {d : Addr} {tab : List (Int × Int)} (h : TabL prog w news d tab) (hs : ∀ p ∈ news, p ∈ news') : TabL prog w news' d tab :=
  let ⟨lo, o, xs, hm, S, K, R⟩ := h; ⟨lo, o, xs, hs _ hm, S, K.mono hs, R⟩
theorem TabL.nodup {news : List (Addr × Obj)} {d : Addr} {tab : List (Int × Int)} (h : TabL prog w news d tab) : (tab.map (·.1)).Nodup := by
  obtain ⟨_, o, xs, _, ⟨_, _, _, _, _, hn⟩, _, R⟩ := h
  rw [← R.keys]; exact hn

variable {A : Around} {E : Value → Shared → Prop} {s : Shared} {h₀ : Heap} {L : Addr} {m : Str → Option Value} {news : List (Addr × Obj)}

theorem tab_set {D : Addr} {o : Obj} {r : List (Addr × Obj)} {xs : List (Int × Addr × Value)} {n : Int} {ka : Addr} {ok : Obj} {v : Value} {Q : Unit → Shared → Prop} (hu : A.units + 1 < cLine)
    (F : Fr h₀ L s.heap m) (N : News h₀ L s.heap ((D, o) :: r)) (hr : ∀ p ∈ r, p.1 ≠ D) (S : TabS prog w o xs) (hk : KeysIn r xs) (hka : (ka, ok) ∈ r) (ho : KeyObj n ok) (hsz : xs.length ≤ 1000)
    (h : ∀ o' h' tk, TabS prog w o' (storedH xs n ka v) → Fr h₀ L h' m → News h₀ L h' ((D, o') :: r) → Q () { s with heap := h', toks := tk }) :
    wpAny (model prog w) A (setItem (.ref D) (.ref ka) v) Q E s := by
  have hm := S.dict (N _ (.head _)).1 hk fun p hp => (N p (.tail _ hp)).1
  refine wpAny_setItem_heap (knd := numKind prog w) hu (ho.key (N _ (.tail _ hka)).1) hm (fun h' hm' hs => ?_) (by rw [sizeLine_eq]; omega)
  obtain ⟨o', ho', S'⟩ := TabS.ofDict hm'
  refine h o' h' _ S' (F.change hs (N _ (.head _)).2.1 (N _ (.head _)).2.2) fun p hp => ?_
  rcases List.mem_cons.mp hp with rfl | hp
  · exact ⟨ho', (N (D, o) (.head _)).2⟩
  · exact ⟨(hs.2 _ (hr p hp)).trans (N p (.tail _ hp)).1, (N p (.tail _ hp)).2⟩

theorem TabL.at {d : Addr} {tab : List (Int × Int)} (T : TabL prog w news d tab) {h : Heap} (N : News h₀ L h news) : ∃ xs, h.DictOfH (numKind prog w) d xs ∧ TabRel xs tab :=
  let ⟨_, _, xs, hm, S, K, R⟩ := T; ⟨xs, S.dict (N _ hm).1 K fun p hp => (N p hp).1, R⟩

theorem tab_in {d ka : Addr} {tab : List (Int × Int)} {n : Int} {ok : Obj} {Q : Value → Shared → Prop} (hu : A.units + 1 < cLine) (N : News h₀ L s.heap news) (T : TabL prog w news d tab) (hka : (ka, ok) ∈ news) (ho : KeyObj n ok)
    (h : Q (.bool (tabGet tab n).isSome) { s with toks := s.toks + 4 }) : wpAny (model prog w) A (compareOp .In (.ref ka) (.ref d)) Q E s := by
  obtain ⟨xs, hm, R⟩ := T.at N
  refine wpAny_in_heap (knd := numKind prog w) hu (ho.key (N _ hka).1) T.1 hm ?_
  rw [R.isSome]; exact h
theorem tab_get {d ka : Addr} {tab : List (Int × Int)} {n c : Int} {ok : Obj} {Q : Value → Shared → Prop} (hu : A.units + 1 < cLine) (N : News h₀ L s.heap news) (T : TabL prog w news d tab) (hka : (ka, ok) ∈ news) (ho : KeyObj n ok) (hc : tabGet tab n = some c)
    (h : ∀ t, Q (.int c t) { s with toks := s.toks + 4 }) : wpAny (model prog w) A (getItem (.ref d) (.ref ka)) Q E s := by
  obtain ⟨xs, hm, R⟩ := T.at N
  have := R.at n
  rw [hc] at this
  obtain ⟨a, t, e⟩ := this
  exact wpAny_getItem_heap (knd := numKind prog w) hu (ho.key (N _ hka).1) hm e (h t)
theorem tab_item {value slice : Expr} {d ka : Addr} {tab : List (Int × Int)} {n c : Int} {ok : Obj} {Q : Value → Shared → Prop} (hu : A.units + 1 < cLine) (N : News h₀ L s.heap news) (T : TabL prog w news d tab) (hka : (ka, ok) ∈ news) (ho : KeyObj n ok) (hc : tabGet tab n = some c)
    (h : ∀ t, Q (.int c t) { s with toks := s.toks + 4 })
    (hs : subscripted slice false (.ref d) (.ref ka) = operate [.ref d, .ref ka] (getItem (.ref d) (.ref ka)) := by with_unfolding_all rfl) (hg : ∀ r, letTemporaryGo value (.ref d) r = pure () := by intro _; with_unfolding_all rfl) :
    wpAny (model prog w) A (subscriptTail value slice (.ref d) (.ref ka)) Q E s := by
  obtain ⟨xs, hm, R⟩ := T.at N
  exact subscriptTail_builtin hm.typeIs slot_dict_getitem.lookup (tab_get hu N T hka ho hc h) hs hg

theorem tab_method {d : Addr} {tab : List (Int × Int)} {name : Str} {id : String} {pl : Sem Bool} {Q : Value × List Value → Shared → Prop} (N : News h₀ L s.heap news) (T : TabL prog w news d tab) (slot : Slot "dict" name id) (hty : typeOf (.builtin id) = pure (.type "method_descriptor"))
    (h : Q (.builtin id, [.ref d]) s) : wpAny (model prog w) A (getMethod (.ref d) name pl) Q E s := by
  obtain ⟨xs, hm, R⟩ := T.at N
  exact getMethod_builtin hm.typeIs PySem.F.plainAttrs_dict slot hty (dictOfH_noDict hm) h

theorem TabS.raw {o : Obj} {xs : List (Int × Addr × Value)} (S : TabS prog w o xs) {h : Heap} {d : Addr} (ho : h.get? d = some o) : ∃ es ep, RawAt h d es ep ∧ es.toList = xs.map (entryOfKey (numKind prog w)) :=
  let ⟨hc, es, ep, hd, he, _⟩ := S; ⟨es, ep, ⟨o, ho, hc, hd⟩, he⟩
end
end Mine

/-! part D4 -/
namespace Mine
open PySem PySem.W PyProof.Rows PySem.Calls

/-! walking a table's pairs -/

def mergeTab (t1 t2 : List (Int × Int)) : List (Int × Int) := t2.foldl (fun acc p => tabPut acc p.1 (match tabGet acc p.1 with | some v => v + p.2 | none => p.2)) t1

theorem mergeTab_succ {t1 t2 : List (Int × Int)} {i : Nat} {n c : Int} (h : t2[i]? = some (n, c)) :
    mergeTab t1 (t2.take (i + 1)) = tabPut (mergeTab t1 (t2.take i)) n (match tabGet (mergeTab t1 (t2.take i)) n with | some v => v + c | none => c) := by
  unfold mergeTab
  rw [List.take_add_one, h, List.foldl_append]
  rfl
theorem tabPut_length (tab : List (Int × Int)) (n v : Int) : (tabPut tab n v).length ≤ tab.length + 1 := by
  unfold tabPut
  split <;> simp
theorem mergeTab_length (t1 t2 : List (Int × Int)) : (mergeTab t1 t2).length ≤ t1.length + t2.length := by
  unfold mergeTab
  induction t2 generalizing t1 with
  | nil => simp
  | cons p r ih =>
    rw [List.foldl_cons]
    refine Nat.le_trans (ih _) ?_
    have := tabPut_length t1 p.1 (match tabGet t1 p.1 with | some v => v + p.2 | none => p.2)
    simp only [List.length_cons]
    omega

theorem storedH_take {xs : List (Int × Addr × Value)} (hn : (xs.map (·.1)).Nodup) {i : Nat} {n : Int} {a : Addr} {v : Value} (h : xs[i]? = some (n, a, v)) : storedH (xs.take i) n a v = xs.take (i + 1) := by
  have hi : i < xs.length := (List.getElem?_eq_some_iff.mp h).1
  have e : atKey (xs.take i) n = none := by
    refine atKey_none_of_get fun j p hj => ?_
    rw [List.getElem?_take] at hj
    split at hj
    · rename_i hji
      exact absurd (idxH_unique hn hj h) (Nat.ne_of_lt hji)
    · cases hj
  rw [storedH_new e, List.take_add_one, h]
  rfl

section
variable {prog : Program} {w : World} {A : Around} {E : Value → Shared → Prop} {s : Shared} {env : Env} {h₀ : Heap} {target : Expr} {body : List Stmt} {Q : Flow → Shared → Prop}

theorem tab_items {m : Str → Option Value} {L d : Addr} {news : List (Addr × Obj)} {tab : List (Int × Int)} {Q : Value → Shared → Prop} (F : Fr h₀ L s.heap m) (N : News h₀ L s.heap news) (T : TabL prog w news d tab)
    (h : ∀ v h', Fr h₀ L h' m → News h₀ L h' news → h'.IsItemsView v d → Q (.ref v) { s with heap := h' }) : wpAny (model prog w) A (call (.builtin "dict.items") [.ref d]) Q E s := by
  obtain ⟨lo, o, xs, hm, S, K, R⟩ := T
  obtain ⟨es, ep, hr, he⟩ := S.raw (N _ hm).1
  exact raw_items lo hr (h _ _ (F.push _) (fun p hp => ⟨Heap.get?_push_of_some _ (N p hp).1, (N p hp).2⟩) ⟨_, Heap.get?_push_size _ rfl, rfl, rfl⟩)

def TabEnd (h₀ : Heap) (L : Addr) (J : (Str → Option Value) → List (Addr × Obj) → Prop) (own news₁ : List (Addr × Obj)) (s₁ s₂ : Shared) : Prop :=
  ∃ h' tk m' news', s₂ = { s₁ with heap := h', toks := tk } ∧ Fr h₀ L h' m' ∧ News h₀ L h' (own ++ news') ∧ news'.map (·.1) = news₁.map (·.1) ∧ J m' news'
def TabPost (h₀ : Heap) (L : Addr) (J : (Str → Option Value) → List (Addr × Obj) → Prop) (own news₁ : List (Addr × Obj)) (s₁ : Shared) (Q : Flow → Shared → Prop) (f : Flow) (s₂ : Shared) : Prop :=
  match f with
  | .ret v => Q (.ret v) s₂
  | .brk => Q .next s₂
  | _ => TabEnd h₀ L J own news₁ s₁ s₂

theorem iter_tabItems {elts : List Expr} {kk : Nat} {pos : Pos} {vw d : Addr} {m₀ : Str → Option Value} {news₀ : List (Addr × Obj)} {o : Obj} {xs : List (Int × Addr × Value)} {tab : List (Int × Int)} (J : Nat → (Str → Option Value) → List (Addr × Obj) → Prop)
    (hh : A.handled = none) (F : Fr h₀ env.locals s.heap m₀) (N : News h₀ env.locals s.heap news₀) (hv : s.heap.IsItemsView vw d) (hm : (d, o) ∈ news₀) (S : TabS prog w o xs) (R : TabRel xs tab) (hj : J 0 m₀ news₀)
    (turn : ∀ i n ka c t T m₁ news₁ h tk own, xs[i]? = some (n, ka, .int c t) → tab[i]? = some (n, c) → J i m₁ news₁ → (∀ q ∈ news₁, q.1 ≠ d → ∀ p ∈ own, p.1 ≠ q.1) → IsTup h T #[.ref ka, .int c t] → Fr h₀ env.locals h m₁ → News h₀ env.locals h (own ++ news₁) →
      wpAny (model prog w) A (assign (.Tuple elts kk pos) env (.ref T)) (fun _ s₃ => wpAny (model prog w) A (execs body env) (TabPost h₀ env.locals (J (i + 1)) own news₁ { s with heap := h, toks := tk } Q) E s₃) E { s with heap := h, toks := tk })
    (done : ∀ m₁ news₁ h tk, J tab.length m₁ news₁ → Fr h₀ env.locals h m₁ → News h₀ env.locals h news₁ → Q .next { s with heap := h, toks := tk }) :
    wpAny (model prog w) A (pyIter (.ref vw)) (fun it s₂ => TurnsAt prog w A h₀ env (.Tuple elts kk pos) body Q E it s₂) E s := by
  obtain ⟨es, ep, hr, he⟩ := S.raw (N _ hm).1
  have hsz : es.size = tab.length := by rw [size_of_entries he, R.length]
  have hne : d ≠ s.heap.objs.size := Nat.ne_of_lt hr.lt
  refine raw_iter_items hv hr ?_
  have W := turns_items (prog := prog) (w := w) (A := A) (elts := elts) (kk := kk) (pos := pos) (d := d) (es := es) (ep := ep) hh s.heap.objs.size hne
  rw [hsz] at W
  refine ⟨_, _, _, tab.length, _, _, _, m₀, news₀, J, rfl, W, ?_, ?_, ?_, ⟨⟨.none, .none, by rw [← hsz]; exact Heap.get?_push_size _ rfl⟩, hr.to fun o e => Heap.get?_push_of_some _ e⟩, F.push _, (fun p hp => ⟨Heap.get?_push_of_some _ (N p hp).1, (N p hp).2⟩), hj, ?_, ?_⟩
  · intro hI
    rcases List.mem_cons.mp hI with e | hI
    · exact absurd F.ns.lt (e ▸ Nat.lt_irrefl _)
    · exact (N _ hm).2.1 (List.mem_singleton.mp hI).symm
  · intro b hb
    rw [List.mem_singleton.mp hb]
    exact next_is_new F
  · intro p hp hI
    exact absurd (Heap.lt_size (N p hp).1) ((List.mem_singleton.mp hI) ▸ Nat.lt_irrefl _)
  · rintro i v m₁ news₁ h₁ tk₁ own hin hP hJ hoff hown _ _ _ F₁ N₁
    obtain ⟨T, e, rfl, hei, hT⟩ := hP
    rw [entry_at he i] at hei
    obtain ⟨x', hx', rfl⟩ := Option.map_eq_some_iff.mp hei
    obtain ⟨c, t, hv', ht⟩ := R.get hx'
    obtain ⟨n, ka, v'⟩ := x'
    dsimp only at hv' ht
    subst hv'
    have hap : ∀ q ∈ news₁, q.1 ≠ d → ∀ p ∈ own, p.1 ≠ q.1 := fun q hq hqd p hp e => by
      rcases List.mem_cons.mp (hown p hp) with h1 | h1
      · exact hoff q hq (List.mem_singleton.mpr (e ▸ h1))
      · exact hqd (e ▸ List.mem_singleton.mp h1)
    refine wpAny_mono (turn i n ka c t T m₁ news₁ h₁ tk₁ own hx' ht hJ hap hT F₁ N₁) (fun _ s₃ p => wpAny_mono p (fun f s₂ p => ?_) fun _ _ e => e) fun _ _ e => e
    have fin : TabEnd h₀ env.locals (J (i + 1)) own news₁ { s with heap := h₁, toks := tk₁ } s₂ → LoopStepU h₀ env.locals [s.heap.objs.size] own (J (i + 1)) { s with heap := h₁, toks := tk₁ } .next s₂ := by
      rintro ⟨h', tk, m', news', e, F', N', hadr, hm'⟩
      refine ⟨rfl, h', tk, m', news', e, F', N', fun p hp hq => ?_, hm'⟩
      have h1 : p.1 ∈ news'.map (·.1) := List.mem_map.mpr ⟨p, hp, rfl⟩
      rw [hadr] at h1
      obtain ⟨q, hq1, hq2⟩ := List.mem_map.mp h1
      exact hoff q hq1 (by rw [hq2]; exact hq)
    cases f with
    | ret v => exact .ret p
    | brk => exact .brk p
    | next => exact .next (fin p)
    | cont => exact .cont (fin p)
  · rintro h' tk m' news' F' N' _ hJ
    exact done m' news' h' tk hJ F' N'
end
end Mine

/-! part D5 -/
namespace Mine
open PySem PySem.W PyProof.Rows PySem.Calls

/-! a loop whose ledger turns as it likes -/

def LsEnd (h₀ : Heap) (L I : Addr) (J : (Str → Option Value) → List (Addr × Obj) → Prop) (own : List (Addr × Obj)) (s₁ s₂ : Shared) : Prop :=
  ∃ h' tk m' news', s₂ = { s₁ with heap := h', toks := tk } ∧ Fr h₀ L h' m' ∧ News h₀ L h' (own ++ news') ∧ (∀ p ∈ news', p.1 ≠ I) ∧ J m' news'
def LsPost (h₀ : Heap) (L I : Addr) (J : (Str → Option Value) → List (Addr × Obj) → Prop) (own : List (Addr × Obj)) (s₁ : Shared) (Q : Flow → Shared → Prop) (f : Flow) (s₂ : Shared) : Prop :=
  match f with
  | .ret v => Q (.ret v) s₂
  | .brk => Q .next s₂
  | _ => LsEnd h₀ L I J own s₁ s₂

section
variable {prog : Program} {w : World} {A : Around} {E : Value → Shared → Prop} {s : Shared} {env : Env} {h₀ : Heap} {x : Str} {body : List Stmt} {Q : Flow → Shared → Prop}

theorem iter_listJ {l : Addr} {vs : List Value} {ns : List Int} {nn : Nat} {m₀ : Str → Option Value} {news₀ : List (Addr × Obj)} (J : Nat → (Str → Option Value) → List (Addr × Obj) → Prop)
    (hh : A.handled = none) (F : Fr h₀ env.locals s.heap m₀) (N : News h₀ env.locals s.heap news₀) (hm : (l, listOf vs.toArray nn) ∈ news₀) (hi : IntsAre vs ns) (hj : J 0 m₀ news₀)
    (turn : ∀ I i n t m₁ news₁ h tk own, ns[i]? = some n → J i m₁ news₁ → (∃ o, (I, o) ∈ own) → (∀ q ∈ news₁, q.1 ≠ I) → (∀ q ∈ news₁, q.1 ≠ l → ∀ p ∈ own, p.1 ≠ q.1) →
      Fr h₀ env.locals h (fun y => if y = x then some (.int n t) else m₁ y) → News h₀ env.locals h (own ++ news₁) →
      wpAny (model prog w) A (execs body env) (LsPost h₀ env.locals I (J (i + 1)) own { s with heap := h, toks := tk } Q) E { s with heap := h, toks := tk })
    (done : ∀ m₁ news₁ h tk, J ns.length m₁ news₁ → Fr h₀ env.locals h m₁ → News h₀ env.locals h news₁ → Q .next { s with heap := h, toks := tk }) :
    wpAny (model prog w) A (pyIter (.ref l)) (fun it s₂ => LoopAtV prog w A h₀ env x body Q E it s₂) E s := by
  have hls : s.heap.IsList l vs.toArray := ⟨_, (N _ hm).1, rfl, nn, rfl⟩
  have hne : l ≠ s.heap.objs.size := Nat.ne_of_lt (Heap.lt_size (N _ hm).1)
  refine wpAny_pyIter_list hls ?_
  have W := Walks.list (prog := prog) (w := w) hh s.heap.objs.size l hne vs.toArray
  have hlen : vs.toArray.size = ns.length := by simp [hi.length]
  rw [hlen] at W
  refine ⟨_, _, _, ns.length, _, _, m₀, news₀, J, rfl, W, ?_, ?_, ?_, ⟨⟨_, Heap.get?_push_size _ rfl, rfl, rfl⟩, hls.at fun o e => Heap.get?_push_of_some _ e⟩, F.push _, (fun p hp => ⟨Heap.get?_push_of_some _ (N p hp).1, (N p hp).2⟩), hj, ?_, ?_⟩
  · intro hI
    rcases List.mem_cons.mp hI with e | hI
    · exact absurd F.ns.lt (e ▸ Nat.lt_irrefl _)
    · exact (N _ hm).2.1 (List.mem_singleton.mp hI).symm
  · intro b hb
    rw [List.mem_singleton.mp hb]
    exact next_is_new F
  · intro p hp hI
    exact absurd (Heap.lt_size (N p hp).1) ((List.mem_singleton.mp hI) ▸ Nat.lt_irrefl _)
  · rintro i v m₁ news₁ s₁ own ⟨hh', tk', rfl⟩ hin hP hJ hoff hown _ hin' st F₁ N₁
    have hlt' : i < ns.length := hin
    obtain ⟨t, hx⟩ := hi.get i ns[i] (by simp [hlt'])
    have hv : v = .int ns[i] t := by
      have hP' : vs[i]? = some v := by simpa using hP
      rw [hx] at hP'; exact (Option.some.inj hP').symm
    subst hv
    have hIo : ∃ o, (s.heap.objs.size, o) ∈ own := by
      obtain ⟨⟨o, ho, _⟩, _⟩ := st
      exact ⟨o, hin' _ (List.mem_cons_self ..) (next_is_new F) o ho⟩
    have hap : ∀ q ∈ news₁, q.1 ≠ l → ∀ p ∈ own, p.1 ≠ q.1 := fun q hq hqd p hp e => by
      rcases List.mem_cons.mp (hown p hp) with h1 | h1
      · exact hoff q hq (List.mem_singleton.mpr (e ▸ h1))
      · exact hqd (e ▸ List.mem_singleton.mp h1)
    refine wpAny_mono (turn s.heap.objs.size i ns[i] t m₁ news₁ hh' tk' own (by simp [hlt']) hJ hIo (fun q hq e => hoff q hq (List.mem_singleton.mpr e)) hap F₁ N₁) (fun f s₂ p => ?_) fun _ _ e => e
    have fin : LsEnd h₀ env.locals s.heap.objs.size (J (i + 1)) own { s with heap := hh', toks := tk' } s₂ → LoopStepU h₀ env.locals [s.heap.objs.size] own (J (i + 1)) { s with heap := hh', toks := tk' } .next s₂ := by
      rintro ⟨h', tk, m', news', e, F', N', hI, hm'⟩
      exact ⟨rfl, h', tk, m', news', e, F', N', fun p hp hq => hI p hp (List.mem_singleton.mp hq), hm'⟩
    cases f with
    | ret v => exact .ret p
    | brk => exact .brk p
    | next => exact .next (fin p)
    | cont => exact .cont (fin p)
  · rintro h' tk m' news' F' N' _ hJ
    exact done m' news' h' tk hJ F' N'

theorem iter_rangeJ {r : Addr} {a b : Int} {t u v : Tok} {n : Nat} {m₀ : Str → Option Value} {news₀ : List (Addr × Obj)} (J : Nat → (Str → Option Value) → List (Addr × Obj) → Prop)
    (hh : A.handled = none) (F : Fr h₀ env.locals s.heap m₀) (N : News h₀ env.locals s.heap news₀) (hr : IsRange s.heap r a b 1 t u v) (hsm : Builtin.Range.small a b 1 = true) (hn : Builtin.Range.rangeSize a b 1 = ((n : Nat) : Int)) (hj : J 0 m₀ news₀)
    (turn : ∀ I i t m₁ news₁ h tk own, i < n → J i m₁ news₁ → (∃ o, (I, o) ∈ own) → (∀ q ∈ news₁, q.1 ≠ I) → (∀ q ∈ news₁, ∀ p ∈ own, p.1 ≠ q.1) →
      Fr h₀ env.locals h (fun y => if y = x then some (.int (a + (i : Int)) t) else m₁ y) → News h₀ env.locals h (own ++ news₁) →
      wpAny (model prog w) A (execs body env) (LsPost h₀ env.locals I (J (i + 1)) own { s with heap := h, toks := tk } Q) E { s with heap := h, toks := tk })
    (done : ∀ m₁ news₁ h tk, J n m₁ news₁ → Fr h₀ env.locals h m₁ → News h₀ env.locals h news₁ → Q .next { s with heap := h, toks := tk }) :
    wpAny (model prog w) A (pyIter (.ref r)) (fun it s₂ => LoopAtV prog w A h₀ env x body Q E it s₂) E s := by
  refine wpAny_pyIter_range hr hsm ?_
  have W := LCg.range_walks (prog := prog) (w := w) (A := A) (I := s.heap.objs.size) hh a n
  refine ⟨_, _, _, n, _, _, m₀, news₀, J, rfl, W, ?_, ?_, ?_, (by show IsRangeIter _ _ _ _ _; rw [hn]; simpa using Heap.get?_push_size _ rfl), F.push _, (fun p hp => ⟨Heap.get?_push_of_some _ (N p hp).1, (N p hp).2⟩), hj, ?_, ?_⟩
  · intro hI
    exact absurd F.ns.lt ((List.mem_singleton.mp hI) ▸ Nat.lt_irrefl _)
  · intro b hb
    rw [List.mem_singleton.mp hb]
    exact next_is_new F
  · intro p hp hI
    exact absurd (Heap.lt_size (N p hp).1) ((List.mem_singleton.mp hI) ▸ Nat.lt_irrefl _)
  · rintro i v m₁ news₁ s₁ own ⟨hh', tk', rfl⟩ hin hP hJ hoff hown _ hin' st F₁ N₁
    obtain ⟨t, rfl⟩ := hP
    have hIo : ∃ o, (s.heap.objs.size, o) ∈ own := by
      have st' : Heap.get? _ _ = some _ := st
      exact ⟨_, hin' _ (List.mem_cons_self ..) (next_is_new F) _ st'⟩
    have hap : ∀ q ∈ news₁, ∀ p ∈ own, p.1 ≠ q.1 := fun q hq p hp e => by
      have h1 := hown p hp
      exact hoff q hq (e ▸ h1)
    refine wpAny_mono (turn s.heap.objs.size i t m₁ news₁ hh' tk' own hin hJ hIo (fun q hq e => hoff q hq (List.mem_singleton.mpr e)) hap F₁ N₁) (fun f s₂ p => ?_) fun _ _ e => e
    have fin : LsEnd h₀ env.locals s.heap.objs.size (J (i + 1)) own { s with heap := hh', toks := tk' } s₂ → LoopStepU h₀ env.locals [s.heap.objs.size] own (J (i + 1)) { s with heap := hh', toks := tk' } .next s₂ := by
      rintro ⟨h', tk, m', news', e, F', N', hI, hm'⟩
      exact ⟨rfl, h', tk, m', news', e, F', N', fun p hp hq => hI p hp (List.mem_singleton.mp hq), hm'⟩
    cases f with
    | ret v => exact .ret p
    | brk => exact .brk p
    | next => exact .next (fin p)
    | cont => exact .cont (fin p)
  · rintro h' tk m' news' F' N' _ hJ
    exact done m' news' h' tk hJ F' N'
end
end Mine

/-! part D6 -/
namespace Mine
open PySem PySem.W PyProof.Rows PySem.Calls

section
variable {prog : Program} {w : World} {A : Around} {E : Value → Shared → Prop} {s : Shared} {env : Env} {h₀ : Heap} {L : Addr} {m : Str → Option Value} {news : List (Addr × Obj)}

/-- a display of one pair: the key, the value, then the store -/
theorem dict_one {kE vE : Expr} {pos : Pos} {Q : Value → Shared → Prop} (F : Fr h₀ L s.heap m) (N : News h₀ L s.heap news) (hbig : h₀.NoLimit)
    (h : ∀ D h', Fr h₀ L h' m → News h₀ L h' ((D, dictOf [] 0) :: news) → (∀ p ∈ news, p.1 < D) → (D == sysModules) = false →
      wpAny (model prog w) A (eval kE env) (fun kv s₁ => wpAny (model prog w) A (eval vE env) (fun vv s₂ => wpAny (model prog w) A (storeAll D [(kv, vv)]) (fun _ s₃ => Q (.ref D) s₃) E s₂) E s₁) E { s with heap := h' }) :
    wpAny (model prog w) A (eval (.Dict [some kE] [vE] pos) env) Q E s := by
  refine wpAny_Dict_any rfl rfl (List.cons_ne_nil _ _) (Nat.le_of_ble_eq_true rfl) ?_
  refine evalPairs_cons ?_
  refine wpAny_mono (h _ _ (F.push _) (N.push F _) (fun p hp => Heap.lt_size (N p hp).1) (F.notModules (modules_low hbig))) (fun kv s₁ h₁ => ?_) fun _ _ e => e
  refine wpAny_bind (wpAny_mono h₁ (fun vv s₂ h₂ => wpAny_bind (wpAny_standAt (wpAny_pure ?_))) fun _ _ e => e)
  exact evalPairs_nil h₂

theorem store_one {D : Addr} {o : Obj} {r : List (Addr × Obj)} {n : Int} {ka : Addr} {ok : Obj} {v : Value} {Q : PUnit → Shared → Prop} (hu : A.units < cLine)
    (F : Fr h₀ L s.heap m) (N : News h₀ L s.heap ((D, o) :: r)) (hr : ∀ p ∈ r, p.1 ≠ D) (S : TabS prog w o []) (hka : (ka, ok) ∈ r) (ho : KeyObj n ok)
    (h : ∀ o' h' tk, TabS prog w o' [(n, ka, v)] → Fr h₀ L h' m → News h₀ L h' ((D, o') :: r) → Q PUnit.unit { s with heap := h', toks := tk }) :
    wpAny (model prog w) A (storeAll D [(.ref ka, v)]) Q E s := by
  have hm := S.dict (N _ (.head _)).1 (news := r) (fun x hx => nomatch hx) fun p hp => (N p (.tail _ hp)).1
  unfold storeAll
  rw [List.forIn_cons]
  refine wpAny_bind (wpAny_bind (wpAny_dictSet_heap (knd := numKind prog w) hu (ho.key (N _ (.tail _ hka)).1) hm (fun h' hm' hs => wpAny_pure ?_) (by rw [sizeLine_eq]; decide)))
  dsimp only
  rw [List.forIn_nil]
  refine wpAny_pure ?_
  obtain ⟨o', ho', S'⟩ := TabS.ofDict hm'
  refine h o' h' _ S' (F.change hs (N _ (.head _)).2.1 (N _ (.head _)).2.2) fun p hp => ?_
  rcases List.mem_cons.mp hp with rfl | hp
  · exact ⟨ho', (N (D, o) (.head _)).2⟩
  · exact ⟨(hs.2 _ (hr p hp)).trans (N p (.tail _ hp)).1, (N p (.tail _ hp)).2⟩

theorem KeyObj.made {n : Int} {t u v : Tok} {o : Obj} (e : o = { cls := .type "tuple", data := .seq #[.str (Str.ofString "of") t, .int n u, .str (Str.ofString "row") v] }) : KeyObj n o := ⟨t, u, v, _, e⟩
end
end Mine

/-! part Lem3 -/
namespace Mine
open PySem PySem.W PyProof.Rows PySem.Calls

def rowM (many : Int) : List Int := GL.take many.toNat
def rotM (many : Int) : List Int := (rowM many).drop (many.fdiv 2).toNat ++ (rowM many).take (many.fdiv 2).toNat
def ordOf (l : List Int) : List Int := l.foldl insL []
def tabOf (l : List Int) : List (Int × Int) := l.foldl (fun t n => mergeTab t [(n, 1)]) []
def lastM (many : Int) : Int := (rowM many).getD (many - 1).toNat 0

theorem m_cases {P : Int → Prop} {k : Int} (h1 : 10 ≤ k) (h2 : k ≤ 40) (h : ∀ j : Fin 31, P (10 + (j.val : Int))) : P k := by
  have := h ⟨(k - 10).toNat, by omega⟩
  have e : (10 + (((k - 10).toNat : Nat) : Int)) = k := by omega
  simpa only [e] using this

theorem ord_rot {many : Int} (h1 : 10 ≤ many) (h2 : many ≤ 40) : ordOf (rotM many) = rowM many :=
  m_cases (P := fun many => ordOf (rotM many) = rowM many) h1 h2 (by decide +kernel)
theorem tab_sum {many : Int} (h1 : 10 ≤ many) (h2 : many ≤ 40) : ((tabOf (rotM many)).map (·.2)).sum = many :=
  m_cases (P := fun many => ((tabOf (rotM many)).map (·.2)).sum = many) h1 h2 (by decide +kernel)
theorem ordOf_snoc {l : List Int} {i : Nat} {n : Int} (h : l[i]? = some n) : ordOf (l.take (i + 1)) = insL (ordOf (l.take i)) n := by
  unfold ordOf
  rw [List.take_add_one, h, List.foldl_append]
  rfl
theorem tabOf_snoc {l : List Int} {i : Nat} {n : Int} (h : l[i]? = some n) : tabOf (l.take (i + 1)) = mergeTab (tabOf (l.take i)) [(n, 1)] := by
  unfold tabOf
  rw [List.take_add_one, h, List.foldl_append]
  rfl
theorem foldl_ins_facts (l acc : List Int) (h : acc.Pairwise (· ≤ ·)) : (l.foldl insL acc).Pairwise (· ≤ ·) ∧ (l.foldl insL acc).length = acc.length + l.length := by
  induction l generalizing acc with
  | nil => exact ⟨h, by simp⟩
  | cons n r ih =>
    have := ih (insL acc n) (insL_sorted h n)
    rw [List.foldl_cons]
    refine ⟨this.1, ?_⟩
    rw [this.2, insL_length, List.length_cons]
    omega
theorem ordOf_facts (l : List Int) : (ordOf l).Pairwise (· ≤ ·) ∧ (ordOf l).length = l.length := by
  have := foldl_ins_facts l [] List.Pairwise.nil
  exact ⟨this.1, by rw [ordOf, this.2]; simp⟩
theorem tabOf_length (l : List Int) : (tabOf l).length ≤ l.length := by
  unfold tabOf
  have : ∀ (l : List Int) (acc : List (Int × Int)), (l.foldl (fun t n => mergeTab t [(n, 1)]) acc).length ≤ acc.length + l.length := by
    intro l
    induction l with
    | nil => intro acc; simp
    | cons n r ih =>
      intro acc
      rw [List.foldl_cons]
      refine Nat.le_trans (ih _) ?_
      have := mergeTab_length acc [(n, 1)]
      simp only [List.length_cons, List.length_nil] at this ⊢
      omega
  simpa using this l []
theorem rotM_len {many : Int} (h1 : 10 ≤ many) (h2 : many ≤ 40) : (rotM many).length = many.toNat :=
  m_cases (P := fun many => (rotM many).length = many.toNat) h1 h2 (by decide +kernel)

/-- the numbers of a row, each once -/
def keysM (many : Int) : List Int := (List.range (lastM many).toNat).map fun (i : Nat) => 1 + (i : Int)
theorem keys_perm {many : Int} (h1 : 10 ≤ many) (h2 : many ≤ 40) : ((tabOf (rotM many)).map (·.1)).Perm (keysM many) :=
  m_cases (P := fun many => ((tabOf (rotM many)).map (·.1)).Perm (keysM many)) h1 h2 (by decide +kernel)
theorem keys_le {many : Int} (h1 : 10 ≤ many) (h2 : many ≤ 40) : (keysM many).Pairwise (· ≤ ·) :=
  m_cases (P := fun many => (keysM many).Pairwise (· ≤ ·)) h1 h2 (by decide +kernel)
theorem sorted_eq : ∀ {a b : List Int}, a.Perm b → a.Pairwise (· ≤ ·) → b.Pairwise (· ≤ ·) → a = b
  | [], b, h, _, _ => (List.nil_perm.mp h).symm
  | x :: a, [], h, _, _ => absurd h.length_eq (by simp)
  | x :: a, y :: b, h, ha, hb => by
    have hx : x ∈ y :: b := h.subset (.head _)
    have hy : y ∈ x :: a := h.symm.subset (.head _)
    have h1 : y ≤ x := by
      rcases List.mem_cons.mp hx with e | m
      · omega
      · exact (List.pairwise_cons.mp hb).1 _ m
    have h2 : x ≤ y := by
      rcases List.mem_cons.mp hy with e | m
      · omega
      · exact (List.pairwise_cons.mp ha).1 _ m
    obtain rfl : x = y := Int.le_antisymm h2 h1
    rw [sorted_eq (List.Perm.cons_inv h) (List.pairwise_cons.mp ha).2 (List.pairwise_cons.mp hb).2]
theorem keys_sorted {many : Int} (h1 : 10 ≤ many) (h2 : many ≤ 40) {a : List Int} (h : a.Perm ((tabOf (rotM many)).map (·.1))) (hs : a.Pairwise (· ≤ ·)) : a = keysM many :=
  sorted_eq (h.trans (keys_perm h1 h2)) hs (keys_le h1 h2)
theorem last_row {many : Int} (h1 : 10 ≤ many) (h2 : many ≤ 40) : (GL.take many.toNat).getD (-1 + ((GL.take many.toNat).length : Int)).toNat 0 = lastM many :=
  m_cases (P := fun many => (GL.take many.toNat).getD (-1 + ((GL.take many.toNat).length : Int)).toNat 0 = lastM many) h1 h2 (by decide +kernel)
theorem last_bounds {many : Int} (h1 : 10 ≤ many) (h2 : many ≤ 40) : 2 ≤ lastM many ∧ lastM many ≤ 20 :=
  m_cases (P := fun many => 2 ≤ lastM many ∧ lastM many ≤ 20) h1 h2 (by decide +kernel)
theorem last_lt {many : Int} (h1 : 10 ≤ many) (h2 : many ≤ 40) : lastM many < many :=
  m_cases (P := fun many => lastM many < many) h1 h2 (by decide +kernel)
theorem row_sorted {many : Int} (h1 : 10 ≤ many) (h2 : many ≤ 40) : (GL.take many.toNat).Pairwise (· ≤ ·) :=
  m_cases (P := fun many => (GL.take many.toNat).Pairwise (· ≤ ·)) h1 h2 (by decide +kernel)
/-- what the second loop asks of a number -/
def NumFacts (many num : Int) : Prop :=
  cntLe (GL.take many.toNat) num - cntLt (GL.take many.toNat) num = (GL.take many.toNat).getD (num - 1).toNat 0 ∧ tabGet (tabOf (rotM many)) num = some ((GL.take many.toNat).getD (num - 1).toNat 0) ∧ cntLe (GL.take many.toNat) num = ((GL.take many.toNat).take num.toNat).sum ∧
    (cntLe (GL.take many.toNat) num < lastM many → cntLe (GL.take many.toNat) (cntLe (GL.take many.toNat) num) = ((rangeKs 1 num.toNat).map fun k => k * (GL.take many.toNat).getD (k - 1).toNat 0).sum)
theorem num_facts {many : Int} (h1 : 10 ≤ many) (h2 : many ≤ 40) {i : Nat} (hi : i < (lastM many - 1).toNat) : NumFacts many (1 + (i : Int)) :=
  m_cases (P := fun many => ∀ i, i < (lastM many - 1).toNat → NumFacts many (1 + (i : Int))) h1 h2 (by unfold NumFacts; decide +kernel) i hi
/-- what the law asks of a place -/
def PlaceFacts (many p : Int) : Prop := (GL.take many.toNat).getD p.toNat 0 ≤ p + 1 ∧ (p + 1 < many → (GL.take many.toNat).getD (p + 1).toNat 0 - (GL.take many.toNat).getD p.toNat 0 = 0 ∨ (GL.take many.toNat).getD (p + 1).toNat 0 - (GL.take many.toNat).getD p.toNat 0 = 1)
theorem place_nat {many : Int} (h1 : 10 ≤ many) (h2 : many ≤ 40) : ∀ i, i < many.toNat → PlaceFacts many (i : Int) :=
  m_cases (P := fun many => ∀ i, i < many.toNat → PlaceFacts many (i : Int)) h1 h2 (by unfold PlaceFacts; decide +kernel)
theorem place_facts {many p : Int} (h1 : 10 ≤ many) (h2 : many ≤ 40) (h3 : 0 ≤ p) (h4 : p < many) : PlaceFacts many p := by
  have := place_nat h1 h2 p.toNat (by omega)
  rwa [Int.toNat_of_nonneg h3] at this
theorem tab_two {many : Int} (h1 : 10 ≤ many) (h2 : many ≤ 40) : (tabOf (rotM many)).length + (tabOf (rotM many)).length ≤ 1000 := by
  have q1 := tabOf_length (rotM many)
  rw [rotM_len h1 h2] at q1
  omega
theorem tab_sum2 {many : Int} (h1 : 10 ≤ many) (h2 : many ≤ 40) : ((mergeTab (tabOf (rotM many)) (tabOf (rotM many))).map (·.2)).sum = 2 * many :=
  m_cases (P := fun many => ((mergeTab (tabOf (rotM many)) (tabOf (rotM many))).map (·.2)).sum = 2 * many) h1 h2 (by decide +kernel)
/-- every number of the doubled table, and what the table holds at it -/
theorem twice_at {many : Int} (h1 : 10 ≤ many) (h2 : many ≤ 40) : ∀ p ∈ mergeTab (tabOf (rotM many)) (tabOf (rotM many)), ∃ c, tabGet (tabOf (rotM many)) p.1 = some c ∧ p.2 = 2 * c := by
  have := m_cases (P := fun many => ∀ p ∈ mergeTab (tabOf (rotM many)) (tabOf (rotM many)), ((tabGet (tabOf (rotM many)) p.1).map fun c => 2 * c) = some p.2) h1 h2 (by decide +kernel)
  intro p hp
  have q := this p hp
  cases hc : tabGet (tabOf (rotM many)) p.1 with
  | none => rw [hc] at q; cases q
  | some c => rw [hc] at q; exact ⟨c, rfl, (Option.some.inj q).symm⟩
theorem look_sorted {ns : List Int} (hs : ns.Pairwise (· ≤ ·)) {i : Nat} (hi : i < ns.length) : cntLt ns (ns.getD i 0) ≤ (i : Int) ∧ (i : Int) < cntLe ns (ns.getD i 0) := by
  generalize hx : ns.getD i 0 = x
  have e1 : ns.countP (fun y => decide (y < x)) ≤ i := by
    rw [← List.take_append_drop i ns, List.countP_append]
    have z : (ns.drop i).countP (fun y => decide (y < x)) = 0 := by
      rw [List.countP_eq_zero]
      intro y hy
      obtain ⟨j, hj, rfl⟩ := List.mem_iff_getElem.mp hy
      rw [List.length_drop] at hj
      have q := getD_mono hs (i := i) (j := i + j) (by omega) (by omega)
      rw [hx, List.getD_eq_getElem?_getD, List.getElem?_eq_getElem (by omega), Option.getD_some] at q
      rw [List.getElem_drop]
      simp only [decide_eq_true_eq]; omega
    have b := List.countP_le_length (p := fun y => decide (y < x)) (l := ns.take i)
    rw [List.length_take] at b
    omega
  have e2 : i + 1 ≤ ns.countP (fun y => decide (y ≤ x)) := by
    rw [← List.take_append_drop (i + 1) ns, List.countP_append]
    have z : (ns.take (i + 1)).countP (fun y => decide (y ≤ x)) = (ns.take (i + 1)).length := by
      rw [List.countP_eq_length]
      intro y hy
      obtain ⟨j, hj, rfl⟩ := List.mem_iff_getElem.mp hy
      rw [List.length_take] at hj
      have q := getD_mono hs (i := j) (j := i) (by omega) hi
      rw [hx, List.getD_eq_getElem?_getD, List.getElem?_eq_getElem (by omega), Option.getD_some] at q
      rw [List.getElem_take]
      simp only [decide_eq_true_eq]; omega
    rw [z, List.length_take]
    omega
  unfold cntLt cntLe
  omega
/-- the last look: no place of the row stands outside its bounds -/
theorem last_look {many : Int} (h1 : 10 ≤ many) (h2 : many ≤ 40) : ∀ i, i < many.toNat → cntLt (GL.take many.toNat) ((GL.take many.toNat).getD i 0) ≤ (i : Int) ∧ (i : Int) < cntLe (GL.take many.toNat) ((GL.take many.toNat).getD i 0) := fun i hi =>
  look_sorted (row_sorted h1 h2) (by
    rw [List.length_take]
    have : GL.length = 44 := rfl
    omega)
end Mine

/-! part B1 -/
namespace Mine
open PySem PySem.W PyProof.Rows PySem.Calls


local macro_rules | `(tactic| cell_enter) => `(tactic| (refine' code_def ?k1 ?k2 ?k3 ?k4 ?k5 ?kA ?kF ?kK ?k6 ?k7 ?k8 ?k9 ?kB ?_ ?c2 ?c3 ?c4 ?c5; (case kA => exact rfl); (case kF => exact rfl); (case kK => assumption); (case k1 => k_asm); (case k2 => k_asm); (case k3 => k_asm); (case k4 => k_asm); (case k5 => k_asm); (case k6 => k_is); (case k7 => k_is); (case k8 => ktr_room); (case k9 => (refine' kp_binds ?kx ?ke; (case kx => k_in); (case ke => exact fun _ => rfl))); (case c5 => decide); (case kB => exact locs rfl); (case c2 => exact rfl); (case c3 => exact rfl); (case c4 => exact rfl); k_whole; intro g' L' h' FG' F' N' B' X' T'; (try dsimp only); (try k_lift B'); (try k_fold)))

set_option maxRecDepth 100000 in
set_option maxHeartbeats 8000000 in
theorem bisR_call (w : World) (mg mb : Str → Option Value) (mean : ExcName → Option Value)
    (l : Addr) (vs : List Value) (ns : List Int) (nn : Nat) (x : Int) (tx : Tok) (rest : List (Addr × Obj))
    (dp un : Nat) (gd : Option (List Code)) (cn : Str) (cs : Scope) (a : Addr) (ccd : Value) (cl : List (Str × Addr)) (outer : List Env) (A₀ : Around) (base h₀ : Heap) (L : Addr) (m : Str → Option Value) (s : Shared) (Q E : Value → Shared → Prop)
    (Bl : Below A₀ base outer h₀) (F : Fr h₀ L s.heap m) (X : (hd.heap_39 w.params).In h₀) (N : News h₀ L s.heap ((l, listOf vs.toArray nn) :: rest)) (T : Top LV LL mean mg mb h₀) (hcs : cs.kind = .function)
    (hI : IntsAre vs ns) (hlen : ns.length < 2 ^ 20) (hsorted : ns.Pairwise (· ≤ ·)) (hdp : dp + 1 < recursionLimit) (hun : un + 8 < cLine)
    (hret : CbRet h₀ L m ((l, listOf vs.toArray nn) :: rest) s Q (fun t => .int (cntLe ns x) t)) :
    wpAny (model PySem.Challenge.rw_id0005_01.row.prog w) (ktrTop dp un gd cn cs L a ccd cl outer) (call (.ref 23) [.ref l, .int x tx]) Q E s := by
  w_top off
  k_with_none
  revert X T; k_fill; intro X T
  refine wpAny_call ?_
  k_dflt cell_enter
  k_with "exec While Compare cons nil" => k_while_given ["x"] (fun x (ns : List Int) lo hi => 0 ≤ lo ∧ lo ≤ hi ∧ hi ≤ ns.length ∧ BsR ns x lo hi) (fun x ns lo hi => (hi - lo).toNat) "lo" "hi"
  k_with "state" => first | exact bsr_start _ _ | exact bsr_hi (by assumption) (by assumption) (by assumption) (by assumption) (by assumption) (by assumption) | exact bsr_lo (by assumption) (by assumption) (by assumption) (by assumption) (by assumption) (by assumption)
  k_with "measure" => (rename_i q9 _ _ _ _ ; have q8 := fdiv_mid (by assumption) (by assumption); omega)
  k_steps
  exact cb_retI hret (bsr_end (by assumption) (by assumption) (by assumption) (by assumption) (by assumption)) (by assumption) (by assumption)

end Mine

/-! part B2 -/
namespace Mine
open PySem PySem.W PyProof.Rows PySem.Calls


local macro_rules | `(tactic| cell_enter) => `(tactic| (refine' code_def ?k1 ?k2 ?k3 ?k4 ?k5 ?kA ?kF ?kK ?k6 ?k7 ?k8 ?k9 ?kB ?_ ?c2 ?c3 ?c4 ?c5; (case kA => exact rfl); (case kF => exact rfl); (case kK => assumption); (case k1 => k_asm); (case k2 => k_asm); (case k3 => k_asm); (case k4 => k_asm); (case k5 => k_asm); (case k6 => k_is); (case k7 => k_is); (case k8 => ktr_room); (case k9 => (refine' kp_binds ?kx ?ke; (case kx => k_in); (case ke => exact fun _ => rfl))); (case c5 => decide); (case kB => exact locs rfl); (case c2 => exact rfl); (case c3 => exact rfl); (case c4 => exact rfl); k_whole; intro g' L' h' FG' F' N' B' X' T'; (try dsimp only); (try k_lift B'); (try k_fold)))

set_option maxRecDepth 100000 in
set_option maxHeartbeats 8000000 in
theorem bisL_call (w : World) (mg mb : Str → Option Value) (mean : ExcName → Option Value)
    (l : Addr) (vs : List Value) (ns : List Int) (nn : Nat) (x : Int) (tx : Tok) (rest : List (Addr × Obj))
    (dp un : Nat) (gd : Option (List Code)) (cn : Str) (cs : Scope) (a : Addr) (ccd : Value) (cl : List (Str × Addr)) (outer : List Env) (A₀ : Around) (base h₀ : Heap) (L : Addr) (m : Str → Option Value) (s : Shared) (Q E : Value → Shared → Prop)
    (Bl : Below A₀ base outer h₀) (F : Fr h₀ L s.heap m) (X : (hd.heap_39 w.params).In h₀) (N : News h₀ L s.heap ((l, listOf vs.toArray nn) :: rest)) (T : Top LV LL mean mg mb h₀) (hcs : cs.kind = .function)
    (hI : IntsAre vs ns) (hlen : ns.length < 2 ^ 20) (hsorted : ns.Pairwise (· ≤ ·)) (hdp : dp + 1 < recursionLimit) (hun : un + 8 < cLine)
    (hret : CbRet h₀ L m ((l, listOf vs.toArray nn) :: rest) s Q (fun t => .int (cntLt ns x) t)) :
    wpAny (model PySem.Challenge.rw_id0005_01.row.prog w) (ktrTop dp un gd cn cs L a ccd cl outer) (call (.ref 41) [.ref l, .int x tx]) Q E s := by
  w_top off
  k_with_none
  revert X T; k_fill; intro X T
  refine wpAny_call ?_
  k_dflt cell_enter
  k_with "exec While Compare cons nil" => k_while_given ["x"] (fun x (ns : List Int) lo hi => 0 ≤ lo ∧ lo ≤ hi ∧ hi ≤ ns.length ∧ BsL ns x lo hi) (fun x ns lo hi => (hi - lo).toNat) "lo" "hi"
  k_with "state" => first | exact bsl_start _ _ | exact bsl_hi (by assumption) (by assumption) (by assumption) (by assumption) (by assumption) (by assumption) | exact bsl_lo (by assumption) (by assumption) (by assumption) (by assumption) (by assumption) (by assumption)
  k_with "measure" => (rename_i q9 _ _ _ _ ; have q8 := fdiv_mid (by assumption) (by assumption); omega)
  k_steps
  exact cb_retI hret (bsl_end (by assumption) (by assumption) (by assumption) (by assumption) (by assumption)) (by assumption) (by assumption)

end Mine

/-! part B3 -/
namespace Mine
open PySem PySem.W PyProof.Rows PySem.Calls


local macro_rules | `(tactic| cell_enter) => `(tactic| (refine' code_def ?k1 ?k2 ?k3 ?k4 ?k5 ?kA ?kF ?kK ?k6 ?k7 ?k8 ?k9 ?kB ?_ ?c2 ?c3 ?c4 ?c5; (case kA => exact rfl); (case kF => exact rfl); (case kK => assumption); (case k1 => k_asm); (case k2 => k_asm); (case k3 => k_asm); (case k4 => k_asm); (case k5 => k_asm); (case k6 => k_is); (case k7 => k_is); (case k8 => ktr_room); (case k9 => (refine' kp_binds ?kx ?ke; (case kx => k_in); (case ke => exact fun _ => rfl))); (case c5 => decide); (case kB => exact locs rfl); (case c2 => exact rfl); (case c3 => exact rfl); (case c4 => exact rfl); k_whole; intro g' L' h' FG' F' N' B' X' T'; (try dsimp only); (try k_lift B'); (try k_fold)))

set_option maxRecDepth 100000 in
set_option maxHeartbeats 8000000 in
theorem bisL_call4 (w : World) (mg mb : Str → Option Value) (mean : ExcName → Option Value)
    (l : Addr) (vs : List Value) (ns : List Int) (nn : Nat) (x : Int) (tx : Tok) (rest : List (Addr × Obj)) (t0 : Tok)
    (dp un : Nat) (gd : Option (List Code)) (cn : Str) (cs : Scope) (a : Addr) (ccd : Value) (cl : List (Str × Addr)) (outer : List Env) (A₀ : Around) (base h₀ : Heap) (L : Addr) (m : Str → Option Value) (s : Shared) (Q E : Value → Shared → Prop)
    (Bl : Below A₀ base outer h₀) (F : Fr h₀ L s.heap m) (X : (hd.heap_39 w.params).In h₀) (N : News h₀ L s.heap ((l, listOf vs.toArray nn) :: rest)) (T : Top LV LL mean mg mb h₀) (hcs : cs.kind = .function)
    (hI : IntsAre vs ns) (hlen : ns.length < 2 ^ 20) (hsorted : ns.Pairwise (· ≤ ·)) (hdp : dp + 1 < recursionLimit) (hun : un + 8 < cLine)
    (hret : CbRet h₀ L m ((l, listOf vs.toArray nn) :: rest) s Q (fun t => .int (cntLt ns x) t)) :
    wpAny (model PySem.Challenge.rw_id0005_01.row.prog w) (ktrTop dp un gd cn cs L a ccd cl outer) (call (.ref 41) [.ref l, .int x tx, .int 0 t0, .none]) Q E s := by
  w_top off
  k_with_none
  revert X T; k_fill; intro X T
  refine wpAny_call ?_
  k_dflt cell_enter
  k_with "exec While Compare cons nil" => k_while_given ["x"] (fun x (ns : List Int) lo hi => 0 ≤ lo ∧ lo ≤ hi ∧ hi ≤ ns.length ∧ BsL ns x lo hi) (fun x ns lo hi => (hi - lo).toNat) "lo" "hi"
  k_with "state" => first | exact bsl_start _ _ | exact bsl_hi (by assumption) (by assumption) (by assumption) (by assumption) (by assumption) (by assumption) | exact bsl_lo (by assumption) (by assumption) (by assumption) (by assumption) (by assumption) (by assumption)
  k_with "measure" => (rename_i q9 _ _ _ _ ; have q8 := fdiv_mid (by assumption) (by assumption); omega)
  k_steps
  exact cb_retI hret (bsl_end (by assumption) (by assumption) (by assumption) (by assumption) (by assumption)) (by assumption) (by assumption)

end Mine

/-! part B4 -/
namespace Mine
open PySem PySem.W PyProof.Rows PySem.Calls

local macro_rules | `(tactic| cell_enter) => `(tactic| (refine' code_def ?k1 ?k2 ?k3 ?k4 ?k5 ?kA ?kF ?kK ?k6 ?k7 ?k8 ?k9 ?kB ?_ ?c2 ?c3 ?c4 ?c5; (case kA => exact rfl); (case kF => exact rfl); (case kK => assumption); (case k1 => k_asm); (case k2 => k_asm); (case k3 => k_asm); (case k4 => k_asm); (case k5 => k_asm); (case k6 => k_is); (case k7 => k_is); (case k8 => ktr_room); (case k9 => (refine' kp_binds ?kx ?ke; (case kx => k_in); (case ke => exact fun _ => rfl))); (case c5 => decide); (case kB => exact locs rfl); (case c2 => exact rfl); (case c3 => exact rfl); (case c4 => exact rfl); k_whole; intro g' L' h' FG' F' N' B' X' T'; (try dsimp only); (try k_lift B'); (try k_fold)))

theorem fits_cnt (ns : List Int) (x : Int) (h : ns.length < 2 ^ 20) : Builtin.List.listFitsIndex (cntLt ns x) = true := by
  have := cntLt_bounds ns x
  unfold Builtin.List.listFitsIndex
  simp only [Bool.and_eq_true, decide_eq_true_eq]
  omega

theorem ints_drop : ∀ {vs : List Value} {ns : List Int} (k : Nat), IntsAre vs ns → IntsAre (vs.drop k) (ns.drop k)
  | vs, ns, 0, h => by simpa using h
  | _, _, k + 1, .nil => by simpa using IntsAre.nil
  | _, _, k + 1, .cons _ _ h => by simpa using ints_drop k h
theorem ints_take : ∀ {vs : List Value} {ns : List Int} (k : Nat), IntsAre vs ns → IntsAre (vs.take k) (ns.take k)
  | vs, ns, 0, h => by simpa using IntsAre.nil
  | _, _, k + 1, .nil => by simpa using IntsAre.nil
  | _, _, k + 1, .cons _ _ h => by simpa using IntsAre.cons _ _ (ints_take k h)

theorem ints_ins {vs : List Value} {ns : List Int} {x : Int} {t : Tok} (h : IntsAre vs ns) : IntsAre (kl_ins vs (cntLt ns x) (.int x t)) (insL ns x) := by
  have b := cntLt_bounds ns x
  have e : (if cntLt ns x < 0 then (cntLt ns x + (vs.length : Int)).toNat else min (cntLt ns x).toNat vs.length) = (cntLt ns x).toNat := by
    rw [if_neg (by omega), h.length]
    omega
  unfold kl_ins insL
  rw [e]
  exact IntsAre.append (ints_take _ h) (.cons _ _ (ints_drop _ h))

local macro_rules | `(tactic| walk_at "call ref") => `(tactic| (k_here; (with_reducible show wpAny _ _ (call (Value.ref 41) [Value.ref _, Value.int _ _, Value.int _ _, Value.none]) _ _ _); k_dflt (refine' bisL_call4 _ _ _ _ _ _ _ _ _ _ _ _ _ _ _ _ _ _ _ _ _ _ _ _ _ _ _ _ _ ?k1 ?k2 ?k3 ?k4 ?k5 ?kK ?ki ?kl ?ks ?kd ?ku ?kR; (case k1 => k_asm); (case k2 => k_asm); (case k3 => k_asm); (case k4 => k_asm); (case k5 => k_asm); (case kK => first | exact rfl | assumption); (case ki => assumption); (case kl => assumption); (case ks => assumption); (case kd => ktr_room); (case ku => ktr_units)); intro t9 h9 tk9 F9 N9; (try dsimp only); (try k_fold)))
local macro_rules | `(tactic| walk_at "call builtin:list.insert") => `(tactic| (k_here; (with_reducible show wpAny _ _ (call (Value.builtin _) [Value.ref _, Value.int _ _, _]) _ _ _); k_dflt (refine' kl_insert ?F ?N ?f rfl ?U ?z ?_; (case F => k_asm); (case N => k_asm); (case U => exact Upd.head (by assumption)); (case f => exact fits_cnt _ _ (by assumption)); (case z => (have hL9 := IntsAre.length (by assumption); simp only [PySem.sizeLine_eq]; omega))); intro h' F' N'))

set_option maxRecDepth 100000 in
set_option maxHeartbeats 8000000 in
theorem insL_call (w : World) (mg mb : Str → Option Value) (mean : ExcName → Option Value)
    (l : Addr) (vs : List Value) (ns : List Int) (nn : Nat) (x : Int) (tx : Tok) (rest : List (Addr × Obj))
    (dp un : Nat) (gd : Option (List Code)) (cn : Str) (cs : Scope) (a : Addr) (ccd : Value) (cl : List (Str × Addr)) (outer : List Env) (A₀ : Around) (base h₀ : Heap) (L : Addr) (m : Str → Option Value) (s : Shared) (Q E : Value → Shared → Prop)
    (Bl : Below A₀ base outer h₀) (F : Fr h₀ L s.heap m) (X : (hd.heap_39 w.params).In h₀) (N : News h₀ L s.heap ((l, listOf vs.toArray nn) :: rest)) (T : Top LV LL mean mg mb h₀) (hcs : cs.kind = .function)
    (hI : IntsAre vs ns) (hlen : ns.length < 2 ^ 20) (hsorted : ns.Pairwise (· ≤ ·)) (hoff : ∀ p ∈ rest, p.1 ≠ l) (hdp : dp + 2 < recursionLimit) (hun : un + 16 < cLine)
    (hret : ∀ (vs' : List Value) (nn' : Nat) (h' : Heap) (tk' : Nat), IntsAre vs' (insL ns x) → Fr h₀ L h' m → News h₀ L h' ((l, listOf vs'.toArray nn') :: rest) → Q .none { s with heap := h', toks := tk' }) :
    wpAny (model PySem.Challenge.rw_id0005_01.row.prog w) (ktrTop dp un gd cn cs L a ccd cl outer) (call (.ref 32) [.ref l, .int x tx]) Q E s := by
  w_top off
  k_with_none
  revert X T; k_fill; intro X T
  refine wpAny_call ?_
  k_dflt cell_enter
  k_steps
  exact hret _ _ _ _ (ints_ins hI) (by assumption) (by assumption)
end Mine

/-! part B5 -/
namespace Mine
open PySem PySem.W PyProof.Rows PySem.Calls

local macro_rules | `(tactic| cell_enter) => `(tactic| (refine' code_def ?k1 ?k2 ?k3 ?k4 ?k5 ?kA ?kF ?kK ?k6 ?k7 ?k8 ?k9 ?kB ?_ ?c2 ?c3 ?c4 ?c5; (case kA => exact rfl); (case kF => exact rfl); (case kK => assumption); (case k1 => k_asm); (case k2 => k_asm); (case k3 => k_asm); (case k4 => k_asm); (case k5 => k_asm); (case k6 => k_is); (case k7 => k_is); (case k8 => ktr_room); (case k9 => (refine' kp_binds ?kx ?ke; (case kx => k_in); (case ke => exact fun _ => rfl))); (case c5 => decide); (case kB => exact locs rfl); (case c2 => exact rfl); (case c3 => exact rfl); (case c4 => exact rfl); k_whole; intro g' L' h' FG' F' N' B' X' T'; (try dsimp only); (try k_lift B'); (try k_fold)))

theorem drop1 {h₀ h : Heap} {L : Addr} {a b : Addr × Obj} {r : List (Addr × Obj)} (N : News h₀ L h (a :: b :: r)) : News h₀ L h (a :: r) := fun p hp => by
  rcases List.mem_cons.mp hp with rfl | hp
  · exact N _ (.head _)
  · exact N _ (.tail _ (.tail _ hp))

theorem flat_one (k : Int) : ∀ n : Nat, (List.replicate n [k]).flatten = List.replicate n k
  | 0 => rfl
  | n + 1 => by rw [List.replicate_succ, List.flatten_cons, flat_one k n]; rfl

abbrev RowS := Int × Tok × Addr × Nat × List Value


set_option maxRecDepth 100000 in
set_option maxHeartbeats 8000000 in
theorem lawRow_call (w : World) (mg mb : Str → Option Value) (mean : ExcName → Option Value)
    (many : Int) (tm : Tok) (news : List (Addr × Obj))
    (dp un : Nat) (gd : Option (List Code)) (cn : Str) (cs : Scope) (a : Addr) (ccd : Value) (cl : List (Str × Addr)) (outer : List Env) (A₀ : Around) (base h₀ : Heap) (L : Addr) (m : Str → Option Value) (s : Shared) (Q E : Value → Shared → Prop)
    (Bl : Below A₀ base outer h₀) (F : Fr h₀ L s.heap m) (X : (hd.heap_39 w.params).In h₀) (N : News h₀ L s.heap news) (T : Top LV LL mean mg mb h₀) (hcs : cs.kind = .function)
    (hm1 : 10 ≤ many) (hm2 : many ≤ 40) (hdp : dp + 2 < recursionLimit) (hun : un + 16 < cLine)
    (hret : ∀ (D : Addr) (vs' : List Value) (nn' : Nat) (h' : Heap) (tk' : Nat), IntsAre vs' (GL.take many.toNat) → Fr h₀ L h' m → News h₀ L h' ((D, listOf vs'.toArray nn') :: news) → (∀ p ∈ news, p.1 < D) → Q (.ref D) { s with heap := h', toks := tk' }) :
    wpAny (model PySem.Challenge.rw_id0005_01.row.prog w) (ktrTop dp un gd cn cs L a ccd cl outer) (call (.ref 62) [.int many tm]) Q E s := by
  w_top off
  k_with_none
  revert X T; k_fill; intro X T
  refine wpAny_call ?_
  k_dflt cell_enter
  k_with "exec While Compare cons nil" => refine Hold.out ?_
  k_steps
  refine ⟨?_⟩
  (rename Fr _ _ _ _ => lF'); (rename News _ _ _ _ => lN0)
  have lN' := kst_newsOf (l' := (_, listOf (List.toArray [_, _, _]) 0) :: news) lN0 (fun p hp => .tail _ hp)
  clear lN0
  with_unfolding_all refine' ksw_while (σ := RowS) (fun c => (c.2.2.1, listOf c.2.2.2.2.toArray c.2.2.2.1) :: news) (fun c => [(Str.ofString "row", .ref c.2.2.1), (Str.ofString "number", .int c.1 c.2.1)]) (fun c => IntsAre c.2.2.2.2 (rowK c.1)) [] (fun c => 3 ≤ c.1 ∧ c.1 ≤ 13) (fun c => (13 - c.1).toNat) (3, _, _, _, _) lF' ?kn ?kf ?kk ?kp ?_
  case kk => kst_all
  case kn => (dsimp only; exact lN')
  case kf => (show IntsAre _ (rowK 3); rw [rowK_three]; exact .cons _ _ (.cons _ _ (.cons _ _ .nil)))
  case kp => (dsimp only; exact ⟨by decide, by decide⟩)
  clear lF' lN'
  rintro ⟨k, tk, D, nn, vs⟩ u h9 tk9 hI ⟨hk1, hk2⟩ kFr kNews
  dsimp only [kstB] at kFr
  dsimp only at kNews hI hk1 hk2
  obtain ⟨hk3, hk4, hk5, hk6⟩ := rowK_facts hk1 hk2
  (try k_fold)
  k_steps
  · (rename Fr _ _ _ _ => lF'); (rename News _ _ _ _ => lN')
    have hk7 := rowK_small hk1 hk2 (by assumption) hm2
    (rename IntsAre _ _ => hI9)
    rw [flat_one, ← rowK_next hk1 hk7] at hI9
    have lN2 := drop1 (drop1 (drop1 lN'))
    refine' ksw_end (k + 1, _, _, 0, _) lF' lN2 ?hn hI9 ?hk ?hr ?hp ?hm
    case hk => kst_all
    case hn => (dsimp only; exact fun p hp => hp)
    case hr => ksw_same
    case hp => exact ⟨by show 3 ≤ k + 1; omega, by show k + 1 ≤ 13; omega⟩
    case hm => (show (13 - (k + 1)).toNat < (13 - k).toNat; omega)
  · (rename News _ _ _ _ => lN'); (rename _ ∧ AllLt _ _ => hL9)
    refine hret _ _ _ _ _ ?_ (by assumption) (drop1 lN') (ktn_ltOf hL9.2)
    rw [← rowK_take (k := k) (by omega)]; assumption
end Mine

/-! part B6 -/
namespace Mine
open PySem PySem.W PyProof.Rows PySem.Calls

local macro_rules | `(tactic| cell_enter) => `(tactic| (refine' code_def ?k1 ?k2 ?k3 ?k4 ?k5 ?kA ?kF ?kK ?k6 ?k7 ?k8 ?k9 ?kB ?_ ?c2 ?c3 ?c4 ?c5; (case kA => exact rfl); (case kF => exact rfl); (case kK => assumption); (case k1 => k_asm); (case k2 => k_asm); (case k3 => k_asm); (case k4 => k_asm); (case k5 => k_asm); (case k6 => k_is); (case k7 => k_is); (case k8 => ktr_room); (case k9 => (refine' kp_binds ?kx ?ke; (case kx => k_in); (case ke => exact fun _ => rfl))); (case c5 => decide); (case kB => exact locs rfl); (case c2 => exact rfl); (case c3 => exact rfl); (case c4 => exact rfl); k_whole; intro g' L' h' FG' F' N' B' X' T'; (try dsimp only); (try k_lift B'); (try k_fold)))


theorem split_last {h₀ h : Heap} {L D : Addr} {vs : List Value} {ns : List Int} {x : Int} {t : Tok} {n : Nat} {r : List (Addr × Obj)} {P : Prop} (N : News h₀ L h ((D, listOf (vs ++ [Value.int x t]).toArray n) :: r)) (hI : IntsAre vs ns)
    (k : ∀ us, IntsAre us (ns ++ [x]) → News h₀ L h ((D, listOf us.toArray n) :: r) → P) : P := by
  exact k (vs ++ [.int x t]) (IntsAre.append hI (IntsAre.cons x t IntsAre.nil)) N

local macro_rules | `(tactic| k_all) => `(tactic| assumption)
local macro_rules | `(tactic| walk_at "call builtin:list.append") => `(tactic| (k_here; (with_reducible show wpAny _ _ (call (Value.builtin _) [Value.ref _, _]) _ _ _); k_dflt (refine' append_K ?k1 ?k2 ?k3 ?_ ?z; (case k1 => k_asm); (case k2 => k_asm); (case k3 => exact Upd.head (by assumption)); (case z => (have hL9 := IntsAre.length (by assumption); simp only [List.size_toArray, PySem.sizeLine_eq]; omega)); k_whole); intro h' F' N'))

set_option maxRecDepth 100000 in
set_option maxHeartbeats 8000000 in
theorem lawBack_call (w : World) (mg mb : Str → Option Value) (mean : ExcName → Option Value)
    (many : Int) (tm : Tok) (news : List (Addr × Obj))
    (dp un : Nat) (gd : Option (List Code)) (cn : Str) (cs : Scope) (a : Addr) (ccd : Value) (cl : List (Str × Addr)) (outer : List Env) (A₀ : Around) (base h₀ : Heap) (L : Addr) (m : Str → Option Value) (s : Shared) (Q E : Value → Shared → Prop)
    (Bl : Below A₀ base outer h₀) (F : Fr h₀ L s.heap m) (X : (hd.heap_39 w.params).In h₀) (N : News h₀ L s.heap news) (T : Top LV LL mean mg mb h₀) (hcs : cs.kind = .function)
    (hm1 : 10 ≤ many) (hm2 : many ≤ 40) (hdp : dp + 2 < recursionLimit) (hun : un + 16 < cLine)
    (hret : ∀ (D : Addr) (vs' : List Value) (nn' : Nat) (h' : Heap) (tk' : Nat), IntsAre vs' (GL.take many.toNat) → Fr h₀ L h' m → News h₀ L h' ((D, listOf vs'.toArray nn') :: news) → (∀ p ∈ news, p.1 < D) → Q (.ref D) { s with heap := h', toks := tk' }) :
    wpAny (model PySem.Challenge.rw_id0005_01.row.prog w) (ktrTop dp un gd cn cs L a ccd cl outer) (call (.ref 69) [.int many tm]) Q E s := by
  w_top off
  k_with_none
  revert X T; k_fill; intro X T
  refine wpAny_call ?_
  k_dflt cell_enter
  k_with "pyIter ref" => refine Hold.out ?_
  k_with "InvEndN" => refine Hold.out ?_
  k_steps
  refine ⟨?_⟩
  rename_i D h1 hnl h2 F1 N1 h3 tk2 t1 u1 v1 rgX lF' lN' hkp
  with_unfolding_all refine' kst_range (σ := List Value × List Int × Nat) (fun c => (D, listOf c.1.toArray c.2.2) :: news) (fun _ => []) (fun c => IntsAre c.1 c.2.1) [] (fun pre c => c.2.1 = GL.take (pre.length + 1)) ([_], [1], 0) (by rfl) rgX (small_one (by omega) (by omega) (by omega) (by omega)) (rangeSize_nat _ _) lF' ?kn ?kf ?kk ?kp ?_ ?_
  case kn => exact lN'
  case kf => exact .cons _ _ .nil
  case kk => exact fun _ h => nomatch h
  case kp => (dsimp only; decide)
  · clear lF' lN'
    rintro ⟨vs, ns, nn⟩ pre k t u h9 tk9 own hk hlt hoff hI hP kFr kNews
    dsimp only [kstB] at kFr
    dsimp only at kNews hI hP
    simp only [List.map_cons] at hoff
    simp only [List.cons_append] at kNews
    clear rgX hkp
    have e1 : pre.length + 1 = (k - 1).toNat := by omega
    rw [e1] at hP
    obtain ⟨f1, ⟨f2, f3⟩, ⟨f4, f5⟩, f6⟩ := back_facts (k := k) (by omega) (by omega)
    rw [← hP] at f1 f2 f3 f4 f5 f6
    replace f6 := Hold.mk f6
    clear hP
    have hall : ∀ p ∈ news ++ own, p.1 ≠ D := fun p hp => by
      rcases List.mem_append.mp hp with hp | hp
      · exact Nat.ne_of_lt (hnl p hp)
      · exact hoff.ne (.head _) p hp
    (try k_fold)
    k_steps
    refine ⟨?_⟩
    (rename Fr _ _ _ _ => lF'); (rename News _ _ _ _ => lN')
    rw [List.push_toArray] at lN'
    refine split_last lN' hI fun vs' hI' lN2 => ?_
    rw [← f6.out] at hI'
    have e2 : (pre ++ [k]).length + 1 = k.toNat := by
      rw [List.length_append]; simp only [List.length_cons, List.length_nil]; omega
    refine kst_end (vs', GL.take k.toNat, nn + 1) lF' lN2 ?_ ?_ rfl hI' ?_ ?_ ?_
    · exact fun p hp => (List.mem_cons.mp hp).elim (fun e => e ▸ .head _) fun hp => .tail _ (List.mem_append.mpr (.inl hp))
    · exact fun p hp => .tail _ (List.mem_append.mpr (.inr hp))
    · exact fun _ h => nomatch h
    · (intro z h1 h2 h3; first | rfl | (simp [h1]; done))
    · show _ = GL.take ((pre ++ [k]).length + 1)
      rw [e2]
  · rintro ⟨vs, ns, nn⟩ u h9 tk9 hI hP kFr kNews
    dsimp only [kstB] at kFr
    dsimp only at kNews hI hP
    rw [rangeKs_length] at hP
    have e1 : (many + 1 - 2).toNat + 1 = many.toNat := by omega
    rw [e1] at hP
    replace hP := Hold.mk hP
    (try k_fold)
    k_steps
    exact hret D vs nn _ _ (by rw [← hP.out]; exact hI) (by assumption) (by assumption) hnl
end Mine

/-! part C1 -/
namespace Mine
open PySem PySem.W PyProof.Rows PySem.Calls

local macro_rules | `(tactic| cell_enter) => `(tactic| (refine' code_def ?k1 ?k2 ?k3 ?k4 ?k5 ?kA ?kF ?kK ?k6 ?k7 ?k8 ?k9 ?kB ?_ ?c2 ?c3 ?c4 ?c5; (case kA => exact rfl); (case kF => exact rfl); (case kK => assumption); (case k1 => k_asm); (case k2 => k_asm); (case k3 => k_asm); (case k4 => k_asm); (case k5 => k_asm); (case k6 => k_is); (case k7 => k_is); (case k8 => ktr_room); (case k9 => (refine' kp_binds ?kx ?ke; (case kx => k_in); (case ke => exact fun _ => rfl))); (case c5 => decide); (case kB => exact locs rfl); (case c2 => exact rfl); (case c3 => exact rfl); (case c4 => exact rfl); k_whole; intro g' L' h' FG' F' N' B' X' T'; (try dsimp only); (try k_lift B'); (try k_fold)))

section
variable {prog : Program} {w : World} {A : Around} {E : Value → Shared → Prop} {s : Shared} {env : Env} {h₀ : Heap} {x : Str} {body : List Stmt} {Q : Flow → Shared → Prop}

theorem tab_values {m : Str → Option Value} {L d : Addr} {news : List (Addr × Obj)} {tab : List (Int × Int)} {Q : Value → Shared → Prop} (F : Fr h₀ L s.heap m) (N : News h₀ L s.heap news) (T : TabL prog w news d tab)
    (h : ∀ v h', Fr h₀ L h' m → News h₀ L h' news → h'.IsValuesView v d → Q (.ref v) { s with heap := h' }) : wpAny (model prog w) A (call (.builtin "dict.values") [.ref d]) Q E s := by
  obtain ⟨lo, o, xs, hm, S, K, R⟩ := T
  obtain ⟨es, ep, hr, he⟩ := S.raw (N _ hm).1
  exact raw_values lo hr (h _ _ (F.push _) (fun p hp => ⟨Heap.get?_push_of_some _ (N p hp).1, (N p hp).2⟩) ⟨_, Heap.get?_push_size _ rfl, rfl, rfl⟩)

theorem iter_tabVals {vw d : Addr} {m₀ : Str → Option Value} {news : List (Addr × Obj)} {tab : List (Int × Int)} (J : Nat → (Str → Option Value) → Prop)
    (hh : A.handled = none) (F : Fr h₀ env.locals s.heap m₀) (N : News h₀ env.locals s.heap news) (hv : s.heap.IsValuesView vw d) (T : TabL prog w news d tab) (hj : J 0 m₀)
    (turn : ∀ i n c t m₁ h tk own, tab[i]? = some (n, c) → J i m₁ → Fr h₀ env.locals h (fun y => if y = x then some (.int c t) else m₁ y) → News h₀ env.locals h (own ++ news) →
      wpAny (model prog w) A (execs body env) (InvPost h₀ env.locals (J (i + 1)) (own ++ news) { s with heap := h, toks := tk } Q) E { s with heap := h, toks := tk })
    (done : ∀ m₁ h tk, J tab.length m₁ → Fr h₀ env.locals h m₁ → News h₀ env.locals h news → Q .next { s with heap := h, toks := tk }) :
    wpAny (model prog w) A (pyIter (.ref vw)) (fun it s₂ => LoopAtV prog w A h₀ env x body Q E it s₂) E s := by
  obtain ⟨lo, o, xs, hm, S, K, R⟩ := T
  obtain ⟨es, ep, hr, he⟩ := S.raw (N _ hm).1
  have hsz : es.size = tab.length := by rw [size_of_entries he, R.length]
  have hne : d ≠ s.heap.objs.size := Nat.ne_of_lt hr.lt
  refine raw_iter_values hv hr ?_
  have W := walks_vals (prog := prog) (w := w) (d := d) (es := es) (ep := ep) hh s.heap.objs.size hne
  rw [hsz] at W
  refine ⟨_, _, _, tab.length, _, _, m₀, news, fun i m₁ news₁ => news₁ = news ∧ J i m₁, rfl, W, ?_, ?_, ?_, ⟨by rw [← hsz]; exact ⟨_, Heap.get?_push_size _ rfl, rfl, rfl⟩, hr.to fun o e => Heap.get?_push_of_some _ e⟩, F.push _, (fun p hp => ⟨Heap.get?_push_of_some _ (N p hp).1, (N p hp).2⟩), ⟨rfl, hj⟩, ?_, ?_⟩
  · intro hI
    rcases List.mem_cons.mp hI with e | hI
    · exact absurd F.ns.lt (e ▸ Nat.lt_irrefl _)
    · exact (N _ hm).2.1 (List.mem_singleton.mp hI).symm
  · intro b hb
    rw [List.mem_singleton.mp hb]
    exact next_is_new F
  · intro p hp hI
    exact absurd (Heap.lt_size (N p hp).1) ((List.mem_singleton.mp hI) ▸ Nat.lt_irrefl _)
  · rintro i v m₁ news₁ s₁ own ⟨hh', tk', rfl⟩ hin hP ⟨rfl, hJ⟩ hoff _ _ _ _ F₁ N₁
    obtain ⟨e, hei, rfl⟩ := hP
    rw [entry_at he i] at hei
    obtain ⟨x', hx', rfl⟩ := Option.map_eq_some_iff.mp hei
    obtain ⟨c, t, hv', ht⟩ := R.get hx'
    have F₂ : Fr h₀ env.locals hh' (fun y => if y = x then some (.int c t) else m₁ y) := by
      have e2 : (entryOfKey (numKind prog w) x').val = Value.int c t := hv'
      rw [e2] at F₁; exact F₁
    refine wpAny_mono (turn i x'.1 c t m₁ hh' tk' own ht hJ F₂ N₁) (fun f s₂ p => ?_) fun _ _ e => e
    have fin : InvEnd h₀ env.locals (J (i + 1)) (own ++ news₁) { s with heap := hh', toks := tk' } s₂ → LoopStepU h₀ env.locals [s.heap.objs.size] own (fun m₁ n₁ => n₁ = news₁ ∧ J (i + 1) m₁) { s with heap := hh', toks := tk' } .next s₂ := by
      rintro ⟨h', tk, m', news', e, F', N', hn, hm⟩
      exact ⟨rfl, h', tk, m', news₁, e, F', fun p hp => N' p (hn p hp), hoff, rfl, hm⟩
    cases f with
    | ret v => exact .ret p
    | brk => exact .brk p
    | next => exact .next (fin p)
    | cont => exact .cont (fin p)
  · rintro h' tk m' news' F' N' _ ⟨rfl, hJ⟩
    exact done m' h' tk hJ F' N'
end

theorem fr_with {h₀ h : Heap} {L : Addr} {m₁ : Str → Option Value} (ps : List (Str × Value)) (F : Fr h₀ L h m₁) (hp : ∀ p ∈ ps, m₁ p.1 = some p.2) : Fr h₀ L h (kstB m₁ ps) := by
  have e : kstB m₁ ps = m₁ := funext fun z => kstB_eq hp fun _ => rfl
  rw [e]; exact F

def tabSum (tab : List (Int × Int)) : Int := (tab.map (·.2)).sum

theorem tabSum_succ {tab : List (Int × Int)} {i : Nat} {n c : Int} (h : tab[i]? = some (n, c)) : tabSum (tab.take (i + 1)) = tabSum (tab.take i) + c := by
  unfold tabSum
  rw [List.take_add_one, h, List.map_append, List.sum_append]
  simp

local macro_rules | `(tactic| walk_at "getMethod ref") => `(tactic| (k_here; (with_reducible show wpAny _ _ (getMethod (Value.ref _) (PySem.Str.ofString "values") _) _ _ _); k_dflt (refine' tab_method ?N ?T PySem.F.slot_dict_values PySem.F.type_dict_values ?_; (case N => k_asm); (case T => assumption))))
local macro_rules | `(tactic| walk_at "call builtin:dict.values") => `(tactic| (k_here; k_dflt (refine' tab_values ?F ?N ?T ?_; (case F => k_asm); (case N => k_asm); (case T => assumption)); intro v' h' F' N' hV'))

set_option maxRecDepth 100000 in
set_option maxHeartbeats 8000000 in
theorem count_call (w : World) (mg mb : Str → Option Value) (mean : ExcName → Option Value)
    (d : Addr) (tab : List (Int × Int)) (news : List (Addr × Obj))
    (dp un : Nat) (gd : Option (List Code)) (cn : Str) (cs : Scope) (a : Addr) (ccd : Value) (cl : List (Str × Addr)) (outer : List Env) (A₀ : Around) (base h₀ : Heap) (L : Addr) (m : Str → Option Value) (s : Shared) (Q E : Value → Shared → Prop)
    (Bl : Below A₀ base outer h₀) (F : Fr h₀ L s.heap m) (X : (hd.heap_39 w.params).In h₀) (N : News h₀ L s.heap news) (T : Top LV LL mean mg mb h₀) (hcs : cs.kind = .function)
    (hT : TabL PySem.Challenge.rw_id0005_01.row.prog w news d tab) (hdp : dp + 2 < recursionLimit) (hun : un + 16 < cLine)
    (hret : CbRet h₀ L m news s Q (fun t => .int (tabSum tab) t)) :
    wpAny (model PySem.Challenge.rw_id0005_01.row.prog w) (ktrTop dp un gd cn cs L a ccd cl outer) (call (.ref 55) [.ref d]) Q E s := by
  w_top off
  k_with_none
  revert X T; k_fill; intro X T
  refine wpAny_call ?_
  k_dflt cell_enter
  k_with "exec For Name Call cons nil" => refine Hold.out ?_
  k_with "pyIter ref" => refine Hold.out ?_
  k_with "InvEnd" => refine Hold.out ?_
  k_steps
  refine ⟨?_⟩
  (rename Fr _ _ _ _ => lF')
  with_unfolding_all refine' For_invVF lF' ?k1 ?k2 ?_
  case k1 => exact rfl
  case k2 => exact rfl
  k_steps
  refine ⟨?_⟩
  (rename Fr _ _ _ _ => lF'); (rename News _ _ _ _ => lN'); (rename Heap.IsValuesView _ _ _ => lV')
  with_unfolding_all refine' iter_tabVals (fun i m₁ => ∃ t, m₁ (Str.ofString "nc") = some (.int (tabSum (tab.take i)) t)) (by rfl) lF' lN' lV' hT ?hj ?_ ?_
  case hj => exact ⟨_, by rw [List.take_zero]; with_unfolding_all rfl⟩
  · clear lF' lN' lV'
    rintro i n c t m₁ h9 tk9 own ht ⟨t', hm⟩ F₁ N₁
    have kFr := fr_with [(Str.ofString "calls", .int c t), (Str.ofString "nc", .int (tabSum (tab.take i)) t')] F₁ (List.forall_mem_cons.mpr ⟨if_pos rfl, List.forall_mem_cons.mpr ⟨(if_neg (show ¬ (Str.ofString "nc" = Str.ofString "calls") by decide)).trans hm, List.forall_mem_nil _⟩⟩)
    clear F₁
    dsimp only [kstB] at kFr
    (try k_fold)
    k_steps
    refine ⟨?_⟩
    (rename Fr _ _ _ _ => lF'); (rename News _ _ _ _ => lN')
    exact InvEnd.intro lF' lN' (fun p hp => hp) ⟨_, by rw [tabSum_succ ht]; with_unfolding_all rfl⟩
  · clear lF' lN' lV'
    rintro m₁ h9 tk9 ⟨t', hm⟩ F₁ N₁
    rw [List.take_length] at hm
    have kFr := fr_with [(Str.ofString "nc", .int (tabSum tab) t')] F₁ (List.forall_mem_cons.mpr ⟨hm, List.forall_mem_nil _⟩)
    clear F₁
    dsimp only [kstB] at kFr
    (try k_fold)
    k_steps
    exact hret _ _ _ (by assumption) (by assumption)
end Mine

/-! part C2 -/
namespace Mine
open PySem PySem.W PyProof.Rows PySem.Calls

local macro_rules | `(tactic| cell_enter) => `(tactic| (refine' code_def ?k1 ?k2 ?k3 ?k4 ?k5 ?kA ?kF ?kK ?k6 ?k7 ?k8 ?k9 ?kB ?_ ?c2 ?c3 ?c4 ?c5; (case kA => exact rfl); (case kF => exact rfl); (case kK => assumption); (case k1 => k_asm); (case k2 => k_asm); (case k3 => k_asm); (case k4 => k_asm); (case k5 => k_asm); (case k6 => k_is); (case k7 => k_is); (case k8 => ktr_room); (case k9 => (refine' kp_binds ?kx ?ke; (case kx => k_in); (case ke => exact fun _ => rfl))); (case c5 => decide); (case kB => exact locs rfl); (case c2 => exact rfl); (case c3 => exact rfl); (case c4 => exact rfl); k_whole; intro g' L' h' FG' F' N' B' X' T'; (try dsimp only); (try k_lift B'); (try k_fold)))

theorem fr_with2 {h₀ h : Heap} {L : Addr} {m₁ : Str → Option Value} (ps : List (Str × Value)) (F : Fr h₀ L h m₁) (hp : ∀ p ∈ ps, m₁ p.1 = some p.2) : Fr h₀ L h (kstB m₁ ps) := by
  have e : kstB m₁ ps = m₁ := funext fun z => kstB_eq hp fun _ => rfl
  rw [e]; exact F

theorem news_out {h₀ h : Heap} {L : Addr} {p : Addr × Obj} {own news : List (Addr × Obj)} (N : News h₀ L h (own ++ p :: news)) : News h₀ L h (p :: (own ++ news)) := fun q hq => by
  rcases List.mem_cons.mp hq with rfl | hq
  · exact N _ (List.mem_append.mpr (.inr (.head _)))
  · rcases List.mem_append.mp hq with hq | hq
    · exact N _ (List.mem_append.mpr (.inl hq))
    · exact N _ (List.mem_append.mpr (.inr (.tail _ hq)))
theorem news_in {h₀ h : Heap} {L : Addr} {p : Addr × Obj} {own news : List (Addr × Obj)} (N : News h₀ L h (p :: (own ++ news))) : News h₀ L h (own ++ p :: news) := fun q hq => by
  rcases List.mem_append.mp hq with hq | hq
  · exact N _ (.tail _ (List.mem_append.mpr (.inl hq)))
  · rcases List.mem_cons.mp hq with rfl | hq
    · exact N _ (.head _)
    · exact N _ (.tail _ (List.mem_append.mpr (.inr hq)))

theorem tab_in_some {prog : Program} {w : World} {A : Around} {E : Value → Shared → Prop} {s : Shared} {h₀ : Heap} {L : Addr} {news : List (Addr × Obj)} {d ka : Addr} {tab : List (Int × Int)} {n c : Int} {ok : Obj} {Q : Value → Shared → Prop} (hu : A.units + 1 < cLine) (N : News h₀ L s.heap news) (T : TabL prog w news d tab) (hka : (ka, ok) ∈ news) (ho : KeyObj n ok) (hc : tabGet tab n = some c)
    (h : Q (.bool true) { s with toks := s.toks + 4 }) : wpAny (model prog w) A (compareOp .In (.ref ka) (.ref d)) Q E s := tab_in hu N T hka ho (by rw [hc]; exact h)
theorem tab_in_none {prog : Program} {w : World} {A : Around} {E : Value → Shared → Prop} {s : Shared} {h₀ : Heap} {L : Addr} {news : List (Addr × Obj)} {d ka : Addr} {tab : List (Int × Int)} {n : Int} {ok : Obj} {Q : Value → Shared → Prop} (hu : A.units + 1 < cLine) (N : News h₀ L s.heap news) (T : TabL prog w news d tab) (hka : (ka, ok) ∈ news) (ho : KeyObj n ok) (hc : tabGet tab n = none)
    (h : Q (.bool false) { s with toks := s.toks + 4 }) : wpAny (model prog w) A (compareOp .In (.ref ka) (.ref d)) Q E s := tab_in hu N T hka ho (by rw [hc]; exact h)

theorem TabS.ofEmpty {prog : Program} {w : World} {K' : Type} [DecidableEq K'] {knd' : PySem.KeyKind prog w K'} {o : Obj} (hd : o.IsDictOf knd' []) : TabS prog w o [] := by
  obtain ⟨es, ep, hc, hdat, _, hp, _⟩ := hd
  have he : es.toList = [] := List.length_eq_zero_iff.mp hp.length
  exact ⟨hc, es, ep, hdat, he, List.nodup_nil⟩

local macro_rules | `(tactic| walk_at "getMethod ref") => `(tactic| (k_here; (with_reducible show wpAny _ _ (getMethod (Value.ref _) (PySem.Str.ofString "items") _) _ _ _); k_dflt (refine' tab_method ?N ?T PySem.F.slot_dict_items PySem.F.type_dict_items ?_; (case N => k_asm); (case T => first | assumption | exact TabL.mono (by assumption) (fun p hp => .tail _ hp)))))
local macro_rules | `(tactic| walk_at "call builtin:dict.items") => `(tactic| (k_here; k_dflt (refine' tab_items ?F ?N ?T ?_; (case F => k_asm); (case N => k_asm); (case T => first | assumption | exact TabL.mono (by assumption) (fun p hp => .tail _ hp))); intro v' h' F' N' hV'))
local macro_rules | `(tactic| walk_at "compareOp In ref ref") => `(tactic| (k_here; (with_reducible show wpAny _ _ (compareOp CmpOp.In (Value.ref _) (Value.ref _)) _ _ _); k_dflt (first | (refine' tab_in_some ?u ?N ?T ?a ?o ?c ?_; (case N => k_asm); (case T => assumption); (case a => exact .tail _ (by assumption)); (case o => assumption); (case c => assumption); (case u => ktr_units)) | (refine' tab_in_none ?u ?N ?T ?a ?o ?c ?_; (case N => k_asm); (case T => assumption); (case a => exact .tail _ (by assumption)); (case o => assumption); (case c => assumption); (case u => ktr_units)))))
local macro_rules | `(tactic| walk_at "getItem ref ref") => `(tactic| (k_here; (with_reducible show wpAny _ _ (getItem (Value.ref _) (Value.ref _)) _ _ _); k_dflt (refine' tab_get ?u ?N ?T ?a ?o ?c ?_; (case N => k_asm); (case T => assumption); (case a => exact .tail _ (by assumption)); (case o => assumption); (case c => assumption); (case u => ktr_units)); intro t'))
local macro_rules | `(tactic| walk_at "setItem ref ref") => `(tactic| (k_here; (with_reducible show wpAny _ _ (setItem (Value.ref _) (Value.ref _) _) _ _ _); k_dflt (refine' tab_set ?u ?F ?N ?r ?S ?k ?a ?o ?z ?_; (case F => k_asm); (case N => k_asm); (case r => assumption); (case S => assumption); (case k => assumption); (case a => assumption); (case o => assumption); (case z => assumption); (case u => ktr_units)); intro o' h' tk' hS' F' N'))

set_option maxRecDepth 100000 in
set_option maxHeartbeats 8000000 in
theorem add_call (w : World) (mg mb : Str → Option Value) (mean : ExcName → Option Value)
    (d1 d2 : Addr) (tab1 tab2 : List (Int × Int)) (news ks : List (Addr × Obj))
    (dp un : Nat) (gd : Option (List Code)) (cn : Str) (cs : Scope) (a : Addr) (ccd : Value) (cl : List (Str × Addr)) (outer : List Env) (A₀ : Around) (base h₀ : Heap) (L : Addr) (m : Str → Option Value) (s : Shared) (Q E : Value → Shared → Prop)
    (Bl : Below A₀ base outer h₀) (F : Fr h₀ L s.heap m) (X : (hd.heap_39 w.params).In h₀) (N : News h₀ L s.heap news) (T : Top LV LL mean mg mb h₀) (hcs : cs.kind = .function)
    (hks : ∀ p ∈ ks, p ∈ news) (hT1k : TabL PySem.Challenge.rw_id0005_01.row.prog w ks d1 tab1) (hT2k : TabL PySem.Challenge.rw_id0005_01.row.prog w ks d2 tab2) (hz : tab1.length + tab2.length ≤ 1000) (hdp : dp + 2 < recursionLimit) (hun : un + 16 < cLine)
    (hret : ∀ (D : Addr) (o : Obj) (h' : Heap) (tk' : Nat), Fr h₀ L h' m → News h₀ L h' ((D, o) :: news) → (∀ p ∈ news, p.1 < D) → TabL PySem.Challenge.rw_id0005_01.row.prog w ((D, o) :: ks) D (mergeTab tab1 tab2) → Q (.ref D) { s with heap := h', toks := tk' }) :
    wpAny (model PySem.Challenge.rw_id0005_01.row.prog w) (ktrTop dp un gd cn cs L a ccd cl outer) (call (.ref 48) [.ref d1, .ref d2]) Q E s := by
  have hT1 := hT1k.mono hks
  have hT2 := hT2k.mono hks
  w_top off
  k_with_none
  revert X T; k_fill; intro X T
  refine wpAny_call ?_
  k_dflt cell_enter
  k_with "exec For Tuple Call cons nil" => refine Hold.out ?_
  k_with "pyIter ref" => refine Hold.out ?_
  k_with "TabEnd" => refine Hold.out ?_
  k_steps
  refine ⟨?_⟩
  (rename Fr _ _ _ _ => lF')
  with_unfolding_all refine' For_turns lF' ?_
  k_steps
  rename_i D hp1 o₀ l1 lo hs fs hi fi hp2 N1 v1 hp3 F2 N2 hV
  refine ⟨?_⟩
  obtain ⟨lo1, o1, xs1, hm1k, S1, K1k, R1⟩ := id hT1k
  have hm1 := hks _ hm1k
  have K1 := K1k.mono hks
  have hDd : D ≠ d1 := Nat.ne_of_gt (l1 _ hm1)
  have S0 : TabS PySem.Challenge.rw_id0005_01.row.prog w o₀ [] := TabS.ofEmpty hi
  with_unfolding_all refine' iter_tabItems (d := d1) (xs := xs1) (tab := tab1) (fun i m₁ nx => (∀ p ∈ [(Str.ofString "new_callers", Value.ref D), (Str.ofString "source", Value.ref d2)], m₁ p.1 = some p.2) ∧ ∃ o', nx = (D, o') :: news ∧ TabS PySem.Challenge.rw_id0005_01.row.prog w o' (xs1.take i)) (by rfl) F2 N2 hV (.tail _ hm1) S1 R1 ?hj ?_ ?_
  case hj => exact ⟨by kst_all, o₀, rfl, by rw [List.take_zero]; exact S0⟩
  · clear F2 N2 hV lF' N1 hs fs hi fi S0
    rintro i n ka c t T₁ m₁ news₁ h9 tk9 own hx ht ⟨hms, o', rfl, So⟩ hap hTup F₁ N₁
    have hr : ∀ p ∈ own ++ news, p.1 ≠ D := fun p hp => by
      rcases List.mem_append.mp hp with hp | hp
      · exact hap _ (.head _) hDd p hp
      · exact Nat.ne_of_lt (l1 p hp)
    have kNews := news_out N₁
    have kFr := fr_with2 _ F₁ hms
    clear F₁ N₁
    dsimp only [kstB] at kFr
    obtain ⟨ok, hka, hko⟩ := K1 _ (List.mem_of_getElem? hx)
    replace hka : (ka, ok) ∈ own ++ news := List.mem_append.mpr (.inr hka)
    have hk : KeysIn (own ++ news) (xs1.take i) := fun x hx => K1.mono (fun p hp => List.mem_append.mpr (.inr hp)) x (List.mem_of_mem_take hx)
    have hz1 : (xs1.take i).length ≤ 1000 := by rw [List.length_take, R1.length]; omega
    (try k_fold)
    k_steps
    (rename Fr _ _ _ _ => lF'); (rename News _ _ _ _ => lN'); (rename TabS _ _ _ (storedH _ _ _ _) => lS')
    rw [storedH_take (let ⟨_, _, _, _, _, z⟩ := S1; z) hx] at lS'
    exact ⟨_, _, _, (D, _) :: news, rfl, lF', news_in lN', rfl, by kst_all, _, rfl, lS'⟩
  · clear F2 N2 hV lF' N1 hs fs hi fi S0
    rintro m₁ news₁ h9 tk9 ⟨hms, o', rfl, So⟩ F₁ N₁
    rw [← R1.length, List.take_length] at So
    have kFr := fr_with2 _ F₁ hms
    clear F₁
    dsimp only [kstB] at kFr
    (try k_fold)
    k_steps
    refine ⟨?_⟩
    (rename Fr _ _ _ _ => lF')
    with_unfolding_all refine' For_turns lF' ?_
    k_steps
    refine ⟨?_⟩
    (rename Fr _ _ _ _ => lF2); (rename News _ _ _ _ => lN2); (rename Heap.IsItemsView _ _ _ => lV2)
    obtain ⟨lo2, o2, xs2, hm2k, S2, K2k, R2⟩ := id hT2k
    have hm2 := hks _ hm2k
    have K2 := K2k.mono hks
    have hDd2 : D ≠ d2 := Nat.ne_of_gt (l1 _ hm2)
    with_unfolding_all refine' iter_tabItems (d := d2) (xs := xs2) (tab := tab2) (fun i m₁ nx => (∀ p ∈ [(Str.ofString "new_callers", Value.ref D)], m₁ p.1 = some p.2) ∧ ∃ o' ys, nx = (D, o') :: news ∧ TabS PySem.Challenge.rw_id0005_01.row.prog w o' ys ∧ KeysIn ks ys ∧ TabRel ys (mergeTab tab1 (tab2.take i))) (by rfl) lF2 lN2 lV2 (.tail _ hm2) S2 R2 ?hj ?_ ?_
    case hj => exact ⟨by kst_all, _, _, rfl, So, K1k, by rw [List.take_zero]; exact R1⟩
    · clear lF2 lN2 lV2 lF'
      rintro i n ka c t T₁ m₁ news₁ h9 tk9 own hx ht ⟨hms, o', ys, rfl, So, Ko, Ro⟩ hap hTup F₁ N₁
      have hr : ∀ p ∈ own ++ news, p.1 ≠ D := fun p hp => by
        rcases List.mem_append.mp hp with hp | hp
        · exact hap _ (.head _) hDd2 p hp
        · exact Nat.ne_of_lt (l1 p hp)
      have kNews := news_out N₁
      have kFr := fr_with2 _ F₁ hms
      clear F₁ N₁
      dsimp only [kstB] at kFr
      obtain ⟨ok, hkn, hko⟩ := K2k _ (List.mem_of_getElem? hx)
      have hka : (ka, ok) ∈ own ++ news := List.mem_append.mpr (.inr (hks _ hkn))
      have hk : KeysIn (own ++ news) ys := Ko.mono fun p hp => List.mem_append.mpr (.inr (hks _ hp))
      have hz1 : ys.length ≤ 1000 := by
        have q1 := mergeTab_length tab1 (tab2.take i)
        have q2 := List.length_take_le i tab2
        have q3 : (tab2.take i).length ≤ tab2.length := by rw [List.length_take]; omega
        rw [Ro.length]; omega
      have hTD : TabL PySem.Challenge.rw_id0005_01.row.prog w ((D, o') :: (own ++ news)) D (mergeTab tab1 (tab2.take i)) := ⟨lo, o', ys, .head _, So, hk.mono fun p hp => .tail _ hp, Ro⟩
      have hs2 := mergeTab_succ (t1 := tab1) ht
      cases hq : tabGet (mergeTab tab1 (tab2.take i)) n with
      | none =>
        rw [hq] at hs2
        (try k_fold)
        k_steps
        (rename Fr _ _ _ _ => lF'); (rename News _ _ _ _ => lN'); (rename TabS _ _ _ (storedH _ _ _ _) => lS')
        exact ⟨_, _, _, (D, _) :: news, rfl, lF', news_in lN', rfl, by kst_all, _, _, rfl, lS', Ko.stored hkn hko, by rw [hs2]; exact Ro.stored _ _ _ _⟩
      | some v =>
        rw [hq] at hs2
        (try k_fold)
        k_steps
        (rename Fr _ _ _ _ => lF'); (rename News _ _ _ _ => lN'); (rename TabS _ _ _ (storedH _ _ _ _) => lS')
        exact ⟨_, _, _, (D, _) :: news, rfl, lF', news_in lN', rfl, by kst_all, _, _, rfl, lS', Ko.stored hkn hko, by rw [hs2]; exact Ro.stored _ _ _ _⟩
    · clear lF2 lN2 lV2 lF'
      rintro m₁ news₁ h9 tk9 ⟨hms, o', ys, rfl, So, Ko, Ro⟩ F₁ N₁
      rw [List.take_length] at Ro
      have kFr := fr_with2 _ F₁ hms
      clear F₁
      dsimp only [kstB] at kFr
      (try k_fold)
      k_steps
      exact hret D o' _ _ (by assumption) (by assumption) l1 ⟨lo, o', ys, .head _, So, Ko.mono fun p hp => .tail _ hp, Ro⟩
end Mine

/-! part E1 -/
namespace Mine
open PySem PySem.W PyProof.Rows PySem.Calls

section
variable {prog : Program} {w : World} {A : Around} {E : Value → Shared → Prop} {s : Shared} {env : Env} {h₀ : Heap} {L : Addr} {m : Str → Option Value}

def KeysP (tab : List (Int × Int)) (news : List (Addr × Obj)) (i : Nat) (v : Value) : Prop := ∃ n c ka ok, tab[i]? = some (n, c) ∧ v = .ref ka ∧ (ka, ok) ∈ news ∧ KeyObj n ok

def KeysSrc (prog : Program) (w : World) (A : Around) (h₀ : Heap) (L : Addr) (m : Str → Option Value) (env : Env) (elt : Expr) (x : Str) (scope : Scope) (cl : List (Str × Addr)) (Q : Value → Shared → Prop) (xv : Value) (s₁ : Shared) : Prop :=
  ∃ d tab news, xv = .ref d ∧ A.handled = none ∧ Fr h₀ L s₁.heap m ∧ News h₀ L s₁.heap news ∧ TabL prog w news d tab ∧ tab.length ≤ sizeLine ∧
    ∀ g, LCg.CompRest prog w A h₀ L m env elt x scope cl { s₁ with heap := g } (fun nw => ∀ p ∈ news, p ∈ nw) (KeysP tab news) (LCg.FinE h₀ L m { s₁ with heap := g } Q) tab.length 0 [] news

theorem KeysSrc.intro {elt : Expr} {x : Str} {scope : Scope} {cl : List (Str × Addr)} {Q : Value → Shared → Prop} {s₁ : Shared} {d : Addr} {tab : List (Int × Int)} {news : List (Addr × Obj)} (hh : A.handled = none) (F : Fr h₀ L s₁.heap m) (N : News h₀ L s₁.heap news) (T : TabL prog w news d tab) (hz : tab.length ≤ sizeLine)
    (h : ∀ g, LCg.CompRest prog w A h₀ L m env elt x scope cl { s₁ with heap := g } (fun nw => ∀ p ∈ news, p ∈ nw) (KeysP tab news) (LCg.FinE h₀ L m { s₁ with heap := g } Q) tab.length 0 [] news) :
    KeysSrc prog w A h₀ L m env elt x scope cl Q (.ref d) s₁ := ⟨d, tab, news, rfl, hh, F, N, T, hz, h⟩

theorem ListComp_keys {elt iter : Expr} {x : Str} {px : Pos} {scope : Scope} {cl : List (Str × Addr)} {pos : Pos} {Q : Value → Shared → Prop} (_ : Fr h₀ L s.heap m)
    (hclos : closureFor scope env = pure cl) (hcell : ∀ y ∈ scope.names, y.2 ≠ .cell) (hkind : scope.kind = .function)
    (hnames : ∀ y ∈ scope.names, y.2 = .local → scope.names.lookup y.1 = some .local) (hx : scope.names.lookup x = some .local)
    (h : wpAny (model prog w) A (eval iter env) (KeysSrc prog w A h₀ L m env elt x scope cl Q) E s)
    (hs : ∀ x, foldedSetIterable iter env x = pure x := by intro _; rfl) :
    wpAny (model prog w) A (eval (.ListComp elt [⟨.Name x px, iter, [], 0⟩] scope pos) env) Q E s := by
  rw [eval_ListComp]
  refine wpAny_comprehension_free (use := none) rfl hs hclos hkind hnames (wpAny_mono h (fun xv s₁ h₁ => ?_) fun _ _ e => e)
  obtain ⟨d, tab, news, rfl, hh, F, N, T, hsz, R⟩ := h₁
  obtain ⟨lo, o, xs, hm, S, K, TR⟩ := T
  obtain ⟨es, ep, hr, he⟩ := S.raw (N _ hm).1
  have hne : d ≠ s₁.heap.objs.size := Nat.ne_of_lt hr.lt
  have hlen : es.size = tab.length := by rw [← Array.length_toList, he, List.length_map, TR.length]
  refine raw_iter_keys lo hr ?_
  rw [hlen]
  have up : ∀ b o', s₁.heap.get? b = some o' → (s₁.heap.push { cls := .type "dict_keyiterator", data := .fields #[.ref d, .int 0 0, .int tab.length 0, .int ep 0] }).get? b = some o' := fun b o' e => Heap.get?_push_of_some _ e
  have W := walks_keys (prog := prog) (w := w) (es := es) (ep := ep) hh s₁.heap.objs.size hne
  rw [hlen] at W
  have hPP : ∀ i v, (∃ e, es[i]? = some e ∧ v = e.key) → KeysP tab news i v := by
    rintro i v ⟨e, hx, rfl⟩
    have hx' : (xs.map (entryOfKey (numKind prog w)))[i]? = some e := by rw [← he]; simpa using hx
    rw [List.getElem?_map, Option.map_eq_some_iff] at hx'
    obtain ⟨y, hy, rfl⟩ := hx'
    obtain ⟨c, t, _, ht⟩ := TR.get hy
    obtain ⟨ok, hk, hko⟩ := K y (List.mem_of_getElem? hy)
    exact ⟨y.1, c, y.2.1, ok, ht, rfl, hk, hko⟩
  have W2 : Walks prog w A s₁.heap.objs.size [s₁.heap.objs.size, d] [s₁.heap.objs.size] tab.length (KeysP tab news) (fun i h => RawIter "dict_keyiterator" h s₁.heap.objs.size d i tab.length ep ∧ RawAt h d es ep) :=
    { sub := W.sub, frame := W.frame, done := W.done, self := W.self,
      item := fun i s Q E hi st hQ => W.item i s Q E hi st fun v h' tk hP hst hk => hQ v h' tk (hPP i v hP) hst hk }
  refine LCg.block_U (S := fun nw => ∀ p ∈ news, p ∈ nw) W2 hsz (fun i h st => by obtain ⟨o, e, _⟩ := st.1; exact ⟨o, e⟩) ?_ hcell hkind hx
    ⟨⟨_, Heap.get?_push_size _ rfl, rfl, rfl⟩, hr.to fun o e => up _ _ e⟩ (fun b hb => ?_)
    (F.keeps up) (N.grown up) (Nat.ne_of_lt F.ns.lt) (next_is_new F) (fun p hp => Nat.ne_of_lt (Heap.lt_size (N p hp).1)) (fun p hp => hp) (R _) ?_
  · rintro i h h' o' nw ⟨⟨o'', e'', r⟩, hr'⟩ e e' k N' hS
    rw [e] at e''; cases e''
    refine ⟨⟨o', e', r⟩, ?_⟩
    obtain ⟨od, hod, q⟩ := hr
    have hd := (N _ hm).1
    rw [hod] at hd; cases hd
    exact ⟨_, (N' _ (hS _ hm)).1, q⟩
  · show b < (s₁.heap.push _).objs.size
    rw [Heap.size_push]
    rcases List.mem_cons.mp hb with rfl | hb
    · exact Nat.lt_succ_self _
    · rw [List.mem_singleton.mp hb]; exact Nat.lt_succ_of_lt hr.lt
  · intro D C h' tk m' ys news' F' N' o1 hn hC₀ hD₀ hCL hDL hCD offC fin
    refine ⟨m', hn, fun h'' hs'' => fin D h'' tk (F'.change hs'' hCL hC₀) (fun p hp => ?_) o1⟩
    refine ⟨hs''.extBut _ _ ?_ (N' p hp).1, (N' p hp).2⟩
    rcases List.mem_cons.mp hp with rfl | hp
    · exact Ne.symm hCD
    · exact offC p hp

theorem keys_rest {elt : Expr} {x : Str} {scope : Scope} {cl : List (Str × Addr)} {news : List (Addr × Obj)} {tab : List (Int × Int)} {S : List (Addr × Obj) → Prop} {Fin : List Value → List (Addr × Obj) → Prop}
    (turn : ∀ n ka ok I oI C oC D m₂ ys h tk (E' : Value → Shared → Prop), (ka, ok) ∈ news → KeyObj n ok → LCg.NsObj oC m₂ → m₂ x = some (.ref ka) → Fr h₀ L h m → News h₀ L h ((I, oI) :: (C, oC) :: (D, LCg.lst ys) :: news) → LCg.Off3 I C D news → ((@Ne Nat I C) ∧ (@Ne Nat I D) ∧ (@Ne Nat C D)) →
      wpAny (model prog w) A (eval elt (compEnvC scope cl C env)) (LCg.CompEnd h₀ L m { s with heap := h, toks := tk } I oI C oC D (LCg.lst ys) S (fun y news' => KCfEl news n y news')) E' { s with heap := h, toks := tk })
    (fin : ∀ ys, IntsAre ys (tab.map (·.1)) → Fin ys news) : LCg.CompRest prog w A h₀ L m env elt x scope cl s S (KeysP tab news) Fin tab.length 0 [] news := by
  have key : ∀ (j i : Nat) (ys : List Value), i + j = tab.length → IntsAre ys ((tab.take i).map (·.1)) → LCg.CompRest prog w A h₀ L m env elt x scope cl s S (KeysP tab news) Fin j i ys news := by
    intro j
    induction j with
    | zero =>
      intro i ys hi hy
      have e : i = tab.length := by omega
      subst e
      rw [List.take_length] at hy
      exact LCg.CompRest.zero (fin ys hy)
    | succ j ih =>
      intro i ys hi hy
      refine LCg.CompRest.succ ?_
      intro v I oI C oC D m₂ h tk E' hv hC hx F N off ne
      obtain ⟨n, c, ka, ok, ht, rfl, hk, hko⟩ := hv
      refine wpAny_mono (turn n ka ok I oI C oC D m₂ ys h tk E' hk hko hC hx F N off ne) (fun y s₂ hq => ?_) fun _ _ e => e
      obtain ⟨h', tk', nw, e, F', N', off', hS, hn, t', hy'⟩ := hq
      rw [hn] at N' off' hS
      refine ⟨h', tk', news, e, F', N', off', hS, ?_⟩
      rw [hy']
      refine ih (i + 1) _ (by omega) ?_
      rw [List.take_add_one, ht]
      simpa using IntsAre.append hy (.cons n t' .nil)
  exact key tab.length 0 [] (by omega) (by simp only [List.take_zero, List.map_nil]; exact .nil)

/-- the word's number: word[1] in a comprehension -/
theorem word_elt {x : Str} {px pc ps : Pos} {k : Nat} {scope : Scope} {cl : List (Str × Addr)} {C I D : Addr} {oI oC ok : Obj} {ys : List Value} {m₂ : Str → Option Value} {n : Int} {ka : Addr} {news : List (Addr × Obj)} {S : List (Addr × Obj) → Prop} {h : Heap} {tk : Nat} {s₀ : Shared}
    (hkf : (compEnvC scope cl C env).scope.kind = .function) (hl : (compEnvC scope cl C env).kindOf x = some .local) (hd : (x == ("__debug__" : Str)) = false) (hloc : (compEnvC scope cl C env).locals = C)
    (hka : (ka, ok) ∈ news) (hko : KeyObj n ok) (hC : LCg.NsObj oC m₂) (hx : m₂ x = some (.ref ka)) (F : Fr h₀ L h m) (N : News h₀ L h ((I, oI) :: (C, oC) :: (D, LCg.lst ys) :: news)) (off : LCg.Off3 I C D news) (hS : S news) :
    wpAny (model prog w) A (eval (.Subscript (.Name x px) (.Constant (.int 1) k pc) ps) (compEnvC scope cl C env)) (LCg.CompEnd h₀ L m { s₀ with heap := h, toks := tk } I oI C oC D (LCg.lst ys) S (fun y news' => KCfEl news n y news')) E { s₀ with heap := h, toks := tk } := by
  obtain ⟨t1, t2, t3, k3, rfl⟩ := hko
  have hn : h.Ns C m₂ := hC.ns (N _ (.tail _ (.head _))).1
  refine Subscript_ (ldVarK (s := { s₀ with heap := h, toks := tk }) (by rw [hloc]; exact hn) hx ?_ hkf hl hd)
  refine fun _ _ _ => ?_
  have hT : IsTup h ka #[.str (Str.ofString "of") t1, .int n t2, .str (Str.ofString "row") t3] := ⟨_, (N _ (.tail _ (.tail _ (.tail _ hka)))).1, rfl, _, rfl⟩
  refine item_tuple (j := 1) (x := .int n t2) hT (by decide) (by decide) rfl rfl ?_
  exact ⟨h, _, news, rfl, F, N, off, hS, rfl, t2, rfl⟩

/-- k * row[k - 1] in a comprehension -/
theorem mul_elt {x y : Str} {p1 p2 p3 p4 p5 p6 p7 : Pos} {kk : Nat} {scope : Scope} {cl : List (Str × Addr)} {C I D c l : Addr} {oI oC oc : Obj} {ys vs : List Value} {ns : List Int} {nn : Nat} {m₂ : Str → Option Value} {n : Int} {t : Tok} {news : List (Addr × Obj)} {S : List (Addr × Obj) → Prop} {h : Heap} {tk : Nat} {s₀ : Shared}
    (hkf : (compEnvC scope cl C env).scope.kind = .function) (hl : (compEnvC scope cl C env).kindOf x = some .local) (hd : (x == ("__debug__" : Str)) = false) (hloc : (compEnvC scope cl C env).locals = C)
    (hly : (compEnvC scope cl C env).kindOf y = some .cell) (hdy : (y == ("__debug__" : Str)) = false) (hcl : cl.lookup y = some c)
    (hc : (c, oc) ∈ news) (hcd : oc.data = .cell (some (.ref l))) (hml : (l, PySem.W.listOf vs.toArray nn) ∈ news) (hi : IntsAre vs ns) (h1 : 1 ≤ n) (h2 : n - 1 < (ns.length : Int)) (h3 : (ns.length : Int) < 2 ^ 62)
    (hC : LCg.NsObj oC m₂) (hx : m₂ x = some (.int n t)) (F : Fr h₀ L h m) (N : News h₀ L h ((I, oI) :: (C, oC) :: (D, LCg.lst ys) :: news)) (off : LCg.Off3 I C D news) (hS : S news) :
    wpAny (model prog w) A (eval (.BinOp (.Name x p1) .Mult (.Subscript (.Name y p2) (.BinOp (.Name x p3) .Sub (.Constant (.int 1) kk p4) p5) p6) p7) (compEnvC scope cl C env)) (LCg.CompEnd h₀ L m { s₀ with heap := h, toks := tk } I oI C oC D (LCg.lst ys) S (fun v news' => KCfEl news (n * ns.getD (n - 1).toNat 0) v news')) E { s₀ with heap := h, toks := tk } := by
  have hn : h.Ns C m₂ := hC.ns (N _ (.tail _ (.head _))).1
  have N3 : News h₀ L h news := fun q hq => N q (.tail _ (.tail _ (.tail _ hq)))
  have hL : h.IsList l vs.toArray := ⟨_, (N3 _ hml).1, rfl, _, rfl⟩
  refine wpAny_BinOp (ldVarK (s := { s₀ with heap := h, toks := tk }) (by rw [hloc]; exact hn) hx ?_ hkf hl hd)
  refine Subscript_ (kcf_cell (s := { s₀ with heap := h, toks := tk }) N3 hcl hc hcd ?_ hkf hly hdy)
  refine wpAny_BinOp (ldVarK (s := { s₀ with heap := h, toks := tk }) (by rw [hloc]; exact hn) hx ?_ hkf hl hd)
  refine fun _ _ _ => ?_
  refine sub_int ?_
  refine item_anyK (s := { s₀ with heap := h, toks := tk + 1 + 1 }) hL hi (by omega) h2 (by omega) (fun t' => ?_)
  refine mul_int ?_
  exact ⟨h, _, news, rfl, F, N, off, hS, rfl, _, rfl⟩
end
end Mine

/-! part E2 -/
namespace Mine
open PySem PySem.W PyProof.Rows PySem.Calls
/-- a statement that goes on, whatever it does inside -/
def CutP (h₀ : Heap) (L : Addr) (m : Str → Option Value) (news : List (Addr × Obj)) (s : Shared) (f : Flow) (s' : Shared) : Prop := f = .next ∧ ∃ h tk, s' = { s with heap := h, toks := tk } ∧ Fr h₀ L h m ∧ News h₀ L h news
theorem cut_next {M : Model} {A : Around} {E : Value → Shared → Prop} {s : Shared} {h₀ : Heap} {L : Addr} {m : Str → Option Value} {news : List (Addr × Obj)} {t : Sem Flow} {Q : Flow → Shared → Prop} (_ : Fr h₀ L s.heap m) (_ : News h₀ L s.heap news)
    (walk : wpAny M A t (CutP h₀ L m news s) E s) (cont : ∀ h tk, Fr h₀ L h m → News h₀ L h news → Q .next { s with heap := h, toks := tk }) : wpAny M A t Q E s :=
  wpAny_mono walk (fun _ _ ⟨e, h, tk, e', F, N⟩ => by subst e; subst e'; exact cont h tk F N) fun _ _ e => e
theorem cut_end {s : Shared} {h₀ h : Heap} {L : Addr} {m : Str → Option Value} {news : List (Addr × Obj)} {tk : Nat} (F : Fr h₀ L h m) (N : News h₀ L h news) : CutP h₀ L m news s .next { s with heap := h, toks := tk } := ⟨rfl, h, tk, rfl, F, N⟩
end Mine

/-! part E3 -/
namespace Mine
open PySem PySem.W PyProof.Rows PySem.Calls

section
variable {prog : Program} {w : World} {A : Around} {E : Value → Shared → Prop} {s : Shared} {env : Env} {h₀ : Heap} {L : Addr} {m : Str → Option Value}

/-- a comprehension's loop whose one test never holds -/
theorem none_loop {ct elt target iter : Expr} {scope : Scope} {pos : Pos} {it acc : Value} {env : Env} {R : Result → Shared → Prop} (I : Nat → Shared → Prop)
    (turn : ∀ n s, I n s → wpAny (model prog w) A (pyNext it) (fun r s₁ => match r with
      | none => R (.ok .next) s₁
      | some v => wpAny (model prog w) A (letOwnedTupleGo target it v) (fun _ s₀ => wpAny (model prog w) A (assign target env v) (fun _ s₂ =>
          wpAny (model prog w) A (isTrue ct env (eval ct env)) (fun ok s₃ => ok = false ∧ ∃ m, m < n ∧ I m s₃) (notedBy (model prog w) A env fun e s' => R (.error e) s') s₂)
          (notedBy (model prog w) A env fun e s' => R (.error e) s') s₀) (notedBy (model prog w) A env fun e s' => R (.error e) s') s₁) (notedBy (model prog w) A env fun e s' => R (.error e) s') s)
    (n : Nat) (h : I n s) : codeAny (model prog w) A (.compLoop (.ListComp elt [⟨target, iter, [ct], 0⟩] scope pos) 0 it acc env) R s := by
  refine codeAny_loop rfl I (fun n s hI => ?_) n h
  show wpAny _ A ((compTurn (.ListComp elt [⟨target, iter, [ct], 0⟩] scope pos) 0 it acc env).onRaise (fun x => do noteFrame x env; theTreesLotGoes x)) _ _ s
  refine wpAny_noted ?_
  rw [compTurn_list]
  refine wpAny_bind (wpAny_standAt (wpAny_bind (wpAny_mono (turn n s hI) (fun r s₁ h₁ => ?_) fun _ _ h' => h')))
  cases r with
  | none => exact wpAny_pure h₁
  | some v =>
    refine wpAny_bind (wpAny_mono h₁ (fun _ s₀ h₀' => ?_) fun _ _ h' => h')
    refine wpAny_bind (wpAny_mono h₀' (fun _ s₂ h₂ => ?_) fun _ _ h' => h')
    refine wpAny_bind (wpAny_tests_one (wpAny_mono h₂ (fun ok s₃ h₃ => ?_) fun _ _ h' => h'))
    obtain ⟨rfl, h₃⟩ := h₃
    exact wpAny_pure ⟨rfl, h₃⟩

def PairTest (prog : Program) (w : World) (A : Around) (h₀ : Heap) (L : Addr) (m : Str → Option Value) (env : Env) (ct : Expr) (a b : Str) (scope : Scope) (cl : List (Str × Addr)) (s : Shared) (tab : List (Int × Int)) (news : List (Addr × Obj)) : Prop :=
  ∀ n c ka ok t I oI C oC D m₂ h tk (E' : Value → Shared → Prop), (n, c) ∈ tab → (ka, ok) ∈ news → KeyObj n ok → LCg.NsObj oC m₂ → m₂ a = some (.ref ka) → m₂ b = some (.int c t) → Fr h₀ L h m → News h₀ L h ((I, oI) :: (C, oC) :: (D, LCg.lst []) :: news) →
    wpAny (model prog w) A (isTrue ct (compEnvC scope cl C env) (eval ct (compEnvC scope cl C env))) (fun ok s' => ok = false ∧ ∃ tk', s' = { s with heap := h, toks := tk' }) E' { s with heap := h, toks := tk }

theorem none_block {ct elt iter : Expr} {a b : Str} {pa pb tp : Pos} {kk : Nat} {scope : Scope} {cl : List (Str × Addr)} {pos : Pos} {s₂ : Shared} {I d : Addr} {od : Obj} {ok ov : Value} {es : Array DictEntry} {ep : Nat} {xs : List (Int × Addr × Value)} {tab : List (Int × Int)} {news : List (Addr × Obj)} {RR : Value → Addr → Result → Shared → Prop}
    (hh : A.handled = none) (hne : d ≠ I) (hmd : (d, od) ∈ news) (hr : RawAt s₂.heap d es ep) (he : es.toList = xs.map (entryOfKey (numKind prog w))) (K : KeysIn news xs) (TR : TabRel xs tab)
    (hit : IsItemIter s₂.heap I d 0 es.size ep ok ov)
    (hcell : ∀ y ∈ scope.names, y.2 ≠ .cell) (hkind : scope.kind = .function) (hxa : scope.names.lookup a = some .local) (hxb : scope.names.lookup b = some .local) (hab : ¬ a = b)
    (F : Fr h₀ L s₂.heap m) (N : News h₀ L s₂.heap news) (hIL : L ≠ I) (hI₀ : h₀.get? I = none) (off : ∀ p ∈ news, p.1 ≠ I)
    (T : PairTest prog w A h₀ L m env ct a b scope cl s₂ tab news)
    (hRR : ∀ D C h tk m', Fr h₀ L h m → News h₀ L h ((D, LCg.lst []) :: news) → h.Ns C m' → h₀.get? C = none → C ≠ L → C ≠ D → (∀ p ∈ news, p.1 ≠ C) → RR (.ref D) C (.ok .next) { s₂ with heap := h, toks := tk }) :
    wpAny (model prog w) A (newList []) (fun acc s₃ => wpAny (model prog w) A (newFunctionEnv scope env.globals cl [] env.qual none .none (some env)) (fun cenv s₄ =>
      codeAny (model prog w) A (.compStart (.ListComp elt [⟨.Tuple [.Name a pa, .Name b pb] kk tp, iter, [ct], 0⟩] scope pos) 0 (.ref I) acc { cenv with scope := relabel scope env }) (RR acc cenv.locals) s₄) E s₃) E s₂ := by
  refine wpAny_newObj_type (wpAny_newFunctionEnv hcell (by intro y hy; simp at hy) (fun h₁ hns₁ hsb₁ => ?_) hkind)
  dsimp only at hns₁ hsb₁ ⊢
  generalize hH2 : s₂.heap.push { cls := .type "list", dict := none, data := .seq ([] : List Value).toArray } = H2 at hns₁ hsb₁ ⊢
  have hC : H2.objs.size = s₂.heap.objs.size + 1 := by rw [← hH2, Heap.size_push]
  have hDC : s₂.heap.objs.size ≠ H2.objs.size := by rw [hC]; exact Nat.ne_of_lt (Nat.lt_succ_self _)
  have below : ∀ b, b < s₂.heap.objs.size → b ≠ H2.objs.size ∧ b ≠ s₂.heap.objs.size := fun b hb => ⟨by rw [hC]; exact Nat.ne_of_lt (Nat.lt_succ_of_lt hb), Nat.ne_of_lt hb⟩
  have hIlt : I < s₂.heap.objs.size := Heap.lt_size hit
  have old : ∀ b o, s₂.heap.get? b = some o → h₁.get? b = some o := fun b o e => hsb₁.extBut b o (below b (Heap.lt_size e)).1 (Heap.get?_push_of_some _ (hH2 ▸ Heap.get?_push_of_some _ e))
  have hacc : h₁.get? s₂.heap.objs.size = some (LCg.lst []) := hsb₁.extBut _ _ hDC (Heap.get?_push_of_some _ (hH2 ▸ Heap.get?_push_size _ rfl))
  have hit₁ : IsItemIter h₁ I d 0 es.size ep ok ov := old _ _ hit
  have fresh₀ : ∀ a, s₂.heap.objs.size ≤ a → h₀.get? a = none := fun a ha => by
    cases e : h₀.get? a with
    | none => rfl
    | some o' => exact absurd (Heap.lt_size (F.keep a o' e)) (Nat.not_lt.mpr ha)
  have hD₀ : h₀.get? s₂.heap.objs.size = none := fresh₀ _ (Nat.le_refl _)
  have hC₀ : h₀.get? H2.objs.size = none := fresh₀ _ (by rw [hC]; exact Nat.le_succ _)
  have hLlt : L < s₂.heap.objs.size := F.ns.lt
  have hDL : s₂.heap.objs.size ≠ L := Ne.symm (below L hLlt).2
  have hCL : H2.objs.size ≠ L := Ne.symm (below L hLlt).1
  have hCI : I ≠ H2.objs.size := (below I hIlt).1
  have hDI : I ≠ s₂.heap.objs.size := (below I hIlt).2
  have off₀ : ∀ p ∈ news, p.1 ≠ I ∧ p.1 ≠ H2.objs.size ∧ p.1 ≠ s₂.heap.objs.size := fun p hp => ⟨off p hp, (below _ (Heap.lt_size (N p hp).1)).1, (below _ (Heap.lt_size (N p hp).1)).2⟩
  have W := turns_items (prog := prog) (w := w) (A := A) (elts := [.Name a pa, .Name b pb]) (kk := kk) (pos := tp) (d := d) (es := es) (ep := ep) hh I hne
  have hrd : ∀ h, News h₀ L h news → RawAt h d es ep := fun h N' => by
    obtain ⟨o, ho, q⟩ := hr
    have hd := (N _ hmd).1
    rw [ho] at hd; cases hd
    exact ⟨_, (N' _ hmd).1, q⟩
  have loop : ∀ s₃ : Shared, s₃ = { s₂ with heap := h₁, toks := s₂.toks + ([] : List (Str × Value)).length } →
      codeAny (model prog w) A (.compLoop (.ListComp elt [⟨.Tuple [.Name a pa, .Name b pb] kk tp, iter, [ct], 0⟩] scope pos) 0 (.ref I) (.ref s₂.heap.objs.size) (compEnvC scope cl H2.objs.size env))
        (RR (.ref s₂.heap.objs.size) H2.objs.size) s₃ := by
    rintro s₃ rfl
    refine none_loop
      (fun k s' => ∃ h' tk i m', s' = { s₂ with heap := h', toks := tk } ∧ i ≤ es.size ∧ k = es.size + 1 - i ∧ (∃ ok ov, IsItemIter h' I d i es.size ep ok ov) ∧ Fr h₀ L h' m ∧ h'.Ns H2.objs.size m' ∧
        News h₀ L h' ((s₂.heap.objs.size, LCg.lst []) :: news)) ?_ (es.size + 1)
      ⟨h₁, _, 0, _, rfl, Nat.zero_le _, rfl, ⟨_, _, hit₁⟩, F.keeps old, hns₁, fun p hp => ?_⟩
    · rintro k s' ⟨h', tk, i, m', rfl, hi, rfl, hit', F', hn', N'⟩
      have Nn : News h₀ L h' news := fun p hp => N' p (List.mem_cons_of_mem _ hp)
      by_cases hlt : i < es.size
      · refine W.item i _ _ _ hlt ⟨hit', hrd _ Nn⟩ fun v h₂ tk₂ hMd hk₂ => ?_
        refine W.go i v _ _ _ hMd fun h₃ hP hst₃ hk₃ => ?_
        obtain ⟨T', e, rfl, hx, hT⟩ := hP
        have hx' : (xs.map (entryOfKey (numKind prog w)))[i]? = some e := by rw [← he]; simpa using hx
        rw [List.getElem?_map, Option.map_eq_some_iff] at hx'
        obtain ⟨y, hy, rfl⟩ := hx'
        obtain ⟨c, t, hv, ht⟩ := TR.get hy
        obtain ⟨ok', hk, hko⟩ := K y (List.mem_of_getElem? hy)
        obtain ⟨n, ka, v'⟩ := y
        dsimp only at hv ht hk hko
        subst hv
        replace hT : h₃.IsTuple T' #[.ref ka, .int c t] := hT
        have up₃ : ∀ c o, c ≠ I → h'.get? c = some o → h₃.get? c = some o := fun c o hc e => hk₃ c o (by simpa using hc) (hk₂ c o (by simpa using hc) e)
        refine kcp_assign (env := compEnvC scope cl H2.objs.size env) hh hT (lookup_relabel_local hxa) (lookup_relabel_local hxb) (by simp [compEnvC, relabel, hkind]) (hn'.at' fun o e => up₃ _ o (Ne.symm hCI) e) fun h₄ tk₄ hn₄ hs₄ => ?_
        have up : ∀ c o, c ≠ I → c ≠ H2.objs.size → h'.get? c = some o → h₄.get? c = some o := fun c o h1 h2 e => hs₄ c o h2 (up₃ c o h1 e)
        obtain ⟨⟨ok₃, ov₃, hI₃⟩, _⟩ := hst₃
        have hI₄ : IsItemIter h₄ I d (i + 1) es.size ep ok₃ ov₃ := hs₄ I _ hCI hI₃
        obtain ⟨oI, heI⟩ : ∃ oI : Obj, h₄.get? I = some oI := ⟨_, hI₄⟩
        obtain ⟨oC, heC, hoC⟩ := LCg.ns_obj hn₄
        have F₄ : Fr h₀ L h₄ m := ⟨F'.ns.at' fun o e => up _ o hIL (Ne.symm hCL) e, fun c o e => up c o (fun q => by rw [q, hI₀] at e; cases e) (fun q => by rw [q, hC₀] at e; cases e) (F'.keep c o e), F'.above⟩
        have N₄ : News h₀ L h₄ ((s₂.heap.objs.size, LCg.lst []) :: news) := fun q hq => by
          have z := N' q hq
          refine ⟨up _ _ ?_ ?_ z.1, z.2⟩
          · rcases List.mem_cons.mp hq with rfl | hq
            · exact Ne.symm hDI
            · exact (off₀ q hq).1
          · rcases List.mem_cons.mp hq with rfl | hq
            · exact hDC
            · exact (off₀ q hq).2.1
        have N₅ : News h₀ L h₄ ((I, oI) :: (H2.objs.size, oC) :: (s₂.heap.objs.size, LCg.lst []) :: news) := fun q hq => by
          rcases List.mem_cons.mp hq with rfl | hq
          · exact ⟨heI, Ne.symm hIL, hI₀⟩
          · rcases List.mem_cons.mp hq with rfl | hq
            · exact ⟨heC, hCL, hC₀⟩
            · exact N₄ q hq
        refine wpAny_mono (T n c ka ok' t I oI H2.objs.size oC s₂.heap.objs.size _ h₄ _ _ (List.mem_of_getElem? ht) hk hko hoC (by simp [hab]) (by simp) F₄ N₅) (fun okk s₅ h₅ => ?_) fun _ _ e => e
        obtain ⟨rfl, tk₅, rfl⟩ := h₅
        exact ⟨rfl, es.size + 1 - (i + 1), by omega, h₄, tk₅, i + 1, _, rfl, hlt, rfl, ⟨_, _, hI₄⟩, F₄, hn₄, N₄⟩
      · have hin : i = es.size := Nat.le_antisymm hi (Nat.not_lt.mp hlt)
        subst hin
        refine W.done _ _ _ ⟨hit', hrd _ Nn⟩ fun h₂ tk₂ hk₂ => ?_
        exact hRR _ _ h₂ tk₂ _ (LCg.fr_but F' hk₂ hIL hI₀) (LCg.news_but N' hk₂ fun p hp => by
          rcases List.mem_cons.mp hp with rfl | hp
          · exact Ne.symm hDI
          · exact (off₀ p hp).1) (hn'.at' fun o e => hk₂ _ o (by simpa using Ne.symm hCI) e) hC₀ hCL (Ne.symm hDC) (fun p hp => (off₀ p hp).2.1)
    · rcases List.mem_cons.mp hp with rfl | hp
      · exact ⟨hacc, hDL, hD₀⟩
      · exact ⟨old _ _ (N p hp).1, (N p hp).2⟩
  exact codeAny_compStart_list (loop _ rfl) (kcp_self hit₁ (loop _ rfl))

def PairSrc (prog : Program) (w : World) (A : Around) (h₀ : Heap) (L : Addr) (m : Str → Option Value) (env : Env) (ct : Expr) (a b : Str) (scope : Scope) (cl : List (Str × Addr)) (Q : Value → Shared → Prop) (xv : Value) (s₁ : Shared) : Prop :=
  ∃ vw d tab news, xv = .ref vw ∧ A.handled = none ∧ Fr h₀ L s₁.heap m ∧ News h₀ L s₁.heap news ∧ s₁.heap.IsItemsView vw d ∧ TabL prog w news d tab ∧ (∀ g, PairTest prog w A h₀ L m env ct a b scope cl { s₁ with heap := g } tab news) ∧
    ∀ D h tk, Fr h₀ L h m → News h₀ L h ((D, LCg.lst []) :: news) → Q (.ref D) { s₁ with heap := h, toks := tk }
theorem PairSrc.intro {ct : Expr} {a b : Str} {scope : Scope} {cl : List (Str × Addr)} {Q : Value → Shared → Prop} {s₁ : Shared} {vw d : Addr} {tab : List (Int × Int)} {news : List (Addr × Obj)} (hh : A.handled = none) (F : Fr h₀ L s₁.heap m) (N : News h₀ L s₁.heap news) (V : s₁.heap.IsItemsView vw d) (T : TabL prog w news d tab)
    (h1 : ∀ g, PairTest prog w A h₀ L m env ct a b scope cl { s₁ with heap := g } tab news) (h2 : ∀ D h tk, Fr h₀ L h m → News h₀ L h ((D, LCg.lst []) :: news) → Q (.ref D) { s₁ with heap := h, toks := tk }) :
    PairSrc prog w A h₀ L m env ct a b scope cl Q (.ref vw) s₁ := ⟨vw, d, tab, news, rfl, hh, F, N, V, T, h1, h2⟩

theorem ListComp_none {ct elt iter : Expr} {a b : Str} {pa pb tp : Pos} {kk : Nat} {scope : Scope} {cl : List (Str × Addr)} {pos : Pos} {Q : Value → Shared → Prop} (_ : Fr h₀ L s.heap m)
    (hclos : closureFor scope env = pure cl) (hcell : ∀ y ∈ scope.names, y.2 ≠ .cell) (hkind : scope.kind = .function)
    (hnames : ∀ y ∈ scope.names, y.2 = .local → scope.names.lookup y.1 = some .local) (hxa : scope.names.lookup a = some .local) (hxb : scope.names.lookup b = some .local) (hab : ¬ a = b)
    (h : wpAny (model prog w) A (eval iter env) (PairSrc prog w A h₀ L m env ct a b scope cl Q) E s)
    (hs : ∀ x, foldedSetIterable iter env x = pure x := by intro _; rfl) :
    wpAny (model prog w) A (eval (.ListComp elt [⟨.Tuple [.Name a pa, .Name b pb] kk tp, iter, [ct], 0⟩] scope pos) env) Q E s := by
  rw [eval_ListComp]
  refine wpAny_comprehension_free (use := none) rfl hs hclos hkind hnames (wpAny_mono h (fun xv s₁ h₁ => ?_) fun _ _ e => e)
  obtain ⟨vw, d, tab, news, rfl, hh, F, N, V, ⟨lo, o, xs, hm, S, K, TR⟩, hT, hQ⟩ := h₁
  obtain ⟨es, ep, hr, he⟩ := S.raw (N _ hm).1
  refine raw_iter_items V hr ?_
  refine none_block (xs := xs) (tab := tab) hh (Nat.ne_of_lt hr.lt) hm (hr.to fun o e => Heap.get?_push_of_some _ e) he K TR (Heap.get?_push_size _ rfl) hcell hkind hxa hxb hab (F.push _)
    (fun p hp => ⟨Heap.get?_push_of_some _ (N p hp).1, (N p hp).2⟩) (Nat.ne_of_lt F.ns.lt) (next_is_new F) (fun p hp => Nat.ne_of_lt (Heap.lt_size (N p hp).1)) (hT _) ?_
  intro D C h' tk m' F' N' hn hC₀ hCL hCD offC
  refine ⟨m', hn, fun h'' hs'' => hQ D h'' tk (F'.change hs'' hCL hC₀) (fun p hp => ?_)⟩
  refine ⟨hs''.extBut _ _ ?_ (N' p hp).1, (N' p hp).2⟩
  rcases List.mem_cons.mp hp with rfl | hp
  · exact Ne.symm hCD
  · exact offC p hp

/-- often != 2 * table[word] never holds -/
theorem pair_test {a b y : Str} {p1 p2 p3 p4 p5 p6 p7 : Pos} {kk : Nat} {scope : Scope} {cl : List (Str × Addr)} {c₃ tB : Addr} {o₃ : Obj} {tab tabB : List (Int × Int)} {news : List (Addr × Obj)} (hu : A.units + 1 < cLine)
    (hkf : ∀ C, (compEnvC scope cl C env).scope.kind = .function) (hla : ∀ C, (compEnvC scope cl C env).kindOf a = some .local) (hlb : ∀ C, (compEnvC scope cl C env).kindOf b = some .local) (hda : (a == ("__debug__" : Str)) = false) (hdb : (b == ("__debug__" : Str)) = false) (hloc : ∀ C, (compEnvC scope cl C env).locals = C)
    (hly : ∀ C, (compEnvC scope cl C env).kindOf y = some .cell) (hdy : (y == ("__debug__" : Str)) = false) (hcl : cl.lookup y = some c₃) (hc : (c₃, o₃) ∈ news) (hcd : o₃.data = .cell (some (.ref tB))) (T : TabL prog w news tB tabB)
    (hall : ∀ p ∈ tab, ∃ c, tabGet tabB p.1 = some c ∧ p.2 = 2 * c) : PairTest prog w A h₀ L m env (.Compare (.Name b p1) [.NotEq] [.BinOp (.Constant (.int 2) kk p2) .Mult (.Subscript (.Name y p3) (.Name a p4) p5) p6] p7) a b scope cl s tab news := by
  intro n c ka ok t I oI C oC D m₂ h tk E' hnc hka hko hC hxa hxb F N
  obtain ⟨c', hg, e⟩ := hall _ hnc
  dsimp only at hg e
  have hn : h.Ns C m₂ := hC.ns (N _ (.tail _ (.head _))).1
  have N3 : News h₀ L h news := fun q hq => N q (.tail _ (.tail _ (.tail _ hq)))
  refine wpAny_isTrue_Compare1 (ldVarK (s := { s with heap := h, toks := tk }) (by rw [hloc]; exact hn) hxb ?_ (hkf C) (hlb C) hdb)
  refine wpAny_BinOp ?_
  refine fun _ _ _ => ?_
  refine Subscript_ (kcf_cell (s := { s with heap := h, toks := tk + 1 }) N3 hcl hc hcd ?_ (hkf C) (hly C) hdy)
  refine ldVarK (s := { s with heap := h, toks := tk + 1 }) (by rw [hloc]; exact hn) hxa ?_ (hkf C) (hla C) hda
  refine tab_item (s := { s with heap := h, toks := tk + 1 }) hu N3 T hka hko hg (fun t' => ?_)
  refine mul_int ?_
  refine ne_int ?_
  refine wpAny_truthy_bool ?_
  exact ⟨by simp [e], _, rfl⟩

def NoneEnd (h₀ : Heap) (L : Addr) (m : Str → Option Value) (s : Shared) (all : List (Addr × Obj)) (b : Bool) (s' : Shared) : Prop := b = false ∧ ∃ h' tk', s' = { s with heap := h', toks := tk' } ∧ Fr h₀ L h' m ∧ News h₀ L h' all
/-- over a range: the test never holds -/
theorem none_rest {ct elt : Expr} {x : Str} {scope : Scope} {cl : List (Str × Addr)} {n : Nat} {a : Int} {news : List (Addr × Obj)} {Fin : List Value → List (Addr × Obj) → Prop}
    (turn : ∀ i t I oI C oC D m₂ h tk (E' : Value → Shared → Prop), i < n → LCg.NsObj oC m₂ → m₂ x = some (.int (a + (i : Int)) t) → Fr h₀ L h m → News h₀ L h ((I, oI) :: (C, oC) :: (D, LCg.lst []) :: news) → LCg.Off3 I C D news → ((@Ne Nat I C) ∧ (@Ne Nat I D) ∧ (@Ne Nat C D)) →
      wpAny (model prog w) A (isTrue ct (compEnvC scope cl C env) (eval ct (compEnvC scope cl C env))) (NoneEnd h₀ L m { s with heap := h, toks := tk } ((I, oI) :: (C, oC) :: (D, LCg.lst []) :: news)) E' { s with heap := h, toks := tk })
    (fin : Fin [] news) : LCt.CompRestT prog w A h₀ L m env ct elt x scope cl s (fun _ => True) (fun i v => ∃ t, v = .int (a + (i : Int)) t) Fin n 0 [] news := by
  have key : ∀ (j i : Nat), i + j = n → LCt.CompRestT prog w A h₀ L m env ct elt x scope cl s (fun _ => True) (fun i v => ∃ t, v = .int (a + (i : Int)) t) Fin j i [] news := by
    intro j
    induction j with
    | zero =>
      intro i hi
      exact LCt.CompRestT.zero fin
    | succ j ih =>
      intro i hi
      refine LCt.CompRestT.succ ?_
      rintro v I oI C oC D m₂ h tk E' ⟨t, rfl⟩ hC hx F N off ne
      refine wpAny_mono (turn i t I oI C oC D m₂ h tk E' (by omega) hC hx F N off ne) (fun b s₂ hq => ?_) fun _ _ e => e
      obtain ⟨rfl, h', tk', rfl, F', N'⟩ := hq
      simp only [Bool.false_eq_true, if_false]
      exact ⟨h', tk', news, rfl, F', N', off, True.intro, ih (i + 1) (by omega)⟩
  exact key n 0 (by omega)
end
end Mine

/-! part E4 -/
namespace Mine
open PySem PySem.W PyProof.Rows PySem.Calls

section
variable {prog : Program} {w : World} {A : Around} {E : Value → Shared → Prop} {s : Shared} {env : Env} {h₀ : Heap} {L : Addr} {m : Str → Option Value}

/-- a call f(y, z[x]) in a comprehension: f of the top, y and z captured, x the comprehension's own -/
theorem look_call {x y z fn : Str} {q1 q2 q3 q4 q5 q6 : Pos} {scope : Scope} {cl : List (Str × Addr)} {C I D : Addr} {oI oC : Obj} {m₂ : Str → Option Value} {k : Int} {t : Tok} {news : List (Addr × Obj)} {h : Heap} {tk : Nat} {Q : Value → Shared → Prop}
    {K : Frag} {mg mb : Str → Option Value} {p : Program} {loose : List Str} {f l r cy cz : Addr} {vr : List Value} {ns : List Int} {nr : Nat} {oy oz : Obj}
    (X : K.In h₀) (T : TopRead p loose mg mb h₀) (e : nsIn K mainGlobals fn = some (some (.ref f))) (hk : keepIn K (.ref f) = true)
    (hg : (compEnvC scope cl C env).globals = mainGlobals) (hkf : (compEnvC scope cl C env).scope.kind = .function) (hfn : (compEnvC scope cl C env).kindOf fn = some .globalImplicit) (hdf : (fn == ("__debug__" : Str)) = false)
    (hl : (compEnvC scope cl C env).kindOf x = some .local) (hd : (x == ("__debug__" : Str)) = false) (hloc : (compEnvC scope cl C env).locals = C)
    (hly : (compEnvC scope cl C env).kindOf y = some .cell) (hdy : (y == ("__debug__" : Str)) = false) (hcly : cl.lookup y = some cy) (hcy : (cy, oy) ∈ news) (hcdy : oy.data = .cell (some (.ref l)))
    (hlz : (compEnvC scope cl C env).kindOf z = some .cell) (hdz : (z == ("__debug__" : Str)) = false) (hclz : cl.lookup z = some cz) (hcz : (cz, oz) ∈ news) (hcdz : oz.data = .cell (some (.ref r)))
    (hmr : (r, PySem.W.listOf vr.toArray nr) ∈ news) (hi : IntsAre vr ns) (h1 : 0 ≤ k) (h2 : k < (ns.length : Int)) (h3 : (ns.length : Int) < 2 ^ 62)
    (hC : LCg.NsObj oC m₂) (hx : m₂ x = some (.int k t)) (F : Fr h₀ L h m) (N : News h₀ L h ((I, oI) :: (C, oC) :: (D, LCg.lst []) :: news))
    (hcall : ∀ t', wpAny (model prog w) A (call (.ref f) [.ref l, .int (ns.getD k.toNat 0) t']) Q E { s with heap := h, toks := tk }) :
    wpAny (model prog w) A (eval (.Call (.Name fn q1) [.Name y q2, .Subscript (.Name z q3) (.Name x q4) q5] [] q6) (compEnvC scope cl C env)) Q E { s with heap := h, toks := tk } := by
  have hn : h.Ns C m₂ := hC.ns (N _ (.tail _ (.head _))).1
  have N3 : News h₀ L h news := fun q hq => N q (.tail _ (.tail _ (.tail _ hq)))
  have hL : h.IsList r vr.toArray := ⟨_, (N3 _ hmr).1, rfl, _, rfl⟩
  refine Call_ (nameG_K (s := { s with heap := h, toks := tk }) F X T e ?_ hg hkf hfn hdf)
  refine callWith_K X hk ?_
  refine spliced_more (kcf_cell (s := { s with heap := h, toks := tk }) N3 hcly hcy hcdy ?_ hkf hly hdy)
  refine spliced_more (Subscript_ (kcf_cell (s := { s with heap := h, toks := tk }) N3 hclz hcz hcdz ?_ hkf hlz hdz))
  refine ldVarK (s := { s with heap := h, toks := tk }) (by rw [hloc]; exact hn) hx ?_ hkf hl hd
  refine item_anyK (s := { s with heap := h, toks := tk }) hL hi h1 h2 (by omega) (fun t' => ?_)
  refine spliced_none ?_
  exact ⟨X.keeps F.keep, hcall t'⟩

/-- the last look of a place -/
theorem look_test {x y z fl fr : Str} {q1 q2 q3 q4 q5 q6 q7 q8 q9 r1 r2 r3 r4 r5 r6 r7 r8 : Pos} {scope : Scope} {cl : List (Str × Addr)} {C I D : Addr} {oI oC : Obj} {m₂ : Str → Option Value} {k : Int} {t : Tok} {news : List (Addr × Obj)} {h : Heap} {tk : Nat}
    {K : Frag} {mg mb : Str → Option Value} {p : Program} {loose : List Str} {fL fR l r cy cz : Addr} {vr : List Value} {ns : List Int} {nr : Nat} {oy oz : Obj} {a1 a2 : Int}
    (X : K.In h₀) (T : TopRead p loose mg mb h₀) (eL : nsIn K mainGlobals fl = some (some (.ref fL))) (kL : keepIn K (.ref fL) = true) (eR : nsIn K mainGlobals fr = some (some (.ref fR))) (kR : keepIn K (.ref fR) = true)
    (hg : (compEnvC scope cl C env).globals = mainGlobals) (hkf : (compEnvC scope cl C env).scope.kind = .function) (hfl : (compEnvC scope cl C env).kindOf fl = some .globalImplicit) (hdl : (fl == ("__debug__" : Str)) = false) (hfr : (compEnvC scope cl C env).kindOf fr = some .globalImplicit) (hdr : (fr == ("__debug__" : Str)) = false)
    (hl : (compEnvC scope cl C env).kindOf x = some .local) (hd : (x == ("__debug__" : Str)) = false) (hloc : (compEnvC scope cl C env).locals = C)
    (hly : (compEnvC scope cl C env).kindOf y = some .cell) (hdy : (y == ("__debug__" : Str)) = false) (hcly : cl.lookup y = some cy) (hcy : (cy, oy) ∈ news) (hcdy : oy.data = .cell (some (.ref l)))
    (hlz : (compEnvC scope cl C env).kindOf z = some .cell) (hdz : (z == ("__debug__" : Str)) = false) (hclz : cl.lookup z = some cz) (hcz : (cz, oz) ∈ news) (hcdz : oz.data = .cell (some (.ref r)))
    (hmr : (r, PySem.W.listOf vr.toArray nr) ∈ news) (hi : IntsAre vr ns) (h1 : 0 ≤ k) (h2 : k < (ns.length : Int)) (h3 : (ns.length : Int) < 2 ^ 62)
    (hC : LCg.NsObj oC m₂) (hx : m₂ x = some (.int k t)) (F : Fr h₀ L h m) (N : News h₀ L h ((I, oI) :: (C, oC) :: (D, LCg.lst []) :: news))
    (cL : ∀ h tk t (Q : Value → Shared → Prop), Fr h₀ L h m → News h₀ L h ((I, oI) :: (C, oC) :: (D, LCg.lst []) :: news) → (∀ h' tk' t', Fr h₀ L h' m → News h₀ L h' ((I, oI) :: (C, oC) :: (D, LCg.lst []) :: news) → Q (.int a1 t') { s with heap := h', toks := tk' }) → wpAny (model prog w) A (call (.ref fL) [.ref l, .int (ns.getD k.toNat 0) t]) Q E { s with heap := h, toks := tk })
    (cR : ∀ h tk t (Q : Value → Shared → Prop), Fr h₀ L h m → News h₀ L h ((I, oI) :: (C, oC) :: (D, LCg.lst []) :: news) → (∀ h' tk' t', Fr h₀ L h' m → News h₀ L h' ((I, oI) :: (C, oC) :: (D, LCg.lst []) :: news) → Q (.int a2 t') { s with heap := h', toks := tk' }) → wpAny (model prog w) A (call (.ref fR) [.ref l, .int (ns.getD k.toNat 0) t]) Q E { s with heap := h, toks := tk })
    (ha1 : a1 ≤ k) (ha2 : k < a2) :
    wpAny (model prog w) A (isTrue (.BoolOp .Or [.Compare (.Call (.Name fl q1) [.Name y q2, .Subscript (.Name z q3) (.Name x q4) q5] [] q6) [.Gt] [.Name x q7] q8, .Compare (.Call (.Name fr r1) [.Name y r2, .Subscript (.Name z r3) (.Name x r4) r5] [] r6) [.LtE] [.Name x r7] r8] q9) (compEnvC scope cl C env)
      (eval (.BoolOp .Or [.Compare (.Call (.Name fl q1) [.Name y q2, .Subscript (.Name z q3) (.Name x q4) q5] [] q6) [.Gt] [.Name x q7] q8, .Compare (.Call (.Name fr r1) [.Name y r2, .Subscript (.Name z r3) (.Name x r4) r5] [] r6) [.LtE] [.Name x r7] r8] q9) (compEnvC scope cl C env)))
      (NoneEnd h₀ L m { s with heap := h, toks := tk } ((I, oI) :: (C, oC) :: (D, LCg.lst []) :: news)) E { s with heap := h, toks := tk } := by
  refine wpAny_isTrue_BoolOp (wpAny_allTrue_Or_cons (wpAny_isTrue_Compare1 ?_))
  refine look_call X T eL kL hg hkf hfl hdl hl hd hloc hly hdy hcly hcy hcdy hlz hdz hclz hcz hcdz hmr hi h1 h2 h3 hC hx F N (fun t' => cL _ _ _ _ F N fun h' tk' t'' F' N' => ?_)
  refine ldVarK (s := { s with heap := h', toks := tk' }) (by rw [hloc]; exact hC.ns (N' _ (.tail _ (.head _))).1) hx ?_ hkf hl hd
  refine PyProof.Rows.gt_int (wpAny_truthy_bool ?_)
  rw [decide_eq_false (by omega)]
  simp only [Bool.false_eq_true, if_false]
  refine wpAny_allTrue_Or_cons (wpAny_isTrue_Compare1 ?_)
  refine look_call X T eR kR hg hkf hfr hdr hl hd hloc hly hdy hcly hcy hcdy hlz hdz hclz hcz hcdz hmr hi h1 h2 h3 hC hx F' N' (fun t' => cR _ _ _ _ F' N' fun h2' tk2' t2' F2 N2 => ?_)
  refine ldVarK (s := { s with heap := h2', toks := tk2' }) (by rw [hloc]; exact hC.ns (N2 _ (.tail _ (.head _))).1) hx ?_ hkf hl hd
  refine le_int (wpAny_truthy_bool ?_)
  rw [decide_eq_false (by omega)]
  simp only [Bool.false_eq_true, if_false]
  refine wpAny_allTrue_Or_nil ?_
  exact ⟨rfl, h2', tk2', rfl, F2, N2⟩
end
end Mine

/-! part L1 -/
namespace Mine
open PySem PySem.W PyProof.Rows PySem.Calls

local macro_rules | `(tactic| cell_enter) => `(tactic| (refine' code_def ?k1 ?k2 ?k3 ?k4 ?k5 ?kA ?kF ?kK ?k6 ?k7 ?k8 ?k9 ?kB ?_ ?c2 ?c3 ?c4 ?c5; (case kA => exact rfl); (case kF => exact rfl); (case kK => assumption); (case k1 => k_asm); (case k2 => k_asm); (case k3 => k_asm); (case k4 => k_asm); (case k5 => k_asm); (case k6 => k_is); (case k7 => k_is); (case k8 => ktr_room); (case k9 => (refine' kp_binds ?kx ?ke; (case kx => k_in); (case ke => exact fun _ => rfl))); (case c5 => decide); (case kB => exact locs rfl); (case c2 => exact rfl); (case c3 => exact rfl); (case c4 => exact rfl); k_whole; intro g' L' h' FG' F' N' B' X' T'; (try dsimp only); (try k_lift B'); (try k_fold)))

local macro_rules | `(tactic| walk_at "call ref") => `(tactic| (k_here; (with_reducible show wpAny _ _ (call (Value.ref 69) [Value.int _ _]) _ _ _); k_dflt (refine' lawBack_call _ _ _ _ _ _ _ _ _ _ _ _ _ _ _ _ _ _ _ _ _ _ _ _ ?k1 ?k2 ?k3 ?k4 ?k5 ?kK ?m1 ?m2 ?kd ?ku ?kR; (case k1 => k_asm); (case k2 => k_asm); (case k3 => k_asm); (case k4 => k_asm); (case k5 => k_asm); (case kK => first | exact rfl | assumption); (case m1 => assumption); (case m2 => assumption); (case kd => ktr_room); (case ku => ktr_units)); intro D' vs' nn' h9 tk9 hI' F' N' l1; (try k_lt l1); (try dsimp only); (try k_fold)))

theorem fr_loop {h₀ h : Heap} {L : Addr} {m₁ : Str → Option Value} {x : Str} {v : Value} (ps : List (Str × Value)) (F : Fr h₀ L h (fun y => if y = x then some v else m₁ y)) (hp : ∀ p ∈ ps, m₁ p.1 = some p.2) (hx : (ps.all fun p => decide (p.1 ≠ x)) = true) :
    Fr h₀ L h (fun z => if z = x then some v else kstB m₁ ps z) := by
  have e : kstB m₁ ps = m₁ := funext fun z => kstB_eq hp fun _ => rfl
  rw [e]; exact F

/-- the building loop's word -/
def L1J (P : Program) (w : World) (many : Int) (scr ordA rowA c1 c2 c3 : Addr) (rowV : List Value) (rowN : Nat) (o1 o2 : Obj) (pre : List Int) (m₁ : Str → Option Value) (nx : List (Addr × Obj)) : Prop :=
  (∃ tm, ∀ p ∈ [(Str.ofString "many", Value.int many tm), (Str.ofString "script", Value.ref scr)], m₁ p.1 = some p.2) ∧ ∃ vs nn tB o3 extra, nx = (ordA, listOf vs.toArray nn) :: (c3, o3) :: (rowA, listOf rowV.toArray rowN) :: (c1, o1) :: (c2, o2) :: extra ∧
    IntsAre vs (ordOf pre) ∧ o3.data = .cell (some (.ref tB)) ∧ TabL P w extra tB (tabOf pre) ∧ ∀ p ∈ extra, p.1 ≠ ordA ∧ p.1 ≠ c3

theorem news5_out {h₀ h : Heap} {L : Addr} {a b c d e : Addr × Obj} {own extra : List (Addr × Obj)} (N : News h₀ L h (own ++ a :: b :: c :: d :: e :: extra)) : News h₀ L h (a :: b :: c :: d :: e :: (extra ++ own)) := fun q hq => N q (by
  simp only [List.mem_cons, List.mem_append] at hq ⊢
  rcases hq with h | h | h | h | h | h | h <;> simp [h])

theorem news_swap {h₀ h : Heap} {L : Addr} {a b : Addr × Obj} {r : List (Addr × Obj)} (N : News h₀ L h (a :: b :: r)) : News h₀ L h (b :: a :: r) := fun q hq => N q (by
  simp only [List.mem_cons] at hq ⊢
  rcases hq with h | h | h <;> simp [h])
theorem apart_D {D k : Addr} {r : List (Addr × Obj)} (h1 : k ≠ D) (h2 : ∀ p ∈ r, p.1 < D) : ∀ o, ∀ p ∈ (k, o) :: r, p.1 ≠ D := fun o p hp => by
  rcases List.mem_cons.mp hp with rfl | hp
  · exact h1
  · exact Nat.ne_of_lt (h2 p hp)

theorem news_name {n : Int} {h₀ h : Heap} {L k : Addr} {a : Addr × Obj} {o : Obj} {r : List (Addr × Obj)} (N : News h₀ L h (a :: (k, o) :: r)) (hk : KeyObj n o) : ∃ o, KeyObj n o ∧ News h₀ L h (a :: (k, o) :: r) := ⟨o, hk, N⟩
theorem add_ks {h₀ h : Heap} {L : Addr} {a b c d e f g : Addr × Obj} {r own : List (Addr × Obj)} (_ : News h₀ L h (a :: b :: c :: d :: e :: f :: g :: (r ++ own))) : ∀ p ∈ a :: b :: r, p ∈ a :: b :: c :: d :: e :: f :: g :: (r ++ own) := fun p hp => by
  simp only [List.mem_cons] at hp
  rcases hp with hp | hp | hp <;> simp [hp]
theorem keys_one {news : List (Addr × Obj)} {n : Int} {k : Addr} {v : Value} {o : Obj} (h : (k, o) ∈ news) (hk : KeyObj n o) : KeysIn news [(n, k, v)] := fun x hx => by
  obtain rfl := List.mem_singleton.mp hx
  exact ⟨o, h, hk⟩

theorem mem_own {a : Addr} {o : Obj} {b c d e f : Addr × Obj} {r own : List (Addr × Obj)} (h : (a, o) ∈ own) : (a, o) ∈ b :: c :: d :: e :: f :: (r ++ own) := by simp [h]

theorem news_turn {h₀ h : Heap} {L : Addr} {a b c d e f g i : Addr × Obj} {extra own : List (Addr × Obj)} (N : News h₀ L h (a :: b :: c :: d :: e :: f :: g :: i :: (extra ++ own))) : News h₀ L h (own ++ d :: e :: f :: g :: i :: a :: b :: c :: extra) := fun q hq => N q (by
  simp only [List.mem_cons, List.mem_append] at hq ⊢
  rcases hq with h | h | h | h | h | h | h | h | h | h <;> simp [h])
theorem apart_turn {I x1 x2 x3 x4 x5 y1 y2 y3 : Addr} {a b c d e a' b' c' d' e' f g i : Obj} {extra : List (Addr × Obj)} (h : ∀ p ∈ (x1, a) :: (x2, b) :: (x3, c) :: (x4, d) :: (x5, e) :: extra, p.1 ≠ I) (h1 : y1 ≠ I) (h2 : y2 ≠ I) (h3 : y3 ≠ I) :
    ∀ p ∈ (x1, a') :: (x2, b') :: (x3, c') :: (x4, d') :: (x5, e') :: (y1, f) :: (y2, g) :: (y3, i) :: extra, p.1 ≠ I := fun p hp => by
  have q1 := h (x1, a) (by simp)
  have q2 := h (x2, b) (by simp)
  have q3 := h (x3, c) (by simp)
  have q4 := h (x4, d) (by simp)
  have q5 := h (x5, e) (by simp)
  simp only [List.mem_cons] at hp
  rcases hp with rfl | rfl | rfl | rfl | rfl | rfl | rfl | rfl | hp
  · exact q1
  · exact q2
  · exact q3
  · exact q4
  · exact q5
  · exact h1
  · exact h2
  · exact h3
  · exact h p (by simp [hp])
theorem rotM_len' {many : Int} (h1 : 10 ≤ many) (h2 : many ≤ 40) : (rotM many).take (rotM many).length = rotM many := List.take_length

theorem in_ledger5 {h₀ h : Heap} {L : Addr} {a b c d e : Addr × Obj} {r : List (Addr × Obj)} (_ : News h₀ L h (a :: b :: c :: d :: e :: r)) : ∀ p ∈ r, p ∈ a :: b :: c :: d :: e :: r := fun p hp => by simp [hp]

theorem news_lst {h₀ h : Heap} {L D : Addr} {ys : List Value} {r : List (Addr × Obj)} (N : News h₀ L h ((D, LCg.lst ys) :: r)) : h.IsList D ys.toArray := ⟨_, (N _ (.head _)).1, rfl, _, rfl⟩

theorem news_tl {h₀ h : Heap} {L : Addr} {a : Addr × Obj} {r : List (Addr × Obj)} (N : News h₀ L h (a :: r)) : News h₀ L h r := fun q hq => N q (.tail _ hq)
theorem news_out5 {h₀ h : Heap} {L : Addr} {a b c d e : Addr × Obj} {own extra : List (Addr × Obj)} (N : News h₀ L h (own ++ a :: b :: c :: d :: e :: extra)) : News h₀ L h (a :: b :: c :: d :: e :: (extra ++ own)) := news5_out N

theorem tab_ledger {h₀ h : Heap} {L : Addr} {a b c d e f : Addr × Obj} {r own : List (Addr × Obj)} (_ : News h₀ L h (a :: b :: c :: d :: e :: f :: (r ++ own))) : ∀ p ∈ r, p ∈ a :: b :: c :: d :: e :: f :: (r ++ own) := fun p hp => by simp [hp]

theorem news_back5 {h₀ h : Heap} {L : Addr} {a b c d e : Addr × Obj} {own extra : List (Addr × Obj)} (N : News h₀ L h (a :: b :: c :: d :: e :: (extra ++ own))) : News h₀ L h (own ++ a :: b :: c :: d :: e :: extra) := fun q hq => N q (by
  simp only [List.mem_cons, List.mem_append] at hq ⊢
  rcases hq with h | h | h | h | h | h | h <;> simp [h])

theorem idx_ok {k num last many : Int} {l : List Int} (h : l.length = many.toNat) (h1 : k < 1 + (num.toNat : Int)) (h2 : 1 ≤ num) (h3 : num < last) (h4 : last < many) : k - 1 < (l.length : Int) := by omega
theorem len_small {many : Int} {l : List Int} (h : l.length = many.toNat) (h1 : many ≤ 40) : (l.length : Int) < 2 ^ 62 := by omega

theorem fmod_place (a : Int) {many : Int} (h : 10 ≤ many) : 0 ≤ Int.fmod a many ∧ Int.fmod a many < many := by
  rw [Int.fmod_eq_emod_of_nonneg _ (by omega)]
  exact ⟨Int.emod_nonneg _ (by omega), Int.emod_lt_of_pos _ (by omega)⟩

theorem any01 {d : Int} (h : d = 0 ∨ d = 1) (hq : ([0, 1].any fun x => x == d) = false) : False := by
  rcases h with rfl | rfl <;> simp at hq

theorem twice_ledger {a b c d e f : Addr × Obj} {r : List (Addr × Obj)} {p : Addr × Obj} (hp : p ∈ a :: r) : p ∈ a :: b :: c :: d :: e :: f :: r := by
  simp only [List.mem_cons] at hp ⊢
  rcases hp with h | h <;> simp [h]

theorem news_dup {h₀ h : Heap} {L : Addr} {p : Addr × Obj} {r : List (Addr × Obj)} (N : News h₀ L h r) (hp : p ∈ r) : News h₀ L h (p :: r) := fun q hq => by
  rcases List.mem_cons.mp hq with rfl | hq
  · exact N _ hp
  · exact N q hq
theorem last_look' {many : Int} (h1 : 10 ≤ many) (h2 : many ≤ 40) {i : Nat} (hi : i < many.toNat) : cntLt (GL.take many.toNat) ((GL.take many.toNat).getD ((i : Int)).toNat 0) ≤ (i : Int) ∧ (i : Int) < cntLe (GL.take many.toNat) ((GL.take many.toNat).getD ((i : Int)).toNat 0) := by
  rw [Int.toNat_natCast]; exact last_look h1 h2 i hi

theorem half_bounds {many : Int} (h1 : 10 ≤ many) (h2 : many ≤ 40) : 0 ≤ many.fdiv 2 ∧ many.fdiv 2 ≤ 20 := by
  rw [Int.fdiv_eq_ediv_of_nonneg _ (by decide)]
  omega
theorem gl_len {many : Int} (h2 : many ≤ 40) : (GL.take many.toNat).length = many.toNat := by
  rw [List.length_take]
  have : GL.length = 44 := rfl
  omega
theorem many_bounds (S : Int) : 10 ≤ 10 + Int.fmod S 31 ∧ 10 + Int.fmod S 31 ≤ 40 := by
  rw [Int.fmod_eq_emod_of_nonneg _ (by decide)]
  omega

local macro_rules | `(tactic| walk_at "call ref") => `(tactic| (k_here; (with_reducible show wpAny _ _ (call (Value.ref 32) [Value.ref _, Value.int _ _]) _ _ _); k_dflt (refine' insL_call _ _ _ _ _ _ _ _ _ _ _ _ _ _ _ _ _ _ _ _ _ _ _ _ _ _ _ _ ?k1 ?k2 ?k3 ?k4 ?k5 ?kK ?ki ?kl ?ks ?ko ?kd ?ku ?kR; (case k1 => k_asm); (case k2 => k_asm); (case k3 => k_asm); (case k4 => k_asm); (case k5 => k_asm); (case kK => first | exact rfl | assumption); (case ki => assumption); (case kl => assumption); (case ks => assumption); (case ko => assumption); (case kd => ktr_room); (case ku => ktr_units)); intro vs' nn' h9 tk9 hI' F' N'; (try dsimp only); (try k_fold)))
local macro_rules | `(tactic| walk_at "eval Dict") => `(tactic| (k_here; (with_reducible show wpAny _ _ (eval (PySem.Expr.Dict [some _] [_] _) _) _ _ _); k_dflt (refine' dict_one ?F ?N (TopRead.nolimit (by k_asm)) ?_; (case F => k_asm); (case N => k_asm)); intro D' h' F' N' l1 lo'))

local macro_rules | `(tactic| walk_at "m bisR") => `(tactic| (k_here; (with_reducible show wpAny _ _ (call (Value.ref 23) [Value.ref _, Value.int _ _]) _ _ _); k_dflt (refine' bisR_call _ _ _ _ _ _ _ _ _ _ _ _ _ _ _ _ _ _ _ _ _ _ _ _ _ _ _ _ ?k1 ?k2 ?k3 ?k4 ?k5 ?kK ?ki ?kl ?ks ?kd ?ku ?kR; (case k1 => k_asm); (case k2 => k_asm); (case k3 => k_asm); (case k4 => k_asm); (case k5 => k_asm); (case kK => first | exact rfl | assumption); (case ki => assumption); (case kl => assumption); (case ks => assumption); (case kd => ktr_room); (case ku => ktr_units))))
local macro_rules | `(tactic| walk_at "m bisL") => `(tactic| (k_here; (with_reducible show wpAny _ _ (call (Value.ref 41) [Value.ref _, Value.int _ _]) _ _ _); k_dflt (refine' bisL_call _ _ _ _ _ _ _ _ _ _ _ _ _ _ _ _ _ _ _ _ _ _ _ _ _ _ _ _ ?k1 ?k2 ?k3 ?k4 ?k5 ?kK ?ki ?kl ?ks ?kd ?ku ?kR; (case k1 => k_asm); (case k2 => k_asm); (case k3 => k_asm); (case k4 => k_asm); (case k5 => k_asm); (case kK => first | exact rfl | assumption); (case ki => assumption); (case kl => assumption); (case ks => assumption); (case kd => ktr_room); (case ku => ktr_units))))
local macro_rules | `(tactic| walk_at "getMethod ref") => `(tactic| (k_here; (with_reducible show wpAny _ _ (getMethod (Value.ref _) (PySem.Str.ofString "items") _) _ _ _); k_dflt (refine' tab_method ?N ?T PySem.F.slot_dict_items PySem.F.type_dict_items ?_; (case N => k_asm); (case T => assumption))))
local macro_rules | `(tactic| walk_at "call builtin:dict.items") => `(tactic| (k_here; k_dflt (refine' tab_items ?F ?N ?T ?_; (case F => k_asm); (case N => k_asm); (case T => assumption)); intro v' h' F' N' hV'))
set_option maxRecDepth 100000 in
set_option maxHeartbeats 6000000 in
theorem law_holds : PySem.Challenge.rw_id0005_01.Holds := hd (by
  w_top off
  k_with_none
  k_go0
  with_reducible rename World => w9
  rename_i scr scrV _ hScr _ _ _ hScrI _ hlen63 _ _ _ _ _ _ _ _ _ _ _ _ _ _
  with_reducible rename Shared => s1
  k_with "call ref" => ((with_reducible show wpAny _ _ (call (Value.ref 62) _) _ _ _); refine Hold.out ?_)
  k_with "exec For Name BinOp cons nil" => refine Hold.out ?_
  k_with "exec For" => refine Hold.out ?_
  (all_goals try k_fold)
  k_steps
  with_reducible rename List Int => ns
  obtain ⟨hm1, hm2⟩ := many_bounds ns.sum
  refine ⟨?_⟩
  (with_reducible rename Fr _ _ _ _ => lF')
  generalize 10 + Int.fmod (List.sum ns) 31 = many at hm1 hm2 lF' ⊢
  k_dflt (refine' lawRow_call _ _ _ _ _ _ _ _ _ _ _ _ _ _ _ _ _ _ _ _ _ _ _ _ ?k1 ?k2 ?k3 ?k4 ?k5 ?kK ?m1 ?m2 ?kd ?ku ?kR; (case k1 => k_asm); (case k2 => k_asm); (case k3 => k_asm); (case k4 => k_asm); (case k5 => k_asm); (case kK => first | exact rfl | assumption); (case m1 => assumption); (case m2 => assumption); (case kd => ktr_room); (case ku => ktr_units))
  intro rowA rowV rowN h9 tk9 hRow F9 N9 lRow
  (try k_lt lRow)
  (try dsimp only)
  (try k_fold)
  k_steps
  refine ⟨?_⟩
  (with_reducible rename Fr _ _ _ _ => lF')
  have hh1 : 0 ≤ many.fdiv 2 ∧ many.fdiv 2 ≤ 20 := half_bounds hm1 hm2
  obtain ⟨hh2, hh3⟩ := hh1
  have hGL : (GL.take many.toNat).length = many.toNat := gl_len hm2
  with_unfolding_all refine' For_invVF lF' ?k1 ?k2 ?_
  case k1 => exact rfl
  case k2 => exact rfl
  k_with "pyIter ref" => refine Hold.out ?_
  k_steps
  refine ⟨?_⟩
  rename_i ordA _ lA tA _ oT loT _ _ hiT _ lT tuA _ lTu _ _ o1 d1 _ o2 d2 _ o3 _ _ d3 bkA _ _ _ _ _ lBk s1A _ _ _ _ _ _ s2A _ _ _ _ _ _ rotA rotV _ lF lN hRot lRot
  have e1 : ordA ≠ s1.heap.objs.size + 1 + 1 + 1 := neN (by omega)
  have e2 : rowA ≠ ordA := neN (by omega)
  have e3 : rowA ≠ s1.heap.objs.size + 1 + 1 + 1 := neN (by omega)
  have e4 : s1.heap.objs.size + 1 ≠ ordA := neN (by omega)
  have e5 : s1.heap.objs.size + 1 ≠ s1.heap.objs.size + 1 + 1 + 1 := neN (by omega)
  have e6 : s1.heap.objs.size + 1 + 1 ≠ ordA := neN (by omega)
  have e7 : s1.heap.objs.size + 1 + 1 ≠ s1.heap.objs.size + 1 + 1 + 1 := neN (by omega)
  have e8 : ordA ≠ rotA := neN (by omega)
  have e9 : s1.heap.objs.size + 1 + 1 + 1 ≠ rotA := neN (by omega)
  have e10 : tA ≠ ordA ∧ tA ≠ s1.heap.objs.size + 1 + 1 + 1 := ⟨neN (by omega), neN (by omega)⟩
  have e11 : rotA ≠ ordA ∧ rotA ≠ s1.heap.objs.size + 1 + 1 + 1 := ⟨neN (by omega), neN (by omega)⟩
  clear lRot lBk lTu lT lA lRow
  with_unfolding_all refine' iter_listJ (l := rotA) (nn := 0) (vs := rotV) (ns := rotM many) (news₀ := (ordA, listOf (List.toArray []) 0) :: (s1.heap.objs.size + 1 + 1 + 1, o3) :: (rowA, listOf rowV.toArray rowN) :: (s1.heap.objs.size + 1, o1) :: (s1.heap.objs.size + 1 + 1, o2) :: (tA, oT) :: (rotA, listOf rotV.toArray 0) :: List.nil) (fun i => L1J PySem.Challenge.rw_id0005_01.row.prog w9 many scr ordA rowA (s1.heap.objs.size + 1) (s1.heap.objs.size + 1 + 1) (s1.heap.objs.size + 1 + 1 + 1) rowV rowN o1 o2 ((rotM many).take i)) (by rfl) lF ?kn ?km hRot ?kj ?_ ?_
  case kn => exact kst_newsOf lN (fun p hp => by
    simp only [List.mem_cons, List.not_mem_nil, or_false] at hp ⊢
    rcases hp with h | h | h | h | h | h | h <;> simp [h])
  case km => simp
  case kj =>
    refine ⟨⟨_, by kst_all⟩, _, _, tA, o3, _, rfl, .nil, d3, ⟨loT, oT, [], .head _, TabS.ofEmpty hiT, (fun x hx => nomatch hx), .nil⟩, fun p hp => ?_⟩
    rcases List.mem_cons.mp hp with rfl | hp
    · exact e10
    · rcases List.mem_cons.mp hp with rfl | hp
      · exact e11
      · cases hp
  · clear lF lN
    rintro I i n t m₁ news₁ h9 tk9 own hn ⟨⟨tm, hms⟩, vs, nn, tB, o3', extra, rfl, hVs, hd3, hTab, hex⟩ ⟨oI, hIo⟩ hnI hap F₁ N₁
    have hoff : ∀ p ∈ (s1.heap.objs.size + 1 + 1 + 1, o3') :: (rowA, listOf rowV.toArray rowN) :: (s1.heap.objs.size + 1, o1) :: (s1.heap.objs.size + 1 + 1, o2) :: (extra ++ own), p.1 ≠ ordA := fun p hp => by
      simp only [List.mem_cons, List.mem_append] at hp
      rcases hp with rfl | rfl | rfl | rfl | h | h
      · exact Ne.symm e1
      · exact e2
      · exact e4
      · exact e6
      · exact (hex p h).1
      · exact hap _ (.head _) e8 p h
    have hoff3 : ∀ p ∈ (rowA, listOf rowV.toArray rowN) :: (s1.heap.objs.size + 1, o1) :: (s1.heap.objs.size + 1 + 1, o2) :: (extra ++ own), p.1 ≠ s1.heap.objs.size + 1 + 1 + 1 := fun p hp => by
      simp only [List.mem_cons, List.mem_append] at hp
      rcases hp with rfl | rfl | rfl | h | h
      · exact e3
      · exact e5
      · exact e7
      · exact (hex p h).2
      · exact hap _ (.tail _ (.head _)) e9 p h
    have kNews := news5_out N₁
    have kFr := fr_loop [(Str.ofString "many", Value.int many tm), (Str.ofString "script", Value.ref scr)] F₁ hms rfl
    clear F₁ N₁
    dsimp only [kstB] at kFr
    obtain ⟨hso, hlo⟩ := ordOf_facts ((rotM many).take i)
    have hlo2 : (ordOf ((rotM many).take i)).length < 2 ^ 20 := by
      rw [hlo, List.length_take, rotM_len hm1 hm2]; omega
    (try k_fold)
    k_with "call ref" => refine Hold.out ?_
    k_steps
    refine ⟨?_⟩
    k_dflt (refine' insL_call _ _ _ _ _ _ _ _ _ _ _ _ _ _ _ _ _ _ _ _ _ _ _ _ _ _ _ _ ?z1 ?z2 ?z3 ?z4 ?z5 ?zK ?zi ?zl ?zs ?zo ?zd ?zu ?zR)
    case z1 => k_asm
    case z2 => k_asm
    case z3 => k_asm
    case z4 => k_asm
    case z5 => k_asm
    case zK => first | exact rfl | assumption
    case zi => assumption
    case zl => assumption
    case zs => assumption
    case zo => assumption
    case zd => ktr_room
    case zu => ktr_units
    intro vs' nn' hh' tt' hI' fF nN
    (try dsimp only)
    (try k_fold)
    k_with "storeAll" => refine Hold.out ?_
    k_steps
    refine ⟨?_⟩
    (try dsimp only)
    (with_reducible rename Fr _ _ _ _ => lF1); (with_reducible rename News _ _ _ _ => lN1)
    rename_i D hp1 FD ND lD loD hp2 _ _ _
    have hDk : @LT.lt Nat _ D hp1.objs.size := Heap.lt_size (ND _ (.head _)).1
    have hrD := apart_D (Nat.ne_of_gt hDk) lD
    k_dflt (refine' store_one (D := D) (by ktr_units) lF1 (news_swap lN1) ?hr TabS.empty (.head _) (KeyObj.made rfl) ?_)
    case hr => exact hrD _
    intro oD h3 tk3 hSD FD3 ND3
    (try dsimp only at ND3)
    replace ND3 := news_name (n := n) ND3 (KeyObj.made rfl)
    obtain ⟨tup, hKO, ND3⟩ := ND3
    clear lN1 lF1 ND FD nN fF kNews kFr hlo2 hso hVs hlo hrD
    have hT2 : TabL PySem.Challenge.rw_id0005_01.row.prog w9 _ D [(n, 1)] := ⟨loD, oD, [(n, hp1.objs.size, Value.int 1 (tt' + 1 + 1))], (List.mem_cons_self .. : (D, oD) ∈ (D, oD) :: (hp1.objs.size, tup) :: extra), hSD, keys_one (.tail _ (.head _)) hKO, .cons .nil⟩
    have hT1 := hTab.mono (fun p hp => List.mem_cons_of_mem (D, oD) (List.mem_cons_of_mem (hp1.objs.size, tup) hp))
    have hz : (tabOf ((rotM many).take i)).length + [(n, (1 : Int))].length ≤ 1000 := by
      have q1 := tabOf_length ((rotM many).take i)
      rw [List.length_take, rotM_len hm1 hm2] at q1
      simp only [List.length_cons, List.length_nil]; omega
    (try k_fold)
    k_with "call ref" => refine Hold.out ?_
    k_steps
    refine ⟨?_⟩
    k_dflt (refine' add_call _ _ _ _ _ _ _ _ _ _ _ _ _ _ _ _ _ _ _ _ _ _ _ _ _ _ _ ?y1 ?y2 ?y3 ?y4 ?y5 ?yK ?ys ?yt ?yu ?yz ?yd ?yn ?yR)
    case y1 => k_asm
    case y2 => k_asm
    case y3 => k_asm
    case y4 => k_asm
    case y5 => k_asm
    case yK => first | exact rfl | assumption
    case ys => exact add_ks ND3
    case yt => exact hT1
    case yu => exact hT2
    case yz => exact hz
    case yd => ktr_room
    case yn => ktr_units
    intro D2 oD2 h4 tk4 FD4 ND4 lD2 hT4
    have g1 : @LT.lt Nat _ D D2 := lD2 _ (.head _)
    have g2 : @LT.lt Nat _ (s1.heap.objs.size + 1 + 1 + 1) D := lD _ (.tail _ (.head _))
    have g3 : @LT.lt Nat _ I D := lD _ (mem_own hIo)
    have g4 : @LT.lt Nat _ ordA D := lD _ (.head _)
    have hex' : ∀ p ∈ (D2, oD2) :: (D, oD) :: (hp1.objs.size, tup) :: extra, p.1 ≠ ordA ∧ p.1 ≠ s1.heap.objs.size + 1 + 1 + 1 := fun p hp => by
      simp only [List.mem_cons] at hp
      rcases hp with rfl | rfl | rfl | h
      · exact ⟨neN (by omega), neN (by omega)⟩
      · exact ⟨neN (by omega), neN (by omega)⟩
      · exact ⟨neN (by omega), neN (by omega)⟩
      · exact hex p h
    have hU : UpdF (s1.heap.objs.size + 1 + 1 + 1) o3' _ _ := .tail (p := (D2, oD2)) (neN (by omega)) (.tail (p := (D, oD)) (neN (by omega)) (.tail (p := (hp1.objs.size, tup)) (neN (by omega)) (.tail (p := (ordA, listOf vs'.toArray nn')) e1 (.head hoff3))))
    (try k_fold)
    k_dflt (refine' storeX_C ?fF ?fN ?fc ?fU ?fd ?_ ?fa ?fb)
    case fa => exact rfl
    case fb => exact rfl
    case fF => k_asm
    case fN => k_asm
    case fc => exact rfl
    case fU => exact hU
    case fd => exact hd3
    intro h5 o5 FD5 ND5 hd5
    (try dsimp only at ND5)
    clear FD4 ND4 FD3 ND3 hU
    k_steps
    rw [← tabOf_snoc hn] at hT4
    rw [← ordOf_snoc hn] at hI'
    exact ⟨_, _, _, (ordA, listOf vs'.toArray nn') :: (s1.heap.objs.size + 1 + 1 + 1, o5) :: (rowA, listOf rowV.toArray rowN) :: (s1.heap.objs.size + 1, o1) :: (s1.heap.objs.size + 1 + 1, o2) :: (D2, oD2) :: (D, oD) :: (hp1.objs.size, tup) :: extra, rfl, FD5, news_turn ND5, apart_turn hnI (neN (by omega)) (neN (by omega)) (neN (by omega)), ⟨tm, by kst_all⟩, vs', nn', D2, o5, (D2, oD2) :: (D, oD) :: (hp1.objs.size, tup) :: extra, rfl, hI', hd5, hT4, hex'⟩
  · clear lF lN
    rintro m₁ news₁ h9 tk9 ⟨⟨tm, hms⟩, vs, nn, tB, o3', extra, rfl, hVs, hd3, hTab, hex⟩ F₁ N₁
    have kFr := fr_with [(Str.ofString "many", Value.int many tm), (Str.ofString "script", Value.ref scr)] F₁ hms
    clear F₁
    dsimp only [kstB] at kFr
    rw [rotM_len' hm1 hm2, ord_rot hm1 hm2] at hVs
    replace hVs : IntsAre vs (GL.take many.toNat) := hVs
    rw [rotM_len' hm1 hm2] at hTab
    (try k_fold)
    k_with "call ref" => refine Hold.out ?_
    k_steps
    refine ⟨?_⟩
    k_dflt (refine' count_call _ _ _ _ _ _ _ _ _ _ _ _ _ _ _ _ _ _ _ _ _ _ _ _ ?x1 ?x2 ?x3 ?x4 ?x5 ?xK ?xt ?xd ?xu ?xR)
    case x1 => k_asm
    case x2 => k_asm
    case x3 => k_asm
    case x4 => k_asm
    case x5 => k_asm
    case xK => first | exact rfl | assumption
    case xt => exact hTab.mono (in_ledger5 N₁)
    case xd => ktr_room
    case xu => ktr_units
    have hts : tabSum (tabOf (rotM many)) = many := tab_sum hm1 hm2
    rw [hts]
    (try k_fold)
    clear hRot e10 e11 e8 e9
    k_with "eval ListComp" => refine Hold.out ?_
    k_steps
    refine ⟨?_⟩
    k_dflt (refine' ListComp_keys ?w0 ?w1 ?w2 ?w3 ?w4 ?w5 ?_ ?w6)
    case w0 => k_asm
    case w1 => with_unfolding_all rfl
    case w2 => decide
    case w3 => with_unfolding_all rfl
    case w4 => decide
    case w5 => with_unfolding_all rfl
    case w6 => intro _; with_unfolding_all rfl
    k_steps
    (with_reducible rename Fr _ _ _ _ => lF1); (with_reducible rename News _ _ _ _ => lN1)
    have hTl := hTab.mono (in_ledger5 N₁)
    have htl : (tabOf (rotM many)).length ≤ sizeLine := by
      have q1 := tabOf_length (rotM many)
      rw [rotM_len hm1 hm2] at q1
      rw [sizeLine_eq]; omega
    refine' KeysSrc.intro ?ch lF1 lN1 hTl htl (fun g => keys_rest ?turn ?fin)
    case ch => with_unfolding_all rfl
    case turn =>
      intro n ka ok I oI C oC D m₂ ys h tk E' hka hko hC hx F₂ N₂ off ne
      refine' word_elt ?we1 ?we2 ?we3 ?we4 hka hko hC hx F₂ N₂ off (fun p hp => hp)
      case we1 => with_unfolding_all rfl
      case we2 => with_unfolding_all rfl
      case we3 => decide
      case we4 => with_unfolding_all rfl
    case fin =>
      intro ys hYs D h tk F₂ N₂ off
      clear lF1 lN1 N₁ kFr
      have hYl := hYs.length
      k_with "exec For" => refine Hold.out ?_
      k_steps
      have hkl : ((tabOf (rotM many)).map (·.1)).length < 64 := by
        have q1 := tabOf_length (rotM many)
        rw [rotM_len hm1 hm2] at q1
        rw [List.length_map]; omega
      k_dflt (refine' kso_sorted F₂ N₂ (news_lst N₂) hYs hkl ?_)
      clear hkl hYl F₂ N₂ off hYs
      intro D2 v2 n2 c2 h2 F₃ N₃ l2 hI2 _ hP2 hS2 _
      have hN2 : n2 = keysM many := keys_sorted hm1 hm2 hP2 hS2
      subst hN2
      (try k_fold)
      k_steps
      (with_reducible rename Fr _ _ _ _ => lF1); (with_reducible rename News _ _ _ _ => lN1); (with_reducible rename IsRange _ _ _ _ _ _ _ _ => lR1)
      rw [last_row hm1 hm2] at lR1
      obtain ⟨hl1, hl2⟩ := last_bounds hm1 hm2
      have hsz : Builtin.Range.rangeSize 1 (lastM many + 1) 1 = ((lastM many).toNat : Int) := by rw [rangeSize_nat, Int.add_sub_cancel]
      k_dflt (refine' kll_range ?ch lF1 lN1 lR1 ?csm hsz ?cz ?_)
      case ch => with_unfolding_all rfl
      case csm => exact small_one (by decide) (by decide) (by omega) (by omega)
      case cz => omega
      clear hsz lF1 lN1 lR1 hP2 hS2
      intro D3 v3 c3 h3 t3 F₃ N₃ l3 hI3
      replace hI3 : IntsAre v3 (keysM many) := hI3
      (try k_fold)
      k_with "pyIter ref" => refine Hold.out ?_
      k_steps
      refine ⟨?_⟩
      (try dsimp only)
      (with_reducible rename Fr _ _ _ _ => lF1); (with_reducible rename News _ _ _ _ => lN1); (with_reducible rename IsRange _ _ _ _ _ _ _ _ => lR1)
      (try dsimp only at lR1)
      rw [last_row hm1 hm2] at lR1
      clear hI2 hI3 l2 l3
      with_unfolding_all refine' iter_rangeJ (n := (lastM many - 1).toNat) (news₀ := (ordA, listOf vs.toArray nn) :: (s1.heap.objs.size + 1 + 1 + 1, o3') :: (rowA, listOf rowV.toArray rowN) :: (s1.heap.objs.size + 1, o1) :: (s1.heap.objs.size + 1 + 1, o2) :: extra) (fun i m₁ nx => (∃ tm, ∀ p ∈ [(Str.ofString "many", Value.int many tm), (Str.ofString "script", Value.ref scr)], m₁ p.1 = some p.2) ∧ nx = (ordA, listOf vs.toArray nn) :: (s1.heap.objs.size + 1 + 1 + 1, o3') :: (rowA, listOf rowV.toArray rowN) :: (s1.heap.objs.size + 1, o1) :: (s1.heap.objs.size + 1 + 1, o2) :: extra) (by rfl) lF1 (news_tl (news_tl (news_tl lN1))) lR1 ?csm ?csz ?cj ?_ ?_
      case csm => exact small_one (by decide) (by decide) (by omega) (by omega)
      case csz => exact rangeSize_nat _ _
      case cj => exact ⟨⟨_, by kst_all⟩, rfl⟩
      · clear lF1 lN1 lR1
        rintro I i t m₁ news₁ h9 tk9 own hi ⟨⟨tm, hms⟩, rfl⟩ ⟨oI, hIo⟩ hnI hap F₁ N₁
        have kNews := news_out5 N₁
        have kFr := fr_loop [(Str.ofString "many", Value.int many tm), (Str.ofString "script", Value.ref scr)] F₁ hms rfl
        clear F₁ N₁
        dsimp only [kstB] at kFr
        have hnb : 1 ≤ 1 + (i : Int) ∧ 1 + (i : Int) < lastM many ∧ lastM many < many := ⟨by omega, by omega, last_lt hm1 hm2⟩
        have hf := Hold.mk (num_facts hm1 hm2 hi)
        generalize 1 + (i : Int) = num at kFr hf hnb
        obtain ⟨hn1, hn2, hn3⟩ := hnb
        have hGs : (GL.take many.toNat).Pairwise (· ≤ ·) := row_sorted hm1 hm2
        have hGz : (GL.take many.toNat).length < 2 ^ 20 := by rw [hGL]; omega
        (try k_fold)
        k_with "call ref" => first | walk_at "m bisR" | walk_at "m bisL"
        k_with "subscriptTail" => ((with_reducible show wpAny _ _ (subscriptTail _ (Expr.Tuple _ _ _) _ _) _ _ _); refine Hold.out ?_)
        k_steps
        · exact absurd hf.out.1 (by assumption)
        refine ⟨?_⟩
        (try dsimp only)
        (rename Fr _ _ _ _ => lF1); (rename News _ _ _ _ => lN1)
        (try dsimp only at lN1)
        k_dflt (refine' tab_item ?ta lN1 (hTab.mono (tab_ledger lN1)) (.head _) (KeyObj.made rfl) hf.out.2.1 ?_ ?tb ?tc)
        case ta => ktr_units
        case tb => with_unfolding_all rfl
        case tc => intro _; with_unfolding_all rfl
        intro tq
        replace lN1 := news_tl lN1
        (try dsimp only)
        (try k_fold)
        k_steps
        · exact absurd hf.out.1.symm (by assumption)
        · exact absurd hf.out.2.2.1 (by assumption)
        · refine ⟨?_⟩
          (rename News _ _ _ _ => lN1)
          replace lN1 := news_tl lN1
          (try dsimp only)
          (try k_fold)
          (rename _ < List.getD _ _ _ => hlt9)
          rw [last_row hm1 hm2] at hlt9
          have hB := Hold.mk (⟨hn1, hn2, hn3, hl2⟩ : 1 ≤ num ∧ num < lastM many ∧ lastM many < many ∧ lastM many ≤ 20)
          have hf4 := Hold.mk (hf.out.2.2.2 hlt9)
          (rename _ = List.sum _ => hq1)
          (rename _ = _ - _ => hq3)
          (rename _ - _ = _ => hq2)
          clear hf hlt9 hn1 hn2 hn3 hl2 hl1 hi hq1 hq2 hq3
          k_with "CompSrc" => refine Hold.out ?_
          k_steps
          refine ⟨?_⟩
          obtain ⟨⟨hn1, hn2, hn3, hl2⟩⟩ := hB
          (rename Fr _ _ _ _ => lF2); (rename News _ _ _ _ => lN2); (rename IsRange _ _ _ _ _ _ _ _ => lR2)
          (try dsimp only)
          (try dsimp only at lR2)
          refine' LCg.CompSrc.range (n := num.toNat) ?g1 lF2 lN2 lR2 ?g2 ?g3 ?g4 (fun g => kcf_range (fun k => k * (GL.take many.toNat).getD (k - 1).toNat 0) ?gt ?gf)
          case g1 => with_unfolding_all rfl
          case g2 => exact small_one (by decide) (by decide) (by omega) (by omega)
          case g3 => rw [rangeSize_nat, Int.add_sub_cancel]
          case g4 => rw [sizeLine_eq]; omega
          case gt =>
            intro k' t' I' oI' C' oC' D' m' ys' h' tk' E' hlo' hhi' hC' hx' F' N' off' ne' hMark'
            (try simp only [LCg.Off3, and_true] at off')
            have hkb : k' - 1 < ((GL.take many.toNat).length : Int) := idx_ok hGL hhi' hn1 hn2 hn3
            refine' mul_elt ?v1 ?v2 ?v3 ?v4 ?v5 ?v6 ?v7 ?v8 d1 ?v9 hRow hlo' hkb ?va hC' hx' F' N' ?vb trivial
            case v1 => with_unfolding_all rfl
            case v2 => with_unfolding_all rfl
            case v3 => decide
            case v4 => with_unfolding_all rfl
            case v5 => with_unfolding_all rfl
            case v6 => decide
            case v7 => with_unfolding_all rfl
            case v8 => exact .tail _ (.tail _ (.tail _ (.head _)))
            case v9 => exact .tail _ (.tail _ (.head _))
            case va => exact len_small hGL hm2
            case vb => first | exact off' | (simp only [LCg.Off3, and_true]; exact off')
          case gf =>
            unfold KPfDone
            intro ys2 hYs2 D5 h5 tk5 F5 N5 off5
            clear lF2 lN2 off5
            have hYl2 : ys2.length = num.toNat := by rw [hYs2.length, List.length_map, rangeKs_length]
            have hv := hf4.out
            generalize ((rangeKs 1 num.toNat).map fun k => k * (GL.take many.toNat).getD (k - 1).toNat 0) = sumL at hYs2 hv
            generalize cntLe (GL.take many.toNat) (cntLe (GL.take many.toNat) num) = v9 at hv ⊢
            subst hv
            (try k_fold)
            k_steps
            · exact absurd (rfl : sumL.sum = sumL.sum) (by assumption)
            (rename Fr _ _ _ _ => lF3); (rename News _ _ _ _ => lN3)
            replace lN3 := news_tl lN3
            exact ⟨_, _, _, (ordA, listOf vs.toArray nn) :: (s1.heap.objs.size + 1 + 1 + 1, o3') :: (rowA, listOf rowV.toArray rowN) :: (s1.heap.objs.size + 1, o1) :: (s1.heap.objs.size + 1 + 1, o2) :: extra, rfl, lF3, news_back5 lN3, hnI, ⟨tm, by kst_all⟩, rfl⟩
        · (rename Fr _ _ _ _ => lF1); (rename News _ _ _ _ => lN1)
          replace lN1 := news_tl lN1
          exact ⟨_, _, _, (ordA, listOf vs.toArray nn) :: (s1.heap.objs.size + 1 + 1 + 1, o3') :: (rowA, listOf rowV.toArray rowN) :: (s1.heap.objs.size + 1, o1) :: (s1.heap.objs.size + 1 + 1, o2) :: extra, rfl, lF1, news_back5 lN1, hnI, ⟨tm, by kst_all⟩, rfl⟩
      · clear lF1 lN1 lR1
        rintro m₁ news₁ h9 tk9 ⟨⟨tm, hms⟩, rfl⟩ F₁ N₁
        have kFr := fr_with [(Str.ofString "many", Value.int many tm), (Str.ofString "script", Value.ref scr)] F₁ hms
        clear F₁
        dsimp only [kstB] at kFr
        (try k_fold)
        iterate 11 (first | (k_unfold; (try dsimp only)) | (k_end; wrow_close) | walk1 | (dsimp only; walk1) | (leave1; walk_say "STEP leave1"; try dsimp only) | skip)
        (with_reducible rename Fr _ _ _ _ => lF1); (with_reducible rename News _ _ _ _ => lN1)
        k_dflt (refine' kmk_add_ints (vs := scrV) (ns := ns) (ms := [0]) lF1 lN1 ?aa ?ab hScrI (.cons 0 tk9 .nil) ?_ ?az)
        case aa => exact Fr.lst lF1 (by assumption)
        case ab => exact ⟨_, (lN1 _ (.head _)).1, rfl, _, rfl⟩
        case az => rw [sizeLine_eq]; simp only [List.length_cons, List.length_nil]; omega
        intro D6 us6 h6 F6 N6 _ hU6
        have hU7 : 0 < (ns ++ [0]).length ∧ (ns ++ [0]).length < 1000 := by rw [List.length_append]; simp only [List.length_cons, List.length_nil]; omega
        obtain ⟨hU7, hU8⟩ := hU7
        generalize ns ++ [0] = ns6 at hU6 hU7 hU8
        clear lF1 lN1
        (try k_fold)
        k_with "exec If" => refine Hold.out ?_
        k_steps
        refine ⟨?_⟩
        (with_reducible rename Fr _ _ _ _ => lF1); (with_reducible rename News _ _ _ _ => lN1)
        have hpb := fmod_place (ns6.getD (Int.toNat 0) 0) hm1
        generalize Int.fmod (ns6.getD (Int.toNat 0) 0) many = place at lF1 hpb ⊢
        obtain ⟨hp1, hp2⟩ := hpb
        have hpf := Hold.mk (place_facts hm1 hm2 hp1 hp2)
        replace lN1 := news_tl (news_tl lN1)
        refine cut_next lF1 lN1 ?_ ?_
        · have hG1 : ((GL.take many.toNat).length : Int) = many := by rw [hGL]; exact Int.toNat_of_nonneg (by omega)
          have hG2 : GL.length = 44 := rfl
          (try k_fold)
          refine wpAny_If ?_
          k_steps
          · exact absurd hpf.out.1 (Int.not_le.mpr (by assumption))
          · (with_reducible rename Fr _ _ _ _ => lF2); (with_reducible rename News _ _ _ _ => lN2)
            exact cut_end lF2 (news_tl lN2)
          · (with_reducible rename _ = false => hq)
            exact (any01 (hpf.out.2 (by assumption)) hq).elim
          · (with_reducible rename Fr _ _ _ _ => lF2); (with_reducible rename News _ _ _ _ => lN2)
            exact cut_end lF2 lN2
        · clear lF1 lN1
          intro h7 tk7 F7 N7
          (try dsimp only)
          (try k_fold)
          k_with "call ref" => refine Hold.out ?_
          k_steps
          refine ⟨?_⟩
          (with_reducible rename Fr _ _ _ _ => lF1); (with_reducible rename News _ _ _ _ => lN1)
          have hz2 : (tabOf (rotM many)).length + (tabOf (rotM many)).length ≤ 1000 := tab_two hm1 hm2
          k_dflt (refine' add_call _ _ _ _ _ _ _ _ _ _ _ _ _ _ _ _ _ _ _ _ _ _ _ _ _ _ _ ?s1 ?s2 ?s3 ?s4 ?s5 ?sK ?ss ?st ?su ?sz ?sd ?sn ?sR)
          case s1 => k_asm
          case s2 => k_asm
          case s3 => k_asm
          case s4 => k_asm
          case s5 => k_asm
          case sK => first | exact rfl | assumption
          case ss => exact in_ledger5 lN1
          case st => exact hTab
          case su => exact hTab
          case sz => exact hz2
          case sd => ktr_room
          case sn => ktr_units
          clear lF1 lN1
          intro D8 o8 h8 tk8 F8 N8 lD8 hT8
          (try dsimp only)
          (try k_fold)
          k_steps
          refine ⟨?_⟩
          (with_reducible rename Fr _ _ _ _ => lF2); (with_reducible rename News _ _ _ _ => lN2)
          refine cut_next lF2 lN2 ?_ ?_
          · refine wpAny_If ?_
            k_steps
            refine ⟨?_⟩
            k_dflt (refine' count_call _ _ _ _ _ _ _ _ _ _ _ _ _ _ _ _ _ _ _ _ _ _ _ _ ?cc1 ?cc2 ?cc3 ?cc4 ?cc5 ?ccK ?cct ?ccd ?ccu ?ccR)
            case cc1 => k_asm
            case cc2 => k_asm
            case cc3 => k_asm
            case cc4 => k_asm
            case cc5 => k_asm
            case ccK => first | exact rfl | assumption
            case cct => exact hT8.mono (fun p hp => twice_ledger hp)
            case ccd => ktr_room
            case ccu => ktr_units
            have hts2 : tabSum (mergeTab (tabOf (rotM many)) (tabOf (rotM many))) = 2 * many := tab_sum2 hm1 hm2
            rw [hts2]
            (try k_fold)
            clear hts2 hts htl hz2
            iterate 9 (first | (k_unfold; (try dsimp only)) | (k_end; wrow_close) | walk1 | (dsimp only; walk1) | (leave1; walk_say "STEP leave1"; try dsimp only) | skip)
            (try dsimp only)
            generalize 2 * many = tw
            iterate 4 (first | (k_unfold; (try dsimp only)) | (k_end; wrow_close) | walk1 | (dsimp only; walk1) | (leave1; walk_say "STEP leave1"; try dsimp only) | skip)
            · exact absurd rfl (by assumption)
            iterate 1 (first | (k_unfold; (try dsimp only)) | (k_end; wrow_close) | walk1 | (dsimp only; walk1) | (leave1; walk_say "STEP leave1"; try dsimp only) | skip)
            refine wpAny_isTrue_Compare1 ?_
            k_dflt (refine' ListComp_none ?wa0 ?wa1 ?wa2 ?wa3 ?wa4 ?wa5 ?wa6 ?wa7 ?_ ?wa8)
            case wa0 => k_asm
            case wa1 => with_unfolding_all rfl
            case wa2 => decide
            case wa3 => with_unfolding_all rfl
            case wa4 => decide
            case wa5 => with_unfolding_all rfl
            case wa6 => with_unfolding_all rfl
            case wa7 => decide
            case wa8 => intro _; with_unfolding_all rfl
            have hT9 := hT8.mono (fun p hp => twice_ledger (b := (ordA, listOf vs.toArray nn)) (c := (s1.heap.objs.size + 1 + 1 + 1, o3')) (d := (rowA, listOf rowV.toArray rowN)) (e := (s1.heap.objs.size + 1, o1)) (f := (s1.heap.objs.size + 1 + 1, o2)) hp)
            k_steps
            (with_reducible rename Fr _ _ _ _ => lF3); (with_reducible rename News _ _ _ _ => lN3); (with_reducible rename Heap.IsItemsView _ _ _ => lV3)
            refine' PairSrc.intro ?pa lF3 lN3 lV3 hT9 (fun g => pair_test ?pb ?pc ?pd ?pe ?pf ?pg ?ph ?pi ?pj ?pk ?pl hd3 ?pm (twice_at hm1 hm2)) ?_
            case pa => with_unfolding_all rfl
            case pb => ktr_units
            case pc => intro _; with_unfolding_all rfl
            case pd => intro _; with_unfolding_all rfl
            case pe => intro _; with_unfolding_all rfl
            case pf => decide
            case pg => decide
            case ph => intro _; with_unfolding_all rfl
            case pi => intro _; with_unfolding_all rfl
            case pj => decide
            case pk => with_unfolding_all rfl
            case pl => exact .tail _ (.tail _ (.head _))
            case pm => exact hTab.mono (fun p hp => by simp [hp])
            clear lF3 lN3 lV3
            intro D9 h9 tk9 F9 N9
            (try dsimp only)
            (try k_fold)
            k_steps
            (with_reducible rename Fr _ _ _ _ => lF4); (with_reducible rename News _ _ _ _ => lN4)
            exact cut_end lF4 (news_tl (news_tl lN4))
          · clear lF2 lN2
            intro h9 tk9 F9 N9
            (try dsimp only)
            (try k_fold)
            iterate 2 (first | (k_unfold; (try dsimp only)) | (k_end; wrow_close) | walk1 | (dsimp only; walk1) | (leave1; walk_say "STEP leave1"; try dsimp only) | skip)
            refine wpAny_Compare1 ?_
            k_with "CompSrcT" => refine Hold.out ?_
            have hmB := Hold.mk (⟨hm1, hm2⟩ : 10 ≤ many ∧ many ≤ 40)
            clear hm1 hm2 hp1 hp2 hpf hts htl
            k_dflt (refine' LCt.ListComp_T ?da0 ?da1 ?da2 ?da3 ?da4 ?da5 ?_ ?da6)
            case da0 => k_asm
            case da1 => with_unfolding_all rfl
            case da2 => decide
            case da3 => with_unfolding_all rfl
            case da4 => decide
            case da5 => with_unfolding_all rfl
            case da6 => intro _; with_unfolding_all rfl
            iterate 6 (first | (k_unfold; (try dsimp only)) | (k_end; wrow_close) | walk1 | (dsimp only; walk1) | (leave1; walk_say "STEP leave1"; try dsimp only) | skip)
            k_dflt (refine' range1_rows F9 N9 ?_)
            clear F9 N9
            intro hR9 tkR tR1 tR2 tR3 lR9 F9 N9 _
            (try dsimp only)
            obtain ⟨⟨hm1, hm2⟩⟩ := hmB
            refine' LCt.CompSrcT.range (n := many.toNat) ?g1 F9 N9 lR9 ?g2 ?g3 ?g4 (fun g => none_rest ?gt ?gf)
            case g1 => with_unfolding_all rfl
            case g2 => exact small_one (by decide) (by decide) (by omega) (by omega)
            case g3 => rw [rangeSize_nat, Int.sub_zero]
            case g4 => rw [sizeLine_eq]; omega
            case gt =>
              clear F9 N9 lR9
              intro i t I oI C oC D m₂ h tk E' hi hC hx F₂ N₂ off ne
              rw [Int.zero_add] at hx
              have hlk := last_look' hm1 hm2 hi
              have hGs : (GL.take many.toNat).Pairwise (· ≤ ·) := row_sorted hm1 hm2
              have hGz : (GL.take many.toNat).length < 2 ^ 20 := by rw [hGL]; omega
              have hib : (i : Int) < ((GL.take many.toNat).length : Int) := by rw [hGL]; omega
              refine' look_test (s := s1) (a1 := cntLt (GL.take many.toNat) ((GL.take many.toNat).getD ((i : Int)).toNat 0)) (a2 := cntLe (GL.take many.toNat) ((GL.take many.toNat).getD ((i : Int)).toNat 0)) ?lX ?lT ?la ?lb ?lc ?ld ?le ?lf ?lg ?lh ?li ?lj ?lk ?ll ?lm ?ln ?lo ?lp ?lq d2 ?ls ?lt ?lu ?lv d1 ?lx hRow (Int.natCast_nonneg i) hib ?ly hC hx F₂ N₂ ?cL ?cR hlk.1 hlk.2
              case lX => k_asm
              case lT => k_asm
              case la => k_is
              case lb => k_is
              case lc => k_is
              case ld => k_is
              case le => with_unfolding_all rfl
              case lf => with_unfolding_all rfl
              case lg => with_unfolding_all rfl
              case lh => decide
              case li => with_unfolding_all rfl
              case lj => decide
              case lk => with_unfolding_all rfl
              case ll => decide
              case lm => with_unfolding_all rfl
              case ln => with_unfolding_all rfl
              case lo => decide
              case lp => with_unfolding_all rfl
              case lq => exact .tail _ (.tail _ (.tail _ (.tail _ (.tail _ (.head _)))))
              case ls => with_unfolding_all rfl
              case lt => decide
              case lu => with_unfolding_all rfl
              case lv => exact .tail _ (.tail _ (.tail _ (.tail _ (.head _))))
              case lx => exact .tail _ (.tail _ (.tail _ (.head _)))
              case ly => exact len_small hGL hm2
              case cL =>
                intro hc tkc tc Qc Fc Nc hret
                have Nd := news_dup (p := (ordA, listOf vs.toArray nn)) Nc (.tail _ (.tail _ (.tail _ (.tail _ (.head _)))))
                k_dflt (refine' bisL_call _ _ _ _ _ _ _ _ _ _ _ _ _ _ _ _ _ _ _ _ _ _ _ _ _ _ _ _ ?cL1 ?cL2 ?cL3 ?cL4 ?cL5 ?cLK ?cLi ?cLl ?cLs ?cLd ?cLu ?cLR)
                case cL1 => k_asm
                case cL2 => exact Fc
                case cL3 => k_asm
                case cL4 => exact Nd
                case cL5 => k_asm
                case cLK => first | exact rfl | assumption
                case cLi => exact hVs
                case cLl => exact hGz
                case cLs => exact hGs
                case cLd => ktr_room
                case cLu => ktr_units
                case cLR => exact fun t' h' tk' F' N' => hret h' tk' t' F' (news_tl N')
              case cR =>
                intro hc tkc tc Qc Fc Nc hret
                have Nd := news_dup (p := (ordA, listOf vs.toArray nn)) Nc (.tail _ (.tail _ (.tail _ (.tail _ (.head _)))))
                k_dflt (refine' bisR_call _ _ _ _ _ _ _ _ _ _ _ _ _ _ _ _ _ _ _ _ _ _ _ _ _ _ _ _ ?cR1 ?cR2 ?cR3 ?cR4 ?cR5 ?cRK ?cRi ?cRl ?cRs ?cRd ?cRu ?cRR)
                case cR1 => k_asm
                case cR2 => exact Fc
                case cR3 => k_asm
                case cR4 => exact Nd
                case cR5 => k_asm
                case cRK => first | exact rfl | assumption
                case cRi => exact hVs
                case cRl => exact hGz
                case cRs => exact hGs
                case cRd => ktr_room
                case cRu => ktr_units
                case cRR => exact fun t' h' tk' F' N' => hret h' tk' t' F' (news_tl N')
            case gf =>
              clear F9 N9 lR9
              intro D h tk F₂ N₂ off
              (try dsimp only)
              (try k_fold)
              k_steps
        skip)
end Mine

theorem PySem.Challenge.cw_id0005_01_holds : PySem.Challenge.rw_id0005_01.Holds :=
  Mine.law_holds
