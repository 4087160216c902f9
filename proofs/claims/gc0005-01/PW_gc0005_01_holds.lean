import PyProof.Rows.All
import Wide.All
import OpenK.AllK
import Wide.FinOn
import PySem.Challenge.RW_gc0005_01
open PySem PySem.W PyProof.Rows
set_option Elab.async false
set_option maxRecDepth 100000
set_option maxHeartbeats 8000000
namespace Mine
/-! the top, run once -/
open_top hd for PySem.Challenge.rw_gc0005_01

/-! the plain law: an edit distance, and signs said twice -/
/-- the unit edit distance, alike heads matched at once -/
noncomputable def D : List Nat → List Nat → Nat
  | [], b => b.length
  | x :: a, [] => (x :: a).length
  | x :: a, y :: b => if x = y then D a b else 1 + min (D a b) (min (D (x :: a) b) (D a (y :: b)))
termination_by a b => a.length + b.length

theorem D_nil (b : List Nat) : D [] b = b.length := by rw [D]
theorem D_nil' (a : List Nat) : D a [] = a.length := by cases a <;> rw [D]
theorem D_same (x : Nat) (a b : List Nat) : D (x :: a) (x :: b) = D a b := by rw [D, if_pos rfl]
theorem D_diff {x y : Nat} (h : x ≠ y) (a b : List Nat) : D (x :: a) (y :: b) = 1 + min (D a b) (min (D (x :: a) b) (D a (y :: b))) := by rw [D, if_neg h]

theorem D_comm_n : ∀ (n : Nat) (a b : List Nat), a.length + b.length ≤ n → D a b = D b a := by
  intro n
  induction n with
  | zero =>
    intro a b h
    have ha : a = [] := List.length_eq_zero_iff.mp (by omega)
    have hb : b = [] := List.length_eq_zero_iff.mp (by omega)
    rw [ha, hb]
  | succ n ih =>
    intro a b h
    cases a with
    | nil => rw [D_nil, D_nil']
    | cons x a =>
      cases b with
      | nil => rw [D_nil, D_nil']
      | cons y b =>
        simp only [List.length_cons] at h
        by_cases e : x = y
        · subst e
          rw [D_same, D_same]
          exact ih a b (by omega)
        · rw [D_diff e, D_diff (Ne.symm e), ih a b (by omega), ih (x :: a) b (by simp only [List.length_cons]; omega), ih a (y :: b) (by simp only [List.length_cons]; omega)]
          omega
theorem D_comm (a b : List Nat) : D a b = D b a := D_comm_n _ a b (Nat.le_refl _)

theorem D_step_n : ∀ (n : Nat) (a b : List Nat), a.length + b.length ≤ n → ∀ x, D a b ≤ D (x :: a) b + 1 ∧ D (x :: a) b ≤ D a b + 1 := by
  intro n
  induction n with
  | zero =>
    intro a b h x
    have hb : b = [] := List.length_eq_zero_iff.mp (by omega)
    rw [hb, D_nil', D_nil', List.length_cons]
    omega
  | succ n ih =>
    intro a b h x
    cases b with
    | nil =>
      rw [D_nil', D_nil', List.length_cons]
      omega
    | cons y b =>
      simp only [List.length_cons] at h
      have h1 := ih b a (by omega) y
      rw [D_comm b a, D_comm (y :: b) a] at h1
      by_cases e : x = y
      · subst e
        rw [D_same]
        omega
      · rw [D_diff e]
        have h2 := ih a b (by omega) x
        omega
theorem D_step (x : Nat) (a b : List Nat) : D a b ≤ D (x :: a) b + 1 ∧ D (x :: a) b ≤ D a b + 1 := D_step_n _ a b (Nat.le_refl _) x
theorem D_step' (y : Nat) (a b : List Nat) : D a b ≤ D a (y :: b) + 1 ∧ D a (y :: b) ≤ D a b + 1 := by
  have h := D_step y b a
  rw [D_comm b a, D_comm (y :: b) a] at h
  exact h
theorem D_le_sub (x y : Nat) (a b : List Nat) : D (x :: a) (y :: b) ≤ D a b + 1 := by
  by_cases e : x = y
  · subst e; rw [D_same]; omega
  · rw [D_diff e]; omega

/-- the rows' own recurrence -/
theorem D_std (x y : Nat) (a b : List Nat) : D (x :: a) (y :: b) = min (min (D (x :: a) b) (D a (y :: b)) + 1) (D a b + if x = y then 0 else 1) := by
  have h1 := D_step x a b
  have h2 := D_step' y a b
  by_cases e : x = y
  · subst e
    rw [D_same, if_pos rfl]
    omega
  · rw [D_diff e, if_neg e]
    omega

inductive Ed : List Nat → List Nat → Nat → Prop
  | nil : Ed [] [] 0
  | del {x a b k} : Ed a b k → Ed (x :: a) b (k + 1)
  | ins {y a b k} : Ed a b k → Ed a (y :: b) (k + 1)
  | sub {x y a b k} : Ed a b k → Ed (x :: a) (y :: b) (k + 1)
  | same {x a b k} : Ed a b k → Ed (x :: a) (x :: b) k

theorem Ed.le {a b : List Nat} {k : Nat} (h : Ed a b k) : D a b ≤ k := by
  induction h with
  | nil => rw [D_nil]; exact Nat.le_refl _
  | @del x a b k _ ih => have := (D_step x a b).2; omega
  | @ins y a b k _ ih => have := (D_step' y a b).2; omega
  | @sub x y a b k _ ih => have := D_le_sub x y a b; omega
  | same _ ih => rw [D_same]; exact ih
theorem Ed.nils : ∀ b : List Nat, Ed [] b b.length
  | [] => .nil
  | _ :: b => .ins (Ed.nils b)
theorem Ed.nils' : ∀ b : List Nat, Ed b [] b.length
  | [] => .nil
  | _ :: b => .del (Ed.nils' b)
theorem Ed.cast {a b : List Nat} {k l : Nat} (h : Ed a b k) (e : k = l) : Ed a b l := e ▸ h
theorem Ed.of_n : ∀ (n : Nat) (a b : List Nat), a.length + b.length ≤ n → Ed a b (D a b) := by
  intro n
  induction n with
  | zero =>
    intro a b h
    have ha : a = [] := List.length_eq_zero_iff.mp (by omega)
    have hb : b = [] := List.length_eq_zero_iff.mp (by omega)
    rw [ha, hb, D_nil]
    exact .nil
  | succ n ih =>
    intro a b h
    cases a with
    | nil => rw [D_nil]; exact Ed.nils b
    | cons x a =>
      cases b with
      | nil => rw [D_nil']; exact Ed.nils' (x :: a)
      | cons y b =>
        simp only [List.length_cons] at h
        by_cases e : x = y
        · subst e
          rw [D_same]
          exact .same (ih a b (by omega))
        · rw [D_diff e]
          have c : min (D a b) (min (D (x :: a) b) (D a (y :: b))) = D a b ∨ min (D a b) (min (D (x :: a) b) (D a (y :: b))) = D (x :: a) b ∨ min (D a b) (min (D (x :: a) b) (D a (y :: b))) = D a (y :: b) := by omega
          rcases c with c | c | c <;> rw [c]
          · exact (Ed.sub (ih a b (by omega))).cast (by omega)
          · exact (Ed.ins (ih (x :: a) b (by simp only [List.length_cons]; omega))).cast (by omega)
          · exact (Ed.del (ih a (y :: b) (by simp only [List.length_cons]; omega))).cast (by omega)
theorem Ed.of (a b : List Nat) : Ed a b (D a b) := Ed.of_n _ a b (Nat.le_refl _)
theorem Ed.append {a b c d : List Nat} {k l : Nat} (h : Ed a b k) (h' : Ed c d l) : Ed (a ++ c) (b ++ d) (k + l) := by
  induction h with
  | nil => simpa using h'
  | del _ ih => exact (Ed.del ih).cast (by omega)
  | ins _ ih => exact (Ed.ins ih).cast (by omega)
  | sub _ ih => exact (Ed.sub ih).cast (by omega)
  | same _ ih => exact Ed.same ih
theorem Ed.rev {a b : List Nat} {k : Nat} (h : Ed a b k) : Ed a.reverse b.reverse k := by
  induction h with
  | nil => exact .nil
  | @del x a b k _ ih => simpa using ih.append (Ed.del (x := x) Ed.nil)
  | @ins y a b k _ ih => simpa using ih.append (Ed.ins (y := y) Ed.nil)
  | @sub x y a b k _ ih => simpa using ih.append (Ed.sub (x := x) (y := y) Ed.nil)
  | @same x a b k _ ih => simpa using ih.append (Ed.same (x := x) Ed.nil)
theorem D_rev (a b : List Nat) : D a.reverse b.reverse = D a b := by
  have h1 := (Ed.of a b).rev.le
  have h2 := (Ed.of a.reverse b.reverse).rev.le
  simp only [List.reverse_reverse] at h2
  omega
theorem D_snoc (x : Nat) (a b : List Nat) : D (a ++ [x]) (b ++ [x]) = D a b := by
  rw [← D_rev (a ++ [x]), List.reverse_append, List.reverse_append]
  show D (x :: a.reverse) (x :: b.reverse) = _
  rw [D_same, D_rev]
theorem Ed.lens {a b : List Nat} {k : Nat} (h : Ed a b k) : a.length ≤ k + b.length ∧ b.length ≤ k + a.length := by
  induction h <;> simp only [List.length_cons, List.length_nil] at * <;> omega
theorem D_lens (a b : List Nat) : a.length ≤ D a b + b.length ∧ b.length ≤ D a b + a.length := (Ed.of a b).lens
theorem D_max : ∀ (a b : List Nat), D a b ≤ max a.length b.length
  | [], b => by rw [D_nil]; simp
  | x :: a, [] => by rw [D_nil']; simp
  | x :: a, y :: b => by
    have h1 := D_max a b
    have h2 := D_le_sub x y a b
    simp only [List.length_cons]
    omega
theorem Ed.zero {a b : List Nat} {k : Nat} (h : Ed a b k) (e : k = 0) : a = b := by
  induction h with
  | nil => rfl
  | del _ _ => omega
  | ins _ _ => omega
  | sub _ _ => omega
  | same _ ih => rw [ih e]
theorem D_self : ∀ a : List Nat, D a a = 0
  | [] => by rw [D_nil]; rfl
  | x :: a => by rw [D_same]; exact D_self a
theorem D_zero (a b : List Nat) : D a b = 0 ↔ a = b := ⟨fun h => (Ed.of a b).zero h, fun h => h ▸ D_self a⟩

abbrev tw (l : List Nat) : List Nat := StrLaws.dbl 34 l
theorem tw_nil : tw [] = [] := rfl
theorem tw_mark (a : List Nat) : tw (34 :: a) = 34 :: 34 :: tw a := by show (if _ then _ else _) = _; rw [if_pos rfl]
theorem tw_other {x : Nat} (h : x ≠ 34) (a : List Nat) : tw (x :: a) = x :: tw a := by show (if _ then _ else _) = _; rw [if_neg h]
theorem tw_len : ∀ a : List Nat, a.length ≤ (tw a).length ∧ (tw a).length ≤ 2 * a.length
  | [] => by simp [tw_nil]
  | x :: a => by
    have ih := tw_len a
    by_cases h : x = 34
    · subst h; rw [tw_mark]; simp only [List.length_cons]; omega
    · rw [tw_other h]; simp only [List.length_cons]; omega

/-- no farther than twice as far -/
theorem far_wide2 {a b : List Nat} {k : Nat} (h : Ed a b k) : D (tw a) (tw b) ≤ 2 * k := by
  induction h with
  | nil => rw [tw_nil, D_nil]; simp
  | @del x a b k _ ih =>
    by_cases h : x = 34
    · subst h; rw [tw_mark]
      have h1 := (D_step 34 (34 :: tw a) (tw b)).2
      have h2 := (D_step 34 (tw a) (tw b)).2
      omega
    · rw [tw_other h]
      have h1 := (D_step x (tw a) (tw b)).2
      omega
  | @ins y a b k _ ih =>
    by_cases h : y = 34
    · subst h; rw [tw_mark]
      have h1 := (D_step' 34 (tw a) (34 :: tw b)).2
      have h2 := (D_step' 34 (tw a) (tw b)).2
      omega
    · rw [tw_other h]
      have h1 := (D_step' y (tw a) (tw b)).2
      omega
  | @sub x y a b k _ ih =>
    by_cases h : x = 34
    · subst h; rw [tw_mark]
      by_cases h' : y = 34
      · subst h'; rw [tw_mark, D_same, D_same]; omega
      · rw [tw_other h']
        have h1 := D_le_sub 34 y (34 :: tw a) (tw b)
        have h2 := (D_step 34 (tw a) (tw b)).2
        omega
    · rw [tw_other h]
      by_cases h' : y = 34
      · subst h'; rw [tw_mark]
        have h1 := D_le_sub x 34 (tw a) (34 :: tw b)
        have h2 := (D_step' 34 (tw a) (tw b)).2
        omega
      · rw [tw_other h']
        have h1 := D_le_sub x y (tw a) (tw b)
        omega
  | @same x a b k _ ih =>
    by_cases h : x = 34
    · subst h; rw [tw_mark, tw_mark, D_same, D_same]; exact ih
    · rw [tw_other h, tw_other h, D_same]; exact ih

/-- a mark against another sign, both read on -/
theorem near_mark {d : Nat} (hd : d ≠ 34) (x y : List Nat) (hB : D x y + D (34 :: x) y ≤ 2 * D (34 :: tw x) (tw y)) (hA : D (34 :: x) y ≤ D (tw (34 :: x)) (tw y))
    (hB' : D x (d :: y) + D (34 :: x) (d :: y) ≤ 2 * D (34 :: tw x) (tw (d :: y))) : D (34 :: x) (d :: y) ≤ D (tw (34 :: x)) (tw (d :: y)) := by
  rw [tw_mark] at hA
  rw [tw_other hd] at hB'
  rw [tw_mark, tw_other hd, D_diff (Ne.symm hd) (34 :: tw x)]
  have h1 := D_le_sub 34 d x y
  have h2 := (D_step' d (34 :: x) y).2
  have h3 := (D_step 34 x (d :: y)).2
  omega
theorem near_n : ∀ (n : Nat), (∀ x y : List Nat, x.length + y.length ≤ n → D x y ≤ D (tw x) (tw y)) ∧ (∀ x y : List Nat, x.length + y.length ≤ n → D x y + D (34 :: x) y ≤ 2 * D (34 :: tw x) (tw y)) := by
  intro n
  induction n with
  | zero =>
    have hz : ∀ x y : List Nat, x.length + y.length ≤ 0 → x = [] ∧ y = [] := fun x y h => ⟨List.length_eq_zero_iff.mp (by omega), List.length_eq_zero_iff.mp (by omega)⟩
    refine ⟨fun x y h => ?_, fun x y h => ?_⟩
    · obtain ⟨rfl, rfl⟩ := hz x y h
      simp [tw_nil]
    · obtain ⟨rfl, rfl⟩ := hz x y h
      rw [tw_nil, D_nil', D_nil']
      simp
  | succ n ih =>
    obtain ⟨iA, iB⟩ := ih
    have hA : ∀ x y : List Nat, x.length + y.length ≤ n + 1 → D x y ≤ D (tw x) (tw y) := by
      intro x y h
      cases x with
      | nil => rw [tw_nil, D_nil, D_nil]; exact (tw_len y).1
      | cons c x =>
        cases y with
        | nil => rw [tw_nil, D_nil', D_nil']; exact (tw_len _).1
        | cons d y =>
          simp only [List.length_cons] at h
          by_cases hc : c = 34
          · subst hc
            by_cases hd : d = 34
            · subst hd
              rw [tw_mark, tw_mark, D_same, D_same, D_same]
              exact iA x y (by omega)
            · exact near_mark hd x y (iB x y (by omega)) (iA (34 :: x) y (by simp only [List.length_cons]; omega)) (iB x (d :: y) (by simp only [List.length_cons]; omega))
          · by_cases hd : d = 34
            · subst hd
              rw [D_comm (c :: x), D_comm (tw (c :: x))]
              exact near_mark hc y x (iB y x (by omega)) (iA (34 :: y) x (by simp only [List.length_cons]; omega)) (iB y (c :: x) (by simp only [List.length_cons]; omega))
            · by_cases e : c = d
              · subst e
                rw [tw_other hc, tw_other hc, D_same, D_same]
                exact iA x y (by omega)
              · have h1 := iA x y (by omega)
                have h2 := iA (c :: x) y (by simp only [List.length_cons]; omega)
                have h3 := iA x (d :: y) (by simp only [List.length_cons]; omega)
                rw [tw_other hc] at h2
                rw [tw_other hd] at h3
                rw [tw_other hc, tw_other hd, D_diff e, D_diff e]
                omega
    refine ⟨hA, fun x y h => ?_⟩
    cases y with
    | nil =>
      have := (tw_len x).1
      rw [tw_nil, D_nil', D_nil', D_nil']
      simp only [List.length_cons]
      omega
    | cons d y =>
      simp only [List.length_cons] at h
      by_cases hd : d = 34
      · subst hd
        rw [tw_mark, D_same, D_same, D_comm (tw x), D_comm x y, D_comm x (34 :: y)]
        have := iB y x (by omega)
        omega
      · have h1 := iA x y (by omega)
        have h2 := iB x y (by omega)
        have h3 := hA x (d :: y) (by simp only [List.length_cons]; omega)
        rw [tw_other hd] at h3
        rw [tw_other hd, D_diff (Ne.symm hd) (tw x)]
        have h4 := (D_step' d x y).2
        have h5 := D_le_sub 34 d x y
        have h6 := (D_step' d (34 :: x) y).2
        have h7 := (D_step 34 x (d :: y)).2
        omega
theorem far_le_wide (x y : List Nat) : D x y ≤ D (tw x) (tw y) := (near_n _).1 x y (Nat.le_refl _)
theorem wide_le (x y : List Nat) : D (tw x) (tw y) ≤ 2 * D x y := far_wide2 (Ed.of x y)
theorem D_twice_le : ∀ a : List Nat, D a (tw a) ≤ (tw a).length - a.length
  | [] => by rw [tw_nil, D_nil]; simp
  | x :: a => by
    have ih := D_twice_le a
    have hl := (tw_len a).1
    by_cases h : x = 34
    · subst h
      rw [tw_mark, D_same]
      have := (D_step' 34 a (tw a)).2
      simp only [List.length_cons]
      omega
    · rw [tw_other h, D_same]
      simp only [List.length_cons]
      omega
theorem D_twice (a : List Nat) : D a (tw a) + a.length = (tw a).length := by
  have h1 := D_twice_le a
  have h2 := (D_lens a (tw a)).2
  have h3 := (tw_len a).1
  omega

/-! what the calls hand back -/
abbrev TopA (hh : Option Value) (dp un : Nat) (gd : Option (List Code)) (cn : Str) (cs : Scope) (L a : Addr) (ccd : Value) (cl : List (Str × Addr)) (outer : List Env) : Around :=
  { handled := hh, depth := dp, frames := some (envX cn cs L a ccd cl :: outer), guards := gd, units := un }

/-- what a call of the def at f hands back: R, the made objects as they were -/
def Cl (w : World) (mean : ExcName → Option Value) (mg mb : Str → Option Value) (f : Addr) (need : Nat) (news : List (Addr × Obj)) (vs : List Value) (R : Tok → Value) : Prop :=
  ∀ (hh : Option Value) (dp un : Nat) (gd : Option (List Code)) (cn : Str) (cs : Scope) (a : Addr) (ccd : Value) (cl : List (Str × Addr)) (outer : List Env) (A₀ : Around) (base h₀ : Heap) (L : Addr) (m : Str → Option Value) (s : Shared) (Q E : Value → Shared → Prop),
    Below A₀ base outer h₀ → Fr h₀ L s.heap m → (hd.heap_39 w.params).In h₀ → News h₀ L s.heap news → Top hd.view_39 (looseW hd.view_39 []) mean mg mb h₀ → cs.kind = .function →
      dp + need < recursionLimit → un + 8 * need < cLine →
      (∀ (t : Tok) (h' : Heap) (tk' : Nat), Fr h₀ L h' m → News h₀ L h' news → Q (R t) { s with heap := h', toks := tk' }) →
      wpAny (model PySem.Challenge.rw_gc0005_01.row.prog w) (TopA hh dp un gd cn cs L a ccd cl outer) (call (.ref f) vs) Q E s

/-- the same, no exception being handled -/
def ClN (w : World) (mean : ExcName → Option Value) (mg mb : Str → Option Value) (f : Addr) (need : Nat) (news : List (Addr × Obj)) (vs : List Value) (R : Tok → Value) : Prop :=
  ∀ (dp un : Nat) (gd : Option (List Code)) (cn : Str) (cs : Scope) (a : Addr) (ccd : Value) (cl : List (Str × Addr)) (outer : List Env) (A₀ : Around) (base h₀ : Heap) (L : Addr) (m : Str → Option Value) (s : Shared) (Q E : Value → Shared → Prop),
    Below A₀ base outer h₀ → Fr h₀ L s.heap m → (hd.heap_39 w.params).In h₀ → News h₀ L s.heap news → Top hd.view_39 (looseW hd.view_39 []) mean mg mb h₀ → cs.kind = .function →
      dp + need < recursionLimit → un + 8 * need < cLine →
      (∀ (t : Tok) (h' : Heap) (tk' : Nat), Fr h₀ L h' m → News h₀ L h' news → Q (R t) { s with heap := h', toks := tk' }) →
      wpAny (model PySem.Challenge.rw_gc0005_01.row.prog w) (TopA none dp un gd cn cs L a ccd cl outer) (call (.ref f) vs) Q E s

/-- the sign that the script's number stands for -/
def signOf (n : Int) : Nat := ([97, 34, 32] : List Nat).getD (n % 3).toNat 0
def nameL (ns : List Int) : List Nat := ns.map signOf
def nameS (ns : List Int) : Str := ⟨(nameL ns).toArray⟩
def twiceS (x : Str) : Str := ⟨(StrLaws.dbl 34 x.cps.toList).toArray⟩

/-- what parse257 reads behind the first five signs -/
noncomputable def rd : List Nat → List Nat
  | [] => []
  | c :: r => if c = 34 then (match r with
    | [] => []
    | d :: r' => if d = 34 then 34 :: rd r' else []) else c :: rd r
termination_by l => l.length

noncomputable def parseL (l : List Nat) : List Nat := if (l.drop 3).take 2 = [32, 34] then rd (l.drop 5) else []

noncomputable def levF (x y : Str) : Int := 2 * (D x.cps.toList y.cps.toList : Int)
noncomputable def parseF (x : Str) : Str := ⟨(parseL x.cps.toList).toArray⟩

/-- the three signs alone -/
def Plain (x : Str) : Prop := x.length ≤ 40 ∧ ∀ c ∈ x.cps.toList, c = 97 ∨ c = 34 ∨ c = 32


def Alpha (x : Str) : Prop := ∀ c ∈ x.cps.toList, c = 97 ∨ c = 34 ∨ c = 32
def signS (n : Int) : Str := ⟨#[signOf n]⟩

theorem Alpha.append {x y : Str} (hx : Alpha x) (hy : Alpha y) : Alpha (x ++ y) := by
  intro c hc
  rw [PySem.Str.cps_append, Array.toList_append, List.mem_append] at hc
  exact hc.elim (hx c) (hy c)
theorem signOf_alpha (n : Int) : signOf n = 97 ∨ signOf n = 34 ∨ signOf n = 32 := by
  unfold signOf
  have h0 : 0 ≤ n % 3 := Int.emod_nonneg _ (by decide)
  have h1 : n % 3 < 3 := Int.emod_lt_of_pos _ (by decide)
  have h2 : (n % 3).toNat = 0 ∨ (n % 3).toNat = 1 ∨ (n % 3).toNat = 2 := by omega
  rcases h2 with e | e | e <;> rw [e] <;> simp
theorem item_sign (n : Int) : signS n = Txt.item (Str.ofString "a\" ") (n.fmod 3) := by
  have e : n.fmod 3 = n % 3 := Int.fmod_eq_emod_of_nonneg n (by decide)
  rw [e]
  have h0 : 0 ≤ n % 3 := Int.emod_nonneg _ (by decide)
  have h1 : n % 3 < 3 := Int.emod_lt_of_pos _ (by decide)
  unfold signS signOf
  have h2 : n % 3 = 0 ∨ n % 3 = 1 ∨ n % 3 = 2 := by omega
  rcases h2 with e | e | e <;> rw [e] <;> decide +kernel
theorem join_alpha : ∀ (l : List Int), (∀ c ∈ (Str.join (Str.ofString "") (l.map signS)).cps.toList, c = 97 ∨ c = 34 ∨ c = 32)
  | [] => by
    intro c hc
    exact absurd hc (by simp [Str.join, Str.empty])
  | [n] => by
    intro c hc
    have e : c = signOf n := by simpa [Str.join, signS] using hc
    rw [e]; exact signOf_alpha n
  | n :: k :: r => by
    have ih := join_alpha (k :: r)
    intro c hc
    have e : (Str.join (Str.ofString "") ((n :: k :: r).map signS)) = signS n ++ Str.ofString "" ++ Str.join (Str.ofString "") ((k :: r).map signS) := rfl
    rw [e, PySem.Str.cps_append, Array.toList_append, List.mem_append, PySem.Str.cps_append, Array.toList_append, List.mem_append] at hc
    rcases hc with (hc | hc) | hc
    · have e : c = signOf n := by simpa [signS] using hc
      rw [e]; exact signOf_alpha n
    · rw [show (Str.ofString "").cps.toList = [] from by decide +kernel] at hc
      exact absurd hc List.not_mem_nil
    · exact ih c hc

section
variable {prog : Program} {w : World} {A : Around} {E : Value → Shared → Prop} {s : Shared} {t : Tok} {Q : Value → Shared → Prop} {h₀ : Heap} {L : Addr} {m : Str → Option Value} {news : List (Addr × Obj)}
theorem my_join {Da : Addr} {ys : List Value} {l : List Int} (hl : s.heap.IsList Da ys.toArray) (hc : CarriedAll ys (l.map fun a => PyData.str (signS a))) (hn : l.length ≤ 12)
    (h : ∀ (x : Str) t' k, x.length ≤ 12 → Alpha x → Q (.str x t') { s with toks := k }) :
    wpAny (model prog w) A (call (.builtin "str.join") [.str (PySem.Str.ofString "") t, .ref Da]) Q E s :=
  KT.join_1 hl hc (fun _ _ => rfl) (by omega) fun t' k e => h _ t' k (by rw [e]; exact hn) (by
    intro c hc
    unfold Txt.join at hc
    rw [StrLaws.glued_eq_join] at hc
    exact join_alpha l c hc)
theorem slice_to (x : Str) {j : Int} (h : 0 ≤ j) : (Txt.slice x none (some j)).cps.toList = x.cps.toList.take j.toNat := by
  by_cases h2 : j ≤ (x.length : Int)
  · rw [eq_of_beq (slice_closes_toL h h2)]
    simp
  · rw [slice_to_beyond (by omega), eq_of_beq (slice_closes_toL (j := (x.length : Int)) (by omega) (by omega))]
    have hl : x.cps.toList.length = x.length := Array.length_toList
    simp only [Int.toNat_zero, List.drop_zero, Int.sub_zero, Int.toNat_natCast]
    rw [List.take_of_length_le (by omega), List.take_of_length_le (by omega)]
theorem slice_from (x : Str) {i : Int} (h : 0 ≤ i) : (Txt.slice x (some i) none).cps.toList = x.cps.toList.drop i.toNat := by
  have hl : x.cps.toList.length = x.length := Array.length_toList
  by_cases h2 : i ≤ (x.length : Int)
  · rw [eq_of_beq (slice_closes_fromL (b := (x.length : Int)) h h2 rfl)]
    show List.take _ _ = _
    rw [List.take_of_length_le (by rw [List.length_drop]; omega)]
  · rw [slice_beyond (by omega), List.drop_of_length_le (by omega)]
    rfl
theorem slice_alpha {x : Str} {l u : Option Int} (hx : Alpha x) : Alpha (Txt.slice x l u) := by
  intro c hc
  unfold Txt.slice at hc
  split at hc
  · exact hx c hc
  · have hc' : c ∈ List.filterMap (fun i => x.cps[i]?) (Builtin.Str.strSliceIndices l u 1 x.length) := by simpa using hc
    obtain ⟨i, _, hi⟩ := List.mem_filterMap.mp hc'
    exact hx c (by
      have := Array.mem_of_getElem? hi
      simpa using this)
end
section
variable {prog : Program} {w : World} {A : Around} {E : Value → Shared → Prop} {s : Shared} {value slice : PySem.Expr} {x : Str} {t : Tok} {h₀ : Heap} {L : Addr} {m : Str → Option Value} {news : List (Addr × Obj)} {Q : Value → Shared → Prop}
theorem my_slice2 {uj : Tok} (hF : Fr h₀ L s.heap m) (hN : News h₀ L s.heap news) (hA : Alpha x) (hx : x.length ≤ 12) (h : ∀ (z : Str) h' t' k, Fr h₀ L h' m → News h₀ L h' news → z.length ≤ 2 → Alpha z → Q (.str z t') { s with heap := h', toks := k })
    (hs : subscripted slice false (.str x t) (.ref s.heap.objs.size) = operate [.ref s.heap.objs.size, .str x t] (getItem (.str x t) (.ref s.heap.objs.size)) := by with_unfolding_all rfl)
    (ht : ∀ r, letTemporaryGo value (.str x t) r = pure () := by intro _; with_unfolding_all rfl) :
    wpAny (model prog w) A (subscriptTail value slice (.str x t) (.ref s.heap.objs.size)) Q E { s with heap := s.heap.push { cls := .type "slice", data := .fields #[.none, .int 2 uj, .none] } } :=
  slice_strN_ns hF hN (fun h' t' k F N => h _ h' t' k F N (by
    show (Txt.slice x none (some 2)).cps.size ≤ 2
    rw [← Array.length_toList, slice_to x (by decide), List.length_take]
    exact Nat.min_le_left _ _) (slice_alpha hA)) hs ht (by rw [PySem.sizeLine_eq]; omega)
end
section
variable {prog : Program} {w : World} {A : Around} {E : Value → Shared → Prop} {s : Shared} {value slice : PySem.Expr} {x y : Str} {t : Tok} {h₀ : Heap} {L : Addr} {m : Str → Option Value} {news : List (Addr × Obj)} {Q : Value → Shared → Prop}
theorem my_slice550 {uj : Tok} (hF : Fr h₀ L s.heap m) (hN : News h₀ L s.heap news) (hx : x.length ≤ 100) (hy : y.length ≤ 100) (h : ∀ h' t' k, Fr h₀ L h' m → News h₀ L h' news → Q (.str (Str.ofString "550") t') { s with heap := h', toks := k })
    (hs : subscripted slice false (.str (Str.ofString "550 \"" ++ x ++ y) t) (.ref s.heap.objs.size) = operate [.ref s.heap.objs.size, .str (Str.ofString "550 \"" ++ x ++ y) t] (getItem (.str (Str.ofString "550 \"" ++ x ++ y) t) (.ref s.heap.objs.size)) := by with_unfolding_all rfl)
    (ht : ∀ r, letTemporaryGo value (.str (Str.ofString "550 \"" ++ x ++ y) t) r = pure () := by intro _; with_unfolding_all rfl) :
    wpAny (model prog w) A (subscriptTail value slice (.str (Str.ofString "550 \"" ++ x ++ y) t) (.ref s.heap.objs.size)) Q E { s with heap := s.heap.push { cls := .type "slice", data := .fields #[.none, .int 3 uj, .none] } } :=
  slice_strN_ns hF hN (fun h' t' k F N => by
    have e : Txt.slice (Str.ofString "550 \"" ++ x ++ y) none (some 3) = Str.ofString "550" := by
      apply PySem.Str.ext'
      apply Array.toList_inj.mp
      rw [slice_to _ (by decide), PySem.Str.cps_append, PySem.Str.cps_append, Array.toList_append, Array.toList_append, List.append_assoc]
      have e1 : (Str.ofString "550 \"").cps.toList = [53, 53, 48, 32, 34] := by decide +kernel
      have e2 : (Str.ofString "550").cps.toList = [53, 53, 48] := by decide +kernel
      rw [e1, e2]
      rfl
    rw [e]
    exact h h' t' k F N) hs ht (by
      have e1 : (Str.ofString "550 \"").length = 5 := by decide +kernel
      rw [PySem.sizeLine_eq, PySem.Str.length_append, PySem.Str.length_append]; omega)
end
theorem tw_list (x : Str) : (twiceS x).cps.toList = tw x.cps.toList := by simp [twiceS]
theorem len_list (x : Str) : x.cps.toList.length = x.length := Array.length_toList
theorem tw_length (x : Str) : (twiceS x).length = (tw x.cps.toList).length := by rw [← len_list, tw_list]
theorem str_ext {x y : Str} (h : x.cps.toList = y.cps.toList) : x = y := PySem.Str.ext' (Array.toList_inj.mp h)
theorem dbl_mem : ∀ (l : List Nat) (c : Nat), c ∈ StrLaws.dbl 34 l → c ∈ l
  | [], _, h => h
  | k :: r, c, h => by
    have ih := dbl_mem r c
    unfold StrLaws.dbl at h
    split at h
    · rcases List.mem_cons.mp h with e | h
      · exact e ▸ List.mem_cons_self
      · rcases List.mem_cons.mp h with e | h
        · exact e ▸ List.mem_cons_self
        · exact List.mem_cons_of_mem _ (ih h)
    · rcases List.mem_cons.mp h with e | h
      · exact e ▸ List.mem_cons_self
      · exact List.mem_cons_of_mem _ (ih h)
theorem Alpha.twice {x : Str} (h : Alpha x) : Alpha (twiceS x) := fun c hc => h c (dbl_mem _ c (by simpa [twiceS] using hc))
theorem cnt_tw : ∀ l : List Nat, cnt 34 l + l.length = (tw l).length
  | [] => rfl
  | k :: r => by
    have ih := cnt_tw r
    rw [cnt_cons]
    by_cases h : k = 34
    · subst h; rw [tw_mark, if_pos rfl]; simp only [List.length_cons]; omega
    · rw [tw_other h, if_neg h]; simp only [List.length_cons]; omega
theorem levF_twice (x : Str) : levF x (twiceS x) = 2 * Txt.count x (Str.ofString "\"") := by
  have e : Str.ofString "\"" = ⟨#[34]⟩ := by decide +kernel
  have h1 := cnt_tw x.cps.toList
  have h2 := D_twice x.cps.toList
  have h3 : Txt.count x ⟨#[34]⟩ = cnt 34 x.cps.toList := count_is x 34
  rw [e, h3]
  unfold levF
  rw [tw_list]
  omega
theorem twice_len (x : Str) : x.length ≤ (twiceS x).length ∧ (twiceS x).length ≤ 2 * x.length := by
  have h := tw_len x.cps.toList
  rw [tw_length, ← len_list]
  exact h
theorem law_facts (x y : Str) : 0 ≤ levF x y ∧ levF x y ≤ levF (twiceS x) (twiceS y) ∧ levF (twiceS x) (twiceS y) ≤ 2 * levF x y ∧ 2 * ((twiceS x).length - (twiceS y).length : Int) ≤ levF (twiceS x) (twiceS y) ∧ 2 * ((twiceS y).length - (twiceS x).length : Int) ≤ levF (twiceS x) (twiceS y) ∧ ((levF (twiceS x) (twiceS y) = 0) ↔ x = y) := by
  have h1 := far_le_wide x.cps.toList y.cps.toList
  have h2 := wide_le x.cps.toList y.cps.toList
  have h3 := D_lens (tw x.cps.toList) (tw y.cps.toList)
  have h4 := D_zero x.cps.toList y.cps.toList
  unfold levF
  rw [tw_list, tw_list, tw_length, tw_length]
  refine ⟨by omega, by omega, by omega, by omega, by omega, fun h => str_ext (h4.mp (by omega)), fun h => ?_⟩
  subst h
  have := D_self (tw x.cps.toList)
  omega
theorem Cl.go {w : World} {mean : ExcName → Option Value} {mg mb : Str → Option Value} {f : Addr} {need : Nat} {news : List (Addr × Obj)} {vs : List Value} {R : Tok → Value} (C : Cl w mean mg mb f need news vs R)
  {hh : Option Value} {dp un : Nat} {gd : Option (List Code)} {cn : Str} {cs : Scope} {a : Addr} {ccd : Value} {cl : List (Str × Addr)} {outer : List Env} {A₀ : Around} {base h₀ : Heap} {L : Addr} {m : Str → Option Value} {s : Shared} {Q E : Value → Shared → Prop}
    (B : Below A₀ base outer h₀) (F : Fr h₀ L s.heap m) (K : (hd.heap_39 w.params).In h₀) (N : News h₀ L s.heap news) (T : Top hd.view_39 (looseW hd.view_39 []) mean mg mb h₀) (hk : cs.kind = .function)
    (hd : dp + need < recursionLimit) (hu : un + 8 * need < cLine)
    (ret : ∀ (t : Tok) (h' : Heap) (tk' : Nat), Fr h₀ L h' m → News h₀ L h' news → Q (R t) { s with heap := h', toks := tk' }) :
    wpAny (model PySem.Challenge.rw_gc0005_01.row.prog w) (TopA hh dp un gd cn cs L a ccd cl outer) (call (.ref f) vs) Q E s :=
  C hh dp un gd cn cs a ccd cl outer A₀ base h₀ L m s Q E B F K N T hk hd hu ret
theorem ClN.go {w : World} {mean : ExcName → Option Value} {mg mb : Str → Option Value} {f : Addr} {need : Nat} {news : List (Addr × Obj)} {vs : List Value} {R : Tok → Value} (C : ClN w mean mg mb f need news vs R)
  {dp un : Nat} {gd : Option (List Code)} {cn : Str} {cs : Scope} {a : Addr} {ccd : Value} {cl : List (Str × Addr)} {outer : List Env} {A₀ : Around} {base h₀ : Heap} {L : Addr} {m : Str → Option Value} {s : Shared} {Q E : Value → Shared → Prop}
    (B : Below A₀ base outer h₀) (F : Fr h₀ L s.heap m) (K : (hd.heap_39 w.params).In h₀) (N : News h₀ L s.heap news) (T : Top hd.view_39 (looseW hd.view_39 []) mean mg mb h₀) (hk : cs.kind = .function)
    (hd : dp + need < recursionLimit) (hu : un + 8 * need < cLine)
    (ret : ∀ (t : Tok) (h' : Heap) (tk' : Nat), Fr h₀ L h' m → News h₀ L h' news → Q (R t) { s with heap := h', toks := tk' }) :
    wpAny (model PySem.Challenge.rw_gc0005_01.row.prog w) (TopA none dp un gd cn cs L a ccd cl outer) (call (.ref f) vs) Q E s :=
  C dp un gd cn cs a ccd cl outer A₀ base h₀ L m s Q E B F K N T hk hd hu ret

/-! _levenshtein_distance -/
theorem Plain.drop {x z : Str} {n : Nat} (h : Plain x) (e : z.cps.toList = x.cps.toList.drop n) : Plain z := by
  refine ⟨?_, fun c hc => h.2 c (List.mem_of_mem_drop (e ▸ hc))⟩
  have := h.1
  rw [← len_list] at this ⊢
  rw [e, List.length_drop]; omega
theorem Plain.take {x z : Str} {n : Nat} (h : Plain x) (e : z.cps.toList = x.cps.toList.take n) : Plain z := by
  refine ⟨?_, fun c hc => h.2 c (List.mem_of_mem_take (e ▸ hc))⟩
  have := h.1
  rw [← len_list] at this ⊢
  rw [e, List.length_take]; omega
section
variable {prog : Program} {w : World} {A : Around} {E : Value → Shared → Prop} {s : Shared} {value slice : PySem.Expr} {x : Str} {t : Tok} {h₀ : Heap} {L : Addr} {m : Str → Option Value} {news : List (Addr × Obj)} {Q : Value → Shared → Prop}
theorem my_truthy {Q : Bool → Shared → Prop} (hx : Plain x) (h : Q (decide (0 < (x.length : Int))) { s with toks := s.toks + 1 + 1 }) : wpAny (model prog w) A (PySem.truthy (.str x t)) Q E s := by
  refine SBL.truthy (by have := hx.1; omega) ?_
  have e : ((x.length : Int) != 0) = decide (0 < (x.length : Int)) := by
    by_cases h0 : x.length = 0
    · rw [h0]; rfl
    · rw [decide_eq_true (by omega)]
      simp only [bne_iff_ne, ne_eq]
      omega
  rw [e]
  exact h
/-- x[i:] -/
theorem cut_from {i : Int} {ui : Tok} (hF : Fr h₀ L s.heap m) (hN : News h₀ L s.heap news) (hx : Plain x) (h0 : 0 ≤ i) (hi : i ≤ x.length)
    (h : ∀ (z : Str) h' t' k, Fr h₀ L h' m → News h₀ L h' news → z.cps.toList = x.cps.toList.drop i.toNat → (z.length : Int) = x.length - i → z.length ≤ 40 → Plain z → Q (.str z t') { s with heap := h', toks := k })
    (hs : subscripted slice false (.str x t) (.ref s.heap.objs.size) = operate [.ref s.heap.objs.size, .str x t] (getItem (.str x t) (.ref s.heap.objs.size)) := by with_unfolding_all rfl)
    (ht : ∀ r, letTemporaryGo value (.str x t) r = pure () := by intro _; with_unfolding_all rfl) :
    wpAny (model prog w) A (subscriptTail value slice (.str x t) (.ref s.heap.objs.size)) Q E { s with heap := s.heap.push { cls := .type "slice", data := .fields #[.int i ui, .none, .none] } } :=
  slice_strN_sn hF hN (fun h' t' k F N => h _ h' t' k F N (slice_from x h0) (by
    rw [← len_list, slice_from x h0, List.length_drop, len_list]; omega) (hx.drop (slice_from x h0)).1 (hx.drop (slice_from x h0))) hs ht (by rw [PySem.sizeLine_eq]; have := hx.1; omega)
/-- x[:j], j below nought -/
theorem cut_to {j : Int} {uj : Tok} (hF : Fr h₀ L s.heap m) (hN : News h₀ L s.heap news) (hx : Plain x) (h0 : j < 0) (hj : -j ≤ x.length)
    (h : ∀ (z : Str) h' t' k, Fr h₀ L h' m → News h₀ L h' news → z.cps.toList = x.cps.toList.take (x.length - (-j).toNat) → (z.length : Int) = x.length + j → Plain z → Q (.str z t') { s with heap := h', toks := k })
    (hs : subscripted slice false (.str x t) (.ref s.heap.objs.size) = operate [.ref s.heap.objs.size, .str x t] (getItem (.str x t) (.ref s.heap.objs.size)) := by with_unfolding_all rfl)
    (ht : ∀ r, letTemporaryGo value (.str x t) r = pure () := by intro _; with_unfolding_all rfl) :
    wpAny (model prog w) A (subscriptTail value slice (.str x t) (.ref s.heap.objs.size)) Q E { s with heap := s.heap.push { cls := .type "slice", data := .fields #[.none, .int j uj, .none] } } := by
  have e : Txt.slice x none (some j) = Txt.slice x none (some (x.length + j)) := by
    have e1 : Builtin.Str.strSliceIndices none (some j) 1 x.length = Builtin.Str.strSliceIndices none (some (x.length + j)) 1 x.length := by
      have e2 : ¬ ((x.length : Int) + j < 0) := by omega
      have e3 : (1 : Int) > 0 := by decide
      have e4 : min ((x.length : Int) + j) (x.length : Int) = x.length + j := by omega
      have e5 : max (0 : Int) ((x.length : Int) + j) = x.length + j := by omega
      have e6 : j + (x.length : Int) = x.length + j := by omega
      simp only [Builtin.Str.strSliceIndices, h0, e2, e3, if_false, if_true, e4, e5, e6]
    unfold Txt.slice
    rw [e1]
  have e7 : (Txt.slice x none (some j)).cps.toList = x.cps.toList.take (x.length - (-j).toNat) := by
    rw [e, slice_to x (by omega)]
    congr 1
    omega
  exact slice_strN_ns hF hN (fun h' t' k F N => h _ h' t' k F N e7 (by
    rw [← len_list, e7, List.length_take, len_list]; omega) (hx.take e7)) hs ht (by rw [PySem.sizeLine_eq]; have := hx.1; omega)
/-- x[:None] -/
theorem cut_none (hF : Fr h₀ L s.heap m) (hN : News h₀ L s.heap news) (hx : Plain x)
    (h : ∀ h' t' k, Fr h₀ L h' m → News h₀ L h' news → Q (.str x t') { s with heap := h', toks := k })
    (hs : subscripted slice false (.str x t) (.ref s.heap.objs.size) = operate [.ref s.heap.objs.size, .str x t] (getItem (.str x t) (.ref s.heap.objs.size)) := by with_unfolding_all rfl)
    (ht : ∀ r, letTemporaryGo value (.str x t) r = pure () := by intro _; with_unfolding_all rfl) :
    wpAny (model prog w) A (subscriptTail value slice (.str x t) (.ref s.heap.objs.size)) Q E { s with heap := s.heap.push { cls := .type "slice", data := .fields #[.none, .none, .none] } } := by
  have e : Txt.slice x none none = x := by
    have e1 : Builtin.Str.strSliceIndices none none 1 x.length = Builtin.Str.strSliceIndices none (some (x.length : Int)) 1 x.length := by
      have e2 : ¬ ((x.length : Int) < 0) := by omega
      have e3 : (1 : Int) > 0 := by decide
      have e4 : max (0 : Int) (x.length : Int) = x.length := by omega
      simp only [Builtin.Str.strSliceIndices, e2, e3, if_false, if_true, e4, Int.min_self]
    have e2 : Txt.slice x none none = Txt.slice x none (some (x.length : Int)) := by
      unfold Txt.slice
      rw [e1]
    apply str_ext
    rw [e2, slice_to x (by omega), Int.toNat_natCast, List.take_of_length_le (by rw [len_list]; omega)]
  exact slice_strN_nn hF hN (fun h' t' k F N => by rw [e]; exact h h' t' k F N) hs ht (by rw [PySem.sizeLine_eq]; have := hx.1; omega)
end

def PreEq (x y : Str) (i : Int) : Prop := x.cps.toList.take i.toNat = y.cps.toList.take i.toNat
def PostEq (x y : Str) (j : Int) : Prop := x.cps.toList.drop (x.length - (-j).toNat) = y.cps.toList.drop (y.length - (-j).toNat)
theorem pre_start (x y : Str) : 0 ≤ (0 : Int) ∧ (0 : Int) ≤ (x.length : Int) ∧ (0 : Int) ≤ (y.length : Int) ∧ PreEq x y 0 := ⟨Int.le_refl _, by omega, by omega, rfl⟩
theorem post_start (x y : Str) : (0 : Int) ≤ 0 ∧ -(0 : Int) ≤ (x.length : Int) ∧ -(0 : Int) ≤ (y.length : Int) ∧ PostEq x y 0 := by
  refine ⟨Int.le_refl _, by omega, by omega, ?_⟩
  unfold PostEq
  rw [List.drop_of_length_le (by rw [len_list]; simp), List.drop_of_length_le (by rw [len_list]; simp)]
/-- the sign at i, by its number from the front -/
theorem item_get {x : Str} {i : Int} (h0 : 0 ≤ i) (h1 : i < x.length) : (Txt.item x i).cps.toList = [x.cps.toList.getD i.toNat 0] := by
  have hl : i.toNat < x.cps.toList.length := by rw [len_list]; omega
  have e : x.cps[i.toNat]? = some (x.cps.toList.getD i.toNat 0) := by
    rw [← Array.getElem?_toList, List.getElem?_eq_getElem hl, List.getD_eq_getElem?_getD, List.getElem?_eq_getElem hl]
    rfl
  rw [item_meets h0 e]
/-- the sign at i, from behind -/
theorem item_back {x : Str} {i : Int} (h0 : i < 0) (h1 : -i ≤ x.length) : (Txt.item x i).cps.toList = [x.cps.toList.getD (x.length - (-i).toNat) 0] := by
  rw [show Txt.item x i = ⟨#[x.cps.getD (i + x.length).toNat 0]⟩ from eq_of_beq (item_closes_neg h0 (by omega) rfl)]
  have e : (i + x.length).toNat = x.length - (-i).toNat := by omega
  rw [e]
  simp [Array.getD_eq_getD_getElem?, List.getD_eq_getElem?_getD]
theorem one_eq {x y : Str} {c d : Nat} (hx : x.cps.toList = [c]) (hy : y.cps.toList = [d]) : (x == y) = decide (c = d) := by
  by_cases h : c = d
  · have : x = y := str_ext (by rw [hx, hy, h])
    rw [this, decide_eq_true h]; simp
  · rw [decide_eq_false h]
    apply beq_eq_false_iff_ne.mpr
    intro e
    rw [e, hy] at hx
    exact h (List.cons.inj hx).1.symm
theorem take_snoc (l : List Nat) {n : Nat} (h : n < l.length) : l.take (n + 1) = l.take n ++ [l.getD n 0] := by
  rw [List.take_add_one, List.getD_eq_getElem?_getD, List.getElem?_eq_getElem h]; rfl
theorem drop_cons (l : List Nat) {n : Nat} (h : n < l.length) : l.drop n = l.getD n 0 :: l.drop (n + 1) := by
  rw [List.drop_eq_getElem_cons h, List.getD_eq_getElem?_getD, List.getElem?_eq_getElem h]; rfl
theorem pre_turn {x y : Str} {i : Int} (h0 : 0 ≤ i) (hx : i < x.length) (hy : i < y.length) (hP : PreEq x y i) (hq : (Txt.item x i == Txt.item y i) = true) :
    0 ≤ i + 1 ∧ i + 1 ≤ (x.length : Int) ∧ i + 1 ≤ (y.length : Int) ∧ PreEq x y (i + 1) := by
  rw [one_eq (item_get h0 hx) (item_get h0 hy)] at hq
  have e := of_decide_eq_true hq
  refine ⟨by omega, by omega, by omega, ?_⟩
  unfold PreEq at *
  rw [show (i + 1).toNat = i.toNat + 1 by omega, take_snoc _ (by rw [len_list]; omega), take_snoc _ (by rw [len_list]; omega), hP, e]
theorem post_turn {x y : Str} {j : Int} (h0 : j ≤ 0) (hx : 0 < x.length + j) (hy : 0 < y.length + j) (hP : PostEq x y j) (hq : (Txt.item x (j - 1) == Txt.item y (j - 1)) = true) :
    j - 1 ≤ 0 ∧ -(j - 1) ≤ (x.length : Int) ∧ -(j - 1) ≤ (y.length : Int) ∧ PostEq x y (j - 1) := by
  rw [one_eq (item_back (by omega) (by omega)) (item_back (by omega) (by omega))] at hq
  have e := of_decide_eq_true hq
  refine ⟨by omega, by omega, by omega, ?_⟩
  unfold PostEq at *
  rw [drop_cons _ (by rw [len_list]; omega), drop_cons (n := y.length - (-(j - 1)).toNat) _ (by rw [len_list]; omega), e,
    show x.length - (-(j - 1)).toNat + 1 = x.length - (-j).toNat by omega, show y.length - (-(j - 1)).toNat + 1 = y.length - (-j).toNat by omega, hP]
theorem D_pre (p a b : List Nat) : D (p ++ a) (p ++ b) = D a b := by
  induction p with
  | nil => rfl
  | cons x p ih => rw [List.cons_append, List.cons_append, D_same, ih]
theorem D_post (p a b : List Nat) : D (a ++ p) (b ++ p) = D a b := by
  rw [← D_rev, List.reverse_append, List.reverse_append, D_pre, D_rev]
theorem pre_cut {x y z w : Str} {i : Int} (hP : PreEq x y i) (hz : z.cps.toList = x.cps.toList.drop i.toNat) (hw : w.cps.toList = y.cps.toList.drop i.toNat) : levF x y = levF z w := by
  unfold levF
  rw [hz, hw, ← List.take_append_drop i.toNat x.cps.toList, ← List.take_append_drop i.toNat y.cps.toList, hP, D_pre]
  simp only [List.take_append_drop]
  rw [← hP, List.take_append_drop]
theorem post_cut {x y z w : Str} {j : Int} (hP : PostEq x y j) (hz : z.cps.toList = x.cps.toList.take (x.length - (-j).toNat)) (hw : w.cps.toList = y.cps.toList.take (y.length - (-j).toNat)) : levF x y = levF z w := by
  unfold levF
  have h1 := List.take_append_drop (x.length - (-j).toNat) x.cps.toList
  have h2 := List.take_append_drop (y.length - (-j).toNat) y.cps.toList
  rw [hz, hw]
  rw [← D_post (y.cps.toList.drop (y.length - (-j).toNat)) (x.cps.toList.take _), h2, ← hP, h1]
/-- a map with one name set -/
abbrev upd (m : Str → Option Value) (x : Str) (v : Value) : Str → Option Value := fun y => if y = x then some v else m y
theorem upd_upd (m : Str → Option Value) (x : Str) (v u : Value) : upd (upd m x v) x u = upd m x u := by
  funext y
  show (if y = x then some u else if y = x then some v else m y) = if y = x then some u else m y
  split <;> rfl
theorem upd_same {m : Str → Option Value} {x : Str} {v : Value} (h : m x = some v) : upd m x v = m := by
  funext y
  show (if y = x then some v else m y) = m y
  split
  · rename_i e; rw [e, h]
  · rfl
def SExit (h₀ : Heap) (L : Addr) (m : Str → Option Value) (news : List (Addr × Obj)) (s s₂ : Shared) : Prop :=
  ∃ h tk, s₂ = { s with heap := h, toks := tk } ∧ Fr h₀ L h m ∧ News h₀ L h news
theorem SExit.intro {h₀ : Heap} {L : Addr} {m : Str → Option Value} {news : List (Addr × Obj)} {s : Shared} {h : Heap} {tk : Nat} (F : Fr h₀ L h m) (N : News h₀ L h news) : SExit h₀ L m news s { s with heap := h, toks := tk } := ⟨h, tk, rfl, F, N⟩
def TurnEnd (h₀ : Heap) (L : Addr) (m : Str → Option Value) (x : Str) (news : List (Addr × Obj)) (J : Int → Prop) (μ : Int → Nat) (i : Int) (s : Shared) (f : Flow) (s₂ : Shared) : Prop :=
  f = .next ∧ ∃ i' t' h tk, s₂ = { s with heap := h, toks := tk } ∧ Fr h₀ L h (upd m x (.int i' t')) ∧ News h₀ L h news ∧ J i' ∧ μ i' < μ i
theorem TurnEnd.intro {h₀ : Heap} {L : Addr} {m : Str → Option Value} {x : Str} {news : List (Addr × Obj)} {J : Int → Prop} {μ : Int → Nat} {i : Int} {s : Shared} {i' : Int} {t' : Tok} {h : Heap} {tk : Nat}
    (F : Fr h₀ L h (upd m x (.int i' t'))) (N : News h₀ L h news) (hJ : J i') (hm : μ i' < μ i) : TurnEnd h₀ L m x news J μ i s .next { s with heap := h, toks := tk } := ⟨rfl, i', t', h, tk, rfl, F, N, hJ, hm⟩
section
variable {prog : Program} {w : World} {A : Around} {E : Value → Shared → Prop} {Q : Flow → Shared → Prop} {s : Shared} {env : Env} {h₀ : Heap} {L : Addr}
theorem while_int {test : Expr} {body : List Stmt} {pos : Pos} {m₀ : Str → Option Value} {news : List (Addr × Obj)} (x : Str) (J : Int → Prop) (μ : Int → Nat) {i₀ : Int} {t₀ : Tok}
    (F : Fr h₀ L s.heap m₀) (N : News h₀ L s.heap news) (hm : m₀ x = some (.int i₀ t₀)) (hJ : J i₀)
    (turn : ∀ i t h tk, Fr h₀ L h (upd m₀ x (.int i t)) → News h₀ L h news → J i →
      wpAny (model prog w) A (isTrue test env (eval test env)) (fun b s₂ =>
        if b = true then wpAny (model prog w) A (execs body env) (TurnEnd h₀ L (upd m₀ x (.int i t)) x news J μ i s) E s₂ else SExit h₀ L (upd m₀ x (.int i t)) news s s₂) E { s with heap := h, toks := tk })
    (rest : ∀ i t h tk, Fr h₀ L h (upd m₀ x (.int i t)) → News h₀ L h news → J i → Q .next { s with heap := h, toks := tk })
    (hE : PassesOwn (model prog w) A env E := by passes_own) :
    wpAny (model prog w) A (exec (.While test body [] pos) env) Q E s := by
  refine While_inv2 (fun n m nx => nx = news ∧ ∃ i t, m = upd m₀ x (.int i t) ∧ μ i = n ∧ J i) (n₀ := μ i₀) F N ⟨rfl, i₀, t₀, (upd_same hm).symm, rfl, hJ⟩ ?_ hE
  rintro n m₁ nx h tk F₁ N₁ ⟨rfl, i, t, rfl, rfl, hJi⟩
  refine wpAny_mono (turn i t h tk F₁ N₁ hJi) (fun b s₂ p => ?_) fun _ _ x => x
  cases b with
  | false =>
    simp only [Bool.false_eq_true, if_false] at p ⊢
    obtain ⟨h', tk', rfl, F', N'⟩ := p
    exact rest i t h' tk' F' N' hJi
  | true =>
    simp only [if_true] at p ⊢
    refine wpAny_mono p (fun f s₃ q => ?_) fun _ _ x => x
    obtain ⟨rfl, i', t', h', tk', rfl, F', N', hJ', hm'⟩ := q
    rw [upd_upd] at F'
    exact ⟨h', tk', _, _, μ i', rfl, F', N', hm', rfl, i', t', rfl, rfl, hJ'⟩
end
/-- a text that is met, and what is known of it -/
def CutEnd (h₀ : Heap) (L : Addr) (m : Str → Option Value) (news : List (Addr × Obj)) (s : Shared) (G : Str → Prop) (v : Value) (s₂ : Shared) : Prop :=
  ∃ z t h tk, v = .str z t ∧ s₂ = { s with heap := h, toks := tk } ∧ Fr h₀ L h m ∧ News h₀ L h news ∧ G z
theorem CutEnd.intro {h₀ : Heap} {L : Addr} {m : Str → Option Value} {news : List (Addr × Obj)} {s : Shared} {G : Str → Prop} {z : Str} {t : Tok} {h : Heap} {tk : Nat} (F : Fr h₀ L h m) (N : News h₀ L h news) (g : G z) :
    CutEnd h₀ L m news s G (.str z t) { s with heap := h, toks := tk } := ⟨z, t, h, tk, rfl, rfl, F, N, g⟩
theorem cut_join {prog : Program} {w : World} {A : Around} {E : Value → Shared → Prop} {Q : Value → Shared → Prop} {s : Shared} {h₀ : Heap} {L : Addr} {m : Str → Option Value} {news : List (Addr × Obj)} {t : Sem Value} (G : Str → Prop)
    (F : Fr h₀ L s.heap m) (N : News h₀ L s.heap news)
    (h : wpAny (model prog w) A t (CutEnd h₀ L m news s G) E s) (rest : ∀ z t h tk, Fr h₀ L h m → News h₀ L h news → G z → Q (.str z t) { s with heap := h, toks := tk }) : wpAny (model prog w) A t Q E s :=
  wpAny_mono h (fun v s₂ p => by
    obtain ⟨z, t, h', tk, rfl, rfl, F', N', g⟩ := p
    exact rest z t h' tk F' N' g) fun _ _ x => x
/-- what a[:post or None] is -/
def ToG (x : Str) (j : Int) (z : Str) : Prop := z.cps.toList = x.cps.toList.take (x.length - (-j).toNat) ∧ (z.length : Int) = x.length + j ∧ Plain z
theorem ToG.zero {x : Str} {j : Int} (hx : Plain x) (h : j = 0) : ToG x j x := by
  subst h
  refine ⟨?_, by omega, hx⟩
  rw [List.take_of_length_le (by rw [len_list]; simp)]
section
variable {prog : Program} {w : World} {A : Around} {E : Value → Shared → Prop} {s : Shared} {env : Env} {h₀ : Heap} {L : Addr} {m₀ : Str → Option Value} {news : List (Addr × Obj)} {x y : Str} {tx ty : Tok}
theorem while_pre {Q : Flow → Shared → Prop} {test : Expr} {body : List Stmt} {pos : Pos} {t₀ : Tok} (F : Fr h₀ L s.heap m₀) (N : News h₀ L s.heap news) (_ : m₀ (Str.ofString "a") = some (.str x tx)) (_ : m₀ (Str.ofString "b") = some (.str y ty)) (hm : m₀ (Str.ofString "pre") = some (.int 0 t₀))
    (turn : ∀ i t h tk, Fr h₀ L h (upd m₀ (Str.ofString "pre") (.int i t)) → News h₀ L h news → 0 ≤ i → i ≤ (x.length : Int) → i ≤ (y.length : Int) → PreEq x y i →
      wpAny (model prog w) A (isTrue test env (eval test env)) (fun b s₂ =>
        if b = true then wpAny (model prog w) A (execs body env) (TurnEnd h₀ L (upd m₀ (Str.ofString "pre") (.int i t)) (Str.ofString "pre") news (fun i => 0 ≤ i ∧ i ≤ (x.length : Int) ∧ i ≤ (y.length : Int) ∧ PreEq x y i) (fun i => (x.length - i).toNat) i s) E s₂ else SExit h₀ L (upd m₀ (Str.ofString "pre") (.int i t)) news s s₂) E { s with heap := h, toks := tk })
    (rest : ∀ i t h tk, Fr h₀ L h (upd m₀ (Str.ofString "pre") (.int i t)) → News h₀ L h news → 0 ≤ i → i ≤ (x.length : Int) → i ≤ (y.length : Int) → PreEq x y i → Q .next { s with heap := h, toks := tk })
    (hE : PassesOwn (model prog w) A env E := by passes_own) :
    wpAny (model prog w) A (exec (.While test body [] pos) env) Q E s :=
  while_int _ _ _ F N hm (pre_start x y) (fun i t h tk F N j => turn i t h tk F N j.1 j.2.1 j.2.2.1 j.2.2.2) (fun i t h tk F N j => rest i t h tk F N j.1 j.2.1 j.2.2.1 j.2.2.2) hE
theorem while_post {Q : Flow → Shared → Prop} {test : Expr} {body : List Stmt} {pos : Pos} {t₀ : Tok} (F : Fr h₀ L s.heap m₀) (N : News h₀ L s.heap news) (_ : m₀ (Str.ofString "a") = some (.str x tx)) (_ : m₀ (Str.ofString "b") = some (.str y ty)) (hm : m₀ (Str.ofString "post") = some (.int 0 t₀))
    (turn : ∀ i t h tk, Fr h₀ L h (upd m₀ (Str.ofString "post") (.int i t)) → News h₀ L h news → i ≤ 0 → -i ≤ (x.length : Int) → -i ≤ (y.length : Int) → PostEq x y i →
      wpAny (model prog w) A (isTrue test env (eval test env)) (fun b s₂ =>
        if b = true then wpAny (model prog w) A (execs body env) (TurnEnd h₀ L (upd m₀ (Str.ofString "post") (.int i t)) (Str.ofString "post") news (fun i => i ≤ 0 ∧ -i ≤ (x.length : Int) ∧ -i ≤ (y.length : Int) ∧ PostEq x y i) (fun i => (x.length + i).toNat) i s) E s₂ else SExit h₀ L (upd m₀ (Str.ofString "post") (.int i t)) news s s₂) E { s with heap := h, toks := tk })
    (rest : ∀ i t h tk, Fr h₀ L h (upd m₀ (Str.ofString "post") (.int i t)) → News h₀ L h news → i ≤ 0 → -i ≤ (x.length : Int) → -i ≤ (y.length : Int) → PostEq x y i → Q .next { s with heap := h, toks := tk })
    (hE : PassesOwn (model prog w) A env E := by passes_own) :
    wpAny (model prog w) A (exec (.While test body [] pos) env) Q E s :=
  while_int _ _ _ F N hm (post_start x y) (fun i t h tk F N j => turn i t h tk F N j.1 j.2.1 j.2.2.1 j.2.2.2) (fun i t h tk F N j => rest i t h tk F N j.1 j.2.1 j.2.2.1 j.2.2.2) hE
theorem cut_post {Q : Value → Shared → Prop} {n : Str} {j : Int} {tj : Tok} {p1 p2 : Pos} {sl : Expr} (F : Fr h₀ L s.heap m₀) (N : News h₀ L s.heap news) (_ : m₀ n = some (.str x tx)) (_ : m₀ (Str.ofString "post") = some (.int j tj))
    (h : wpAny (model prog w) A (eval (.Subscript (.Name n p1) sl p2) env) (CutEnd h₀ L m₀ news s (ToG x j)) E s)
    (rest : ∀ (z : Str) t h tk, Fr h₀ L h m₀ → News h₀ L h news → z.cps.toList = x.cps.toList.take (x.length - (-j).toNat) → (z.length : Int) = x.length + j → z.length ≤ 40 → Plain z → Q (.str z t) { s with heap := h, toks := tk }) :
    wpAny (model prog w) A (eval (.Subscript (.Name n p1) sl p2) env) Q E s :=
  cut_join (ToG x j) F N h fun z t h tk F N g => rest z t h tk F N g.1 g.2.1 g.2.2.1 g.2.2
theorem my_item {Q : Value → Shared → Prop} {value slice : PySem.Expr} {t u : Tok} {i : Int} (hp : Plain x) (h0 : -(x.length : Int) ≤ i) (h1 : i < (x.length : Int)) (h : Q (.str (Txt.item x i) s.toks) { s with toks := s.toks + 1 })
    (hs : subscripted slice false (.str x t) (.int i u) = operate [.str x t, .int i u] (getItem (.str x t) (.int i u)) := by with_unfolding_all rfl)
    (ht : ∀ r, letTemporaryGo value (.str x t) r = pure () := by intro _; with_unfolding_all rfl) :
    wpAny (model prog w) A (subscriptTail value slice (.str x t) (.int i u)) Q E s :=
  KXi.item rfl h0 h1 (by have := hp.1; omega) (fun _ => h) hs ht
end
/-- the row at the start -/
def rowL (n : Nat) : List Int := (List.range n).map fun (k : Nat) => 2 * ((k : Int) + 1)
theorem ints_of : ∀ (vs : List Value) (f : Nat → Int) (n : Nat), vs.length = n → (∀ (j : Nat) (v : Value), vs[j]? = some v → ∃ t, v = .int (f j) t) → IntsAre vs ((List.range n).map f)
  | [], f, n, e, _ => by
    subst e
    exact IntsAre.nil
  | v :: r, f, n, e, h => by
    subst e
    rw [List.length_cons, List.range_succ_eq_map, List.map_cons, List.map_map]
    obtain ⟨t, ht⟩ := h 0 v rfl
    rw [ht]
    exact IntsAre.cons _ t (ints_of r (fun k => f (k + 1)) r.length rfl fun j v hj => h (j + 1) v (by simpa using hj))
section
variable {prog : Program} {w : World} {A : Around} {E : Value → Shared → Prop} {s : Shared} {h₀ : Heap} {L r : Addr} {m : Str → Option Value} {news : List (Addr × Obj)} {t u v : Tok} {n : Nat} {Q : Value → Shared → Prop}
theorem my_list_range (hh : A.handled = none) (F : Fr h₀ L s.heap m) (N : News h₀ L s.heap news) (hr : IsRange s.heap r 2 (2 * ((n : Int) + 1)) 2 t u v) (h1 : 0 < n) (h40 : n ≤ 40)
    (h : ∀ D us c h' tk, Fr h₀ L h' m → News h₀ L h' ((D, W.listOf (List.toArray us) c) :: news) → (∀ p ∈ news, p.1 < D) → IntsAre us (rowL n) → Q (.ref D) { s with heap := h', toks := tk }) :
    wpAny (model prog w) A (call (.type "list") [.ref r]) Q E s := by
  have hn : Builtin.Range.rangeSize 2 (2 * ((n : Int) + 1)) 2 = (n : Int) := by
    unfold Builtin.Range.rangeSize
    rw [if_pos (by decide), if_pos (by omega)]
    omega
  have hs : Builtin.Range.small 2 (2 * ((n : Int) + 1)) 2 = true := by
    have key : ∀ k : Nat, k < 41 → Builtin.Range.small 2 (2 * ((k : Int) + 1)) 2 = true := by decide +kernel
    exact key n (by omega)
  refine call_list_range hh hr hs hn (by omega) fun h' tk acc c hk hD hI => ?_
  have hD' : h'.get? s.heap.objs.size = some (W.listOf (List.toArray acc.toList) c) := by
    rw [Array.toArray_toList]
    exact hD
  refine h _ acc.toList c h' tk (F.keeps hk) (news_pushed F N hk hD' rfl) (fun p hp => Heap.lt_size (N p hp).1) (ints_of acc.toList _ n (by rw [Array.length_toList]; exact hI.1) fun j v hj => ?_)
  obtain ⟨t, ht⟩ := hI.2 j v (by rw [← hj, Array.getElem?_toList])
  have e : (2 : Int) + (j : Int) * 2 = 2 * ((j : Int) + 1) := by omega
  rw [e] at ht
  exact ⟨t, ht⟩
end
theorem lev_end0 {x y : Str} (h : (x == y) = true) : 0 = levF x y := by
  have e : x = y := eq_of_beq h
  subst e
  unfold levF
  rw [D_self]
  rfl
theorem lev_nil {x y z z' u u' : Str} {i j : Int} (hP : PreEq x y i) (h1 : z.cps.toList = x.cps.toList.drop i.toNat) (h2 : u.cps.toList = y.cps.toList.drop i.toNat)
    (hQ : PostEq z u j) (h3 : z'.cps.toList = z.cps.toList.take (z.length - (-j).toNat)) (h4 : u'.cps.toList = u.cps.toList.take (u.length - (-j).toNat))
    (h0 : z'.length = 0 ∨ u'.length = 0) : 2 * ((z'.length : Int) + (u'.length : Int)) = levF x y := by
  rw [pre_cut hP h1 h2, post_cut hQ h3 h4]
  unfold levF
  rcases h0 with h | h
  · have e : z'.cps.toList = [] := List.length_eq_zero_iff.mp (by rw [len_list]; exact h)
    rw [e, D_nil, len_list]; omega
  · have e : u'.cps.toList = [] := List.length_eq_zero_iff.mp (by rw [len_list]; exact h)
    rw [e, D_nil', len_list]; omega
noncomputable def PD (a b : Str) (i j : Nat) : Int := 2 * (D (a.cps.toList.take i).reverse (b.cps.toList.take j).reverse : Int)
noncomputable def rowIJ (a b : Str) (i j : Nat) : List Int := (List.range a.length).map fun (k : Nat) => if k < i then PD a b (k + 1) (j + 1) else PD a b (k + 1) j
/-- after j rounds -/
def OutI (a b : Str) (j : Nat) (row : List Int) (result : Int) : Prop := row = rowIJ a b 0 j ∧ (0 < j → result = PD a b a.length j)
/-- in the round of bi, i places on -/
def InI (a b : Str) (bi : Int) (i : Nat) (distance result minimum : Int) (row : List Int) : Prop :=
  row = rowIJ a b i bi.toNat ∧ distance = PD a b i bi.toNat ∧ (i = 0 → result = 2 * bi) ∧ (0 < i → result = PD a b i (bi.toNat + 1)) ∧ (0 < i → minimum ≤ 80)
theorem take_rev (l : List Nat) {n : Nat} (h : n < l.length) : (l.take (n + 1)).reverse = l.getD n 0 :: (l.take n).reverse := by
  rw [take_snoc l h, List.reverse_append]; rfl
theorem rev_len (l : List Nat) {n : Nat} (h : n ≤ l.length) : (l.take n).reverse.length = n := by
  rw [List.length_reverse, List.length_take]; omega
theorem PD_zero {a b : Str} {j : Nat} (h : j ≤ b.length) : PD a b 0 j = 2 * (j : Int) := by
  unfold PD
  rw [List.take_zero, List.reverse_nil, D_nil, rev_len _ (by rw [len_list]; exact h)]
theorem PD_nil {a b : Str} {i : Nat} (h : i ≤ a.length) : PD a b i 0 = 2 * (i : Int) := by
  unfold PD
  rw [List.take_zero, List.reverse_nil, D_nil', rev_len _ (by rw [len_list]; exact h)]
/-- what a sign put for another costs -/
def subV (x y : Str) (i j : Int) : Int := if x.cps.toList.getD i.toNat 0 = y.cps.toList.getD j.toNat 0 then 0 else 2
theorem subV_two (x y : Str) (i j : Int) : 0 ≤ subV x y i j ∧ subV x y i j ≤ 2 := by
  unfold subV
  split <;> omega
theorem PD_step {a b : Str} {i j : Nat} (hi : i < a.length) (hj : j < b.length) : PD a b (i + 1) (j + 1) = min (min (PD a b i (j + 1)) (PD a b (i + 1) j) + 2) (PD a b i j + subV b a j i) := by
  unfold PD subV
  rw [take_rev _ (by rw [len_list]; exact hi), take_rev _ (by rw [len_list]; exact hj), D_std, ← take_rev _ (by rw [len_list]; exact hi), ← take_rev _ (by rw [len_list]; exact hj)]
  rw [Int.toNat_natCast, Int.toNat_natCast]
  by_cases e : a.cps.toList.getD i 0 = b.cps.toList.getD j 0
  · rw [if_pos e, if_pos e.symm]; omega
  · rw [if_neg e, if_neg (fun q => e q.symm)]; omega
theorem PD_le {a b : Str} {i j : Nat} (hi : i ≤ a.length) (hj : j ≤ b.length) : 0 ≤ PD a b i j ∧ PD a b i j ≤ 2 * (max i j : Nat) := by
  unfold PD
  have h := D_max (a.cps.toList.take i).reverse (b.cps.toList.take j).reverse
  rw [rev_len _ (by rw [len_list]; exact hi), rev_len _ (by rw [len_list]; exact hj)] at h
  omega
theorem row_len (a b : Str) (i j : Nat) : (rowIJ a b i j).length = a.length := by
  unfold rowIJ
  rw [List.length_map, List.length_range]
theorem row_get {a b : Str} {i j : Nat} (hi : i < a.length) : (rowIJ a b i j).getD i 0 = PD a b (i + 1) j := by
  unfold rowIJ
  rw [List.getD_eq_getElem?_getD, List.getElem?_map, List.getElem?_range hi]
  simp
theorem row_set {a b : Str} {i j : Nat} : (rowIJ a b i j).set i (PD a b (i + 1) (j + 1)) = rowIJ a b (i + 1) j := by
  apply List.ext_getElem?
  intro k
  unfold rowIJ
  rw [List.getElem?_set]
  simp only [List.length_map, List.length_range, List.getElem?_map]
  by_cases hk : k < a.length
  · rw [List.getElem?_range hk]
    by_cases e : i = k
    · subst e
      simp [hk]
    · rw [if_neg e]
      simp only [Option.map_some]
      by_cases h1 : k < i
      · rw [if_pos h1, if_pos (by omega)]
      · rw [if_neg h1, if_neg (by omega)]
  · have hn : (List.range a.length)[k]? = none := List.getElem?_eq_none (by rw [List.length_range]; omega)
    rw [hn]
    by_cases e : i = k
    · subst e
      simp [hk]
    · rw [if_neg e]
      rfl
theorem row_full (a b : Str) (j : Nat) : rowIJ a b a.length j = rowIJ a b 0 (j + 1) := by
  unfold rowIJ
  apply List.map_congr_left
  intro k hk
  rw [if_pos (List.mem_range.mp hk), if_neg (Nat.not_lt_zero k)]
theorem out_start (a b : Str) : (rowL a.length).length = a.length ∧ OutI a b ([] : List Int).length (rowL a.length) 0 := by
  refine ⟨by unfold rowL; rw [List.length_map, List.length_range], ?_, fun h => absurd h (Nat.lt_irrefl 0)⟩
  unfold rowL rowIJ
  apply List.map_congr_left
  intro k hk
  have := List.mem_range.mp hk
  rw [if_neg (Nat.not_lt_zero k)]
  show _ = PD a b (k + 1) 0
  rw [PD_nil (by omega)]
  omega
theorem in_start {a b : Str} {pre : List Int} {bi r : Int} {mn : Int} {row : List Int} {res : Int} (hl : row.length = a.length) (hO : OutI a b pre.length row res) (hk : bi = 0 + (pre.length : Int)) (hj : pre.length < b.length) (hr : r = bi * 2) :
    row.length = a.length ∧ InI a b bi ([] : List Int).length r r mn row := by
  have e : bi.toNat = pre.length := by omega
  refine ⟨hl, ?_, ?_, fun _ => by omega, fun h => absurd h (Nat.lt_irrefl 0), fun h => absurd h (Nat.lt_irrefl 0)⟩
  · rw [e]; exact hO.1
  · show r = PD a b 0 _
    rw [e, PD_zero (by omega)]
    omega
theorem in_turn {a b : Str} {bi : Int} {pre : List Int} {k d r mn nd nr nm : Int} {row row' : List Int} (hl : row.length = a.length) (hP : InI a b bi pre.length d r mn row) (hi : pre.length < a.length) (h0 : 0 ≤ bi) (hb : bi < b.length) (ha : a.length ≤ 40) (hb4 : b.length ≤ 40)
    (e1 : nd = row.getD pre.length 0) (e2 : nr = min (min r nd + 2) (d + subV b a bi pre.length)) (e3 : nm = if nr < mn then nr else mn) (e4 : row' = row.set pre.length nr) :
    row'.length = a.length ∧ InI a b bi (pre ++ [k]).length nd nr nm row' := by
  obtain ⟨q1, q2, q3, q4, q5⟩ := hP
  have hp : (pre ++ [k]).length = pre.length + 1 := by simp
  generalize pre.length = i at *
  have hj : bi.toNat < b.length := by omega
  have eb : ((bi.toNat : Nat) : Int) = bi := Int.toNat_of_nonneg h0
  have hnd : nd = PD a b (i + 1) bi.toNat := by rw [e1, q1, row_get hi]
  have hS := PD_step hi hj
  rw [eb] at hS
  have hs2 := subV_two b a bi i
  have hnr : nr = PD a b (i + 1) (bi.toNat + 1) := by
    rw [hS, e2, hnd, q2]
    by_cases h : i = 0
    · subst h
      rw [q3 rfl, PD_zero (a := a) (b := b) (j := bi.toNat + 1) (by omega)]
      have h1 := PD_le (a := a) (b := b) (i := 0 + 1) (j := bi.toNat) (by omega) (by omega)
      have h2 : bi.toNat = 0 → PD a b (0 + 1) bi.toNat = 2 * ((0 + 1 : Nat) : Int) := fun e => by rw [e]; exact PD_nil (by omega)
      have h3 := PD_zero (a := a) (b := b) (j := bi.toNat) (by omega)
      generalize PD a b (0 + 1) bi.toNat = p at *
      generalize PD a b 0 bi.toNat = p0 at *
      generalize subV b a bi ((0 : Nat) : Int) = sv at *
      by_cases hz : bi.toNat = 0
      · have := h2 hz
        omega
      · omega
    · rw [q4 (by omega)]
  refine ⟨by rw [e4, List.length_set, hl], ?_, ?_, ?_, ?_, ?_⟩
  · rw [e4, hp, q1, hnr, row_set]
  · rw [hp, hnd]
  · rw [hp]; intro h; omega
  · rw [hp]; intro _; exact hnr
  · intro _
    have hle := (PD_le (a := a) (b := b) (i := i + 1) (j := bi.toNat + 1) (by omega) (by omega)).2
    rw [← hnr] at hle
    rw [e3]
    split <;> omega
theorem out_turn {a b : Str} {bi : Int} {pre pre' : List Int} {k d r mn : Int} {row : List Int} (ha : 0 < a.length) (hk : bi = 0 + (pre.length : Int)) (hl : row.length = a.length) (hp : pre'.length = a.length) (hP : InI a b bi pre'.length d r mn row) :
    row.length = a.length ∧ OutI a b (pre ++ [k]).length row r := by
  obtain ⟨q1, q2, q3, q4, q5⟩ := hP
  have e : bi.toNat = pre.length := by omega
  have e2 : (pre ++ [k]).length = pre.length + 1 := by simp
  rw [hp] at q1 q4
  refine ⟨hl, ?_, fun _ => ?_⟩
  · rw [e2, q1, row_full, e]
  · rw [e2, q4 ha, e]
theorem in_min {a b : Str} {bi : Int} {pre : List Int} {d r mn : Int} {row : List Int} (ha : 0 < a.length) (hp : pre.length = a.length) (hP : InI a b bi pre.length d r mn row) : mn ≤ 80 := hP.2.2.2.2 (by omega)
theorem out_end {a b : Str} {pre : List Int} {r : Int} {row : List Int} (hb : 0 < b.length) (hp : pre.length = b.length) (hO : OutI a b pre.length row r) : r = levF a b := by
  rw [hO.2 (by omega), hp]
  unfold PD levF
  rw [List.take_of_length_le (by rw [len_list]; exact Nat.le_refl _), List.take_of_length_le (by rw [len_list]; exact Nat.le_refl _), D_rev]
theorem my_min {prog : Program} {w : World} {A : Around} {E : Value → Shared → Prop} {s : Shared} {h₀ : Heap} {L : Addr} {m : Str → Option Value} {news : List (Addr × Obj)} {a b : Int} {t u : Tok} {Q : Value → Shared → Prop} (hh : A.handled = none) (F : Fr h₀ L s.heap m) (N : News h₀ L s.heap news)
    (h : ∀ (v : Int) (t' : Tok) h' tk, v = min a b → Fr h₀ L h' m → News h₀ L h' news → Q (.int v t') { s with heap := h', toks := tk }) :
    wpAny (model prog w) A (call (.builtin "min") [.int a t, .int b u]) Q E s :=
  min_two_N hh F N fun h' tk F' N' => h _ _ h' tk (by split <;> omega) F' N'
theorem lev_main {x y z z' u u' : Str} {i j : Int} {n : Nat} {r : Int} {row : List Int} (hP : PreEq x y i) (h1 : z.cps.toList = x.cps.toList.drop i.toNat) (h2 : u.cps.toList = y.cps.toList.drop i.toNat)
    (hQ : PostEq z u j) (h3 : z'.cps.toList = z.cps.toList.take (z.length - (-j).toNat)) (h4 : u'.cps.toList = u.cps.toList.take (u.length - (-j).toNat))
    (hO : OutI z' u' (rangeKs 0 n).length row r) (hb : 0 < (u'.length : Int)) (hn : n = u'.length) : r = levF x y := by
  rw [pre_cut hP h1 h2, post_cut hQ h3 h4]
  exact out_end (by omega) (by rw [rangeKs_length]; exact hn) hO
theorem levF_comm (x y : Str) : levF x y = levF y x := by unfold levF; rw [D_comm]
theorem lev_main' {x y z z' u u' : Str} {i j : Int} {n : Nat} {r : Int} {row : List Int} (hP : PreEq x y i) (h1 : z.cps.toList = x.cps.toList.drop i.toNat) (h2 : u.cps.toList = y.cps.toList.drop i.toNat)
    (hQ : PostEq z u j) (h3 : z'.cps.toList = z.cps.toList.take (z.length - (-j).toNat)) (h4 : u'.cps.toList = u.cps.toList.take (u.length - (-j).toNat))
    (hO : OutI u' z' (rangeKs 0 n).length row r) (hb : 0 < (z'.length : Int)) (hn : n = z'.length) : r = levF x y := by
  rw [pre_cut hP h1 h2, post_cut hQ h3 h4, levF_comm]
  exact out_end (by omega) (by rw [rangeKs_length]; exact hn) hO
theorem in_turn' {a b : Str} {bi : Int} {pre : List Int} {k d r mn nd nr nm : Int} {row row' : List Int} (hl : row.length = a.length) (hP : InI a b bi pre.length d r mn row) (hk : k = 0 + (pre.length : Int)) (hi : pre.length < a.length) (h0 : 0 ≤ bi) (hb : bi < b.length) (ha : a.length ≤ 40) (hb4 : b.length ≤ 40)
    (e1 : nd = row.getD k.toNat 0) (e2 : nr = min (min r nd + 2) (d + subV b a bi k)) (e3 : (nr < mn ∧ nm = nr) ∨ (¬ nr < mn ∧ nm = mn)) (e4 : row' = row.set k.toNat nr) :
    row'.length = a.length ∧ InI a b bi (pre ++ [k]).length nd nr nm row' := by
  have ek : k.toNat = pre.length := by omega
  have ek2 : k = (pre.length : Int) := by omega
  refine in_turn hl hP hi h0 hb ha hb4 (by rw [e1, ek]) (by rw [e2, ek2]) ?_ (by rw [e4, ek])
  rcases e3 with ⟨h, e⟩ | ⟨h, e⟩
  · rw [if_pos h, e]
  · rw [if_neg h, e]
theorem out_turn' {a b : Str} {bi : Int} {pre : List Int} {n : Nat} {k d r mn : Int} {row : List Int} (hl : row.length = a.length) (hP : InI a b bi (rangeKs 0 n).length d r mn row) (hn : n = a.length) (ha : 0 < a.length) (hk : bi = 0 + (pre.length : Int)) :
    row.length = a.length ∧ OutI a b (pre ++ [k]).length row r := out_turn ha hk hl (by rw [rangeKs_length]; exact hn) hP
theorem min_absurd {a b : Str} {bi : Int} {n : Nat} {d r mn : Int} {row : List Int} {P : Prop} (hP : InI a b bi (rangeKs 0 n).length d r mn row) (hn : n = a.length) (ha : 0 < (a.length : Int)) (h : 1000 < mn) : P := by
  have := in_min (by omega) (by rw [rangeKs_length]; exact hn) hP
  omega
section
theorem sub_one {x y : Str} {c d : Nat} (hx : x.cps.toList = [c]) (hy : y.cps.toList = [d]) (hc : c = 97 ∨ c = 34 ∨ c = 32) (hd : d = 97 ∨ d = 34 ∨ d = 32) : (Txt.lower x == Txt.lower y) = (x == y) := by
  have key : ∀ {x : Str} {c : Nat}, x.cps.toList = [c] → (c = 97 ∨ c = 34 ∨ c = 32) → Txt.lower x = x := by
    intro x c hx hc
    have e : x = ⟨#[c]⟩ := str_ext (by rw [hx])
    rw [e]
    rcases hc with h | h | h <;> rw [h] <;> decide +kernel
  rw [key hx hc, key hy hd]
theorem sub_claim (w : World) (mean : ExcName → Option Value) (mg mb : Str → Option Value) (news : List (Addr × Obj)) (x : Str) (tx : Tok) (y : Str) (ty : Tok) (c d : Nat) (hx : x.cps.toList = [c]) (hy : y.cps.toList = [d]) (hc : c = 97 ∨ c = 34 ∨ c = 32) (hd : d = 97 ∨ d = 34 ∨ d = 32) :
    Cl w mean mg mb 53 1 news [.str x tx, .str y ty] (fun t => .int (if c = d then 0 else 2) t) := by
  unfold Cl
  k_with_none
  w_top off
  k_fill
  intro hh dp un gd cn cs a ccd cl outer A₀ base h₀ L m s Q E B F K N T hcs hdp hun hret
  have hx1 : x.length = 1 := by rw [← len_list, hx]; rfl
  have hy1 : y.length = 1 := by rw [← len_list, hy]; rfl
  have hl := sub_one hx hy hc hd
  have ho := one_eq hx hy
  refine wpAny_call ?_
  k_dflt cell_enter
  k_steps
  all_goals (refine cb_retI hret ?_ (by assumption) (by assumption))
  all_goals (by_cases h : c = d <;> simp_all)
theorem mem_getD (x : Str) {i : Int} (h0 : 0 ≤ i) (h1 : i < x.length) : x.cps.toList.getD i.toNat 0 ∈ x.cps.toList := by
  have hl : i.toNat < x.cps.toList.length := by rw [len_list]; omega
  rw [List.getD_eq_getElem?_getD, List.getElem?_eq_getElem hl]
  exact List.getElem_mem hl
theorem sub_item (w : World) (mean : ExcName → Option Value) (mg mb : Str → Option Value) (news : List (Addr × Obj)) (x : Str) (tx : Tok) (y : Str) (ty : Tok) (i j : Int) (hx : Plain x) (hy : Plain y) (h0 : 0 ≤ i) (h1 : i < x.length) (h2 : 0 ≤ j) (h3 : j < y.length) :
    Cl w mean mg mb 53 1 news [.str (Txt.item x i) tx, .str (Txt.item y j) ty] (fun t => .int (subV x y i j) t) :=
  sub_claim w mean mg mb news _ tx _ ty _ _ (item_get h0 h1) (item_get h2 h3) (hx.2 _ (mem_getD x h0 h1)) (hy.2 _ (mem_getD y h2 h3))
local macro_rules | `(tactic| walk_at "truthy str") => `(tactic| (k_here; (refine my_truthy (by assumption) ?_)))
local macro_rules | `(tactic| walk_at "subscriptTail") => `(tactic| (k_here; (with_reducible show wpAny _ _ (subscriptTail _ _ (Value.str _ _) (Value.int _ _)) _ _ _); k_dflt (refine' my_item ?a1 ?a2 ?a3 ?_ ?a4 ?a5; (case a1 => assumption); (case a2 => omega); (case a3 => omega); (case a4 => with_unfolding_all rfl); (case a5 => intro _; with_unfolding_all rfl))))
local macro_rules | `(tactic| walk_at "subscriptTail Name Slice str ref") => `(tactic| (k_here; (with_reducible rename Fr _ _ _ _ => F'); (with_reducible rename News _ _ _ _ => N'); (with_reducible show wpAny _ _ (subscriptTail _ (Expr.Slice (some _) none none _) (Value.str _ _) _) _ _ _); k_dflt (refine' cut_from (s := ⟨_, _, _, _, _⟩) F' N' ?a1 ?a2 ?a5 ?_ ?a3 ?a4; (case a1 => assumption); (case a2 => omega); (case a5 => omega); (case a3 => with_unfolding_all rfl); (case a4 => intro _; with_unfolding_all rfl); intro z' h' t' k' F9 N9 hz' hl' hm' hp'; (try k_sweep))))
local macro_rules | `(tactic| walk_at "subscriptTail Name Slice str ref") => `(tactic| (k_here; (with_reducible rename Fr _ _ _ _ => F'); (with_reducible rename News _ _ _ _ => N'); (with_reducible show wpAny _ _ (subscriptTail _ (Expr.Slice none (some _) none _) (Value.str _ _) _) _ _ _); k_dflt (first | (refine' cut_to (s := ⟨_, _, _, _, _⟩) F' N' ?a1 ?a2 ?a5 ?_ ?a3 ?a4; (case a1 => assumption); (case a2 => omega); (case a5 => omega); (case a3 => with_unfolding_all rfl); (case a4 => intro _; with_unfolding_all rfl); intro z' h' t' k' F9 N9 hz' hl' hp'; (try k_sweep)) | (refine' cut_none (s := ⟨_, _, _, _, _⟩) F' N' ?a1 ?_ ?a3 ?a4; (case a1 => assumption); (case a3 => with_unfolding_all rfl); (case a4 => intro _; with_unfolding_all rfl); intro h' t' k' F9 N9; (try k_sweep)))))
local macro_rules | `(tactic| walk_at "exec While BoolOp cons nil") => `(tactic| (k_here; (with_reducible rename Fr _ _ _ _ => F'); (with_reducible rename News _ _ _ _ => N'); k_dflt (first | (refine' while_post F' N' ?a1 ?a2 ?a3 ?_ ?_ ?a4; (case a1 => exact rfl); (case a2 => exact rfl); (case a3 => exact rfl); (case a4 => passes_own)) | (refine' while_pre F' N' ?a1 ?a2 ?a3 ?_ ?_ ?a4; (case a1 => exact rfl); (case a2 => exact rfl); (case a3 => exact rfl); (case a4 => passes_own))); all_goals (intro i' t' h' k' F9 N9 j1 j2 j3 j4; (try k_sweep); (try dsimp only [upd] at F9); (try k_fold))))
local macro_rules | `(tactic| walk_at "eval Subscript") => `(tactic| (k_here; (with_reducible show wpAny _ _ (eval (Expr.Subscript (Expr.Name _ _) (Expr.Slice none (some (Expr.BoolOp _ _ _)) none _) _) _) _ _ _); (fail_if_success (with_reducible show wpAny _ _ _ (CutEnd _ _ _ _ _ _) _ _)); (with_reducible rename Fr _ _ _ _ => F'); (with_reducible rename News _ _ _ _ => N'); k_dflt (refine' cut_post F' N' ?a1 ?a2 ?_ ?_; (case a1 => exact rfl); (case a2 => exact rfl)); rotate_left; (intro z' t' h' k' F9 N9 j1 j2 j3 j4; (try k_sweep)); rotate_right))
local macro_rules | `(tactic| walk_at "TurnEnd") => `(tactic| (first | exact TurnEnd.intro (by assumption) (by assumption) (pre_turn (by assumption) (by omega) (by omega) (by assumption) (by assumption)) (by dsimp only; omega) | exact TurnEnd.intro (by assumption) (by assumption) (post_turn (by assumption) (by omega) (by omega) (by assumption) (by assumption)) (by dsimp only; omega)))
local macro_rules | `(tactic| walk_at "call type:list") => `(tactic| (k_here; (with_reducible show wpAny _ _ (call (Value.type _) [Value.ref _]) _ _ _); (rename IsRange _ _ _ _ _ _ _ _ => rgX); k_dflt (refine' my_list_range ?k0 ?k1 ?k2 ?k3 ?k4 ?k5 ?_; (case k0 => exact rfl); (case k1 => k_asm); (case k2 => k_asm); (case k3 => exact rgX); (case k4 => omega); (case k5 => omega); intro D' vs' c' h' tk' F' N' l1 hI'; (try k_lt l1); (try k_sweep))))
local macro_rules | `(tactic| walk_at "call ref") => `(tactic| (k_here; (with_reducible show wpAny _ _ (call (Value.ref 53) _) _ _ _); k_dflt (refine' Cl.go (sub_item _ _ _ _ _ _ _ _ _ _ _ ?a1 ?a2 ?a3 ?a4 ?a5 ?a6) ?k1 ?k2 ?k3 ?k4 ?k5 ?kK ?kd ?ku ?_; (case a1 => assumption); (case a2 => assumption); (case a3 => omega); (case a4 => omega); (case a5 => omega); (case a6 => omega); (case k1 => k_asm); (case k2 => k_asm); (case k3 => k_asm); (case k4 => k_asm); (case k5 => k_asm); (case kK => exact rfl); (case kd => ktr_room); (case ku => ktr_units); intro t9 h9 tk9 F9 N9; (try k_sweep); (try dsimp only); (try k_fold))))
local macro_rules | `(tactic| walk_at "call builtin:min") => `(tactic| (k_here; (with_reducible show wpAny _ _ (call (Value.builtin _) [Value.int _ _, Value.int _ _]) _ _ _); k_dflt (refine' my_min ?k0 ?k1 ?k2 ?_; (case k0 => exact rfl); (case k1 => k_asm); (case k2 => k_asm); intro v' t' h' k' hv' F9 N9; (try k_sweep))))
local macro_rules | `(tactic| walk_at "InvEndN") => `(tactic| (goal_has Mine.InI; k_dflt ((rename News _ _ _ _ => nE'); (try simp only [List.push_toArray] at nE'); (refine kst_end ⟨_, _, _, _, _, _, _, _, _⟩ (by assumption) nE' (by first | exact fun p hp => hp | exact fun p hp => List.mem_append_left _ hp | kst_in | kst_inAny) (by first | (intro p hp; kst_mem) | kst_anyIn) (by rfl) (by kst_facts) (by kst_all) (by kst_same) (by kst_p)))))
local macro_rules | `(tactic| walk_at "InvEndN") => `(tactic| (goal_has Mine.OutI; k_dflt ((rename News _ _ _ _ => nE'); (try simp only [List.push_toArray] at nE'); (refine kst_end ⟨_, _, _, _, _⟩ (by assumption) nE' (by first | exact fun p hp => hp | exact fun p hp => List.mem_append_left _ hp | kst_in | kst_inAny) (by first | (intro p hp; kst_mem) | kst_anyIn) (by rfl) (by kst_facts) (by kst_all) (by kst_same) (by kst_p)))))
local macro_rules | `(tactic| walk_at "SExit") => `(tactic| (exact SExit.intro (by assumption) (by assumption)))
local macro_rules | `(tactic| walk_at "CutEnd") => `(tactic| (first | exact CutEnd.intro (by assumption) (by assumption) ⟨by assumption, by assumption, by assumption⟩ | exact CutEnd.intro (by assumption) (by assumption) (ToG.zero (by assumption) (by omega))))
theorem lev_claim (w : World) (mean : ExcName → Option Value) (mg mb : Str → Option Value) (news : List (Addr × Obj)) (x : Str) (tx : Tok) (y : Str) (ty : Tok) (hx : Plain x) (hy : Plain y) (tm : Tok) : ClN w mean mg mb 60 3 news [.str x tx, .str y ty, .int 1000 tm] (fun t => .int (levF x y) t) := by
  unfold ClN
  k_with_none
  w_top off
  k_fill
  intro dp un gd cn cs a ccd cl outer A₀ base h₀ L m s Q E B F K N T hcs hdp hun hret
  refine wpAny_call ?_
  k_dflt cell_enter
  (k_with "state" => first | exact in_turn' (by assumption) (by assumption) (by assumption) (by omega) (by omega) (by omega) (by assumption) (by assumption) rfl (by omega) (by omega) rfl | exact out_turn' (by assumption) (by assumption) (by omega) (by omega) (by assumption) | exact in_start (by assumption) (by assumption) (by assumption) (by omega) (by omega) | exact out_start _ _)
  (k_with "pyIter ref" => (k_of "bindex" => k_state_given ["a", "b"] (fun a b pre row result => row.length = a.length ∧ OutI a b pre.length row result) "row" "result"))
  (k_with "pyIter ref" => (k_of "index" => k_state_given ["a", "b", "bindex"] (fun a b bi pre distance result minimum row => row.length = a.length ∧ InI a b bi pre.length distance result minimum row) "distance" "result" "minimum" "row"))
  k_steps
  all_goals try exact min_absurd (by assumption) (by omega) (by omega) (by omega)
  all_goals try (refine cb_retI hret ?_ (by assumption) (by first | assumption | exact cb_drop (by assumption) (fun p hp => List.mem_cons_of_mem _ hp) | exact cb_drop (by assumption) (fun p hp => List.mem_cons_of_mem _ (List.mem_cons_of_mem _ hp))); first | exact lev_end0 (by assumption) | exact lev_main (by assumption) (by assumption) (by assumption) (by assumption) (by assumption) (by assumption) (by assumption) (by omega) (by omega) | exact lev_main' (by assumption) (by assumption) (by assumption) (by assumption) (by assumption) (by assumption) (by assumption) (by omega) (by omega) | exact lev_nil (by assumption) (by assumption) (by assumption) (by assumption) (by assumption) (by assumption) (by omega))
  any_goals (refine TurnEnd.intro (by assumption) (by assumption) ?_ ?_)
  any_goals first | exact pre_turn (by assumption) (by omega) (by omega) (by assumption) (by assumption) | exact post_turn (by assumption) (by omega) (by omega) (by assumption) (by assumption) | ((show @LT.lt Nat _ _ _); omega)
end

/-! _law_twice -/
section
local macro_rules | `(tactic| walk_at "call builtin:str.replace") => `(tactic| (k_here; (refine SC.replace (by (show @Ne Nat _ _); omega) (by (show @Ne Nat _ _); omega) (by (show @Ne Nat _ _); omega) (by decide +kernel) (by rw [show (Str.ofString "\"\"").length = 2 from by decide +kernel]; omega) ?_); intro _ _))
theorem twice_claim (w : World) (mean : ExcName → Option Value) (mg mb : Str → Option Value) (news : List (Addr × Obj)) (x : Str) (tx : Tok) (hx : x.length ≤ 40) : Cl w mean mg mb 72 2 news [.str x tx] (fun t => .str (twiceS x) t) := by
  unfold Cl
  k_with_none
  w_top off
  k_fill
  intro hh dp un gd cn cs a ccd cl outer A₀ base h₀ L m s Q E B F K N T hcs hdp hun hret
  refine wpAny_call ?_
  k_dflt cell_enter
  with_unfolding_all (show wpAny _ _ _ _ _ { heap := _, gens := s.gens, drawn := s.drawn, toks := s.toks + 1, os := s.os })
  obtain ⟨tk0, htk0⟩ : ∃ k : Nat, k = s.toks + 1 := ⟨_, rfl⟩
  rw [← htk0]
  k_steps
  refine cb_retS hret ?_ (by assumption) (by assumption)
  exact replace_dbl x _ _ 34 (by decide +kernel) (by decide +kernel)
end

/-! parse257 -/
theorem rd_nil : rd [] = [] := by rw [rd.eq_def]
theorem rd_one : rd [34] = [] := by rw [rd.eq_def]; simp
theorem rd_other {c : Nat} (h : c ≠ 34) (r : List Nat) : rd (c :: r) = c :: rd r := by rw [rd.eq_def]; simp only [if_neg h]
theorem rd_two (r : List Nat) : rd (34 :: 34 :: r) = 34 :: rd r := by rw [rd.eq_def]; simp
theorem rd_stop {d : Nat} (h : d ≠ 34) (r : List Nat) : rd (34 :: d :: r) = [] := by rw [rd.eq_def]; simp [h]

/-- what is read so far, and what is still to be read -/
def PR (x : Str) (d : Str) (i : Int) : Prop := (x.cps.toList.drop 3).take 2 = [32, 34] ∧ rd (x.cps.toList.drop 5) = d.cps.toList ++ rd (x.cps.toList.drop i.toNat)

theorem q_list : (Str.ofString "\"").cps.toList = [34] := by decide +kernel
theorem slice_ss (x : Str) {i j : Int} (h0 : 0 ≤ i) (h1 : i ≤ j) (h2 : j ≤ x.length) : (Txt.slice x (some i) (some j)).cps.toList = (x.cps.toList.drop i.toNat).take (j - i).toNat := by
  rw [eq_of_beq (slice_closesL h0 h1 h2)]
theorem slice35 {x : Str} (h : (x.cps.toList.drop 3).take 2 = [32, 34]) : Txt.slice x (some 3) (some 5) = Str.ofString " \"" := by
  have h5 : 5 ≤ x.length := by
    have := congrArg List.length h
    rw [List.length_take, List.length_drop, len_list] at this
    simp only [List.length_cons, List.length_nil] at this
    omega
  apply str_ext
  rw [slice_ss x (by decide) (by decide) (by omega), show (Str.ofString " \"").cps.toList = [32, 34] from by decide +kernel]
  exact h
theorem slice35' {x : Str} (h : (Txt.slice x (some 3) (some 5) != Str.ofString " \"") = false) : 5 ≤ x.length ∧ (x.cps.toList.drop 3).take 2 = [32, 34] := by
  have e : Txt.slice x (some 3) (some 5) = Str.ofString " \"" := by simpa using h
  have e2 : (Str.ofString " \"").cps.toList = [32, 34] := by decide +kernel
  have key : (x.cps.toList.drop 3).take 2 = [32, 34] := by
    by_cases h5 : 5 ≤ x.length
    · have := slice_ss x (i := 3) (j := 5) (by decide) (by decide) (by omega)
      rw [e, e2] at this
      exact this.symm
    · exfalso
      have hl : ∀ c ∈ (Txt.slice x (some 3) (some 5)).cps.toList, True := fun _ _ => trivial
      have h34 : (Txt.slice x (some 3) (some 5)).cps.toList.length ≤ 1 := by
        have hb : Txt.slice x (some 3) (some 5) = Txt.slice x (some 3) none := by
          unfold Txt.slice
          have : Builtin.Str.strSliceIndices (some 3) (some 5) 1 x.length = Builtin.Str.strSliceIndices (some 3) none 1 x.length := by
            have e1 : ¬ ((3 : Int) < 0) := by decide
            have e2 : ¬ ((5 : Int) < 0) := by decide
            have e3 : (1 : Int) > 0 := by decide
            have e4 : min (5 : Int) (x.length : Int) = x.length := by omega
            have e5 : max (0 : Int) (x.length : Int) = x.length := by omega
            simp only [Builtin.Str.strSliceIndices, e1, e2, e3, if_false, if_true, e4, e5]
          rw [this]
        rw [hb, slice_from x (by decide), List.length_drop, len_list]
        show x.length - 3 ≤ 1
        omega
      rw [e, e2] at h34
      exact absurd h34 (by decide)
  refine ⟨?_, key⟩
  have := congrArg List.length key
  rw [List.length_take, List.length_drop, len_list] at this
  simp only [List.length_cons, List.length_nil] at this
  omega
theorem p_start {x : Str} (h : (Txt.slice x (some 3) (some 5) != Str.ofString " \"") = false) : 5 ≤ (5 : Int) ∧ (5 : Int) ≤ (x.length : Int) ∧ (Str.ofString "").length ≤ (5 : Int).toNat ∧ PR x (Str.ofString "") 5 := by
  have h5 := slice35' h
  refine ⟨Int.le_refl _, by omega, by decide +kernel, h5.2, ?_⟩
  rw [show (Str.ofString "").cps.toList = [] from by decide +kernel]
  rfl
/-- the sign at i -/
theorem item_at {x : Str} {i : Int} (h0 : 0 ≤ i) (h1 : i < x.length) : ∃ c, x.cps.toList.drop i.toNat = c :: x.cps.toList.drop (i.toNat + 1) ∧ (Txt.item x i).cps.toList = [c] := by
  have hl : i.toNat < x.cps.toList.length := by rw [len_list]; omega
  refine ⟨x.cps.toList[i.toNat], List.drop_eq_getElem_cons hl, ?_⟩
  have e : x.cps[i.toNat]? = some x.cps.toList[i.toNat] := by
    rw [← Array.getElem?_toList]
    exact List.getElem?_eq_getElem hl
  rw [item_meets h0 e]
theorem item_q {x : Str} {i : Int} {c : Nat} (hc : (Txt.item x i).cps.toList = [c]) : (Txt.item x i == Str.ofString "\"") = decide (c = 34) := by
  by_cases h : c = 34
  · have : Txt.item x i = Str.ofString "\"" := str_ext (by rw [hc, q_list, h])
    rw [this, decide_eq_true h]; simp
  · rw [decide_eq_false h]
    apply beq_eq_false_iff_ne.mpr
    intro e
    rw [e, q_list] at hc
    exact h (List.cons.inj hc).1.symm
theorem p_turn1 {x d : Str} {i : Int} (h5 : 5 ≤ i) (hd : d.length ≤ i.toNat) (hP : PR x d i) (hi : i < x.length) (hq : (Txt.item x i == Str.ofString "\"") = false) :
    5 ≤ i + 1 ∧ i + 1 ≤ (x.length : Int) ∧ (d ++ Txt.item x i).length ≤ (i + 1).toNat ∧ PR x (d ++ Txt.item x i) (i + 1) := by
  obtain ⟨c, h1, h2⟩ := item_at (by omega) hi
  rw [item_q h2] at hq
  have hc : c ≠ 34 := of_decide_eq_false hq
  refine ⟨by omega, by omega, ?_, hP.1, ?_⟩
  · rw [PySem.Str.length_append, len_item]; omega
  · rw [hP.2, h1, rd_other hc, PySem.Str.cps_append, Array.toList_append, h2, List.append_assoc, show (i + 1).toNat = i.toNat + 1 by omega]
    rfl
theorem p_turn2 {x d : Str} {i : Int} (h5 : 5 ≤ i) (hd : d.length ≤ i.toNat) (hP : PR x d i) (hi : i < x.length) (hq : (Txt.item x i == Str.ofString "\"") = true)
    (hi2 : ¬ (x.length : Int) ≤ i + 1) (hq2 : (Txt.item x (i + 1) != Str.ofString "\"") = false) :
    5 ≤ i + 1 + 1 ∧ i + 1 + 1 ≤ (x.length : Int) ∧ (d ++ Txt.item x i).length ≤ (i + 1 + 1).toNat ∧ PR x (d ++ Txt.item x i) (i + 1 + 1) := by
  obtain ⟨c, h1, h2⟩ := item_at (by omega) hi
  obtain ⟨c', h1', h2'⟩ := item_at (x := x) (i := i + 1) (by omega) (by omega)
  rw [item_q h2] at hq
  have hc : c = 34 := of_decide_eq_true hq
  have hq2' : (Txt.item x (i + 1) == Str.ofString "\"") = true := by simpa [bne] using hq2
  rw [item_q h2'] at hq2'
  have hc' : c' = 34 := of_decide_eq_true hq2'
  subst hc; subst hc'
  refine ⟨by omega, by omega, ?_, hP.1, ?_⟩
  · rw [PySem.Str.length_append, len_item]; omega
  · rw [show (i + 1).toNat = i.toNat + 1 by omega] at h1'
    rw [hP.2, h1, h1', rd_two, PySem.Str.cps_append, Array.toList_append, h2, List.append_assoc, show (i + 1 + 1).toNat = i.toNat + 1 + 1 by omega]
    rfl
theorem p_end {x d : Str} {i : Int} (hP : PR x d i) (h : rd (x.cps.toList.drop i.toNat) = []) : d = parseF x := by
  apply str_ext
  show _ = (parseL x.cps.toList).toArray.toList
  unfold parseL
  rw [if_pos hP.1, hP.2, h, List.append_nil]
theorem p_end0 {x : Str} (h : (Txt.slice x (some 3) (some 5) != Str.ofString " \"") = true) : Str.ofString "" = parseF x := by
  apply str_ext
  show _ = (parseL x.cps.toList).toArray.toList
  unfold parseL
  rw [if_neg (fun e => by rw [slice35 e] at h; simp at h)]
  decide +kernel
theorem p_end1 {x d : Str} {i : Int} (h5 : 5 ≤ i) (hP : PR x d i) (hi : i < x.length) (hq : (Txt.item x i == Str.ofString "\"") = true) (hi2 : (x.length : Int) ≤ i + 1) : d = parseF x := by
  obtain ⟨c, h1, h2⟩ := item_at (by omega) hi
  rw [item_q h2] at hq
  have hc : c = 34 := of_decide_eq_true hq
  refine p_end hP ?_
  rw [h1, hc, List.drop_of_length_le (by rw [len_list]; omega), rd_one]
theorem p_end2 {x d : Str} {i : Int} (h5 : 5 ≤ i) (hP : PR x d i) (hi : i < x.length) (hq : (Txt.item x i == Str.ofString "\"") = true) (hi2 : ¬ (x.length : Int) ≤ i + 1) (hq2 : (Txt.item x (i + 1) != Str.ofString "\"") = true) : d = parseF x := by
  obtain ⟨c, h1, h2⟩ := item_at (by omega) hi
  obtain ⟨c', h1', h2'⟩ := item_at (x := x) (i := i + 1) (by omega) (by omega)
  rw [item_q h2] at hq
  have hc : c = 34 := of_decide_eq_true hq
  have hq2' : (Txt.item x (i + 1) == Str.ofString "\"") = false := by simpa [bne] using hq2
  rw [item_q h2'] at hq2'
  have hc' : c' ≠ 34 := of_decide_eq_false hq2'
  refine p_end hP ?_
  rw [show (i + 1).toNat = i.toNat + 1 by omega] at h1'
  rw [h1, h1', hc, rd_stop hc']
theorem p_end3 {x d : Str} {i : Int} (hP : PR x d i) (hi : ¬ i < (x.length : Int)) : d = parseF x := by
  refine p_end hP ?_
  rw [List.drop_of_length_le (by rw [len_list]; omega), rd_nil]

/-- a name's signs, each mark twice, read back -/
theorem rd_twice (r : List Nat) (hr : r.head? ≠ some 34) : ∀ l : List Nat, rd (tw l ++ 34 :: r) = l
  | [] => by
    rw [tw_nil]
    cases r with
    | nil => exact rd_one
    | cons d r => exact rd_stop (fun e => hr (by rw [e]; rfl)) r
  | c :: l => by
    have ih := rd_twice r hr l
    by_cases h : c = 34
    · subst h
      rw [tw_mark]
      show rd (34 :: 34 :: (tw l ++ 34 :: r)) = _
      rw [rd_two, ih]
    · rw [tw_other h]
      show rd (c :: (tw l ++ 34 :: r)) = _
      rw [rd_other h, ih]
theorem rd_open : ∀ l : List Nat, rd (tw l) = l
  | [] => by rw [tw_nil, rd_nil]
  | c :: l => by
    have ih := rd_open l
    by_cases h : c = 34
    · subst h
      rw [tw_mark, rd_two, ih]
    · rw [tw_other h, rd_other h, ih]
theorem lit257 : (Str.ofString "257 \"").cps.toList = [50, 53, 55, 32, 34] := by decide +kernel
theorem parseF_named (n r : Str) (hr : r.cps.toList.head? ≠ some 34) : parseF (((Str.ofString "257 \"" ++ twiceS n) ++ Str.ofString "\"") ++ r) = n := by
  apply str_ext
  show (parseL _).toArray.toList = _
  have e : (((Str.ofString "257 \"" ++ twiceS n) ++ Str.ofString "\"") ++ r).cps.toList = 50 :: 53 :: 55 :: 32 :: 34 :: (tw n.cps.toList ++ 34 :: r.cps.toList) := by
    rw [PySem.Str.cps_append, PySem.Str.cps_append, PySem.Str.cps_append, Array.toList_append, Array.toList_append, Array.toList_append, lit257, tw_list, q_list]
    simp
  rw [e]
  rw [List.toList_toArray]
  unfold parseL
  rw [if_pos (by rfl)]
  exact rd_twice _ hr _
theorem parseF_open (n : Str) : parseF (Str.ofString "257 \"" ++ twiceS n) = n := by
  apply str_ext
  show (parseL _).toArray.toList = _
  have e : (Str.ofString "257 \"" ++ twiceS n).cps.toList = 50 :: 53 :: 55 :: 32 :: 34 :: tw n.cps.toList := by
    rw [PySem.Str.cps_append, Array.toList_append, lit257, tw_list]
    rfl
  rw [e]
  rw [List.toList_toArray]
  unfold parseL
  rw [if_pos (by rfl)]
  exact rd_open _
theorem parseF_none : parseF (Str.ofString "257 none") = Str.ofString "" := by
  apply str_ext
  show (parseL _).toArray.toList = _
  have e : (Str.ofString "257 none").cps.toList = [50, 53, 55, 32, 110, 111, 110, 101] := by decide +kernel
  have e2 : (Str.ofString "").cps.toList = [] := by decide +kernel
  rw [e, e2]
  rw [List.toList_toArray]
  unfold parseL
  rw [if_neg (by decide)]
theorem ne_same {prog : Program} {w : World} {A : Around} {E : Value → Shared → Prop} {s : Shared} {x : Str} {t u : Tok} {Q : Value → Shared → Prop} (h : Q (.bool false) s) : wpAny (model prog w) A (compareOp .NotEq (.str x t) (.str x u)) Q E s :=
  ne_str (by rw [bne_self_eq_false]; exact h)
section
variable {prog : Program} {w : World} {A : Around} {E : Value → Shared → Prop} {s : Shared} {value slice : PySem.Expr} {x : Str} {t : Tok} {h₀ : Heap} {L : Addr} {m : Str → Option Value} {news : List (Addr × Obj)} {Q : Value → Shared → Prop}
theorem slice257 {uj : Tok} (hF : Fr h₀ L s.heap m) (hN : News h₀ L s.heap news) (hx : x.length ≤ 100) (h3 : x.cps.toList.take 3 = [50, 53, 55]) (h : ∀ h' t' k, Fr h₀ L h' m → News h₀ L h' news → Q (.str (Str.ofString "257") t') { s with heap := h', toks := k })
    (hs : subscripted slice false (.str x t) (.ref s.heap.objs.size) = operate [.ref s.heap.objs.size, .str x t] (getItem (.str x t) (.ref s.heap.objs.size)) := by with_unfolding_all rfl)
    (ht : ∀ r, letTemporaryGo value (.str x t) r = pure () := by intro _; with_unfolding_all rfl) :
    wpAny (model prog w) A (subscriptTail value slice (.str x t) (.ref s.heap.objs.size)) Q E { s with heap := s.heap.push { cls := .type "slice", data := .fields #[.none, .int 3 uj, .none] } } :=
  slice_strN_ns hF hN (fun h' t' k F N => by
    have e : Txt.slice x none (some 3) = Str.ofString "257" := by
      apply str_ext
      rw [slice_to _ (by decide), show (Str.ofString "257").cps.toList = [50, 53, 55] from by decide +kernel]
      exact h3
    rw [e]
    exact h h' t' k F N) hs ht (by rw [PySem.sizeLine_eq]; omega)
end
section
local macro_rules | `(tactic| walk_at "compareOp NotEq str str") => `(tactic| (k_here; (with_reducible refine' ne_same ?_)))
local macro_rules | `(tactic| walk_at "subscriptTail Name Slice str ref") => `(tactic| (k_here; (with_reducible rename Fr _ _ _ _ => F'); (with_reducible rename News _ _ _ _ => N'); (with_reducible show wpAny _ _ (subscriptTail _ (Expr.Slice none (some _) none _) _ _) _ _ _); k_dflt (refine' slice257 (s := ⟨_, _, _, _, _⟩) F' N' ?a1 ?a2 ?_ ?a3 ?a4; (case a1 => assumption); (case a2 => assumption); (case a3 => with_unfolding_all rfl); (case a4 => intro _; with_unfolding_all rfl); intro h' t' k' F9 N9; (try k_sweep))))
theorem parse_claim (w : World) (mean : ExcName → Option Value) (mg mb : Str → Option Value) (news : List (Addr × Obj)) (x : Str) (tx : Tok) (hx : x.length ≤ 100) (h3 : x.cps.toList.take 3 = [50, 53, 55]) : Cl w mean mg mb 46 2 news [.str x tx] (fun t => .str (parseF x) t) := by
  unfold Cl
  k_with_none
  w_top off
  k_fill
  intro hh dp un gd cn cs a ccd cl outer A₀ base h₀ L m s Q E B F K N T hcs hdp hun hret
  refine wpAny_call ?_
  k_dflt cell_enter
  (k_with "state" => first | exact p_start (by assumption) | exact p_turn2 (by assumption) (by assumption) (by assumption) (by assumption) (by assumption) (by assumption) (by assumption) | exact p_turn1 (by assumption) (by assumption) (by assumption) (by assumption) (by assumption))
  (k_with "exec While Compare cons nil" => k_while_given ["resp", "n"] (fun resp n script d i => 5 ≤ i ∧ i ≤ n ∧ d.length ≤ i.toNat ∧ PR resp d i) (fun resp n script d i => (n - i).toNat) "dirname" "i")
  k_steps
  all_goals (refine cb_retS hret ?_ (by assumption) (by assumption))
  all_goals first | exact p_end0 (by assumption) | exact p_end1 (by assumption) (by assumption) (by assumption) (by assumption) (by assumption) | exact p_end2 (by assumption) (by assumption) (by assumption) (by assumption) (by assumption) (by assumption) | exact p_end3 (by assumption) (by assumption)
end

/-! the law -/
section
variable (w : World) (mean : ExcName → Option Value) (mg mb : Str → Option Value) (news : List (Addr × Obj))

theorem parse_named (n : Str) (r : Str) (tx : Tok) (hn : n.length ≤ 14) (hr : r.length ≤ 20) (hq : r.cps.toList.head? ≠ some 34) : Cl w mean mg mb 46 2 news [.str (((Str.ofString "257 \"" ++ twiceS n) ++ Str.ofString "\"") ++ r) tx] (fun t => .str n t) := by
  have h := parse_claim w mean mg mb news (((Str.ofString "257 \"" ++ twiceS n) ++ Str.ofString "\"") ++ r) tx (by
    have := (twice_len n).2
    have e1 : (Str.ofString "257 \"").length = 5 := by decide +kernel
    have e2 : (Str.ofString "\"").length = 1 := by decide +kernel
    rw [PySem.Str.length_append, PySem.Str.length_append, PySem.Str.length_append]
    omega) (by
    rw [PySem.Str.cps_append, PySem.Str.cps_append, PySem.Str.cps_append, Array.toList_append, Array.toList_append, Array.toList_append, lit257]
    rfl)
  rw [parseF_named n r hq] at h
  exact h
theorem parse_none (tx : Tok) : Cl w mean mg mb 46 2 news [.str (Str.ofString "257 none") tx] (fun t => .str (Str.ofString "") t) := by
  have h := parse_claim w mean mg mb news (Str.ofString "257 none") tx (by decide +kernel) (by decide +kernel)
  rw [parseF_none] at h
  exact h
theorem parse_open (n : Str) (tx : Tok) (hn : n.length ≤ 14) : Cl w mean mg mb 46 2 news [.str (Str.ofString "257 \"" ++ twiceS n) tx] (fun t => .str n t) := by
  have h := parse_claim w mean mg mb news (Str.ofString "257 \"" ++ twiceS n) tx (by
    have := (twice_len n).2
    have e1 : (Str.ofString "257 \"").length = 5 := by decide +kernel
    rw [PySem.Str.length_append]
    omega) (by
    rw [PySem.Str.cps_append, Array.toList_append, lit257]
    rfl)
  rw [parseF_open n] at h
  exact h
theorem lev_twice (x : Str) (tx : Tok) (ty : Tok) (hx : x.length ≤ 14) (hA : Alpha x) (tm : Tok) : ClN w mean mg mb 60 3 news [.str x tx, .str (twiceS x) ty, .int 1000 tm] (fun t => .int (2 * Txt.count x (Str.ofString "\"")) t) := by
  rw [← levF_twice x]
  exact lev_claim _ _ _ _ _ x tx (twiceS x) ty ⟨by omega, hA⟩ ⟨by have := (twice_len x).2; omega, hA.twice⟩ tm
theorem lev_names (x : Str) (tx : Tok) (y : Str) (ty : Tok) (hx : x.length ≤ 14) (hA : Alpha x) (hy : y.length ≤ 14) (hB : Alpha y) (tm : Tok) : ClN w mean mg mb 60 3 news [.str x tx, .str y ty, .int 1000 tm] (fun t => .int (levF x y) t) :=
  lev_claim _ _ _ _ _ x tx y ty ⟨by omega, hA⟩ ⟨by omega, hB⟩ tm
theorem lev_twices (x : Str) (tx : Tok) (y : Str) (ty : Tok) (hx : x.length ≤ 14) (hA : Alpha x) (hy : y.length ≤ 14) (hB : Alpha y) (tm : Tok) : ClN w mean mg mb 60 3 news [.str (twiceS x) tx, .str (twiceS y) ty, .int 1000 tm] (fun t => .int (levF (twiceS x) (twiceS y)) t) :=
  lev_claim _ _ _ _ _ (twiceS x) tx (twiceS y) ty ⟨by have := (twice_len x).2; omega, hA.twice⟩ ⟨by have := (twice_len y).2; omega, hB.twice⟩ tm
end

section
variable {w : World} {mean : ExcName → Option Value} {mg mb : Str → Option Value} {news : List (Addr × Obj)}
  {hh : Option Value} {dp un : Nat} {gd : Option (List Code)} {cn : Str} {cs : Scope} {a : Addr} {ccd : Value} {cl : List (Str × Addr)} {outer : List Env} {A₀ : Around} {base h₀ : Heap} {L : Addr} {m : Str → Option Value} {s : Shared} {Q E : Value → Shared → Prop}
theorem twice_go {x : Str} {tx : Tok} (hx : x.length ≤ 40) (B : Below A₀ base outer h₀) (F : Fr h₀ L s.heap m) (K : (hd.heap_39 w.params).In h₀) (N : News h₀ L s.heap news) (T : Top hd.view_39 (looseW hd.view_39 []) mean mg mb h₀) (hk : cs.kind = .function)
    (hd : dp + 2 < recursionLimit) (hu : un + 8 * 2 < cLine)
    (ret : ∀ (t : Tok) (h' : Heap) (tk' : Nat), Fr h₀ L h' m → News h₀ L h' news → (twiceS x).length ≤ 2 * x.length → Q (.str (twiceS x) t) { s with heap := h', toks := tk' }) :
    wpAny (model PySem.Challenge.rw_gc0005_01.row.prog w) (TopA hh dp un gd cn cs L a ccd cl outer) (call (.ref 72) [.str x tx]) Q E s :=
  Cl.go (twice_claim _ _ _ _ _ x tx hx) B F K N T hk hd hu fun t h' tk' F N => ret t h' tk' F N (twice_len x).2
theorem twices_go {x y : Str} {tx ty tm : Tok} (hx : x.length ≤ 14) (hA : Alpha x) (hy : y.length ≤ 14) (hB : Alpha y) (B : Below A₀ base outer h₀) (F : Fr h₀ L s.heap m) (K : (hd.heap_39 w.params).In h₀) (N : News h₀ L s.heap news) (T : Top hd.view_39 (looseW hd.view_39 []) mean mg mb h₀) (hk : cs.kind = .function)
    (hd : dp + 3 < recursionLimit) (hu : un + 8 * 3 < cLine)
    (ret : ∀ (t : Tok) (h' : Heap) (tk' : Nat), Fr h₀ L h' m → News h₀ L h' news → 0 ≤ levF x y → levF x y ≤ levF (twiceS x) (twiceS y) → levF (twiceS x) (twiceS y) ≤ 2 * levF x y → 2 * ((twiceS x).length - (twiceS y).length : Int) ≤ levF (twiceS x) (twiceS y) → 2 * ((twiceS y).length - (twiceS x).length : Int) ≤ levF (twiceS x) (twiceS y) → ((levF (twiceS x) (twiceS y) = 0) ↔ x = y) → Q (.int (levF (twiceS x) (twiceS y)) t) { s with heap := h', toks := tk' }) :
    wpAny (model PySem.Challenge.rw_gc0005_01.row.prog w) (TopA none dp un gd cn cs L a ccd cl outer) (call (.ref 60) [.str (twiceS x) tx, .str (twiceS y) ty, .int 1000 tm]) Q E s :=
  ClN.go (lev_twices _ _ _ _ _ x tx y ty hx hA hy hB tm) B F K N T hk hd hu fun t h' tk' F N =>
    have f := law_facts x y
    ret t h' tk' F N f.1 f.2.1 f.2.2.1 f.2.2.2.1 f.2.2.2.2.1 f.2.2.2.2.2
end
theorem own_any : (ownsOf hd.view_39).any (fun o => o.name == Str.ofString "error_reply" && (o.bm == [.type "Exception", .type "BaseException", .type "object"])) = true := by decide +kernel
theorem own_err {w : World} {mean : ExcName → Option Value} {mg mb : Str → Option Value} {h : Heap} (X : (hd.heap_39 w.params).In h) (T : Top hd.view_39 (looseW hd.view_39 []) mean mg mb h) :
    ∃ i, OwnClsQ (Str.ofString "error_reply") 37 [.type "Exception", .type "BaseException", .type "object"] i mg h := by
  obtain ⟨o, ho, e⟩ := List.any_eq_true.mp own_any
  rw [Bool.and_eq_true, beq_iff_eq, beq_iff_eq] at e
  obtain ⟨C, O, _⟩ := T.own o ho
  rw [e.1, e.2] at O
  have hb := O.bound
  have hm : mg (Str.ofString "error_reply") = some (.ref 37) := mg_of X T.g (by with_unfolding_all rfl)
  rw [hm] at hb
  have hC : C = 37 := by
    have := Option.some.inj hb
    exact (Value.ref.inj this).symm
  rw [hC] at O
  exact ⟨_, O⟩
section
variable {prog : Program} {w : World} {A : Around} {E : Value → Shared → Prop} {h₀ h : Heap} {g : Array GenState} {d : Drawn} {tk : Nat} {os : OsState} {L e t : Addr} {news : List (Addr × Obj)} {vs : List Value} {mean : ExcName → Option Value} {mg mb : Str → Option Value} {m : Str → Option Value} {expr : Bool} {Q : Value → Shared → Prop}
theorem my_args {n₂ : List (Addr × Obj)} (F : Fr h₀ L h m) (X : (hd.heap_39 w.params).In h₀) (T : Top hd.view_39 (looseW hd.view_39 []) mean mg mb h₀) (G : Got n₂ e t (.ref 37) vs) (N₂ : News h₀ L h n₂) (N : News h₀ L h news)
    (hq : ∀ ot nt, ot.cls = .type "tuple" → ot.data = .seq vs.toArray nt → News h₀ L h ((t, ot) :: news) → Q (.ref t) ⟨h, g, d, tk + 1, os⟩) :
    wpAny (model prog w) A (getAttr (.ref e) (Str.ofString "args") expr) Q E ⟨h, g, d, tk, os⟩ := by
  obtain ⟨i, O⟩ := own_err X T
  refine args_got_own PySem.F.attrBase_Exception F O N₂ G ?_
  obtain ⟨oe, ot, ws, nt, _, h2, _, _, _, h5, h6⟩ := G
  refine hq ot nt h5 h6 ?_
  intro p hp
  rcases List.mem_cons.mp hp with rfl | hp
  · exact N₂ _ h2
  · exact N _ hp
end
section
variable {prog : Program} {w : World} {A : Around} {E : Value → Shared → Prop} {h₀ : Heap} {s : Shared} {L a b : Addr} {news : List (Addr × Obj)} {Q : Value → Shared → Prop}
theorem ok550 {y : Str} (h : Alpha y) : PyData.strOk (Str.ofString "550 \"" ++ twiceS y ++ Str.ofString "\"") = true := by
  unfold PyData.strOk
  rw [PySem.Str.cps_append, PySem.Str.cps_append, Array.all_append, Array.all_append, Bool.and_eq_true, Bool.and_eq_true]
  refine ⟨⟨by decide +kernel, ?_⟩, by decide +kernel⟩
  rw [← Array.all_toList, List.all_eq_true]
  intro c hc
  rcases h.twice c hc with e | e | e <;> rw [e] <;> decide
theorem my_eq {o o2 : Obj} {n n2 : Nat} {y x : Str} {t u : Tok} (hA : Alpha y) (hxy : x = Str.ofString "550 \"" ++ twiceS y ++ Str.ofString "\"") (N : News h₀ L s.heap news) (h1 : (a, o) ∈ news) (hc : o.cls = .type "tuple") (hd : o.data = .seq [Value.str x t].toArray n)
    (h2 : (b, o2) ∈ news) (hc2 : o2.cls = .type "tuple") (hd2 : o2.data = .seq #[Value.str x u] n2) (hu : A.units + 64 < cLine) (h : Q (.bool true) s) :
    wpAny (model prog w) A (compareOp .Eq (.ref a) (.ref b)) Q E s := by
  refine eq_dataH (da := .tuple [.str x]) (db := .tuple [.str x]) (Reads.tuple (N.get h1) hc hd (.cons (.str x t) .nil)) (Reads.tuple (N.get h2) hc2 hd2 (.cons (.str x u) .nil)) (by rw [hxy]; simp [SeqAt.shaped, PyData.canLay0, PyData.canLayAll0, PyData.depth, PyData.depthAll, ok550 hA]) (by rw [hxy]; simp [SeqAt.shaped, PyData.canLay0, PyData.canLayAll0, PyData.depth, PyData.depthAll, ok550 hA]) hu ?_
  have e : PyData.eqv (.tuple [.str x]) (.tuple [.str x]) = true := by simp [PyData.eqv, PyData.eqvAll]
  rw [e]
  exact h
end
section
theorem ne_same_int {prog : Program} {w : World} {A : Around} {E : Value → Shared → Prop} {s : Shared} {x : Int} {t u : Tok} {Q : Value → Shared → Prop} (h : Q (.bool false) s) : wpAny (model prog w) A (compareOp .NotEq (.int x t) (.int x u)) Q E s :=
  ne_int (by rw [bne_self_eq_false]; exact h)
local macro_rules | `(tactic| walk_at "m_alpha") => `(tactic| first | assumption | exact Alpha.append (by assumption) (by assumption) | exact Alpha.append (by assumption) (slice_alpha (by assumption)))
local macro_rules | `(tactic| walk_at "m_len") => `(tactic| first | omega | ((simp only [PySem.Str.length_append]); omega))
local macro_rules | `(tactic| walk_at "CompSrc") => `(tactic| (k_here; k_dflt (refine LCg.CompSrc.ledger (by rfl) (by k_asm) (by k_asm) (by k_mem) (by kcf_size) ?_; intro g'; (refine' kct_list signS (by first | assumption | l_ints) (fun k' t' I' oI' C' oC' D' m' ys' h' tk' E' hk' hC' hx' F' N' off' ne' => ?_) ?_); (all_goals (try (simp only [LCg.Off3, and_true] at off'))); (all_goals (try ((show KPfMark → _); intro hMark'))); kcf_last)))
local macro_rules | `(tactic| walk_at "KCtEl") => `(tactic| (exact kct_el (item_sign _) rfl rfl))
local macro_rules | `(tactic| walk_at "call builtin:str.join") => `(tactic| (k_here; (with_reducible show wpAny _ _ (call (Value.builtin "str.join") [Value.str _ _, Value.ref _]) _ _ _); (with_reducible rename CarriedAll _ (List.map _ _) => ktC); (refine my_join (by first | assumption | is_list | exact News.isList (by k_asm) (by k_mem)) ktC (by first | omega | (simp only [List.length_take, List.length_drop]; omega)) ?_; intro x' _ _ hx' hA')))
local macro_rules | `(tactic| walk_at "call ref") => `(tactic| (k_here; (with_reducible show wpAny _ _ (call (Value.ref 60) [Value.str (twiceS _) _, Value.str (twiceS _) _, _]) _ _ _); k_dflt (refine' twices_go ?a1 ?a2 ?a3 ?a4 ?k1 ?k2 ?k3 ?k4 ?k5 ?kK ?kd ?ku ?_; (case a1 => walk_at "m_len"); (case a2 => walk_at "m_alpha"); (case a3 => walk_at "m_len"); (case a4 => walk_at "m_alpha"); (case k1 => k_asm); (case k2 => k_asm); (case k3 => k_asm); (case k4 => k_asm); (case k5 => k_asm); (case kK => exact rfl); (case kd => ktr_room); (case ku => ktr_units); intro t9 h9 tk9 F9 N9 f1 f2 f3 f4 f5 f6; (try k_sweep); (try dsimp only); (try k_fold))))
local macro_rules | `(tactic| walk_at "call ref") => `(tactic| (k_here; (with_reducible show wpAny _ _ (call (Value.ref 60) _) _ _ _); k_dflt (refine' ClN.go (lev_names _ _ _ _ _ _ _ _ _ ?a1 ?a2 ?a3 ?a4 _) ?k1 ?k2 ?k3 ?k4 ?k5 ?kK ?kd ?ku ?_; (case a1 => walk_at "m_len"); (case a2 => walk_at "m_alpha"); (case a3 => walk_at "m_len"); (case a4 => walk_at "m_alpha"); (case k1 => k_asm); (case k2 => k_asm); (case k3 => k_asm); (case k4 => k_asm); (case k5 => k_asm); (case kK => exact rfl); (case kd => ktr_room); (case ku => ktr_units); intro t9 h9 tk9 F9 N9 ; (try k_sweep); (try dsimp only); (try k_fold))))
local macro_rules | `(tactic| walk_at "call ref") => `(tactic| (k_here; (with_reducible show wpAny _ _ (call (Value.ref 60) [Value.str _ _, Value.str (twiceS _) _, _]) _ _ _); k_dflt (refine' ClN.go (lev_twice _ _ _ _ _ _ _ _ ?a1 ?a2 _) ?k1 ?k2 ?k3 ?k4 ?k5 ?kK ?kd ?ku ?_; (case a1 => walk_at "m_len"); (case a2 => walk_at "m_alpha"); (case k1 => k_asm); (case k2 => k_asm); (case k3 => k_asm); (case k4 => k_asm); (case k5 => k_asm); (case kK => exact rfl); (case kd => ktr_room); (case ku => ktr_units); intro t9 h9 tk9 F9 N9 ; (try k_sweep); (try dsimp only); (try k_fold))))
local macro_rules | `(tactic| walk_at "call ref") => `(tactic| (k_here; (with_reducible show wpAny _ _ (call (Value.ref 46) [Value.str (Str.ofString _ ++ twiceS _) _]) _ _ _); k_dflt (refine' Cl.go (parse_open _ _ _ _ _ _ _ ?a1) ?k1 ?k2 ?k3 ?k4 ?k5 ?kK ?kd ?ku ?_; (case a1 => walk_at "m_len"); (case k1 => k_asm); (case k2 => k_asm); (case k3 => k_asm); (case k4 => k_asm); (case k5 => k_asm); (case kK => exact rfl); (case kd => ktr_room); (case ku => ktr_units); intro t9 h9 tk9 F9 N9 ; (try k_sweep); (try dsimp only); (try k_fold))))
local macro_rules | `(tactic| walk_at "call ref") => `(tactic| (k_here; (with_reducible show wpAny _ _ (call (Value.ref 46) [Value.str (Str.ofString _) _]) _ _ _); k_dflt (refine' Cl.go (parse_none _ _ _ _ _ _) ?k1 ?k2 ?k3 ?k4 ?k5 ?kK ?kd ?ku ?_; (case k1 => k_asm); (case k2 => k_asm); (case k3 => k_asm); (case k4 => k_asm); (case k5 => k_asm); (case kK => exact rfl); (case kd => ktr_room); (case ku => ktr_units); intro t9 h9 tk9 F9 N9 ; (try k_sweep); (try dsimp only); (try k_fold))))
local macro_rules | `(tactic| walk_at "call ref") => `(tactic| (k_here; (with_reducible show wpAny _ _ (call (Value.ref 46) [Value.str (Str.ofString _ ++ twiceS _ ++ Str.ofString _ ++ Str.ofString _) _]) _ _ _); k_dflt (refine' Cl.go (parse_named _ _ _ _ _ _ _ _ ?a1 ?a2 ?a3) ?k1 ?k2 ?k3 ?k4 ?k5 ?kK ?kd ?ku ?_; (case a1 => walk_at "m_len"); (case a2 => decide +kernel); (case a3 => decide +kernel); (case k1 => k_asm); (case k2 => k_asm); (case k3 => k_asm); (case k4 => k_asm); (case k5 => k_asm); (case kK => exact rfl); (case kd => ktr_room); (case ku => ktr_units); intro t9 h9 tk9 F9 N9 ; (try k_sweep); (try dsimp only); (try k_fold))))
local macro_rules | `(tactic| walk_at "call ref") => `(tactic| (k_here; (with_reducible show wpAny _ _ (call (Value.ref 72) _) _ _ _); k_dflt (refine' twice_go ?a1 ?k1 ?k2 ?k3 ?k4 ?k5 ?kK ?kd ?ku ?_; (case a1 => walk_at "m_len"); (case k1 => k_asm); (case k2 => k_asm); (case k3 => k_asm); (case k4 => k_asm); (case k5 => k_asm); (case kK => exact rfl); (case kd => ktr_room); (case ku => ktr_units); intro t9 h9 tk9 F9 N9 f1; (try k_sweep); (try dsimp only); (try k_fold))))
local macro_rules | `(tactic| walk_at "compareOp NotEq int int") => `(tactic| (k_here; (with_reducible refine' ne_same_int ?_)))
local macro_rules | `(tactic| walk_at "subscriptTail Name Slice str ref") => `(tactic| (k_here; (with_reducible rename Fr _ _ _ _ => F'); (with_reducible rename News _ _ _ _ => N'); (with_reducible show wpAny _ _ (subscriptTail _ (Expr.Slice none (some _) none _) _ _) _ _ _); k_dflt (refine' my_slice2 (s := ⟨_, _, _, _, _⟩) F' N' ?a1 ?a2 ?_ ?a3 ?a4; (case a1 => assumption); (case a2 => assumption); (case a3 => with_unfolding_all rfl); (case a4 => intro _; with_unfolding_all rfl); intro z' h' t' k' F9 N9 hz' hB'; (try k_sweep))))
local macro_rules | `(tactic| walk_at "subscriptTail Name Slice str ref") => `(tactic| (k_here; (with_reducible rename Fr _ _ _ _ => F'); (with_reducible rename News _ _ _ _ => N'); (with_reducible show wpAny _ _ (subscriptTail _ (Expr.Slice none (some _) none _) (Value.str (Str.ofString "550 \"" ++ _ ++ _) _) _) _ _ _); k_dflt (refine' my_slice550 (s := ⟨_, _, _, _, _⟩) F' N' ?a1 ?a2 ?_ ?a3 ?a4; (case a1 => walk_at "m_len"); (case a2 => decide +kernel); (case a3 => with_unfolding_all rfl); (case a4 => intro _; with_unfolding_all rfl); intro h' t' k' F9 N9; (try k_sweep))))
local macro_rules | `(tactic| walk_at "getAttr ref") => `(tactic| (k_here; (with_reducible show wpAny _ _ (getAttr (Value.ref _) ("args" : Str) _) _ _ _); k_dflt (refine' my_args ?a1 ?a2 ?a3 ?a4 ?a5 ?a6 ?_; (case a4 => assumption); (case a1 => k_asm); (case a2 => k_asm); (case a3 => k_asm); (case a5 => assumption); (case a6 => k_asm); intro ot' nt' hoc' hod' N9; (try k_sweep))))
local macro_rules | `(tactic| walk_at "compareOp Eq ref ref") => `(tactic| (k_here; (with_reducible show wpAny _ _ (compareOp CmpOp.Eq (Value.ref _) (Value.ref _)) _ _ _); k_dflt (refine' my_eq ?b1 ?b2 ?a1 ?a2 ?a3 ?a4 ?a5 ?a6 ?a7 ?a8 ?_; (case a1 => k_asm); (case a2 => k_mem); (case a3 => assumption); (case a4 => assumption); (case a5 => k_mem); (case a6 => exact rfl); (case a7 => exact rfl); (case a8 => ke_room); (case b2 => exact rfl); (case b1 => assumption))))
local macro_rules | `(tactic| walk_at "compareOp NotEq str str") => `(tactic| (k_here; (with_reducible refine' ne_same ?_)))
local macro_rules | `(tactic| walk_at "binaryOp Add str str") => `(tactic| (k_here; (with_reducible show wpAny _ _ (binaryOp Operator.Add (Value.str _ _) (Value.str _ _)) _ _ _); (refine KOpn.add (by kopn_len) ?_); intro _ _ _))
theorem t : PySem.Challenge.rw_gc0005_01.Holds := hd (by
  k_with_none
  k_go0; (all_goals try k_fold); k_steps)
end
end Mine

theorem PySem.Challenge.cw_gc0005_01_holds : PySem.Challenge.rw_gc0005_01.Holds :=
  Mine.t
