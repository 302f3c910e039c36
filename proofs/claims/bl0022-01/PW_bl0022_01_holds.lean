import PyProof.Rows.All
import Wide.All
import OpenK.AllK
import Wide.FinOn
import Lean
import PySem.Challenge.RW_bl0022_01
set_option Elab.async false
section
namespace Mine

def isBrk (c : Nat) : Bool := c == 40 || c == 41

/-- the place of the first bracket at j or behind it; the length where there is none -/
@[irreducible] def nearAt (t : List Nat) (j : Nat) : Nat := j + ((t.drop j).takeWhile (fun c => !(isBrk c))).length

theorem nearAt_end {t : List Nat} {j : Nat} (h : t.length ≤ j) : nearAt t j = j := by
  unfold nearAt
  simp [List.drop_of_length_le h]
theorem nearAt_hit {t : List Nat} {j : Nat} (h : j < t.length) (hb : isBrk (t.getD j 0) = true) : nearAt t j = j := by
  unfold nearAt
  rw [List.drop_eq_getElem_cons h]
  have e : t[j] = t.getD j 0 := by simp [List.getD, h]
  rw [e, List.takeWhile_cons_of_neg (by rw [hb]; decide)]
  simp
theorem nearAt_go {t : List Nat} {j : Nat} (h : j < t.length) (hb : isBrk (t.getD j 0) = false) : nearAt t j = nearAt t (j + 1) := by
  unfold nearAt
  rw [List.drop_eq_getElem_cons h]
  have e : t[j] = t.getD j 0 := by simp [List.getD, h]
  rw [e, List.takeWhile_cons_of_pos (by rw [hb]; decide)]
  simp; omega

/-- the list near behind i turns of its loop -/
def nearK (t : List Nat) (i : Nat) : List Int := (List.range (t.length + 1)).map fun j => if t.length - i ≤ j then (nearAt t j : Int) else t.length

theorem nearK_length (t : List Nat) (i : Nat) : (nearK t i).length = t.length + 1 := by simp [nearK]
theorem nearK_zero (t : List Nat) : List.replicate (t.length + 1) (t.length : Int) = nearK t 0 := by
  unfold nearK
  refine List.ext_getElem (by simp) fun j h1 h2 => ?_
  simp only [List.getElem_replicate, List.getElem_map, List.getElem_range]
  split
  · rename_i h
    have hj : j = t.length := by simp at h1; omega
    subst hj
    rw [nearAt_end (Nat.le_refl _)]
  · rfl
theorem nearK_get (t : List Nat) (i j : Nat) (hj : j ≤ t.length) (hi : t.length - i ≤ j) : (nearK t i).getD j 0 = (nearAt t j : Int) := by
  have h : j < (nearK t i).length := by rw [nearK_length]; omega
  rw [List.getD_eq_getElem?_getD, List.getElem?_eq_getElem h]
  simp only [nearK, List.getElem_map, List.getElem_range, Option.getD_some]
  rw [if_pos hi]
theorem nearK_set (t : List Nat) (i : Nat) (h : i < t.length) : (nearK t i).set (t.length - 1 - i) (nearAt t (t.length - 1 - i) : Int) = nearK t (i + 1) := by
  refine List.ext_getElem (by simp [nearK]) fun j h1 h2 => ?_
  rw [List.getElem_set]
  simp only [nearK, List.getElem_map, List.getElem_range]
  split
  · rename_i e
    rw [if_pos (by omega), e]
  · by_cases h3 : t.length - i ≤ j
    · rw [if_pos h3, if_pos (by omega)]
    · rw [if_neg h3, if_neg (by omega)]
theorem nearK_all (t : List Nat) (j : Nat) (hj : j ≤ t.length) : (nearK t t.length).getD j 0 = (nearAt t j : Int) := nearK_get t _ j hj (by omega)

structure Fld where
  name : Option (List Nat)
  flags : List Nat
  width : List Nat
  prec : List Nat
  conv : Nat

abbrev Part := List Nat × Option Fld

def isFlag (c : Nat) : Bool := c == 35 || c == 48 || c == 43 || c == 32 || c == 45
def isDig (c : Nat) : Bool := 48 ≤ c && c ≤ 57
def isSize (c : Nat) : Bool := c == 104 || c == 108 || c == 76

/-- the reader's state -/
structure RS where
  stage : Int
  plain : List Nat
  name : Option (List Nat)
  flags : List Nat
  width : List Nat
  prec : List Nat
  parts : List Part

/-- the signs ahead of the first bracket -/
def ahead (q : List Nat) : Nat := (q.takeWhile (fun c => !(isBrk c))).length
/-- is the first bracket a closing one -/
def named (q : List Nat) : Bool := q[ahead q]? == some 41

/-- one sign of a placeholder, behind the name -/
def stepS (c : Nat) (σ : RS) (st : Int) : RS :=
  if st = 2 ∧ isFlag c then { σ with stage := st, flags := σ.flags ++ [c] }
  else if st = 2 ∧ c = 42 then { σ with stage := 4, width := [42] }
  else if st ≤ 3 ∧ isDig c then { σ with stage := 3, width := σ.width ++ [c] }
  else if st ≤ 4 ∧ c = 46 then { σ with stage := 5, prec := [46] }
  else if st = 5 ∧ c = 42 then { σ with stage := 7, prec := [46, 42] }
  else if (st = 5 ∨ st = 6) ∧ isDig c then { σ with stage := 6, prec := σ.prec ++ [c] }
  else if st < 8 ∧ isSize c then { σ with stage := 8 }
  else { σ with stage := 0, plain := [], parts := σ.parts ++ [(σ.plain, some ⟨σ.name, σ.flags, σ.width, σ.prec, c⟩)] }

def readS : List Nat → RS → Option (List Part)
  | [], σ => if σ.stage ≠ 0 then none else some (if σ.plain = [] then σ.parts else σ.parts ++ [(σ.plain, none)])
  | c :: q, σ =>
    if σ.stage = 0 then
      (if c = 37 then readS q { σ with stage := 1, name := none, flags := [], width := [], prec := [] } else readS q { σ with plain := σ.plain ++ [c] })
    else if σ.stage = 1 ∧ c = 40 ∧ named q = true then readS (q.drop (ahead q + 1)) { σ with stage := 2, name := some (q.take (ahead q)) }
    else readS q (stepS c σ (if σ.stage = 1 then 2 else σ.stage))
termination_by r => r.length
decreasing_by all_goals (simp only [List.length_cons, List.length_drop]; omega)

theorem readS_nil (σ : RS) : readS [] σ = if σ.stage ≠ 0 then none else some (if σ.plain = [] then σ.parts else σ.parts ++ [(σ.plain, none)]) := by rw [readS]
theorem readS_cons (c : Nat) (q : List Nat) (σ : RS) : readS (c :: q) σ =
    if σ.stage = 0 then
      (if c = 37 then readS q { σ with stage := 1, name := none, flags := [], width := [], prec := [] } else readS q { σ with plain := σ.plain ++ [c] })
    else if σ.stage = 1 ∧ c = 40 ∧ named q = true then readS (q.drop (ahead q + 1)) { σ with stage := 2, name := some (q.take (ahead q)) }
    else readS q (stepS c σ (if σ.stage = 1 then 2 else σ.stage)) := by rw [readS]

theorem nearAt_eq (t : List Nat) (j : Nat) : nearAt t j = j + ahead (t.drop j) := by
  unfold nearAt
  rfl
theorem ahead_le (q : List Nat) : ahead q ≤ q.length := by
  unfold ahead
  exact (List.takeWhile_sublist _).length_le
theorem nearAt_le (t : List Nat) (j : Nat) (h : j ≤ t.length) : j ≤ nearAt t j ∧ nearAt t j ≤ t.length := by
  have := ahead_le (t.drop j)
  rw [List.length_drop] at this
  rw [nearAt_eq]
  omega
theorem named_drop (t : List Nat) (j : Nat) : named (t.drop j) = true ↔ nearAt t j < t.length ∧ t.getD (nearAt t j) 0 = 41 := by
  unfold named
  rw [List.getElem?_drop, ← nearAt_eq, beq_iff_eq]
  constructor
  · intro h
    obtain ⟨h1, h2⟩ := List.getElem?_eq_some_iff.mp h
    exact ⟨h1, by rw [List.getD_eq_getElem?_getD, h]; rfl⟩
  · rintro ⟨h1, h2⟩
    rw [List.getElem?_eq_getElem h1]
    rw [List.getD_eq_getElem?_getD, List.getElem?_eq_getElem h1] at h2
    exact congrArg some h2
theorem drop_cons (t : List Nat) (i : Nat) (h : i < t.length) : t.drop i = t.getD i 0 :: t.drop (i + 1) := by
  rw [List.drop_eq_getElem_cons h]
  congr 1
  simp [List.getD, h]

theorem rd_pct {c : Nat} {q : List Nat} {σ : RS} (h0 : σ.stage = 0) (hc : c = 37) : readS (c :: q) σ = readS q ⟨1, σ.plain, none, [], [], [], σ.parts⟩ := by
  rw [readS_cons, if_pos h0, if_pos hc]
theorem rd_plain {c : Nat} {q : List Nat} {σ : RS} (h0 : σ.stage = 0) (hc : ¬ c = 37) : readS (c :: q) σ = readS q ⟨σ.stage, σ.plain ++ [c], σ.name, σ.flags, σ.width, σ.prec, σ.parts⟩ := by
  rw [readS_cons, if_pos h0, if_neg hc]
theorem rd_name {c : Nat} {t : List Nat} {i j : Nat} {σ : RS} (h1 : σ.stage = 1) (hc : c = 40) (hj : nearAt t (i + 1) = j) (hl : j < t.length) (hn : t[j]? = some 41) :
    readS (c :: t.drop (i + 1)) σ = readS (t.drop (j + 1)) ⟨2, σ.plain, some ((t.drop (i + 1)).take (j - (i + 1))), σ.flags, σ.width, σ.prec, σ.parts⟩ := by
  have hnm : named (t.drop (i + 1)) = true := by
    rw [named_drop, hj]
    exact ⟨hl, by rw [List.getD_eq_getElem?_getD, hn]; rfl⟩
  have ha : ahead (t.drop (i + 1)) = j - (i + 1) := by
    rw [nearAt_eq] at hj; omega
  have hb : i + 1 ≤ j := by rw [nearAt_eq] at hj; omega
  rw [readS_cons, if_neg (by rw [h1]; decide), if_pos ⟨h1, hc, hnm⟩, ha, List.drop_drop, show i + 1 + (j - (i + 1) + 1) = j + 1 by omega]
/-- the first bracket behind i is no closing one -/
theorem unnamed {c : Nat} {t : List Nat} {i : Nat} {σ : RS} (h : σ.stage ≠ 1 ∨ ¬ c = 40 ∨ ¬ (nearAt t (i + 1) < t.length) ∨ ∃ d, t[nearAt t (i + 1)]? = some d ∧ ¬ d = 41) : ¬ (σ.stage = 1 ∧ c = 40 ∧ named (t.drop (i + 1)) = true) := by
  rintro ⟨h1, h2, h3⟩
  rw [named_drop] at h3
  rcases h with h | h | h | ⟨d, hd, h⟩
  · exact h h1
  · exact h h2
  · exact h h3.1
  · have h4 := h3.2
    rw [List.getD_eq_getElem?_getD, hd] at h4
    exact h h4
theorem rd_go {c : Nat} {q : List Nat} {σ : RS} (st : Int) (σ' : RS) (h0 : σ.stage ≠ 0) (hn : ¬ (σ.stage = 1 ∧ c = 40 ∧ named q = true)) (hst : (if σ.stage = 1 then 2 else σ.stage) = st) (hs : stepS c σ st = σ') : readS (c :: q) σ = readS q σ' := by
  rw [readS_cons, if_neg h0, if_neg hn, hst, hs]

theorem dig_iff {c : Nat} : isDig c = true ↔ 48 ≤ c ∧ c ≤ 57 := by simp [isDig]
theorem size_iff {c : Nat} : isSize c = true ↔ c = 104 ∨ c = 108 ∨ c = 76 := by simp [isSize, or_assoc]
theorem flag_iff {c : Nat} : isFlag c = true ↔ c = 35 ∨ c = 48 ∨ c = 43 ∨ c = 32 ∨ c = 45 := by simp [isFlag, or_assoc]
theorem st_flag {c : Nat} {σ : RS} {st : Int} (h : st = 2) (hf : isFlag c = true) : stepS c σ st = ⟨st, σ.plain, σ.name, σ.flags ++ [c], σ.width, σ.prec, σ.parts⟩ := by
  unfold stepS
  rw [if_pos ⟨h, hf⟩]
theorem st_star {c : Nat} {σ : RS} {st : Int} (h : st = 2) (hc : c = 42) : stepS c σ st = ⟨4, σ.plain, σ.name, σ.flags, [42], σ.prec, σ.parts⟩ := by
  subst hc; unfold stepS
  rw [if_neg (by simp [isFlag]), if_pos ⟨h, rfl⟩]
theorem st_dig {c : Nat} {σ : RS} {st : Int} (h : st ≤ 3) (hf : st = 2 → isFlag c = false) (hd : isDig c = true) : stepS c σ st = ⟨3, σ.plain, σ.name, σ.flags, σ.width ++ [c], σ.prec, σ.parts⟩ := by
  have hc := dig_iff.mp hd
  unfold stepS
  rw [if_neg (by rintro ⟨h1, h2⟩; rw [hf h1] at h2; cases h2), if_neg (by omega), if_pos ⟨h, hd⟩]
theorem st_dot {c : Nat} {σ : RS} {st : Int} (h : st ≤ 4) (hc : c = 46) : stepS c σ st = ⟨5, σ.plain, σ.name, σ.flags, σ.width, [46], σ.parts⟩ := by
  subst hc; unfold stepS
  rw [if_neg (by simp [isFlag]), if_neg (by omega), if_neg (by simp [isDig]), if_pos ⟨h, rfl⟩]
theorem st_dotstar {c : Nat} {σ : RS} {st : Int} (h : st = 5) (hc : c = 42) : stepS c σ st = ⟨7, σ.plain, σ.name, σ.flags, σ.width, [46, 42], σ.parts⟩ := by
  subst hc; unfold stepS
  rw [if_neg (by omega), if_neg (by omega), if_neg (by omega), if_neg (by omega), if_pos ⟨h, rfl⟩]
theorem st_prec {c : Nat} {σ : RS} {st : Int} (h : st = 5 ∨ st = 6) (hd : isDig c = true) : stepS c σ st = ⟨6, σ.plain, σ.name, σ.flags, σ.width, σ.prec ++ [c], σ.parts⟩ := by
  have hc := dig_iff.mp hd
  unfold stepS
  rw [if_neg (by omega), if_neg (by omega), if_neg (by omega), if_neg (by omega), if_neg (by omega), if_pos ⟨h, hd⟩]
theorem st_size {c : Nat} {σ : RS} {st : Int} (h : st < 8) (hs : isSize c = true) : stepS c σ st = ⟨8, σ.plain, σ.name, σ.flags, σ.width, σ.prec, σ.parts⟩ := by
  have hc := size_iff.mp hs
  unfold stepS
  rw [if_neg (by rw [flag_iff]; omega), if_neg (by omega), if_neg (by rw [dig_iff]; omega), if_neg (by omega), if_neg (by omega), if_neg (by rw [dig_iff]; omega), if_pos ⟨h, hs⟩]
theorem st_conv {c : Nat} {σ : RS} {st : Int} (h1 : st = 2 → isFlag c = false) (h2 : st = 2 → ¬ c = 42) (h3 : st ≤ 3 → isDig c = false) (h4 : st ≤ 4 → ¬ c = 46) (h5 : st = 5 → ¬ c = 42) (h6 : st = 5 ∨ st = 6 → isDig c = false) (h7 : st < 8 → isSize c = false) :
    stepS c σ st = ⟨0, [], σ.name, σ.flags, σ.width, σ.prec, σ.parts ++ [(σ.plain, some ⟨σ.name, σ.flags, σ.width, σ.prec, c⟩)]⟩ := by
  unfold stepS
  rw [if_neg (by rintro ⟨a, b⟩; rw [h1 a] at b; cases b), if_neg (by rintro ⟨a, b⟩; exact h2 a b), if_neg (by rintro ⟨a, b⟩; rw [h3 a] at b; cases b), if_neg (by rintro ⟨a, b⟩; exact h4 a b),
    if_neg (by rintro ⟨a, b⟩; exact h5 a b), if_neg (by rintro ⟨a, b⟩; rw [h6 a] at b; cases b), if_neg (by rintro ⟨a, b⟩; rw [h7 a] at b; cases b)]

def start : RS := ⟨0, [], none, [], [], [], []⟩
end Mine

end
section
namespace Mine

def widthOf : List Nat → List Nat
  | [] => []
  | c :: q => if c = 42 then [42] else (c :: q).takeWhile isDig
def precOf : List Nat → List Nat
  | [] => []
  | c :: q => if c = 46 then (match q with
      | [] => [46]
      | d :: r => if d = 42 then [46, 42] else 46 :: (d :: r).takeWhile isDig) else []
def sizeOf : List Nat → Nat
  | [] => 0
  | c :: _ => if isSize c then 1 else 0

/-- the end of a placeholder: the conversion -/
def convS (q : List Nat) (σ : RS) : Option (List Part) :=
  match q with
  | [] => none
  | c :: r => readS r ⟨0, [], σ.name, σ.flags, σ.width, σ.prec, σ.parts ++ [(σ.plain, some ⟨σ.name, σ.flags, σ.width, σ.prec, c⟩)]⟩

/-- nothing of the stage is left to read -/
def Over (st : Int) (q : List Nat) : Prop := ∀ c r, q = c :: r → (st = 2 → isFlag c = false) ∧ (st = 2 → ¬ c = 42) ∧ (st ≤ 3 → isDig c = false) ∧ (st ≤ 4 → ¬ c = 46) ∧ (st = 5 → ¬ c = 42) ∧ (st = 5 ∨ st = 6 → isDig c = false)

theorem rd_size {q : List Nat} {σ : RS} (h2 : 2 ≤ σ.stage) (h8 : σ.stage < 8) (ho : Over σ.stage q) : readS q σ = convS (q.drop (sizeOf q)) σ := by
  have h0 : σ.stage ≠ 0 := by omega
  have hi : (if σ.stage = 1 then 2 else σ.stage) = σ.stage := if_neg (by omega)
  cases q with
  | nil => rw [readS_nil, if_pos h0]; rfl
  | cons c r =>
    have hn : ¬ (σ.stage = 1 ∧ c = 40 ∧ named r = true) := by omega
    obtain ⟨a1, a2, a3, a4, a5, a6⟩ := ho c r rfl
    cases hs : isSize c with
    | true =>
      rw [rd_go _ _ h0 hn hi (st_size h8 hs), sizeOf, if_pos hs]
      show _ = convS r σ
      cases r with
      | nil => rw [readS_nil, if_pos (by simp)]; rfl
      | cons d r =>
        rw [rd_go 8 _ (by simp) (by rintro ⟨h, _⟩; cases h) (by simp) (st_conv (by omega) (by omega) (by omega) (by omega) (by omega) (by omega) (by omega))]
        rfl
    | false =>
      rw [rd_go _ _ h0 hn hi (st_conv a1 a2 a3 a4 a5 a6 fun _ => hs), sizeOf, hs, if_neg Bool.false_ne_true]
      rfl

theorem behind_while {p : Nat → Bool} {q : List Nat} : ∀ {c r}, q.drop (q.takeWhile p).length = c :: r → p c = false := by
  induction q with
  | nil => intro c r e; cases e
  | cons d q ih =>
    intro c r e
    cases hp : p d with
    | true => rw [List.takeWhile_cons_of_pos hp] at e; exact ih e
    | false =>
      rw [List.takeWhile_cons_of_neg (by simp [hp])] at e
      cases e
      exact hp
theorem over_while {st : Int} {p : Nat → Bool} {q : List Nat} (h : ∀ c, p c = false → (st = 2 → isFlag c = false) ∧ (st = 2 → ¬ c = 42) ∧ (st ≤ 3 → isDig c = false) ∧ (st ≤ 4 → ¬ c = 46) ∧ (st = 5 → ¬ c = 42) ∧ (st = 5 ∨ st = 6 → isDig c = false)) :
    Over st (q.drop (q.takeWhile p).length) := by
  induction q with
  | nil => intro c r e; cases e
  | cons d q ih =>
    intro c r e
    cases hp : p d with
    | true => rw [List.takeWhile_cons_of_pos hp] at e; exact ih c r e
    | false =>
      rw [List.takeWhile_cons_of_neg (by simp [hp])] at e
      cases e
      exact h _ hp

theorem rd_prec {q : List Nat} : ∀ {σ : RS}, σ.stage = 6 → readS q σ = readS (q.drop (q.takeWhile isDig).length) ⟨6, σ.plain, σ.name, σ.flags, σ.width, σ.prec ++ q.takeWhile isDig, σ.parts⟩ := by
  induction q with
  | nil => rintro ⟨st, pl, nm, fl, wd, pr, ps⟩ h; simp at h; subst h; simp
  | cons c q ih =>
    rintro ⟨st, pl, nm, fl, wd, pr, ps⟩ h; simp at h; subst h
    cases hp : isDig c with
    | true =>
      rw [List.takeWhile_cons_of_pos hp, rd_go 6 _ (by simp) (by rintro ⟨h, _⟩; cases h) (by simp) (st_prec (.inr rfl) hp), ih rfl]
      simp
    | false => rw [List.takeWhile_cons_of_neg (by simp [hp])]; simp
theorem rd_width {q : List Nat} : ∀ {σ : RS}, σ.stage = 3 → readS q σ = readS (q.drop (q.takeWhile isDig).length) ⟨3, σ.plain, σ.name, σ.flags, σ.width ++ q.takeWhile isDig, σ.prec, σ.parts⟩ := by
  induction q with
  | nil => rintro ⟨st, pl, nm, fl, wd, pr, ps⟩ h; simp at h; subst h; simp
  | cons c q ih =>
    rintro ⟨st, pl, nm, fl, wd, pr, ps⟩ h; simp at h; subst h
    cases hp : isDig c with
    | true =>
      rw [List.takeWhile_cons_of_pos hp, rd_go 3 _ (by simp) (by rintro ⟨h, _⟩; cases h) (by simp) (st_dig (by decide) (by intro h; cases h) hp), ih rfl]
      simp
    | false => rw [List.takeWhile_cons_of_neg (by simp [hp])]; simp
theorem rd_flags {q : List Nat} : ∀ {σ : RS}, σ.stage = 2 → readS q σ = readS (q.drop (q.takeWhile isFlag).length) ⟨2, σ.plain, σ.name, σ.flags ++ q.takeWhile isFlag, σ.width, σ.prec, σ.parts⟩ := by
  induction q with
  | nil => rintro ⟨st, pl, nm, fl, wd, pr, ps⟩ h; simp at h; subst h; simp
  | cons c q ih =>
    rintro ⟨st, pl, nm, fl, wd, pr, ps⟩ h; simp at h; subst h
    cases hp : isFlag c with
    | true =>
      rw [List.takeWhile_cons_of_pos hp, rd_go 2 _ (by simp) (by rintro ⟨h, _⟩; cases h) (by simp) (st_flag rfl hp), ih rfl]
      simp
    | false => rw [List.takeWhile_cons_of_neg (by simp [hp])]; simp

theorem not_dig_dot : isDig 46 = false := by decide
theorem dig_not {c : Nat} (h : isDig c = true) : ¬ c = 42 ∧ ¬ c = 46 := by
  rw [dig_iff] at h; omega

/-- from the precision on -/
theorem rd_from_prec {q : List Nat} {σ : RS} (h2 : 2 ≤ σ.stage) (h4 : σ.stage ≤ 4) (hp : σ.prec = []) (ho : ∀ c r, q = c :: r → (σ.stage = 2 → isFlag c = false) ∧ (σ.stage = 2 → ¬ c = 42) ∧ (σ.stage ≤ 3 → isDig c = false)) :
    readS q σ = convS ((q.drop (precOf q).length).drop (sizeOf (q.drop (precOf q).length))) ⟨σ.stage, σ.plain, σ.name, σ.flags, σ.width, precOf q, σ.parts⟩ := by
  obtain ⟨st, pl, nm, fl, wd, pr, ps⟩ := σ
  simp only at h2 h4 hp ho
  subst hp
  have h0 : st ≠ 0 := by omega
  have hi : (if st = 1 then 2 else st) = st := if_neg (by omega)
  cases q with
  | nil => rw [rd_size h2 (by dsimp only; omega) (by intro c r e; cases e)]; rfl
  | cons c r =>
    obtain ⟨a1, a2, a3⟩ := ho c r rfl
    by_cases hc : c = 46
    · subst hc
      have hn : ¬ (st = 1 ∧ (46 : Nat) = 40 ∧ named r = true) := by omega
      rw [rd_go (σ := ⟨st, pl, nm, fl, wd, [], ps⟩) _ _ h0 hn hi (st_dot h4 rfl)]
      cases r with
      | nil => rw [rd_size (by simp) (by simp) (by intro c r e; cases e)]; rfl
      | cons d r =>
        by_cases hd : d = 42
        · subst hd
          rw [rd_go 5 _ (by simp) (by rintro ⟨h, _⟩; cases h) (by simp) (st_dotstar rfl rfl)]
          rw [rd_size (by simp) (by simp) (by intro c r e; dsimp only; omega)]
          simp [precOf, convS]
        · cases hdd : isDig d with
          | true =>
            rw [rd_go 5 _ (by simp) (by rintro ⟨h, _⟩; cases h) (by simp) (st_prec (.inl rfl) hdd), rd_prec rfl,
              rd_size (by simp) (by simp) (over_while (by intro c hc; dsimp only; exact ⟨by omega, by omega, by omega, by omega, by omega, fun _ => hc⟩))]
            have e : precOf (46 :: d :: r) = 46 :: d :: r.takeWhile isDig := by
              simp only [precOf, if_pos, if_neg hd]
              rw [List.takeWhile_cons_of_pos hdd]
            rw [e]
            simp [convS]
          | false =>
            rw [rd_size (by simp) (by simp) (by
              intro c r e; cases e; dsimp only
              exact ⟨by omega, by omega, by omega, by omega, fun _ => hd, fun _ => hdd⟩)]
            have e : precOf (46 :: d :: r) = [46] := by
              simp only [precOf, if_pos, if_neg hd]
              rw [List.takeWhile_cons_of_neg (by simp [hdd])]
            rw [e]
            simp [convS]
    · have e : precOf (c :: r) = [] := by simp only [precOf, if_neg hc]
      rw [e, rd_size h2 (by dsimp only; omega) (by
        intro c' r' e'; cases e'; dsimp only
        exact ⟨a1, a2, a3, fun _ => hc, by omega, by omega⟩)]
      rfl

theorem convS_congr {q : List Nat} {σ σ' : RS} (h1 : σ.name = σ'.name) (h2 : σ.flags = σ'.flags) (h3 : σ.width = σ'.width) (h4 : σ.prec = σ'.prec) (h5 : σ.parts = σ'.parts) (h6 : σ.plain = σ'.plain) : convS q σ = convS q σ' := by
  cases q with
  | nil => rfl
  | cons c r => simp only [convS, h1, h2, h3, h4, h5, h6]

/-- from the width on -/
theorem rd_from_width {q : List Nat} {σ : RS} (h2 : σ.stage = 2) (hw : σ.width = []) (hp : σ.prec = []) (ho : ∀ c r, q = c :: r → isFlag c = false) :
    readS q σ = convS (((q.drop (widthOf q).length).drop (precOf (q.drop (widthOf q).length)).length).drop (sizeOf ((q.drop (widthOf q).length).drop (precOf (q.drop (widthOf q).length)).length)))
      ⟨2, σ.plain, σ.name, σ.flags, widthOf q, precOf (q.drop (widthOf q).length), σ.parts⟩ := by
  obtain ⟨st, pl, nm, fl, wd, pr, ps⟩ := σ
  simp only at h2 hw hp ho
  subst h2 hw hp
  cases q with
  | nil => rw [rd_from_prec (by simp) (by simp) rfl (by intro c r e; cases e)]; exact convS_congr rfl rfl rfl rfl rfl rfl
  | cons c r =>
    by_cases hc : c = 42
    · subst hc
      have e : widthOf (42 :: r) = [42] := by simp [widthOf]
      rw [e, rd_go 2 _ (by simp) (by rintro ⟨h, _⟩; cases h) (by simp) (st_star rfl rfl), rd_from_prec (by simp) (by simp) rfl (by intro c r e; dsimp only; omega)]
      exact convS_congr rfl rfl rfl rfl rfl rfl
    · have e : widthOf (c :: r) = (c :: r).takeWhile isDig := by simp only [widthOf, if_neg hc]
      cases hd : isDig c with
      | true =>
        rw [List.takeWhile_cons_of_pos hd] at e
        rw [e, rd_go 2 _ (by simp) (by rintro ⟨h, _⟩; cases h) (by simp) (st_dig (by decide) (fun _ => ho c r rfl) hd), rd_width rfl, rd_from_prec (by simp) (by simp) rfl (by
          intro c' r' e'
          have := over_while (st := 6) (p := isDig) (q := r) (by intro c hc; exact ⟨by omega, by omega, by omega, by omega, by omega, fun _ => hc⟩) c' r' e'
          exact ⟨by dsimp only; omega, by dsimp only; omega, fun _ => this.2.2.2.2.2 (.inr rfl)⟩)]
        exact convS_congr rfl rfl (by simp) (by simp) rfl rfl
      | false =>
        rw [List.takeWhile_cons_of_neg (by simp [hd])] at e
        rw [e, rd_from_prec (by simp) (by simp) rfl (by
          intro c' r' e'; cases e'
          exact ⟨fun _ => ho _ _ rfl, fun _ => hc, fun _ => hd⟩)]
        exact convS_congr rfl rfl rfl rfl rfl rfl

/-- what a placeholder holds behind its name, and what is left -/
structure Cut where
  flags : List Nat
  width : List Nat
  prec : List Nat
  size : Nat
  rest : List Nat
def cutOf (q : List Nat) : Cut :=
  let fl := q.takeWhile isFlag
  let q1 := q.drop fl.length
  let wd := widthOf q1
  let q2 := q1.drop wd.length
  let pr := precOf q2
  let q3 := q2.drop pr.length
  ⟨fl, wd, pr, sizeOf q3, q3.drop (sizeOf q3)⟩

theorem rd_field {q : List Nat} {σ : RS} (h2 : σ.stage = 2) (hf : σ.flags = []) (hw : σ.width = []) (hp : σ.prec = []) :
    readS q σ = convS (cutOf q).rest ⟨2, σ.plain, σ.name, (cutOf q).flags, (cutOf q).width, (cutOf q).prec, σ.parts⟩ := by
  rw [rd_flags h2, hf, hw, hp, rd_from_width rfl rfl rfl (fun c r e => behind_while e)]
  exact convS_congr rfl rfl rfl rfl rfl rfl
end Mine

end
section
namespace Mine

theorem rd_first {q : List Nat} {σ : RS} (h1 : σ.stage = 1) (hn : ∀ r, q = 40 :: r → named r = false) : readS q σ = readS q ⟨2, σ.plain, σ.name, σ.flags, σ.width, σ.prec, σ.parts⟩ := by
  cases q with
  | nil => rw [readS_nil, readS_nil, if_pos (by omega), if_pos (by simp)]
  | cons c r =>
    have hx : ¬ (σ.stage = 1 ∧ c = 40 ∧ named r = true) := by
      rintro ⟨_, rfl, h⟩
      rw [hn r rfl] at h; cases h
    rw [rd_go 2 _ (by omega) hx (if_pos h1) rfl, rd_go (σ := ⟨2, σ.plain, σ.name, σ.flags, σ.width, σ.prec, σ.parts⟩) 2 _ (by simp) (by rintro ⟨h, _⟩; cases h) (by simp) rfl]
    rfl
theorem rd_named {r : List Nat} {σ : RS} (h1 : σ.stage = 1) (hn : named r = true) : readS (40 :: r) σ = readS (r.drop (ahead r + 1)) ⟨2, σ.plain, some (r.take (ahead r)), σ.flags, σ.width, σ.prec, σ.parts⟩ := by
  rw [readS_cons, if_neg (by omega), if_pos ⟨h1, rfl, hn⟩]

theorem rd_text {a : List Nat} : ∀ {r : List Nat} {σ : RS}, 37 ∉ a → σ.stage = 0 → readS (a ++ 37 :: r) σ = readS r ⟨1, σ.plain ++ a, none, [], [], [], σ.parts⟩ := by
  induction a with
  | nil => intro r σ _ h0; rw [List.nil_append, rd_pct h0 rfl, List.append_nil]
  | cons c a ih =>
    intro r σ hm h0
    have h1 := (by simpa [not_or] using hm : ¬ 37 = c ∧ 37 ∉ a)
    rw [List.cons_append, rd_plain h0 (Ne.symm h1.1), ih (σ := ⟨σ.stage, σ.plain ++ [c], σ.name, σ.flags, σ.width, σ.prec, σ.parts⟩) h1.2 h0]
    simp
theorem rd_last {a : List Nat} : ∀ {σ : RS}, 37 ∉ a → σ.stage = 0 → readS a σ = some (if σ.plain ++ a = [] then σ.parts else σ.parts ++ [(σ.plain ++ a, none)]) := by
  induction a with
  | nil => intro σ _ h0; rw [readS_nil, if_neg (by omega), List.append_nil]
  | cons c a ih =>
    intro σ hm h0
    have h1 := (by simpa [not_or] using hm : ¬ 37 = c ∧ 37 ∉ a)
    rw [rd_plain h0 (Ne.symm h1.1), ih (σ := ⟨σ.stage, σ.plain ++ [c], σ.name, σ.flags, σ.width, σ.prec, σ.parts⟩) h1.2 h0]
    simp

def wName : Option (List Nat) → List Nat
  | none => []
  | some n => 40 :: (n ++ [41])
def wField (f : Fld) : List Nat := 37 :: (wName f.name ++ (f.flags ++ (f.width ++ (f.prec ++ [104, f.conv]))))
def wPart (p : Part) : List Nat := p.1 ++ (match p.2 with | none => [] | some f => wField f)
def written : List Part → List Nat
  | [] => []
  | p :: ps => wPart p ++ written ps

structure FldOK (f : Fld) : Prop where
  name : ∀ n, f.name = some n → ∀ c ∈ n, isBrk c = false
  flags : ∀ c ∈ f.flags, isFlag c = true
  width : f.width = [] ∨ f.width = [42] ∨ ∃ d w, f.width = d :: w ∧ isFlag d = false ∧ ∀ c ∈ d :: w, isDig c = true
  prec : f.prec = [] ∨ f.prec = [46, 42] ∨ ∃ w, f.prec = 46 :: w ∧ ∀ c ∈ w, isDig c = true

inductive PartsOK : List Part → Prop
  | nil : PartsOK []
  | last {pl : List Nat} : pl ≠ [] → 37 ∉ pl → PartsOK [(pl, none)]
  | more {pl : List Nat} {f : Fld} {ps : List Part} : 37 ∉ pl → FldOK f → PartsOK ps → PartsOK ((pl, some f) :: ps)

theorem tw_app {p : Nat → Bool} {a b : List Nat} (ha : ∀ c ∈ a, p c = true) (hb : ∀ c r, b = c :: r → p c = false) : (a ++ b).takeWhile p = a := by
  induction a with
  | nil =>
    cases b with
    | nil => rfl
    | cons c r => rw [List.nil_append, List.takeWhile_cons_of_neg (by simp [hb c r rfl])]
  | cons c a ih => rw [List.cons_append, List.takeWhile_cons_of_pos (ha c (.head _)), ih fun d hd => ha d (.tail _ hd)]

theorem cutOf_written {fl wd pr z : List Nat} {k : Nat} (h : FldOK ⟨none, fl, wd, pr, k⟩) : cutOf (fl ++ (wd ++ (pr ++ (104 :: z)))) = ⟨fl, wd, pr, 1, z⟩ := by
  have hwd := h.width
  have hpr := h.prec
  have hfl := h.flags
  simp only at hwd hpr hfl
  have e3 : precOf (pr ++ (104 :: z)) = pr := by
    rcases hpr with rfl | rfl | ⟨w, rfl, hw⟩
    · rfl
    · simp [precOf]
    · cases w with
      | nil => simp [precOf, List.takeWhile_cons, isDig]
      | cons d w =>
        have hd := dig_not (hw d (.head _))
        have := tw_app (p := isDig) (a := d :: w) (b := 104 :: z) hw (by rintro c r e; cases e; decide)
        simp only [List.cons_append] at this ⊢
        simp only [precOf, if_pos, if_neg hd.1, this]
  have e2 : widthOf (wd ++ (pr ++ (104 :: z))) = wd := by
    rcases hwd with rfl | rfl | ⟨d, w, rfl, _, hw⟩
    · rcases hpr with rfl | rfl | ⟨w, rfl, hw⟩ <;> simp [widthOf, List.takeWhile_cons, isDig]
    · simp [widthOf]
    · have hd := dig_not (hw d (.head _))
      have := tw_app (p := isDig) (a := d :: w) (b := pr ++ (104 :: z)) hw (by
        rintro c r e
        rcases hpr with rfl | rfl | ⟨w, rfl, hw⟩ <;> (cases e; decide))
      simp only [List.cons_append] at this ⊢
      simp only [widthOf, if_neg hd.1, this]
  have e1 : (fl ++ (wd ++ (pr ++ (104 :: z)))).takeWhile isFlag = fl := tw_app hfl (by
    rintro c r e
    rcases hwd with rfl | rfl | ⟨d, w, rfl, hd, hw⟩
    · rcases hpr with rfl | rfl | ⟨w, rfl, hw⟩ <;> (cases e; decide)
    · cases e; decide
    · cases e; exact hd)
  simp only [cutOf, e1, List.drop_left, e2, e3]
  rfl

theorem not_open {fl wd pr z : List Nat} {k : Nat} (h : FldOK ⟨none, fl, wd, pr, k⟩) {r : List Nat} : fl ++ (wd ++ (pr ++ (104 :: z))) = 40 :: r → False := by
  intro e
  have hwd := h.width
  have hpr := h.prec
  have hfl := h.flags
  simp only at hwd hpr hfl
  cases fl with
  | cons c fl => cases e; have := hfl 40 (.head _); exact absurd this (by decide)
  | nil =>
    rcases hwd with rfl | rfl | ⟨d, w, rfl, hd, hw⟩
    · rcases hpr with rfl | rfl | ⟨w, rfl, hw⟩ <;> cases e
    · cases e
    · cases e; have := hw 40 (.head _); exact absurd this (by decide)

theorem ahead_app {n z : List Nat} (hn : ∀ c ∈ n, isBrk c = false) : ahead (n ++ 41 :: z) = n.length := by
  unfold ahead
  rw [tw_app (fun c hc => by simp [hn c hc]) (by rintro c r e; cases e; decide)]

/-- there and back -/
theorem back {ps : List Part} (h : PartsOK ps) : ∀ {σ : RS}, σ.stage = 0 → σ.plain = [] → readS (written ps) σ = some (σ.parts ++ ps) := by
  induction h with
  | nil => intro σ h0 hp; rw [written, rd_last (by simp) h0, hp]; simp
  | last h1 h2 => intro σ h0 hp; rw [written, written, wPart, List.append_nil, List.append_nil, rd_last h2 h0, hp]; simp [h1]
  | @more pl f ps h1 hf _ ih =>
    intro σ h0 hp
    have hf' : FldOK ⟨none, f.flags, f.width, f.prec, f.conv⟩ := ⟨(by intro n e; cases e), hf.flags, hf.width, hf.prec⟩
    have fin : ∀ nm, readS (f.flags ++ (f.width ++ (f.prec ++ (104 :: (f.conv :: written ps))))) ⟨2, pl, nm, [], [], [], σ.parts⟩ = some (σ.parts ++ ((pl, some ⟨nm, f.flags, f.width, f.prec, f.conv⟩) :: ps)) := by
      intro nm
      rw [rd_field rfl rfl rfl rfl, cutOf_written hf']
      simp only [convS]
      rw [ih rfl rfl]
      simp
    have e0 : written ((pl, some f) :: ps) = pl ++ 37 :: (wName f.name ++ (f.flags ++ (f.width ++ (f.prec ++ (104 :: (f.conv :: written ps)))))) := by
      simp [written, wPart, wField]
    rw [e0, rd_text h1 h0, hp, List.nil_append]
    obtain ⟨nm, fl, wd, pr, k⟩ := f
    cases nm with
    | none =>
      simp only [wName, List.nil_append] at fin ⊢
      rw [rd_first rfl (fun r e => (not_open hf' e).elim)]
      exact fin none
    | some n =>
      have hn := hf.name n rfl
      have ha : ahead (n ++ 41 :: (fl ++ (wd ++ (pr ++ (104 :: (k :: written ps)))))) = n.length := ahead_app hn
      have hm : named (n ++ 41 :: (fl ++ (wd ++ (pr ++ (104 :: (k :: written ps)))))) = true := by
        unfold named
        rw [ha]; simp
      have e1 : wName (some n) ++ (fl ++ (wd ++ (pr ++ (104 :: (k :: written ps))))) = 40 :: (n ++ 41 :: (fl ++ (wd ++ (pr ++ (104 :: (k :: written ps)))))) := by simp [wName]
      rw [e1, rd_named rfl hm, ha]
      have e2 : (n ++ 41 :: (fl ++ (wd ++ (pr ++ (104 :: (k :: written ps)))))).drop (n.length + 1) = fl ++ (wd ++ (pr ++ (104 :: (k :: written ps)))) := by
        rw [show n.length + 1 = n.length + 1 from rfl, ← List.drop_drop, List.drop_left]; rfl
      rw [e2, List.take_left]
      exact fin (some n)

theorem widthOf_pre (q : List Nat) : ∃ s, q = widthOf q ++ s := by
  cases q with
  | nil => exact ⟨[], rfl⟩
  | cons c q =>
    rw [widthOf]
    split
    · rename_i h; subst h; exact ⟨q, rfl⟩
    · exact ⟨_, (List.takeWhile_append_dropWhile (p := isDig) (l := c :: q)).symm⟩
theorem precOf_pre (q : List Nat) : ∃ s, q = precOf q ++ s := by
  cases q with
  | nil => exact ⟨[], rfl⟩
  | cons c q =>
    rw [precOf.eq_def]; dsimp only
    split
    · rename_i h; subst h
      cases q with
      | nil => exact ⟨[], rfl⟩
      | cons d r =>
        dsimp only
        split
        · rename_i h; subst h; exact ⟨r, rfl⟩
        · exact ⟨_, congrArg (46 :: ·) (List.takeWhile_append_dropWhile (p := isDig) (l := d :: r)).symm⟩
    · exact ⟨_, rfl⟩

theorem all_while {p : Nat → Bool} {q : List Nat} : ∀ c ∈ q.takeWhile p, p c = true := by
  intro c hc
  induction q with
  | nil => cases hc
  | cons d q ih =>
    cases hp : p d with
    | true =>
      rw [List.takeWhile_cons_of_pos hp] at hc
      rcases List.mem_cons.mp hc with rfl | hc
      · exact hp
      · exact ih hc
    | false => rw [List.takeWhile_cons_of_neg (by simp [hp])] at hc; cases hc

theorem pre_drop {q a s : List Nat} (h : q = a ++ s) : q.drop a.length = s := by
  subst h; exact List.drop_left

theorem digs {q : List Nat} {d : Nat} (hd : isDig d = true) : ∀ c ∈ d :: q.takeWhile isDig, isDig c = true := by
  intro c hc
  rcases List.mem_cons.mp hc with rfl | hc
  · exact hd
  · exact all_while c hc

theorem widthOf_ok {q : List Nat} (hq : ∀ c r, q = c :: r → isFlag c = false) : widthOf q = [] ∨ widthOf q = [42] ∨ ∃ d w, widthOf q = d :: w ∧ isFlag d = false ∧ ∀ c ∈ d :: w, isDig c = true := by
  cases q with
  | nil => exact .inl rfl
  | cons c q =>
    rw [widthOf]
    split
    · exact .inr (.inl rfl)
    · cases hd : isDig c with
      | true =>
        rw [List.takeWhile_cons_of_pos hd]
        exact .inr (.inr ⟨_, _, rfl, hq _ _ rfl, digs hd⟩)
      | false => rw [List.takeWhile_cons_of_neg (by simp [hd])]; exact .inl rfl
theorem precOf_ok (q : List Nat) : precOf q = [] ∨ precOf q = [46, 42] ∨ ∃ w, precOf q = 46 :: w ∧ ∀ c ∈ w, isDig c = true := by
  cases q with
  | nil => exact .inl rfl
  | cons c q =>
    rw [precOf.eq_def]; dsimp only
    split
    · cases q with
      | nil => exact .inr (.inr ⟨[], rfl, fun _ h => nomatch h⟩)
      | cons d r =>
        dsimp only
        split
        · exact .inr (.inl rfl)
        · exact .inr (.inr ⟨_, rfl, all_while⟩)
    · exact .inl rfl

theorem cutOf_ok (q : List Nat) : ∃ q3, q = (cutOf q).flags ++ ((cutOf q).width ++ ((cutOf q).prec ++ q3)) ∧ (cutOf q).rest = q3.drop (sizeOf q3) ∧ FldOK ⟨none, (cutOf q).flags, (cutOf q).width, (cutOf q).prec, 0⟩ := by
  have h0 := (List.takeWhile_append_dropWhile (p := isFlag) (l := q)).symm
  have e0 := pre_drop h0
  obtain ⟨s1, h1⟩ := widthOf_pre (q.dropWhile isFlag)
  have e1 := pre_drop h1
  obtain ⟨s2, h2⟩ := precOf_pre s1
  have e2 := pre_drop h2
  have hc : cutOf q = ⟨q.takeWhile isFlag, widthOf (q.dropWhile isFlag), precOf s1, sizeOf s2, s2.drop (sizeOf s2)⟩ := by
    simp only [cutOf, e0, e1, e2]
  rw [hc]
  refine ⟨s2, ?_, rfl, ⟨(by intro n e; cases e), all_while, widthOf_ok fun c r e => ?_, precOf_ok s1⟩⟩
  · dsimp only
    rw [← h2, ← h1]; exact h0
  · rw [← e0] at e; exact behind_while e

/-- all codes are below B -/
def Fits (B : Nat) (p : Part) : Prop := (∀ c ∈ p.1, c < B) ∧ ∀ f, p.2 = some f → (∀ n, f.name = some n → ∀ c ∈ n, c < B) ∧ (∀ c ∈ f.flags, c < B) ∧ (∀ c ∈ f.width, c < B) ∧ (∀ c ∈ f.prec, c < B) ∧ f.conv < B

theorem brk_ahead {r : List Nat} : ∀ c ∈ r.take (ahead r), isBrk c = false := by
  intro c hc
  have h0 := (List.takeWhile_append_dropWhile (p := fun c => !(isBrk c)) (l := r)).symm
  have e : r.take (ahead r) = r.takeWhile (fun c => !(isBrk c)) := by
    unfold ahead
    conv => lhs; arg 2; rw [h0]
    exact List.take_left
  rw [e] at hc
  have := all_while c hc
  simpa using this

theorem read_inv : ∀ (n : Nat) (q : List Nat) (σ : RS) (ps : List Part), q.length ≤ n → σ.stage = 0 → 37 ∉ σ.plain → readS q σ = some ps →
    ∃ rest, ps = σ.parts ++ rest ∧ PartsOK rest ∧ (written rest).length ≤ σ.plain.length + 2 * q.length ∧ ∀ B, (∀ c ∈ σ.plain ++ q, c < B) → ∀ p ∈ rest, Fits B p := by
  intro n
  induction n with
  | zero =>
    intro q σ ps hn h0 hp h
    obtain rfl : q = [] := List.length_eq_zero_iff.mp (by omega)
    rw [rd_last (by simp) h0, List.append_nil] at h
    obtain rfl := Option.some.inj h
    by_cases hx : σ.plain = []
    · rw [if_pos hx]
      exact ⟨[], by simp, .nil, by simp [written], fun _ _ _ h => nomatch h⟩
    · rw [if_neg hx]
      refine ⟨[(σ.plain, none)], rfl, .last hx hp, by simp [written, wPart], fun B hB p hm => ?_⟩
      obtain rfl := List.mem_singleton.mp hm
      exact ⟨fun c hc => hB c (List.mem_append_left _ hc), fun _ e => nomatch e⟩
  | succ n ih =>
    intro q σ ps hn h0 hp h
    by_cases hm : 37 ∈ q
    · obtain ⟨a, r, rfl, ha⟩ := List.eq_append_cons_of_mem hm
      rw [rd_text ha h0] at h
      have hpa : 37 ∉ σ.plain ++ a := by simp [hp, ha]
      -- the name
      have key : ∃ nm q', (∀ m, nm = some m → ∀ c ∈ m, isBrk c = false) ∧ (wName nm).length + q'.length = r.length ∧ (∀ m, nm = some m → ∀ c ∈ m, c ∈ r) ∧ (∀ c ∈ q', c ∈ r) ∧
          readS q' ⟨2, σ.plain ++ a, nm, [], [], [], σ.parts⟩ = some ps := by
        by_cases hnm : ∃ t, r = 40 :: t ∧ named t = true
        · obtain ⟨t, rfl, ht⟩ := hnm
          rw [rd_named rfl ht] at h
          have hlt : ahead t < t.length := by
            unfold named at ht
            rw [beq_iff_eq] at ht
            exact (List.getElem?_eq_some_iff.mp ht).1
          refine ⟨_, _, ?_, ?_, ?_, ?_, h⟩
          · intro m e; cases e; exact brk_ahead
          · simp [wName]; omega
          · intro m e; cases e; exact fun c hc => .tail _ (List.mem_of_mem_take hc)
          · exact fun c hc => .tail _ (List.mem_of_mem_drop hc)
        · rw [rd_first rfl (fun t e => by
            cases hn' : named t with
            | false => rfl
            | true => exact (hnm ⟨t, e, hn'⟩).elim)] at h
          exact ⟨none, r, (fun _ e => nomatch e), by simp [wName], (fun _ e => nomatch e), (fun _ h => h), h⟩
      obtain ⟨nm, q', k1, k2, k3, k4, h⟩ := key
      rw [rd_field rfl rfl rfl rfl] at h
      obtain ⟨q3, c1, c2, c3⟩ := cutOf_ok q'
      generalize (cutOf q').flags = fl at *
      generalize (cutOf q').width = wd at *
      generalize (cutOf q').prec = pr at *
      rw [c2] at h
      cases e : q3.drop (sizeOf q3) with
      | nil => rw [e] at h; cases h
      | cons c r' =>
        rw [e] at h
        simp only [convS] at h
        have hl3 : r'.length + 1 ≤ q3.length := by
          have := congrArg List.length e
          simp at this; omega
        have hm3 : ∀ d ∈ c :: r', d ∈ q3 := fun d hd => by rw [← e] at hd; exact List.mem_of_mem_drop hd
        subst c1
        simp only [List.length_append, List.length_cons] at hn k2
        obtain ⟨rest, rfl, r1, r2, r3⟩ := ih r' _ ps (by omega) rfl (by simp) h
        refine ⟨(σ.plain ++ a, some ⟨nm, fl, wd, pr, c⟩) :: rest, by simp, .more hpa ⟨k1, c3.flags, c3.width, c3.prec⟩ r1, ?_, ?_⟩
        · simp only [written, wPart, wField, List.length_append, List.length_cons, List.length_nil] at r2 ⊢
          omega
        · intro B hB
          have hq : ∀ d ∈ fl ++ (wd ++ (pr ++ q3)), d < B := fun d hd => hB d (List.mem_append_right _ (List.mem_append_right _ (.tail _ (k4 d hd))))
          simp only [List.mem_append] at hq
          intro p hp
          rcases List.mem_cons.mp hp with rfl | hp
          · refine ⟨fun d hd => hB d ?_, fun f hf => ?_⟩
            · rcases List.mem_append.mp hd with hd | hd
              · exact List.mem_append_left _ hd
              · exact List.mem_append_right _ (List.mem_append_left _ hd)
            · cases hf
              exact ⟨fun m hm d hd => hB d (List.mem_append_right _ (List.mem_append_right _ (.tail _ (k3 m hm d hd)))), fun d hd => hq d (.inl hd), fun d hd => hq d (.inr (.inl hd)), fun d hd => hq d (.inr (.inr (.inl hd))), hq c (.inr (.inr (.inr (hm3 c (.head _)))))⟩
          · exact r3 B (fun d hd => by
              rw [List.nil_append] at hd
              exact hq d (.inr (.inr (.inr (hm3 d (.tail _ hd)))))) p hp
    · rw [rd_last hm h0] at h
      obtain rfl := Option.some.inj h
      by_cases hx : σ.plain ++ q = []
      · rw [if_pos hx]
        exact ⟨[], by simp, .nil, by simp [written], fun _ _ _ h => nomatch h⟩
      · rw [if_neg hx]
        refine ⟨[(σ.plain ++ q, none)], rfl, .last hx (by simp [hp, hm]), by simp [written, wPart]; omega, fun B hB p hm => ?_⟩
        obtain rfl := List.mem_singleton.mp hm
        exact ⟨hB, fun _ e => nomatch e⟩

/-- the law of the reader: what it reads is well formed, not too long, and reads back -/
theorem reader_law {t : List Nat} {ps : List Part} (h : readS t start = some ps) :
    readS (written ps) start = some ps ∧ PartsOK ps ∧ (written ps).length ≤ 2 * t.length ∧ ∀ B, (∀ c ∈ t, c < B) → ∀ p ∈ ps, Fits B p := by
  obtain ⟨rest, e, h1, h2, h3⟩ := read_inv _ t start ps (Nat.le_refl _) rfl (by simp [start]) h
  have e' : ps = rest := by simpa [start] using e
  subst e'
  refine ⟨?_, h1, by simpa [start] using h2, fun B hB => h3 B (by simpa [start] using hB)⟩
  rw [back h1 rfl rfl]; simp [start]
end Mine

end
section
open PySem PySem.W PyProof.Rows PySem.Calls
namespace Mine

/-- the codes of a text -/
abbrev sg (t : Str) : List Nat := t.cps.toList

theorem len_sg (t : Str) : t.length = (sg t).length := by simp [Str.length, sg]

theorem charAt_nat (t : Str) (k : Nat) (h : k < t.length) : Txt.charAt t (k : Int) = some ((sg t).getD k 0) := by
  have h' : k < t.cps.size := h
  unfold Txt.charAt
  rw [StrLaws.seqIndex_nonneg (by omega) (by show (k : Int) < (t.length : Nat); omega)]
  simp [sg, h', Array.getElem?_eq_getElem, List.getD]

theorem item_nat (t : Str) (k : Nat) (h : k < t.length) : Txt.item t (k : Int) = ⟨#[(sg t).getD k 0]⟩ := by
  unfold Txt.item
  rw [charAt_nat t k h]
  rfl

theorem occ_one (g : Str) (c : Nat) : (Builtin.Str.occurrences g ⟨#[c]⟩ 0 g.length 1).isEmpty = !(decide (c ∈ sg g)) := by
  have h := StrLaws.found_one g c
  rw [← h, Bool.not_not]

/-- the place behind the run of signs from i on -/
def past (t g : List Nat) (i : Nat) : Nat := i + ((t.drop i).takeWhile (fun c => decide (c ∈ g))).length

theorem past_end {t g : List Nat} {k : Nat} (h : t.length ≤ k) : past t g k = k := by
  simp [past, List.drop_of_length_le h]
theorem past_stop {t g : List Nat} {k : Nat} (h : k < t.length) (hc : t.getD k 0 ∉ g) : past t g k = k := by
  unfold past
  rw [List.drop_eq_getElem_cons h]
  have e : t[k] = t.getD k 0 := by simp [List.getD, h]
  rw [e, List.takeWhile_cons_of_neg (by simpa using hc)]
  simp
theorem past_go {t g : List Nat} {k : Nat} (h : k < t.length) (hc : t.getD k 0 ∈ g) : past t g k = past t g (k + 1) := by
  unfold past
  rw [List.drop_eq_getElem_cons h]
  have e : t[k] = t.getD k 0 := by simp [List.getD, h]
  rw [e, List.takeWhile_cons_of_pos (by simpa using hc)]
  simp; omega

theorem fr_known {h₀ h : Heap} {L : Addr} {m : Str → Option Value} (F : Fr h₀ L h m) (ps : List (Str × Value)) (hp : ∀ p ∈ ps, m p.1 = some p.2) : Fr h₀ L h (kstB m ps) := by
  have e : kstB m ps = m := by
    funext z
    exact kstB_eq hp fun _ => rfl
  rw [e]; exact F
end Mine
namespace Mine
/-- a short text of plain signs -/
def Asc (n : Nat) (x : Str) : Prop := x.length ≤ n ∧ ∀ c ∈ sg x, c < 128
theorem Asc.app {n k : Nat} {x y : Str} (h : Asc n x) (h' : Asc k y) : Asc (n + k) (x ++ y) := by
  refine ⟨by rw [Str.length_append]; exact Nat.add_le_add h.1 h'.1, fun c hc => ?_⟩
  simp only [sg, Str.cps_append, Array.toList_append, List.mem_append] at hc
  exact hc.elim (h.2 c) (h'.2 c)
theorem Asc.mono {n k : Nat} {x : Str} (h : Asc n x) (hk : n ≤ k) : Asc k x := ⟨Nat.le_trans h.1 hk, h.2⟩
theorem Asc.item {n : Nat} {x : Str} (h : Asc n x) (i : Int) : Asc 1 (Txt.item x i) := by
  refine ⟨Nat.le_refl _, fun c hc => ?_⟩
  simp only [sg, Txt.item, List.mem_singleton] at hc
  subst hc
  cases e : Txt.charAt x i with
  | none => decide
  | some c =>
    refine h.2 c ?_
    unfold Txt.charAt at e
    obtain ⟨j, _, hj⟩ := Option.bind_eq_some_iff.mp e
    simp only [sg]
    exact Array.mem_toList_iff.mpr (Array.mem_of_getElem? hj)
end Mine

end
section
open PySem PySem.W PyProof.Rows PySem.Calls
namespace Mine

def retOf : Flow → Value
  | .ret v => v
  | _ => .none

/-- the end of a called def's body: its frame, the ledger of its own, what is wanted -/
def Ret0 (g : Heap) (L : Addr) (s : Shared) (G : Value → List (Addr × Obj) → Prop) (fl : Flow) (s' : Shared) : Prop :=
  ∃ h' tk m' tl, s' = { s with heap := h', toks := tk } ∧ Fr g L h' m' ∧ News g L h' tl ∧ G (retOf fl) tl

theorem ret0 {g : Heap} {L : Addr} {s : Shared} {G : Value → List (Addr × Obj) → Prop} {v : Value} {h' : Heap} {tk : Nat} {m' : Str → Option Value} {tl : List (Addr × Obj)}
    (F : Fr g L h' m') (N : News g L h' tl) (hG : G v tl) : Ret0 g L s G (.ret v) { s with heap := h', toks := tk } := ⟨h', tk, m', tl, rfl, F, N, hG⟩

section
variable {prog : Program} {w : World} {A₀ A : Around} {s : Shared} {base h₀ : Heap} {outer : List Env} {L : Addr} {m mg mb : Str → Option Value} {env : Env} {news : List (Addr × Obj)} {K : Frag} {p : Program} {loose : List Str} {mean : ExcName → Option Value}
  {name qual : Str} {params : Arguments} {body : List Stmt} {scope : Scope} {dV kV doc pm cdv ct oc : Value} {an od : Option Addr} {osl : Array (Option Value)} {f : Addr} {args : List Value} {binds : List (Str × Value)} {Q E : Value → Shared → Prop}

/-- a call of a def of the top: the callee's base is the whole heap at the call, its ledger starts empty -/
theorem enter0 (G : Value → List (Addr × Obj) → Prop) (B : Below A₀ base outer h₀) (F : Fr h₀ L s.heap m) (X₀ : K.In h₀) (N : News h₀ L s.heap news) (T : Top p loose mean mg mb h₀) (hA : A.frames = some (env :: outer)) (hf : env.frame = some L) (hke : env.scope.kind = .function)
    (ho : K.lookup f = some ⟨oc, od, .func (fnOf name qual params body scope dV kV doc pm an cdv ct), osl⟩) (hcd : codeIn K cdv qual = true) (hroom : A.depth < recursionLimit)
    (hbind : BindsTo s (fnOf name qual params body scope dV kV doc pm an cdv ct) ⟨args, []⟩ binds) (hloc : ∀ y ∈ binds, scope.names.lookup y.1 = some .local)
    (hret : ∀ v h' tk' tl, Fr h₀ L h' m → News h₀ L h' (tl ++ news) → G v tl → Q v { s with heap := h', toks := tk' })
    (h : ∀ L' h₁, Fr s.heap L' h₁ (fun y => binds.reverse.lookup y) → News s.heap L' h₁ [] → Below A base (env :: outer) s.heap → K.In s.heap → Top p loose mean mg mb s.heap →
      wpAny (model prog w) (A.deeper (envOf qual scope L' f cdv)) (execs body (envOf qual scope L' f cdv)) (Ret0 s.heap L' s G) (fun _ _ => False) { s with heap := h₁, toks := s.toks + binds.length })
    (hco : scope.isCoroutine = false) (hgen : scope.isGenerator = false) (hk : scope.kind = .function)
    (hcell : ∀ x ∈ scope.names, x.2 ≠ .cell) : wpAny (model prog w) A (call (.ref f) args []) Q E s := by
  have B₁ := pushX B F hf hke
  refine wpAny_call ?_
  refine codeAny_call_def (fd := fnOf name qual params body scope dV kV doc pm an cdv ct) (body := body) (binds := binds) hroom ((X₀.keeps F.keep) _ _ ho) rfl (T.nolimit.keeps F.keep)
    (codeRec_of (X₀.keeps F.keep) hcd) rfl hbind hcell hloc (fun h₁ hns hk₁ => ?_) hco hgen hk
  refine wpAny_mono (h s.heap.objs.size h₁ ⟨hns, hk₁, Nat.le_refl _⟩ (fun _ hp => nomatch hp) ⟨hA, B₁.stays, B₁.frames⟩ (X₀.keeps F.keep) (T.keeps F.keep)) (fun fl s' hl => ?_) fun _ _ hx => hx.elim
  obtain ⟨h', tk, m', tl, rfl, F', N', hG⟩ := hl
  have fin : Q (retOf fl) { s with heap := h', toks := tk } := by
    refine hret _ h' tk tl ⟨F.ns.keeps F'.keep, fun b o e => F'.keep b o (F.keep b o e), F.above⟩ (fun q hq => ?_) hG
    rcases List.mem_append.mp hq with hq | hq
    · refine ⟨(N' q hq).1, fun e => ?_, ?_⟩
      · have h1 := (N' q hq).2.2
        obtain ⟨o, _, _, hL, _⟩ := F.ns
        rw [e, hL] at h1; cases h1
      · cases e : h₀.get? q.1 with
        | none => rfl
        | some o => have h1 := (N' q hq).2.2; rw [F.keep _ _ e] at h1; cases h1
    · exact ⟨F'.keep _ _ (N q hq).1, (N q hq).2⟩
  cases fl <;> exact fin
end

/-- the end of a turn of a while: a lesser measure, the word holds again -/
def LoopEnd (h₀ : Heap) (L : Addr) (s : Shared) (J : Nat → (Str → Option Value) → List (Addr × Obj) → Prop) (n : Nat) (s₃ : Shared) : Prop :=
  ∃ h' tk m₂ news₂ n', s₃ = { s with heap := h', toks := tk } ∧ Fr h₀ L h' m₂ ∧ News h₀ L h' news₂ ∧ n' < n ∧ J n' m₂ news₂
def LoopPost (h₀ : Heap) (L : Addr) (s : Shared) (J : Nat → (Str → Option Value) → List (Addr × Obj) → Prop) (Q : Flow → Shared → Prop) (n : Nat) (f : Flow) (s₃ : Shared) : Prop :=
  match f with
  | .next | .cont => LoopEnd h₀ L s J n s₃
  | .brk => Q .next s₃
  | .ret v => Q (.ret v) s₃

theorem loop_end {h₀ : Heap} {L : Addr} {s : Shared} {J : Nat → (Str → Option Value) → List (Addr × Obj) → Prop} {n : Nat} {h' : Heap} {tk : Nat} {m₂ : Str → Option Value} {news₂ : List (Addr × Obj)} (n' : Nat)
    (F : Fr h₀ L h' m₂) (N : News h₀ L h' news₂) (hn : n' < n) (hJ : J n' m₂ news₂) : LoopEnd h₀ L s J n { s with heap := h', toks := tk } := ⟨h', tk, m₂, news₂, n', rfl, F, N, hn, hJ⟩

section
variable {prog : Program} {w : World} {A : Around} {E : Value → Shared → Prop} {Q : Flow → Shared → Prop} {s : Shared} {env : Env} {h₀ : Heap} {L : Addr}
theorem while_inv {test : Expr} {body : List Stmt} {pos : Pos} {m : Str → Option Value} {news : List (Addr × Obj)} (J : Nat → (Str → Option Value) → List (Addr × Obj) → Prop) (n₀ : Nat)
    (F : Fr h₀ L s.heap m) (N : News h₀ L s.heap news) (hJ : J n₀ m news)
    (turn : ∀ n m₁ news₁ h₁ tk₁, Fr h₀ L h₁ m₁ → News h₀ L h₁ news₁ → J n m₁ news₁ →
      wpAny (model prog w) A (isTrue test env (eval test env)) (fun b s₂ =>
        if b = true then wpAny (model prog w) A (execs body env) (LoopPost h₀ L s J Q n) E s₂ else Q .next s₂) E { s with heap := h₁, toks := tk₁ })
    (hE : PassesOwn (model prog w) A env E := by passes_own) :
    wpAny (model prog w) A (exec (.While test body [] pos) env) Q E s := by
  refine While_inv2 J F N hJ (fun n m₁ news₁ h₁ tk₁ F₁ N₁ J₁ => ?_) hE
  refine wpAny_mono (turn n m₁ news₁ h₁ tk₁ F₁ N₁ J₁) (fun b s₂ h₂ => ?_) fun _ _ x => x
  cases b with
  | false => exact h₂
  | true =>
    simp only [if_true] at h₂ ⊢
    exact wpAny_mono h₂ (fun f s₃ h₃ => by cases f <;> exact h₃) fun _ _ x => x
end
end Mine
namespace Mine
/-- a place where the walk is to stop -/
def Stuck (P : Prop) : Prop := P
theorem stuck {P : Prop} (h : Stuck P) : P := h
end Mine

end
section
open PySem PySem.W PyProof.Rows PySem.Calls
namespace Mine
/-- a text of one sign -/
abbrev one (c : Nat) : Str := ⟨#[c]⟩

theorem lit_pct : Str.ofString "%" = one 37 := by decide +kernel
theorem lit_open : Str.ofString "(" = one 40 := by decide +kernel
theorem lit_shut : Str.ofString ")" = one 41 := by decide +kernel
theorem lit_star : Str.ofString "*" = one 42 := by decide +kernel
theorem lit_dot : Str.ofString "." = one 46 := by decide +kernel
theorem sg_brk : sg (Str.ofString "()") = [40, 41] := by decide +kernel
theorem sg_flag : sg (Str.ofString "#0+ -") = [35, 48, 43, 32, 45] := by decide +kernel
theorem sg_dig : sg (Str.ofString "0123456789") = [48, 49, 50, 51, 52, 53, 54, 55, 56, 57] := by decide +kernel
theorem sg_size : sg (Str.ofString "hlL") = [104, 108, 76] := by decide +kernel

theorem mem_brk (c : Nat) : decide (c ∈ sg (Str.ofString "()")) = isBrk c := by
  rw [sg_brk, Bool.eq_iff_iff]
  simp [isBrk]
theorem mem_flag (c : Nat) : decide (c ∈ sg (Str.ofString "#0+ -")) = isFlag c := by
  rw [sg_flag, Bool.eq_iff_iff]
  simp [isFlag, or_assoc]
theorem mem_dig (c : Nat) : decide (c ∈ sg (Str.ofString "0123456789")) = isDig c := by
  rw [sg_dig, Bool.eq_iff_iff]
  simp [isDig]; omega
theorem mem_size (c : Nat) : decide (c ∈ sg (Str.ofString "hlL")) = isSize c := by
  rw [sg_size, Bool.eq_iff_iff]
  simp [isSize, or_assoc]

section
variable {prog : Program} {w : World} {A : Around} {E : Value → Shared → Prop} {s : Shared} {value slice : PySem.Expr} {x y : Str} {i : Int} {c d : Nat} {t u : Tok} {Q : Value → Shared → Prop}

theorem charAt_int (h0 : 0 ≤ i) (h1 : i < (x.length : Int)) : Txt.item x i = one ((sg x).getD i.toNat 0) ∧ (Txt.charAt x i).isSome = true := by
  obtain ⟨k, rfl⟩ := Int.eq_ofNat_of_zero_le h0
  have hk : k < x.length := by omega
  rw [item_nat x k hk, charAt_nat x k hk]
  simp

theorem sub_str (h0 : 0 ≤ i) (h1 : i < (x.length : Int)) (hx : x.length ≤ 1048576) (h : ∀ c t' k', (sg x)[i.toNat]? = some c → Q (.str (one c) t') { s with toks := k' })
    (hs : subscripted slice false (.str x t) (.int i u) = operate [.str x t, .int i u] (getItem (.str x t) (.int i u)) := by with_unfolding_all rfl) :
    wpAny (model prog w) A (subscriptTail value slice (.str x t) (.int i u)) Q E s := by
  have e := charAt_int h0 h1
  refine tail_any (typeIs_str s x t) F.slot_str_getitem.lookup (SB.getItem ?_ e.2 ?_) hs
  · unfold fitsSsize
    simp only [Bool.not_eq_true', Bool.or_eq_false_iff, decide_eq_false_iff_not]
    omega
  · rw [e.1]
    refine h _ _ _ ?_
    have hk : i.toNat < (sg x).length := by rw [← len_sg]; omega
    rw [List.getD_eq_getElem?_getD, List.getElem?_eq_getElem hk]
    rfl

theorem sub_nat {n : Nat} (h1 : n < x.length) (hx : x.length ≤ 1048576) (h : ∀ c t' k', (sg x)[n]? = some c → Q (.str (one c) t') { s with toks := k' })
    (hs : subscripted slice false (.str x t) (.int n u) = operate [.str x t, .int n u] (getItem (.str x t) (.int n u)) := by with_unfolding_all rfl) :
    wpAny (model prog w) A (subscriptTail value slice (.str x t) (.int (n : Int) u)) Q E s := sub_str (by omega) (by omega) hx (fun c t' k' hc => h c t' k' (by rwa [Int.toNat_natCast] at hc)) hs

theorem in_one (h : Q (.bool (decide (c ∈ sg x))) s) : wpAny (model prog w) A (compareOp .In (.str (one c) u) (.str x t)) Q E s := by
  refine in_str ?_
  rw [occ_one, Bool.not_not]
  exact h
theorem in_brk (h : Q (.bool (isBrk c)) s) : wpAny (model prog w) A (compareOp .In (.str (one c) u) (.str (Str.ofString "()") t)) Q E s := in_one (by rw [mem_brk]; exact h)
theorem in_flag (h : Q (.bool (isFlag c)) s) : wpAny (model prog w) A (compareOp .In (.str (one c) u) (.str (Str.ofString "#0+ -") t)) Q E s := in_one (by rw [mem_flag]; exact h)
theorem in_dig (h : Q (.bool (isDig c)) s) : wpAny (model prog w) A (compareOp .In (.str (one c) u) (.str (Str.ofString "0123456789") t)) Q E s := in_one (by rw [mem_dig]; exact h)
theorem in_size (h : Q (.bool (isSize c)) s) : wpAny (model prog w) A (compareOp .In (.str (one c) u) (.str (Str.ofString "hlL") t)) Q E s := in_one (by rw [mem_size]; exact h)

theorem eq_one (e : y = one d) (h : Q (.bool (decide (c = d))) s) : wpAny (model prog w) A (compareOp .Eq (.str (one c) t) (.str y u)) Q E s := by
  refine eq_str ?_
  have e2 : (one c == y) = decide (c = d) := by
    subst e
    rw [Bool.eq_iff_iff]
    simp
  rw [e2]; exact h
end

/-- the text of these codes -/
def mk (l : List Nat) : Str := ⟨l.toArray⟩
theorem sg_mk (l : List Nat) : sg (mk l) = l := by simp [sg, mk]
theorem mk_sg (x : Str) : mk (sg x) = x := by simp [sg, mk]
theorem len_mk (l : List Nat) : (mk l).length = l.length := by simp [Str.length, mk]
theorem mk_app (l r : List Nat) : mk l ++ mk r = mk (l ++ r) := Str.ext' (by rw [Str.cps_append]; simp [mk])
theorem mk_snoc (l : List Nat) (c : Nat) : mk l ++ one c = mk (l ++ [c]) := mk_app l [c]
theorem mk_one (c : Nat) : one c = mk [c] := rfl
theorem mk_nil : Str.ofString "" = mk [] := by decide +kernel
theorem mk_star : Str.ofString "*" = mk [42] := by decide +kernel
theorem mk_dot : Str.ofString "." = mk [46] := by decide +kernel
theorem mk_dotstar : Str.ofString ".*" = mk [46, 42] := by decide +kernel
theorem mk_inj {l r : List Nat} (h : mk l = mk r) : l = r := by
  have := congrArg sg h
  rwa [sg_mk, sg_mk] at this

open Builtin.Str in
theorem slice_nat (x : Str) (a b : Nat) : Txt.slice x (some (a : Int)) (some (b : Int)) = mk (((sg x).drop a).take (b - a)) := by
  have e : Txt.slice x (some (a : Int)) (some (b : Int)) = StrLaws.sliceText x (some (a : Int)) (some (b : Int)) := rfl
  have hc : StrLaws.sliceText x (some (a : Int)) (some (b : Int)) = StrLaws.sliceText x (some ((min a x.length : Nat) : Int)) (some ((min b x.length : Nat) : Int)) := by
    have h : strSliceIndices (some (a : Int)) (some (b : Int)) 1 x.length = strSliceIndices (some ((min a x.length : Nat) : Int)) (some ((min b x.length : Nat) : Int)) 1 x.length := by
      unfold strSliceIndices
      simp only []
      congr 1 <;> (repeat' split) <;> omega
    unfold StrLaws.sliceText
    rw [h]
  rw [e, hc]
  by_cases hab : min a x.length ≤ min b x.length
  · rw [StrLaws.sliceText_nat x hab (Nat.min_le_right _ _)]
    have hl : x.length = (sg x).length := len_sg x
    show mk (((sg x).drop (min a x.length)).take (min b x.length - min a x.length)) = _
    rcases Nat.le_total a x.length with ha | ha
    · rw [Nat.min_eq_left ha]
      rcases Nat.le_total b x.length with hb | hb
      · rw [Nat.min_eq_left hb]
      · rw [Nat.min_eq_right hb, List.take_of_length_le (by rw [List.length_drop, ← len_sg]; omega), List.take_of_length_le (by rw [List.length_drop, ← len_sg]; omega)]
    · rw [Nat.min_eq_right ha, List.drop_of_length_le (by omega), List.drop_of_length_le (by omega)]
      simp
  · have h1 : b < a := by omega
    have h0 : strSliceIndices (some ((min a x.length : Nat) : Int)) (some ((min b x.length : Nat) : Int)) 1 x.length = [] := by
      have h2 := min a x.length
      generalize ha' : min a x.length = a' at *
      generalize hb' : min b x.length = b' at *
      have ha2 : a' ≤ x.length := by omega
      have hb2 : b' ≤ x.length := by omega
      unfold strSliceIndices
      have e1 : max (0 : Int) (min (a' : Int) (x.length : Int)) = a' := by omega
      have e2 : max (0 : Int) (min (b' : Int) (x.length : Int)) = b' := by omega
      have n1 : ¬ ((a' : Int) < 0) := by omega
      have n2 : ¬ ((b' : Int) < 0) := by omega
      have n3 : ¬ ((a' : Int) < (b' : Int)) := by omega
      simp [n1, n2, e1, e2, sliceRange, n3]
    unfold StrLaws.sliceText
    rw [h0]
    have hx : 0 < x.length := by omega
    have hz : b - a = 0 := by omega
    rw [hz]
    simp [mk]
    omega
theorem slice_from (x : Str) (a : Nat) : Txt.slice x (some (a : Int)) none = mk ((sg x).drop a) := by
  have e : Txt.slice x (some (a : Int)) none = Txt.slice x (some (a : Int)) (some (x.length : Int)) := by
    show StrLaws.sliceText x (some (a : Int)) none = StrLaws.sliceText x (some (a : Int)) (some (x.length : Int))
    unfold StrLaws.sliceText
    rw [StrLaws.sliceIdx_none_hi]
  rw [e, slice_nat, List.take_of_length_le]
  rw [List.length_drop, len_sg]
  exact Nat.le_refl _

section
variable {prog : Program} {w : World} {A : Around} {E : Value → Shared → Prop} {s : Shared} {value slice : PySem.Expr} {x : Str} {i j : Int} {t ui uj : Tok} {h₀ : Heap} {L : Addr} {m : Str → Option Value} {news : List (Addr × Obj)} {Q : Value → Shared → Prop}
theorem cut_ss (h0 : 0 ≤ i) (h1 : 0 ≤ j) (hz : x.length ≤ sizeLine) (hF : Fr h₀ L s.heap m) (hN : News h₀ L s.heap news) (h : ∀ h' t' k, Fr h₀ L h' m → News h₀ L h' news → Q (.str (mk (((sg x).drop i.toNat).take (j.toNat - i.toNat))) t') { s with heap := h', toks := k })
    (hs : subscripted slice false (.str x t) (.ref s.heap.objs.size) = operate [.ref s.heap.objs.size, .str x t] (getItem (.str x t) (.ref s.heap.objs.size)) := by with_unfolding_all rfl)
    (ht : ∀ r, letTemporaryGo value (.str x t) r = pure () := by intro _; with_unfolding_all rfl) :
    wpAny (model prog w) A (subscriptTail value slice (.str x t) (.ref s.heap.objs.size)) Q E { s with heap := s.heap.push { cls := .type "slice", data := .fields #[.int i ui, .int j uj, .none] } } := by
  refine slice_strN_ss hF hN (fun h' t' k a b => ?_) hs ht hz
  have e : Txt.slice x (some i) (some j) = mk (((sg x).drop i.toNat).take (j.toNat - i.toNat)) := by
    obtain ⟨a, rfl⟩ := Int.eq_ofNat_of_zero_le h0
    obtain ⟨b, rfl⟩ := Int.eq_ofNat_of_zero_le h1
    exact slice_nat x a b
  rw [e]
  exact h h' t' k a b
theorem cut_sn (h0 : 0 ≤ i) (hz : x.length ≤ sizeLine) (hF : Fr h₀ L s.heap m) (hN : News h₀ L s.heap news) (h : ∀ h' t' k, Fr h₀ L h' m → News h₀ L h' news → Q (.str (mk ((sg x).drop i.toNat)) t') { s with heap := h', toks := k })
    (hs : subscripted slice false (.str x t) (.ref s.heap.objs.size) = operate [.ref s.heap.objs.size, .str x t] (getItem (.str x t) (.ref s.heap.objs.size)) := by with_unfolding_all rfl)
    (ht : ∀ r, letTemporaryGo value (.str x t) r = pure () := by intro _; with_unfolding_all rfl) :
    wpAny (model prog w) A (subscriptTail value slice (.str x t) (.ref s.heap.objs.size)) Q E { s with heap := s.heap.push { cls := .type "slice", data := .fields #[.int i ui, .none, .none] } } := by
  refine slice_strN_sn hF hN (fun h' t' k a b => ?_) hs ht hz
  have e : Txt.slice x (some i) none = mk ((sg x).drop i.toNat) := by
    obtain ⟨a, rfl⟩ := Int.eq_ofNat_of_zero_le h0
    exact slice_from x a
  rw [e]
  exact h h' t' k a b
end

/-- a text, or None where it is empty -/
def orD (l : List Nat) : Dat := if l = [] then .none else .str (mk l)
def optD : Option (List Nat) → Dat
  | none => .none
  | some l => .str (mk l)
def fldD (f : Fld) : Dat := .tuple [optD f.name, orD f.flags, orD f.width, orD f.prec, .str (mk [f.conv])]
def partD (p : Part) : Dat := .tuple [.str (mk p.1), match p.2 with | none => .none | some f => fldD f]

def OrPost (Q : Value → Shared → Prop) (v : Value) (s : Shared) : Prop :=
  ∃ x t, v = .str x t ∧ x.length ≤ 16777216 ∧ ∀ k u, DatIn [] u (orD (sg x)) → Q u { s with toks := k }
theorem or_post {Q : Value → Shared → Prop} {x : Str} {t : Tok} {s : Shared} (hx : x.length ≤ 16777216) (h : ∀ k u, DatIn [] u (orD (sg x)) → Q u { s with toks := k }) : OrPost Q (.str x t) s := ⟨x, t, rfl, hx, h⟩

section
variable {prog : Program} {w : World} {A : Around} {E : Value → Shared → Prop} {s : Shared} {env : Env} {e₁ : PySem.Expr} {pos p : Pos} {k : Nat} {Q : Value → Shared → Prop}
theorem or_none (h : wpAny (model prog w) A (eval e₁ env) (OrPost Q) E s) : wpAny (model prog w) A (eval (.BoolOp .Or [e₁, .Constant .none k p] pos) env) Q E s := by
  refine BoolOp_or (wpAny_mono h (fun v s₁ h₁ => ?_) fun _ _ x => x)
  obtain ⟨x, t, rfl, hx, hQ⟩ := h₁
  refine KXt.truthy (b := ((x.length : Int) != 0)) rfl hx fun k => ?_
  by_cases hz : x.length = 0
  · have hl : sg x = [] := List.eq_nil_of_length_eq_zero (by rw [← len_sg]; exact hz)
    have e : ((x.length : Int) != 0) = false := by simp [hz]
    rw [e]
    refine BoolOp_one (Constant_none (hQ k .none ?_))
    rw [hl]
    exact DatIn.none
  · have hl : sg x ≠ [] := fun q => hz (by rw [len_sg, q]; rfl)
    have e : ((x.length : Int) != 0) = true := by simp [hz]
    rw [e]
    refine hQ k _ ?_
    unfold orD
    rw [if_neg hl, mk_sg]
    exact DatIn.str x t
end

section
variable {prog : Program} {w : World} {A : Around} {E : Value → Shared → Prop} {s : Shared} {value slice : PySem.Expr} {h₀ : Heap} {L D : Addr} {news : List (Addr × Obj)} {vs : List Value} {n : Nat} {k : Int} {t u : Tok} {x : List Nat} {l : List Nat} {Q : Value → Shared → Prop}
theorem near_sub (N : News h₀ L s.heap news) (hm : (D, listOf vs.toArray n) ∈ news) (hi : IntsAre vs (nearK x x.length)) (h0 : 0 ≤ k) (h1 : k ≤ (x.length : Int)) (hfit : x.length ≤ 1048576) (h : ∀ t', k.toNat ≤ nearAt x k.toNat → nearAt x k.toNat ≤ x.length → Q (.int (nearAt x k.toNat : Nat) t') s)
    (hs : subscripted slice false (.ref D) (.int k u) = operate [.ref D, .int k u] (getItem (.ref D) (.int k u)) := by with_unfolding_all rfl) :
    wpAny (model prog w) A (subscriptTail value slice (.ref D) (.int k u)) Q E s := by
  have hk : k.toNat ≤ x.length := by omega
  have hb := nearAt_le x k.toNat hk
  refine ksa_sub N hm hi h0 (by rw [nearK_length]; omega) (by omega) (fun t' => ?_) hs
  rw [nearK_all x k.toNat hk]
  exact h t' hb.1 hb.2
theorem near_succ {j : Nat} (N : News h₀ L s.heap news) (hm : (D, listOf vs.toArray n) ∈ news) (hi : IntsAre vs (nearK x x.length)) (h1 : j < x.length) (hfit : x.length ≤ 1048576) (h : ∀ t', j + 1 ≤ nearAt x (j + 1) → nearAt x (j + 1) ≤ x.length → Q (.int (nearAt x (j + 1) : Nat) t') s)
    (hs : subscripted slice false (.ref D) (.int ((j : Int) + 1) u) = operate [.ref D, .int ((j : Int) + 1) u] (getItem (.ref D) (.int ((j : Int) + 1) u)) := by with_unfolding_all rfl) :
    wpAny (model prog w) A (subscriptTail value slice (.ref D) (.int ((j : Int) + 1) u)) Q E s := by
  have e : ((j : Int) + 1).toNat = j + 1 := by omega
  refine near_sub N hm hi (by omega) (by omega) hfit (fun t' => ?_) hs
  rw [e]
  exact h t'
theorem ne_nil (h : Q (.bool (decide (l ≠ []))) s) : wpAny (model prog w) A (compareOp .NotEq (.str (mk l) t) (.str (Str.ofString "") u)) Q E s := by
  refine ne_str ?_
  have e : (mk l != Str.ofString "") = decide (l ≠ []) := by
    rw [mk_nil, Bool.eq_iff_iff]
    simp only [bne_iff_ne, ne_eq, decide_eq_true_eq]
    exact not_congr ⟨mk_inj, fun e => by rw [e]⟩
  rw [e]; exact h
end

section
variable {prog : Program} {w : World} {A : Around} {E : Value → Shared → Prop} {s : Shared} {l r : List Nat} {c : Nat} {t u : Tok} {Q : Value → Shared → Prop}
theorem iadd_snoc (hz : l.length ≤ 1048576) (h : ∀ t' k, Q (.str (mk (l ++ [c])) t') { s with toks := k }) : wpAny (model prog w) A (inplaceOp .Add (.str (mk l) t) (.str (one c) u)) Q E s := by
  refine SB.iadd (fun t' k => ?_) ?_
  · rw [mk_snoc]; exact h t' k
  · rw [len_mk, sizeLine_eq]
    show l.length + 1 ≤ _
    omega
theorem iadd_mk (hz : l.length + r.length ≤ 1048576) (h : ∀ t' k, Q (.str (mk (l ++ r)) t') { s with toks := k }) : wpAny (model prog w) A (inplaceOp .Add (.str (mk l) t) (.str (mk r) u)) Q E s := by
  refine SB.iadd (fun t' k => ?_) ?_
  · rw [mk_app]; exact h t' k
  · rw [len_mk, len_mk, sizeLine_eq]
    omega
theorem add_mk (hz : l.length + r.length ≤ 1048576) (h : ∀ t' k, Q (.str (mk (l ++ r)) t') { s with toks := k }) : wpAny (model prog w) A (binaryOp .Add (.str (mk l) t) (.str (mk r) u)) Q E s := by
  refine SB.add (fun t' k => ?_) ?_
  · rw [mk_app]; exact h t' k
  · rw [len_mk, len_mk, sizeLine_eq]
    omega
end
end Mine

end
section
open PySem PySem.W PyProof.Rows PySem.Calls
namespace Mine
/-- the end of a turn of a for over a range -/
def RngEnd (h₀ : Heap) (L : Addr) (J : (Str → Option Value) → List (Addr × Obj) → Prop) (own : List (Addr × Obj)) (adr : List Addr) (s₁ s₂ : Shared) : Prop := InvEndN h₀ L J own adr s₁ s₂
def RngPost (h₀ : Heap) (L : Addr) (J : (Str → Option Value) → List (Addr × Obj) → Prop) (own : List (Addr × Obj)) (adr : List Addr) (s₁ : Shared) (Q : Flow → Shared → Prop) (f : Flow) (s₂ : Shared) : Prop :=
  match f with
  | .ret v => Q (.ret v) s₂
  | .brk => Q .next s₂
  | _ => RngEnd h₀ L J own adr s₁ s₂
theorem rng_end {h₀ : Heap} {L : Addr} {J : (Str → Option Value) → List (Addr × Obj) → Prop} {m' : Str → Option Value} {own news' nx : List (Addr × Obj)} {adr : List Addr} {s₁ : Shared} {h' : Heap} {tk : Nat} (F : Fr h₀ L h' m') (N : News h₀ L h' news')
    (hj : J m' nx) (ha : nx.map (·.1) = adr) (hn : ∀ p ∈ nx, p ∈ news') (ho : ∀ p ∈ own, p ∈ news') : RngEnd h₀ L J own adr s₁ { s₁ with heap := h', toks := tk } := ⟨h', tk, m', news', nx, rfl, F, N, hn, ho, ha, hj⟩
section
variable {prog : Program} {w : World} {A : Around} {E : Value → Shared → Prop} {s : Shared} {env : Env} {h₀ : Heap} {x : Str} {body : List Stmt} {Q : Flow → Shared → Prop}
/-- a loop down a range by ones -/
theorem range_down {r : Addr} {a₀ b₀ : Int} {t₀ u₀ v₀ : Tok} {m₀ : Str → Option Value} {news : List (Addr × Obj)} (n : Nat) (J : Nat → (Str → Option Value) → List (Addr × Obj) → Prop)
    (hh : A.handled = none) (hr : IsRange s.heap r a₀ b₀ (-1) t₀ u₀ v₀) (hsmall : Builtin.Range.small a₀ b₀ (-1) = true) (hn : Builtin.Range.rangeSize a₀ b₀ (-1) = (n : Int)) (F : Fr h₀ env.locals s.heap m₀) (N : News h₀ env.locals s.heap news) (hj : J 0 m₀ news)
    (turn : ∀ i t m₁ news₁ h tk own, i < n → news₁.map (·.1) = news.map (·.1) → OwnOff own (news.map (·.1)) → J i m₁ news₁ → Fr h₀ env.locals h (fun y => if y = x then some (.int (a₀ - i) t) else m₁ y) → News h₀ env.locals h (news₁ ++ own) →
      wpAny (model prog w) A (execs body env) (RngPost h₀ env.locals (J (i + 1)) own (news.map (·.1)) { s with heap := h, toks := tk } Q) E { s with heap := h, toks := tk })
    (done : ∀ m₁ news₁ h tk, J n m₁ news₁ → Fr h₀ env.locals h m₁ → News h₀ env.locals h news₁ → Q .next { s with heap := h, toks := tk }) :
    wpAny (model prog w) A (pyIter (.ref r)) (fun it s₂ => LoopAtV prog w A h₀ env x body Q E it s₂) E s := by
  refine wpAny_pyIter_range hr hsmall ?_
  have W : Walks prog w A s.heap.objs.size [s.heap.objs.size] [s.heap.objs.size] n (fun i v => i < n ∧ ∃ t, v = .int (a₀ + i * (-1)) t)
      (fun i h => IsRangeIter h s.heap.objs.size (a₀ + (i : Nat) * (-1)) ((n : Int) - (i : Nat)) (-1)) := (Walks.range hh _ a₀ (-1) n).bound
  refine loop_invN J W ?_ ?_ ?_ ?_ (by show IsRangeIter _ _ _ _ _; rw [hn]; simpa using Heap.get?_push_size _ rfl) (F.push _) (fun p hp => ⟨Heap.get?_push_of_some _ (N p hp).1, (N p hp).2⟩) hj ?_ ?_
  · intro hm
    exact absurd F.ns.lt ((List.mem_singleton.mp hm) ▸ Nat.lt_irrefl _)
  · intro b hb
    rw [List.mem_singleton.mp hb]
    exact next_is_new F
  · intro p hp hI
    exact absurd (Heap.lt_size (N p hp).1) ((List.mem_singleton.mp hI) ▸ Nat.lt_irrefl _)
  · intro p hp hI
    exact absurd (Heap.lt_size (N p hp).1) ((List.mem_singleton.mp hI) ▸ Nat.lt_irrefl _)
  · rintro i v m₁ nx h tk own hi ⟨_, t, rfl⟩ hadr hoff hJ F₁ N₁
    have e1 : a₀ + (i : Int) * (-1) = a₀ - (i : Int) := by omega
    rw [e1] at F₁
    exact wpAny_mono (turn i t m₁ nx h tk own hi hadr hoff hJ F₁ N₁) (fun f s₂ p => by cases f <;> exact p) fun _ _ x => x
  · exact done
end
end Mine

end
section
open PySem PySem.W PyProof.Rows PySem.Calls
namespace Mine
/-- what holds between the turns of the reader's loop -/
def RJ (t : Str) (tk : Tok) (ap D : Addr) (vs : List Value) (R : Option (List Part)) (n : Nat) (m : Str → Option Value) (nx : List (Addr × Obj)) : Prop :=
  ∃ (i : Nat) (σ : RS) (ws : List Value) (kk : Nat) (TS : List (Addr × Obj)),
    i ≤ t.length ∧ n = t.length - i ∧ readS ((sg t).drop i) σ = R ∧ nx = (ap, listOf ws.toArray kk) :: (D, listOf vs.toArray 0) :: TS ∧ DatAll TS ws (σ.parts.map partD) ∧ (∀ p ∈ TS, p.2.cls = .type "tuple") ∧
    (ws.length ≤ i ∧ σ.plain.length ≤ i + 2 ∧ σ.flags.length ≤ i + 2 ∧ σ.width.length ≤ i + 2 ∧ σ.prec.length ≤ i + 2) ∧
    m "text" = some (.str t tk) ∧ m "near" = some (.ref D) ∧ m "parts" = some (.ref ap) ∧ (∃ a, m "i" = some (.int i a)) ∧ (∃ a, m "stage" = some (.int σ.stage a)) ∧ (∃ a, m "plain" = some (.str (mk σ.plain) a)) ∧
    (∃ a, m "flags" = some (.str (mk σ.flags) a)) ∧ (∃ a, m "width" = some (.str (mk σ.width) a)) ∧ (∃ a, m "precision" = some (.str (mk σ.prec) a)) ∧ ∃ v, m "name" = some v ∧ DatIn [] v (optD σ.name)

section
variable {t : Str} {tk : Tok} {ap D : Addr} {vs ws : List Value} {R : Option (List Part)} {m : Str → Option Value} {kk : Nat} {TS TS' : List (Addr × Obj)}
theorem RJ.keep (i : Nat) (σ : RS) (hi : i ≤ t.length) (hrd : readS ((sg t).drop i) σ = R) (hD : DatAll TS ws (σ.parts.map partD)) (hcl : ∀ p ∈ TS, p.2.cls = .type "tuple") (b0 : ws.length ≤ i) (b1 : σ.plain.length ≤ i + 2) (b2 : σ.flags.length ≤ i + 2) (b3 : σ.width.length ≤ i + 2) (b4 : σ.prec.length ≤ i + 2)
    (e1 : m "text" = some (.str t tk)) (e2 : m "near" = some (.ref D)) (e3 : m "parts" = some (.ref ap)) (e4 : ∃ a, m "i" = some (.int i a)) (e5 : ∃ a, m "stage" = some (.int σ.stage a)) (e6 : ∃ a, m "plain" = some (.str (mk σ.plain) a)) (e7 : ∃ a, m "flags" = some (.str (mk σ.flags) a)) (e8 : ∃ a, m "width" = some (.str (mk σ.width) a)) (e9 : ∃ a, m "precision" = some (.str (mk σ.prec) a))
    (e10 : ∃ v, m "name" = some v ∧ DatIn [] v (optD σ.name)) : RJ t tk ap D vs R (t.length - i) m ((ap, listOf ws.toArray kk) :: (D, listOf vs.toArray 0) :: TS) :=
  ⟨i, σ, ws, kk, TS, hi, rfl, hrd, rfl, hD, hcl, ⟨b0, b1, b2, b3, b4⟩, e1, e2, e3, e4, e5, e6, e7, e8, e9, e10⟩

theorem name_dat {t : Str} {i j : Nat} {a : Tok} : DatIn [] (.str (Txt.slice t (some ((i : Int) + 1)) (some (j : Int))) a) (optD (some (((sg t).drop (i + 1)).take (j - (i + 1))))) := by
  have e : Txt.slice t (some ((i : Int) + 1)) (some (j : Int)) = mk (((sg t).drop (i + 1)).take (j - (i + 1))) := slice_nat t (i + 1) j
  rw [e]
  exact .str _ _
/-- a part's tuples, on the ledger -/
theorem part_in {d₁ d₂ : Addr} {plain : List Nat} {σ : RS} {c : Nat} {n₁ n₂ : Nat} {nv v1 v2 v3 : Value} {tp tc : Tok} {TS : List (Addr × Obj)}
    (h0 : DatIn [] nv (optD σ.name)) (h1 : DatIn [] v1 (orD (sg (mk σ.flags)))) (h2 : DatIn [] v2 (orD (sg (mk σ.width)))) (h3 : DatIn [] v3 (orD (sg (mk σ.prec)))) :
    DatIn ((d₁, ({ cls := .type "tuple", data := .seq #[.str (mk plain) tp, .ref d₂] n₁ } : Obj)) :: (d₂, { cls := .type "tuple", data := .seq #[nv, v1, v2, v3, .str (one c) tc] n₂ }) :: TS) (.ref d₁) (partD (plain, some ⟨σ.name, σ.flags, σ.width, σ.prec, c⟩)) := by
  rw [sg_mk] at h1 h2 h3
  have up : ∀ {v : Value} {d : Dat} {l : List (Addr × Obj)}, DatIn [] v d → DatIn l v d := fun h => DatIn.mono (fun _ hp => absurd hp (List.not_mem_nil)) h
  refine DatIn.tuple (vs := [.str (mk plain) tp, .ref d₂]) (n := n₁) (List.mem_cons_self ..) (.cons (.str _ _) (.cons ?_ .nil))
  refine DatIn.tuple (vs := [nv, v1, v2, v3, .str (one c) tc]) (n := n₂) (List.mem_cons_of_mem _ (List.mem_cons_self ..)) ?_
  exact .cons (up h0) (.cons (up h1) (.cons (up h2) (.cons (up h3) (.cons (.str _ _) .nil))))
theorem plain_in {d : Addr} {plain : List Nat} {n : Nat} {tp : Tok} {TS : List (Addr × Obj)} :
    DatIn ((d, ({ cls := .type "tuple", data := .seq #[.str (mk plain) tp, .none] n } : Obj)) :: TS) (.ref d) (partD (plain, none)) :=
  DatIn.tuple (vs := [.str (mk plain) tp, .none]) (n := n) (List.mem_cons_self ..) (.cons (.str _ _) (.cons .none .nil))
end

theorem mem_swap {α : Type} {a b c d : α} {l : List α} : ∀ p ∈ c :: d :: a :: b :: l, p ∈ a :: b :: c :: d :: l := by
  intro p hp
  simp only [List.mem_cons] at hp ⊢
  rcases hp with h | h | h | h | h
  · exact .inr (.inr (.inl h))
  · exact .inr (.inr (.inr (.inl h)))
  · exact .inl h
  · exact .inr (.inl h)
  · exact .inr (.inr (.inr (.inr h)))

section
variable {t : Str} {tk : Tok} {ap D : Addr} {vs ws : List Value} {R : Option (List Part)} {m : Str → Option Value} {kk : Nat} {TS : List (Addr × Obj)} {h₀ h' : Heap} {L d₁ d₂ : Addr} {s : Shared} {tk' : Nat} {σ : RS} {i c n₁ n₂ : Nat} {nv v1 v2 v3 : Value} {tp tc : Tok}
theorem end_conv (F : Fr h₀ L h' m)
    (N : News h₀ L h' ((d₁, ({ cls := .type "tuple", data := .seq #[.str (mk σ.plain) tp, .ref d₂] n₁ } : Obj)) :: (d₂, { cls := .type "tuple", data := .seq #[nv, v1, v2, v3, .str (one c) tc] n₂ }) :: (ap, listOf (ws.toArray.push (.ref d₁)) (kk + 1)) :: (D, listOf vs.toArray 0) :: TS))
    (hr : readS (c :: (sg t).drop (i + 1)) σ = R) (st : Int) (h0 : σ.stage ≠ 0) (hn : ¬ (σ.stage = 1 ∧ c = 40 ∧ named ((sg t).drop (i + 1)) = true)) (hst : (if σ.stage = 1 then 2 else σ.stage) = st)
    (h1 : st = 2 → isFlag c = false) (h2 : st = 2 → ¬ c = 42) (h3 : st ≤ 3 → isDig c = false) (h4 : st ≤ 4 → ¬ c = 46) (h5 : st = 5 → ¬ c = 42) (h6 : st = 5 ∨ st = 6 → isDig c = false) (h7 : st < 8 → isSize c = false)
    (hi : i < t.length) (hD : DatAll TS ws (σ.parts.map partD)) (hcl : ∀ p ∈ TS, p.2.cls = .type "tuple") (hnm : DatIn [] nv (optD σ.name)) (q1 : DatIn [] v1 (orD (sg (mk σ.flags)))) (q2 : DatIn [] v2 (orD (sg (mk σ.width)))) (q3 : DatIn [] v3 (orD (sg (mk σ.prec))))
    (b0 : ws.length ≤ i) (b2 : σ.flags.length ≤ i + 2) (b3 : σ.width.length ≤ i + 2) (b4 : σ.prec.length ≤ i + 2)
    (e1 : m "text" = some (.str t tk)) (e2 : m "near" = some (.ref D)) (e3 : m "parts" = some (.ref ap)) (e4 : ∃ a, m "i" = some (.int ((i : Int) + 1) a)) (e5 : ∃ a, m "stage" = some (.int 0 a)) (e6 : ∃ a, m "plain" = some (.str (Str.ofString "") a)) (e7 : ∃ a, m "flags" = some (.str (mk σ.flags) a)) (e8 : ∃ a, m "width" = some (.str (mk σ.width) a)) (e9 : ∃ a, m "precision" = some (.str (mk σ.prec) a))
    (e10 : m "name" = some nv) : LoopEnd h₀ L s (RJ t tk ap D vs R) (t.length - i) { s with heap := h', toks := tk' } := by
  have hrd := (rd_go st _ h0 hn hst (st_conv h1 h2 h3 h4 h5 h6 h7)).symm.trans hr
  rw [List.push_toArray] at N
  rw [mk_nil] at e6
  refine loop_end (t.length - (i + 1)) F (kst_newsOf N mem_swap) (by omega) (RJ.keep (i + 1) _ (by omega) hrd ?_ ?_ ?_ (Nat.zero_le _) (by dsimp only; omega) (by dsimp only; omega) (by dsimp only; omega) e1 e2 e3 e4 e5 e6 e7 e8 e9 ⟨_, e10, hnm⟩)
  · rw [List.map_append]
    exact DatAll.append (DatAll.mono (fun p hp => List.mem_cons_of_mem _ (List.mem_cons_of_mem _ hp)) hD) (.one (part_in hnm q1 q2 q3))
  · intro p hp
    simp only [List.mem_cons] at hp
    rcases hp with rfl | rfl | hp
    · rfl
    · rfl
    · exact hcl p hp
  · simp only [List.length_append, List.length_cons, List.length_nil]; omega
end

/-- what the reader hands back -/
def ReadG (R : Option (List Part)) (v : Value) (tl : List (Addr × Obj)) : Prop :=
  match R with
  | none => v = .none
  | some ps => DatIn tl v (.tuple (ps.map partD))
section
variable {t : Str} {R : Option (List Part)} {σ : RS} {i : Nat} {TS tl : List (Addr × Obj)} {ws : List Value} {D₀ d : Addr} {n n₁ : Nat} {tp : Tok} {its : List Value}
theorem end_none (hrd : readS ((sg t).drop i) σ = R) (hi : ¬ (i : Int) < t.length) (hs : σ.stage ≠ 0) : ReadG R .none tl := by
  have e : (sg t).drop i = [] := List.drop_of_length_le (by rw [← len_sg]; omega)
  rw [e, readS_nil, if_pos hs] at hrd
  subst hrd
  rfl
theorem end_tuple (hrd : readS ((sg t).drop i) σ = R) (hi : ¬ (i : Int) < t.length) (hs : σ.stage = 0) (hp : σ.plain = []) (hD : DatAll TS ws (σ.parts.map partD)) (hm : (D₀, ({ cls := .type "tuple", data := .seq its.toArray n } : Obj)) ∈ tl) (e : its = ws) (ht : ∀ p ∈ TS, p ∈ tl) : ReadG R (.ref D₀) tl := by
  have e0 : (sg t).drop i = [] := List.drop_of_length_le (by rw [← len_sg]; omega)
  rw [e0, readS_nil, if_neg (by simp [hs]), if_pos hp] at hrd
  subst hrd
  subst e
  exact DatIn.tuple hm (DatAll.mono ht hD)
theorem end_tuple2 (hrd : readS ((sg t).drop i) σ = R) (hi : ¬ (i : Int) < t.length) (hs : σ.stage = 0) (hp : σ.plain ≠ []) (hD : DatAll TS ws (σ.parts.map partD)) (hm : (D₀, ({ cls := .type "tuple", data := .seq its.toArray n } : Obj)) ∈ tl) (e : its = ws ++ [.ref d]) (hd : (d, ({ cls := .type "tuple", data := .seq #[.str (mk σ.plain) tp, .none] n₁ } : Obj)) ∈ tl) (ht : ∀ p ∈ TS, p ∈ tl) : ReadG R (.ref D₀) tl := by
  have e0 : (sg t).drop i = [] := List.drop_of_length_le (by rw [← len_sg]; omega)
  rw [e0, readS_nil, if_neg (by simp [hs]), if_neg hp] at hrd
  subst hrd
  subst e
  refine DatIn.tuple hm ?_
  rw [List.map_append]
  exact DatAll.append (DatAll.mono ht hD) (.one (DatIn.tuple (vs := [.str (mk σ.plain) tp, .none]) hd (.cons (.str _ _) (.cons .none .nil))))
end
end Mine

end
section
open PySem PySem.W PyProof.Rows
namespace Mine
set_option maxRecDepth 100000 in
set_option maxHeartbeats 8000000 in
open_top hd for PySem.Challenge.rw_bl0022_01
end Mine

end
section
open PySem PySem.W PyProof.Rows PySem.Calls
namespace Mine
local macro_rules | `(tactic| walk_at "LoopPost") => `(tactic| (dsimp only [LoopPost]))
section
variable {w : World} {loose : List Str} {mean : ExcName → Option Value} {mg mb : Str → Option Value}
    {dp un : Nat} {gd : Option (List Code)} {cn : Str} {cs : Scope} {a : Addr} {ccd : Value} {cl : List (Str × Addr)} {outer : List Env} {A₀ : Around} {base h₀ : Heap} {L : Addr} {m : Str → Option Value} {news : List (Addr × Obj)} {s : Shared} {Q E : Value → Shared → Prop}

set_option maxRecDepth 100000 in
set_option maxHeartbeats 8000000 in
theorem past_call
    (B : Below A₀ base outer h₀) (F : Fr h₀ L s.heap m) (X : (hd.heap_39 w.params).In h₀) (N : News h₀ L s.heap news) (T : Top topProg loose mean mg mb h₀) (hcs : cs.kind = .function)
    (hd : dp + 1 < recursionLimit) (hu : un + 8 < cLine)
    (t g : Str) (tk gk ik : Tok) (i : Nat) (hi : i ≤ t.length) (ht : t.length ≤ 1000)
    (hret : ∀ v h' tk', Fr h₀ L h' m → News h₀ L h' news → Q (.int (past (sg t) (sg g) i : Nat) v) { s with heap := h', toks := tk' }) :
    wpAny (model PySem.Challenge.rw_bl0022_01.row.prog w) (ktrTop dp un gd cn cs L a ccd cl outer) (call (.ref 21) [.str t tk, .int i ik, .str g gk]) Q E s := by
  w_on
  w_strict (
    revert X
    k_fill
    intro X
    refine wpAny_call ?_
    k_dflt cell_enter
    rename_i g' L' h' FG' F' N' B' X' T'
    refine wpAny_execs_cons ?_
    refine while_inv (fun n m₁ nx => nx = news ∧ ∃ k : Nat, k ≤ t.length ∧ n = t.length - k ∧ past (sg t) (sg g) k = past (sg t) (sg g) i ∧ (∃ kt, m₁ "i" = some (.int k kt)) ∧ m₁ "s" = some (.str t tk) ∧ m₁ "signs" = some (.str g gk)) (t.length - i) F' N' ⟨rfl, i, hi, rfl, rfl, ⟨ik, rfl⟩, rfl, rfl⟩ ?_
    rintro n m₁ nx h1 tk1 F1 N1 ⟨rfl, k, hk, rfl, hpk, ⟨kt, e1⟩, e2, e3⟩
    have F1' := fr_known F1 [("s", .str t tk), ("signs", .str g gk), ("i", .int k kt)] (by intro p hp; simp only [List.mem_cons, List.not_mem_nil, or_false] at hp; rcases hp with rfl | rfl | rfl <;> assumption)
    clear F F' N N' F1 e1 e2 e3
    k_steps
    · rename (Builtin.Str.occurrences _ _ _ _ _).isEmpty = true => hoc
      rename (k : Int) < (t.length : Int) => hlt
      have hlt' : k < t.length := by omega
      rw [item_nat t k hlt', occ_one] at hoc
      have e : past (sg t) (sg g) i = k := by
        rw [← hpk]; exact past_stop (by rw [← len_sg]; exact hlt') (by simpa using hoc)
      rw [← e]
      exact hret _ _ _ (by assumption) (by assumption)
    · rename (Builtin.Str.occurrences _ _ _ _ _).isEmpty = false => hoc
      rename (k : Int) < (t.length : Int) => hlt
      have hlt' : k < t.length := by omega
      rw [item_nat t k hlt', occ_one] at hoc
      have e : past (sg t) (sg g) (k + 1) = past (sg t) (sg g) i := by
        rw [← hpk]; exact (past_go (by rw [← len_sg]; exact hlt') (by simpa using hoc)).symm
      rename Fr _ _ _ _ => F9
      rename News _ _ _ _ => N9
      exact loop_end _ F9 N9 (by omega) ⟨rfl, k + 1, by omega, rfl, e, ⟨_, rfl⟩, rfl, rfl⟩
    · have hk' : t.length ≤ k := by omega
      have e : past (sg t) (sg g) i = k := by
        rw [← hpk]; exact past_end (by rw [← len_sg]; exact hk')
      rw [← e]
      exact hret _ _ _ (by assumption) (by assumption))
end
end Mine

end
section
open PySem PySem.W PyProof.Rows PySem.Calls
namespace Mine
local macro_rules | `(tactic| walk_at "my enter") => `(tactic| (refine' enter0 _ ?k1 ?k2 ?k3 ?k4 ?k5 ?kA ?kF ?kK ?k6 ?k7 ?k8 ?k9 ?kB ?kR ?_ ?c2 ?c3 ?c4 ?c5; (case kR => assumption); (case kA => exact rfl); (case kF => exact rfl); (case kK => assumption); (case k1 => k_asm); (case k2 => k_asm); (case k3 => k_asm); (case k4 => k_asm); (case k5 => k_asm); (case k6 => k_is); (case k7 => k_is); (case k8 => ktr_room); (case k9 => exact BindsTo.of_eq rfl); (case c5 => decide); (case kB => exact locs rfl); (case c2 => exact rfl); (case c3 => exact rfl); (case c4 => exact rfl)))

section
variable {prog : Program} {w : World} {A : Around} {E : Value → Shared → Prop} {s : Shared} {value slice : PySem.Expr} {l : Addr} {vs : List Value} {i : Int} {t u : Tok} {Q : Value → Shared → Prop}
theorem pick_tup {h₀ : Heap} {L : Addr} {news : List (Addr × Obj)} {nn : Nat} (n : Nat) (N : News h₀ L s.heap news) (hm : (l, ({ cls := .type "tuple", data := .seq vs.toArray nn } : Obj)) ∈ news) (hw : ∀ v ∈ vs, ∃ x t, v = .str x t ∧ Asc n x) (h0 : 0 ≤ i) (h1 : i < (vs.length : Int)) (hfit : vs.length ≤ 8) (h : ∀ x t', x.length ≤ n → Asc n x → Q (.str x t') s)
    (hs : subscripted slice false (.ref l) (.int i u) = operate [.ref l, .int i u] (getItem (.ref l) (.int i u)) := by with_unfolding_all rfl) :
    wpAny (model prog w) A (subscriptTail value slice (.ref l) (.int i u)) Q E s := by
  have ht : IsTup s.heap l vs.toArray := ⟨_, (N _ hm).1, rfl, _, rfl⟩
  have hlt : i.toNat < vs.length := by omega
  obtain ⟨x, t', hx, hA⟩ := hw vs[i.toNat] (List.getElem_mem hlt)
  have hn : i < ((vs.toArray.size : Nat) : Int) := by rw [List.size_toArray]; exact h1
  exact tail_any ht.typeIs slot_tuple_getitem.lookup (getItem_tuple ht (by omega) (by omega) (seqIndex_of h0 hn) (x := .str x t') (by simp [hx, hlt]) (h x t' hA.1 hA)) hs
end
theorem fmod_lo' (a : Int) : 0 ≤ Int.fmod a 4 := fmod_lo a (by decide)
theorem fmod_hi' (a : Int) : Int.fmod a 4 < 4 := fmod_hi a (by decide)
local macro_rules | `(tactic| walk_at "subscriptTail") => `(tactic| (k_here; (with_reducible show wpAny _ _ (subscriptTail _ _ (Value.ref _) (Value.int _ _)) _ _ _); k_dflt (refine' pick_tup 5 ?p0 ?p1 ?p2 ?p3 ?p4 ?p5 ?_; (case p0 => k_asm); (case p1 => k_mem); (case p2 => (simp only [List.forall_mem_cons]; refine ⟨⟨_, _, rfl, by decide +kernel, by decide +kernel⟩, ⟨_, _, rfl, by decide +kernel, by decide +kernel⟩, ⟨_, _, rfl, by decide +kernel, by decide +kernel⟩, ⟨_, _, rfl, by decide +kernel, by decide +kernel⟩, fun _ hp => nomatch hp⟩)); (case p3 => exact fmod_lo' _); (case p4 => exact fmod_hi' _); (case p5 => (simp only [List.length_cons, List.length_nil]; decide))); intro x9 t9 l9 a9; (try dsimp only)))

/-- what is said of a chunk -/
def Small (n : Nat) (v : Value) : Prop := ∃ x t, v = .str x t ∧ Asc n x

section
variable {w : World} {loose : List Str} {mean : ExcName → Option Value} {mg mb : Str → Option Value}
    {dp un : Nat} {gd : Option (List Code)} {cn : Str} {cs : Scope} {a : Addr} {ccd : Value} {cl : List (Str × Addr)} {outer : List Env} {A₀ : Around} {base h₀ : Heap} {L : Addr} {m : Str → Option Value} {news : List (Addr × Obj)} {s : Shared} {Q E : Value → Shared → Prop}

set_option maxRecDepth 100000 in
set_option maxHeartbeats 4000000 in
theorem chunk_call
    (B : Below A₀ base outer h₀) (F : Fr h₀ L s.heap m) (X : (hd.heap_39 w.params).In h₀) (N : News h₀ L s.heap news) (T : Top topProg loose mean mg mb h₀) (hcs : cs.kind = .function)
    (hd : dp + 1 < recursionLimit) (hu : un + 8 < cLine) (k : Int) (kt : Tok)
    (hret : ∀ v h' tk' tl, Fr h₀ L h' m → News h₀ L h' (tl ++ news) → (fun v _ => Small 27 v) v tl → Q v { s with heap := h', toks := tk' }) :
    wpAny (model PySem.Challenge.rw_bl0022_01.row.prog w) (ktrTop dp un gd cn cs L a ccd cl outer) (call (.ref 35) [.int k kt]) Q E s := by
  w_on
  w_strict (
    revert X
    k_fill
    intro X
    k_dflt (walk_at "my enter")
    intro L' h1 F1 N1 B1 X1 T1
    clear hret F N B X T
    k_steps
    · refine ret0 (by assumption) (by assumption) ⟨_, _, rfl, ?_⟩
      exact (Asc.item (n := 27) ⟨by decide +kernel, by decide +kernel⟩ _).mono (by decide)
    · refine ret0 (by assumption) (by assumption) ⟨_, _, rfl, ?_⟩
      refine Asc.app (n := 26) (k := 1) (Asc.app (n := 21) (k := 5) (Asc.app (n := 16) (k := 5) (Asc.app (n := 11) (k := 5) (Asc.app (n := 6) (k := 5) (Asc.app (n := 1) (k := 5) ?_ (by assumption)) (by assumption)) (by assumption)) (by assumption)) (by assumption)) ?_
      · exact ⟨by decide +kernel, by decide +kernel⟩
      · exact Asc.item (n := 27) ⟨by decide +kernel, by decide +kernel⟩ _)
end
end Mine

end
section
open PySem PySem.W PyProof.Rows PySem.Calls
namespace Mine
local macro_rules | `(tactic| walk_at "my enter") => `(tactic| (refine' enter0 _ ?k1 ?k2 ?k3 ?k4 ?k5 ?kA ?kF ?kK ?k6 ?k7 ?k8 ?k9 ?kB ?kR ?_ ?c2 ?c3 ?c4 ?c5; (case kR => assumption); (case kA => exact rfl); (case kF => exact rfl); (case kK => assumption); (case k1 => k_asm); (case k2 => k_asm); (case k3 => k_asm); (case k4 => k_asm); (case k5 => k_asm); (case k6 => k_is); (case k7 => k_is); (case k8 => ktr_room); (case k9 => exact BindsTo.of_eq rfl); (case c5 => decide); (case kB => exact locs rfl); (case c2 => exact rfl); (case c3 => exact rfl); (case c4 => exact rfl)))
local macro_rules | `(tactic| walk_at "LoopPost") => `(tactic| (dsimp only [LoopPost]))
local macro_rules | `(tactic| walk_at "RngPost") => `(tactic| (dsimp only [RngPost]))
local macro_rules | `(tactic| walk_at "execs cons") => `(tactic| ((try dsimp only); refine wpAny_execs_cons ?_))
local macro_rules | `(tactic| walk_at "my sub") => `(tactic| (k_here; (with_reducible show wpAny _ _ (subscriptTail _ _ (Value.str _ _) (Value.int _ _)) _ _ _); first | ((with_reducible refine' sub_nat ?p2 ?p3 ?_); (case p2 => omega); (case p3 => omega); intro _ _ _ _; (try dsimp only)) | (k_dflt (refine' sub_str ?p1 ?p2 ?p3 ?_; (case p1 => omega); (case p2 => omega); (case p3 => omega)); intro _ _ _ _; (try dsimp only))))
local macro_rules | `(tactic| walk_at "subscriptTail Name Name str int") => `(tactic| walk_at "my sub")
local macro_rules | `(tactic| walk_at "subscriptTail Name Subscript str int") => `(tactic| walk_at "my sub")
local macro_rules | `(tactic| walk_at "my near") => `(tactic| (k_here; (with_reducible show wpAny _ _ (subscriptTail _ _ (Value.ref _) (Value.int _ _)) _ _ _); (with_reducible refine' near_succ ?p0 ?pm ?pi ?p2 ?p3 ?_); k_dflt ((case p0 => k_asm); (case pm => k_mem); (case pi => assumption); (case p2 => omega); (case p3 => omega)); intro _ _ _; (try dsimp only)))
local macro_rules | `(tactic| walk_at "subscriptTail Name Name ref int") => `(tactic| walk_at "my near")
local macro_rules | `(tactic| walk_at "compareOp In str str") => `(tactic| (k_here; first | refine in_brk ?_ | refine in_flag ?_ | refine in_dig ?_ | refine in_size ?_))
local macro_rules | `(tactic| walk_at "compareOp Eq str str") => `(tactic| (k_here; first | refine eq_one lit_pct ?_ | refine eq_one lit_open ?_ | refine eq_one lit_shut ?_ | refine eq_one lit_star ?_ | refine eq_one lit_dot ?_))
local macro_rules | `(tactic| walk_at "compareOp NotEq str str") => `(tactic| (k_here; refine ne_nil ?_))
local macro_rules | `(tactic| walk_at "my cut") => `(tactic| (k_here; first
  | ((with_reducible show wpAny _ _ (subscriptTail _ (Expr.Slice (some _) (some _) none _) _ _) _ _ _); (refine cut_ss (s := ⟨_, _, _, _, _⟩) ?c0 ?c1 ?cz ?cF ?cN ?_); (case c0 => omega); (case c1 => omega); (case cz => (rw [sizeLine_eq]; omega)); (case cF => k_asm); (case cN => k_asm); intro _ _ _ _ _; (try dsimp only))
  | ((with_reducible show wpAny _ _ (subscriptTail _ (Expr.Slice (some _) none none _) _ _) _ _ _); (refine cut_sn (s := ⟨_, _, _, _, _⟩) ?c0 ?cz ?cF ?cN ?_); (case c0 => omega); (case cz => (rw [sizeLine_eq]; omega)); (case cF => k_asm); (case cN => k_asm); intro _ _ _ _ _; (try dsimp only))))
local macro_rules | `(tactic| walk_at "eval BoolOp") => `(tactic| (k_here; refine or_none ?_))
local macro_rules | `(tactic| walk_at "OrPost") => `(tactic| (refine or_post ?hl ?_; (case hl => ((try simp only [len_mk]); omega)); intro _ _ _; (try dsimp only)))
local macro_rules | `(tactic| k_all) => `(tactic| assumption)
local macro_rules | `(tactic| walk_at "pyIter ref") => `(tactic| (refine stuck ?_))
local macro_rules | `(tactic| walk_at "exec While Compare cons nil") => `(tactic| (refine stuck ?_))
local macro_rules | `(tactic| walk_at "inplaceOp Add str str") => `(tactic| (k_here; refine iadd_snoc ?hz ?_; (case hz => omega); intro _ _; (try dsimp only)))
local macro_rules | `(tactic| walk_at "call type:tuple") => `(tactic| ((with_reducible show wpAny _ _ (call (Value.type _) [Value.ref _]) _ _ _); k_dflt (refine' kde_tupleOf ?m1 ?m2 ?m3 ?m4 rfl ?_; (case m1 => k_asm); (case m2 => k_asm); (case m3 => exact News.isList (by k_asm) (by k_mem)); (case m4 => (simp only [List.size_toArray, Array.size_push]; omega))); intro _ _ _ _ _))
local macro_rules | `(tactic| walk_at "call builtin:list.append") => `(tactic| (k_here; (with_reducible show wpAny _ _ (call (Value.builtin _) _) _ _ _); k_dflt (refine' append_K ?a1 ?a2 ?a3 ?_ ?az; (case a1 => k_asm); (case a2 => k_asm); (case a3 => k_upd); (case az => (rw [sizeLine_eq]; simp only [List.size_toArray]; omega))); intro _ _ _; (try dsimp only)))
section
variable {w : World} {loose : List Str} {mean : ExcName → Option Value} {mg mb : Str → Option Value}
    {dp un : Nat} {gd : Option (List Code)} {cn : Str} {cs : Scope} {a : Addr} {ccd : Value} {cl : List (Str × Addr)} {outer : List Env} {A₀ : Around} {base h₀ : Heap} {L : Addr} {m : Str → Option Value} {news : List (Addr × Obj)} {s : Shared} {Q E : Value → Shared → Prop}

set_option maxRecDepth 100000 in
set_option maxHeartbeats 100000000 in
set_option rowWalk.seconds 0 in
theorem read_call
    (B : Below A₀ base outer h₀) (F : Fr h₀ L s.heap m) (X : (hd.heap_39 w.params).In h₀) (N : News h₀ L s.heap news) (T : Top topProg loose mean mg mb h₀) (hcs : cs.kind = .function)
    (hd : dp + 1 < recursionLimit) (hu : un + 8 < cLine) (t : Str) (tk : Tok) (ht : t.length ≤ 1000)
    (hret : ∀ v h' tk' tl, Fr h₀ L h' m → News h₀ L h' (tl ++ news) → (fun v tl => ReadG (readS (sg t) start) v tl) v tl → Q v { s with heap := h', toks := tk' }) :
    wpAny (model PySem.Challenge.rw_bl0022_01.row.prog w) (ktrTop dp un gd cn cs L a ccd cl outer) (call (.ref 42) [.str t tk]) Q E s := by
  w_on
  w_strict (
    revert X
    k_fill
    intro X
    k_dflt (walk_at "my enter")
    intro L' h1 F1 N1 B1 X1 T1
    clear hret F N B X T
    obtain ⟨u, F2⟩ : ∃ u, Fr s.heap L' h1 (kstB u [("text", .str t tk)]) := ⟨_, fr_known F1 _ (by intro p hp; simp only [List.mem_cons, List.not_mem_nil, or_false] at hp; subst hp; rfl)⟩
    clear F1
    generalize htk : s.toks + _ = tk1
    clear htk
    k_steps
    unfold Stuck
    dsimp only at *
    rename IsRange _ _ _ _ _ _ _ _ => hR
    rename Fr _ _ _ _ => F3
    rename News _ _ _ _ => N3
    rename IntsAre _ _ => hI
    rename_i lz _ _ D _ _ _ _ _ _ lzD _ _ _ _ _ _ _ _ _
    have eN : (List.replicate ((t.length : Int) + 1).toNat [(t.length : Int)]).flatten = nearK (sg t) 0 := by
      rw [List.flatten_replicate_singleton, ← nearK_zero, ← len_sg, show ((t.length : Int) + 1).toNat = t.length + 1 by omega]
    rw [eN] at hI
    clear eN
    rename ((t.length : Int) + 1 < 0 → _) => hx1
    rename (0 ≤ (t.length : Int) + 1 → _) => hx2
    rename (List.flatten _).length = _ => hx3
    rename (List.flatten _).toArray.size = _ => hx4
    clear hx1 hx2 hx3 hx4
    refine range_down t.length (fun i m nx => ∃ vs, nx = [(D, listOf vs.toArray 0), (lz, _)] ∧ IntsAre vs (nearK (sg t) i) ∧ m "near" = some (.ref D) ∧ m "text" = some (.str t tk)) rfl hR (small_down (by omega) (by omega) (by omega) (by omega)) (by rw [rangeSize_downNat]; omega) F3 N3 ⟨_, rfl, hI, rfl, rfl⟩ ?_ ?_
    · rintro i jt m₁ nx h2 tk2 own hi hadr hoff ⟨vs, rfl, hI2, e1, e2⟩ F4 N4
      clear hadr hI F3 N3
      obtain ⟨u2, F5⟩ : ∃ u, Fr s.heap L' h2 (kstB u [("text", .str t tk), ("near", .ref D), ("j", .int ((t.length : Int) - 1 - i) jt)]) := ⟨_, fr_known F4 _ (by intro p hp; simp only [List.mem_cons, List.not_mem_nil, or_false] at hp; rcases hp with rfl | rfl | rfl <;> first | assumption | rfl)⟩
      clear F4 e1 e2
      have hlen : (nearK (sg t) i).length = t.length + 1 := by rw [nearK_length, ← len_sg]
      have hi' : (i : Int) < t.length := by omega
      have hj : ((t.length : Int) - 1 - i).toNat = (sg t).length - 1 - i := by rw [← len_sg]; omega
      have hil : i < (sg t).length := by rw [← len_sg]; exact hi
      k_steps
      · rename isBrk _ = true => hb
        rename (sg t)[_]? = some _ => hc
        rw [hj] at hc
        have hb : isBrk ((sg t).getD ((sg t).length - 1 - i) 0) = true := by rw [List.getD_eq_getElem?_getD, hc]; exact hb
        rename IntsAre _ ((nearK _ _).set _ _) => hI3
        rename Fr _ _ _ _ => F6
        rename News _ _ _ _ => N6
        have e0 : ((t.length : Int) - 1 - i) = (nearAt (sg t) ((sg t).length - 1 - i) : Nat) := by
          rw [nearAt_hit (by omega) hb, ← len_sg]; omega
        rw [hj, e0, nearK_set _ _ hil] at hI3
        exact rng_end F6 N6 ⟨_, rfl, hI3, rfl, rfl⟩ rfl (fun p hp => by simp only [List.mem_cons, List.append_eq, List.cons_append, List.nil_append] at hp ⊢; rcases hp with rfl | rfl | hp <;> simp_all) (fun p hp => by simp [hp])
      · rename isBrk _ = false => hb
        rename (sg t)[_]? = some _ => hc
        rw [hj] at hc
        have hb : isBrk ((sg t).getD ((sg t).length - 1 - i) 0) = false := by rw [List.getD_eq_getElem?_getD, hc]; exact hb
        rename IntsAre _ ((nearK _ _).set _ _) => hI3
        rename Fr _ _ _ _ => F6
        rename News _ _ _ _ => N6
        have e0 : (nearK (sg t) i).set ((t.length : Int) - 1 - i).toNat ((nearK (sg t) i).getD ((t.length : Int) - 1 - i + 1).toNat 0) = nearK (sg t) (i + 1) := by
          have e1 : ((t.length : Int) - 1 - i + 1).toNat = (sg t).length - 1 - i + 1 := by rw [← len_sg]; omega
          rw [e1, hj, nearK_get _ _ _ (by omega) (by omega), ← nearAt_go (by omega) hb, nearK_set _ _ hil]
        rw [e0] at hI3
        exact rng_end F6 N6 ⟨_, rfl, hI3, rfl, rfl⟩ rfl (fun p hp => by simp only [List.mem_cons, List.append_eq, List.cons_append, List.nil_append] at hp ⊢; rcases hp with rfl | rfl | hp <;> simp_all) (fun p hp => by simp [hp])
    · rintro m₁ nx h3 tk3 ⟨vs, rfl, hI2, e1, e2⟩ F4 N4
      clear hI F3 N3 hR
      obtain ⟨u2, F5⟩ : ∃ u, Fr s.heap L' h3 (kstB u [("text", .str t tk), ("near", .ref D)]) := ⟨_, fr_known F4 _ (by intro p hp; simp only [List.mem_cons, List.not_mem_nil, or_false] at hp; rcases hp with rfl | rfl <;> assumption)⟩
      clear F4 e1 e2
      k_steps
      unfold Stuck
      dsimp only at *
      rename_i ap _ lap _ _ _ _ _ _ _ _ _ _
      rename Fr _ _ _ _ => F6
      rename News _ _ _ _ => N6
      refine while_inv (RJ t tk ap D vs (readS (sg t) start)) t.length F6 (news := [(ap, listOf #[] 0), (D, listOf vs.toArray 0)]) (kst_newsOf N6 (by intro p hp; simp only [List.mem_cons, List.not_mem_nil, or_false] at hp ⊢; rcases hp with rfl | rfl <;> simp)) ?_ ?_
      · exact ⟨0, start, [], 0, [], Nat.zero_le _, rfl, rfl, rfl, .nil, (fun _ h => nomatch h), ⟨Nat.le_refl _, Nat.zero_le _, Nat.zero_le _, Nat.zero_le _, Nat.zero_le _⟩, rfl, rfl, rfl, ⟨_, rfl⟩, ⟨_, rfl⟩, ⟨_, by rw [show mk start.plain = Str.ofString "" from mk_nil.symm]; rfl⟩, ⟨_, by rw [show mk start.flags = Str.ofString "" from mk_nil.symm]; rfl⟩, ⟨_, by rw [show mk start.width = Str.ofString "" from mk_nil.symm]; rfl⟩, ⟨_, by rw [show mk start.prec = Str.ofString "" from mk_nil.symm]; rfl⟩, _, rfl, .none⟩
      rintro n m₁ nx h4 tk4 F7 N7 ⟨i, σ, ws, kk, TS, hi, rfl, hrd, rfl, hD, hcl, ⟨b0, b1, b2, b3, b4⟩, e1, e2, e3, ⟨ti, e4⟩, ⟨ts, e5⟩, ⟨tp, e6⟩, ⟨tf, e7⟩, ⟨tw, e8⟩, ⟨tq, e9⟩, nv, e10, hnm⟩
      obtain ⟨u3, F8⟩ : ∃ u, Fr s.heap L' h4 (kstB u [("text", .str t tk), ("near", .ref D), ("parts", .ref ap), ("i", .int i ti), ("stage", .int σ.stage ts), ("plain", .str (mk σ.plain) tp), ("flags", .str (mk σ.flags) tf), ("width", .str (mk σ.width) tw), ("precision", .str (mk σ.prec) tq), ("name", nv)]) := ⟨_, fr_known F7 _ (by intro p hp; simp only [List.mem_cons, List.not_mem_nil, or_false] at hp; rcases hp with rfl | rfl | rfl | rfl | rfl | rfl | rfl | rfl | rfl | rfl <;> assumption)⟩
      clear F7 e1 e2 e3 e4 e5 e6 e7 e8 e9 e10 F6 N6 N4
      have hoff : ∀ p ∈ TS, p.1 ≠ ap := fun p hp e => by
        have h1 := (N7 p (List.mem_cons_of_mem _ (List.mem_cons_of_mem _ hp))).1
        have h2 := (N7 _ (List.mem_cons_self ..)).1
        rw [e] at h1
        rw [h1] at h2
        have h3 := hcl p hp
        rw [Option.some.inj h2] at h3
        simp at h3
      have hlen : t.length = (sg t).length := len_sg t
      dsimp only [kstB] at F8
      have hto : ((i : Int) + 1).toNat = i + 1 := by omega
      have hget : ∀ c, (sg t)[i]? = some c → readS (c :: (sg t).drop (i + 1)) σ = readS (sg t) start := fun c hc => by
        have h1 : i < (sg t).length := (List.getElem?_eq_some_iff.mp hc).1
        rw [← hrd, drop_cons _ _ h1, List.getD_eq_getElem?_getD, hc]
        rfl
      k_steps
      all_goals (first
        | (rename Fr _ _ _ _ => F9
           rename News _ _ _ _ => N9
           rename (sg t)[i]? = some _ => hc0
           have hr := hget _ hc0
           have hlt : i < t.length := by omega
           first
           | (exfalso; omega)
           | (rename DatIn [] _ (orD (sg (mk σ.flags))) => q1
              rename DatIn [] _ (orD (sg (mk σ.width))) => q2
              rename DatIn [] _ (orD (sg (mk σ.prec))) => q3
              exact end_conv F9 N9 hr _ (by omega) (by first | exact unnamed (.inl (by omega)) | exact unnamed (.inr (.inl (by assumption))) | exact unnamed (.inr (.inr (.inl (by omega)))) | exact unnamed (.inr (.inr (.inr ⟨_, by assumption, by assumption⟩)))) (by first | exact if_pos (by assumption) | exact if_neg (by omega)) (by intro _; first | assumption | omega) (by intro _; first | assumption | omega) (by intro _; first | assumption | omega) (by intro _; first | assumption | omega) (by intro _; first | assumption | omega) (by intro _; first | assumption | omega) (by intro _; first | assumption | omega) hlt hD hcl hnm q1 q2 q3 b0 b2 b3 b4 rfl rfl rfl ⟨_, rfl⟩ ⟨_, rfl⟩ ⟨_, rfl⟩ ⟨_, rfl⟩ ⟨_, rfl⟩ ⟨_, rfl⟩ rfl)
           | (have h2 := (rd_pct (by assumption) (by assumption)).symm.trans hr
              exact loop_end (t.length - (i + 1)) F9 N9 (by omega) (RJ.keep (i + 1) _ (by omega) h2 hD hcl (by omega) (by dsimp only; omega) (Nat.zero_le _) (Nat.zero_le _) (Nat.zero_le _) rfl rfl rfl ⟨_, rfl⟩ ⟨_, rfl⟩ ⟨_, rfl⟩ ⟨_, by rw [← mk_nil]; rfl⟩ ⟨_, by rw [← mk_nil]; rfl⟩ ⟨_, by rw [← mk_nil]; rfl⟩ ⟨_, rfl, .none⟩))
           | (have h2 := (rd_plain (by assumption) (by assumption)).symm.trans hr
              exact loop_end (t.length - (i + 1)) F9 N9 (by omega) (RJ.keep (i + 1) _ (by omega) h2 hD hcl (by omega) (by simp only [List.length_append, List.length_cons, List.length_nil]; omega) (by dsimp only; omega) (by dsimp only; omega) (by dsimp only; omega) rfl rfl rfl ⟨_, rfl⟩ ⟨_, rfl⟩ ⟨_, rfl⟩ ⟨_, rfl⟩ ⟨_, rfl⟩ ⟨_, rfl⟩ ⟨_, rfl, hnm⟩))
           | (have hj := nearAt_le (sg t) (i + 1) (by omega)
              have h2 := (rd_name (by assumption) (by assumption) rfl (by omega) (by rename (sg t)[nearAt (sg t) (i + 1)]? = some _ => hd9; rw [hd9]; congr)).symm.trans hr
              exact loop_end (t.length - (nearAt (sg t) (i + 1) + 1)) F9 N9 (by omega) (RJ.keep (nearAt (sg t) (i + 1) + 1) _ (by omega) h2 hD hcl (by omega) (by dsimp only; omega) (by dsimp only; omega) (by dsimp only; omega) (by dsimp only; omega) rfl rfl rfl ⟨_, rfl⟩ ⟨_, rfl⟩ ⟨_, rfl⟩ ⟨_, rfl⟩ ⟨_, rfl⟩ ⟨_, rfl⟩ ⟨_, rfl, name_dat⟩))
           | (rename isFlag _ = true => hk9
              have h2 := (rd_go _ _ (by omega) (by first | exact unnamed (.inl (by omega)) | exact unnamed (.inr (.inl (by assumption))) | exact unnamed (.inr (.inr (.inl (by omega)))) | exact unnamed (.inr (.inr (.inr ⟨_, by assumption, by assumption⟩)))) (by first | exact if_pos (by assumption) | exact if_neg (by omega)) (st_flag (by first | rfl | omega) (by assumption))).symm.trans hr
              exact loop_end (t.length - (i + 1)) F9 N9 (by omega) (RJ.keep (i + 1) _ (by omega) h2 hD hcl (by omega) (by dsimp only; omega) (by simp only [List.length_append, List.length_cons, List.length_nil]; omega) (by dsimp only; omega) (by dsimp only; omega) rfl rfl rfl ⟨_, rfl⟩ ⟨_, rfl⟩ ⟨_, rfl⟩ ⟨_, rfl⟩ ⟨_, rfl⟩ ⟨_, rfl⟩ ⟨_, rfl, hnm⟩))
           | (rename (_ : Nat) = 42 => hk9
              have h2 := (rd_go _ _ (by omega) (by first | exact unnamed (.inl (by omega)) | exact unnamed (.inr (.inl (by assumption))) | exact unnamed (.inr (.inr (.inl (by omega)))) | exact unnamed (.inr (.inr (.inr ⟨_, by assumption, by assumption⟩)))) (by first | exact if_pos (by assumption) | exact if_neg (by omega)) (st_star (by first | rfl | omega) (by assumption))).symm.trans hr
              exact loop_end (t.length - (i + 1)) F9 N9 (by omega) (RJ.keep (i + 1) _ (by omega) h2 hD hcl (by omega) (by dsimp only; omega) (by dsimp only; omega) (by simp only [List.length_cons, List.length_nil]; omega) (by dsimp only; omega) rfl rfl rfl ⟨_, rfl⟩ ⟨_, rfl⟩ ⟨_, rfl⟩ ⟨_, rfl⟩ ⟨_, by rw [← mk_star]; rfl⟩ ⟨_, rfl⟩ ⟨_, rfl, hnm⟩))
           | (rename isDig _ = true => hk9
              have h2 := (rd_go _ _ (by omega) (by first | exact unnamed (.inl (by omega)) | exact unnamed (.inr (.inl (by assumption))) | exact unnamed (.inr (.inr (.inl (by omega)))) | exact unnamed (.inr (.inr (.inr ⟨_, by assumption, by assumption⟩)))) (by first | exact if_pos (by assumption) | exact if_neg (by omega)) (st_dig (by first | rfl | omega) (by intro _; first | assumption | omega) (by assumption))).symm.trans hr
              exact loop_end (t.length - (i + 1)) F9 N9 (by omega) (RJ.keep (i + 1) _ (by omega) h2 hD hcl (by omega) (by dsimp only; omega) (by dsimp only; omega) (by simp only [List.length_append, List.length_cons, List.length_nil]; omega) (by dsimp only; omega) rfl rfl rfl ⟨_, rfl⟩ ⟨_, rfl⟩ ⟨_, rfl⟩ ⟨_, rfl⟩ ⟨_, rfl⟩ ⟨_, rfl⟩ ⟨_, rfl, hnm⟩))
           | (rename (_ : Nat) = 46 => hk9
              have h2 := (rd_go _ _ (by omega) (by first | exact unnamed (.inl (by omega)) | exact unnamed (.inr (.inl (by assumption))) | exact unnamed (.inr (.inr (.inl (by omega)))) | exact unnamed (.inr (.inr (.inr ⟨_, by assumption, by assumption⟩)))) (by first | exact if_pos (by assumption) | exact if_neg (by omega)) (st_dot (by first | rfl | omega) (by assumption))).symm.trans hr
              exact loop_end (t.length - (i + 1)) F9 N9 (by omega) (RJ.keep (i + 1) _ (by omega) h2 hD hcl (by omega) (by dsimp only; omega) (by dsimp only; omega) (by dsimp only; omega) (by simp only [List.length_cons, List.length_nil]; omega) rfl rfl rfl ⟨_, rfl⟩ ⟨_, rfl⟩ ⟨_, rfl⟩ ⟨_, rfl⟩ ⟨_, rfl⟩ ⟨_, by rw [← mk_dot]; rfl⟩ ⟨_, rfl, hnm⟩))
           | (rename (_ : Nat) = 42 => hk9
              have h2 := (rd_go _ _ (by omega) (by first | exact unnamed (.inl (by omega)) | exact unnamed (.inr (.inl (by assumption))) | exact unnamed (.inr (.inr (.inl (by omega)))) | exact unnamed (.inr (.inr (.inr ⟨_, by assumption, by assumption⟩)))) (by first | exact if_pos (by assumption) | exact if_neg (by omega)) (st_dotstar (by first | rfl | omega) (by assumption))).symm.trans hr
              exact loop_end (t.length - (i + 1)) F9 N9 (by omega) (RJ.keep (i + 1) _ (by omega) h2 hD hcl (by omega) (by dsimp only; omega) (by dsimp only; omega) (by dsimp only; omega) (by simp only [List.length_cons, List.length_nil]; omega) rfl rfl rfl ⟨_, rfl⟩ ⟨_, rfl⟩ ⟨_, rfl⟩ ⟨_, rfl⟩ ⟨_, rfl⟩ ⟨_, by rw [← mk_dotstar]; rfl⟩ ⟨_, rfl, hnm⟩))
           | (rename isDig _ = true => hk9
              have h2 := (rd_go _ _ (by omega) (by first | exact unnamed (.inl (by omega)) | exact unnamed (.inr (.inl (by assumption))) | exact unnamed (.inr (.inr (.inl (by omega)))) | exact unnamed (.inr (.inr (.inr ⟨_, by assumption, by assumption⟩)))) (by first | exact if_pos (by assumption) | exact if_neg (by omega)) (st_prec (by omega) (by assumption))).symm.trans hr
              exact loop_end (t.length - (i + 1)) F9 N9 (by omega) (RJ.keep (i + 1) _ (by omega) h2 hD hcl (by omega) (by dsimp only; omega) (by dsimp only; omega) (by dsimp only; omega) (by simp only [List.length_append, List.length_cons, List.length_nil]; omega) rfl rfl rfl ⟨_, rfl⟩ ⟨_, rfl⟩ ⟨_, rfl⟩ ⟨_, rfl⟩ ⟨_, rfl⟩ ⟨_, rfl⟩ ⟨_, rfl, hnm⟩))
           | (rename isSize _ = true => hk9
              have h2 := (rd_go _ _ (by omega) (by first | exact unnamed (.inl (by omega)) | exact unnamed (.inr (.inl (by assumption))) | exact unnamed (.inr (.inr (.inl (by omega)))) | exact unnamed (.inr (.inr (.inr ⟨_, by assumption, by assumption⟩)))) (by first | exact if_pos (by assumption) | exact if_neg (by omega)) (st_size (by first | rfl | omega) (by assumption))).symm.trans hr
              exact loop_end (t.length - (i + 1)) F9 N9 (by omega) (RJ.keep (i + 1) _ (by omega) h2 hD hcl (by omega) (by dsimp only; omega) (by dsimp only; omega) (by dsimp only; omega) (by dsimp only; omega) rfl rfl rfl ⟨_, rfl⟩ ⟨_, rfl⟩ ⟨_, rfl⟩ ⟨_, rfl⟩ ⟨_, rfl⟩ ⟨_, rfl⟩ ⟨_, rfl, hnm⟩)))
        | skip)
      all_goals (first
        | (show Ret0 _ _ _ _ _ _
           rename Fr _ _ _ _ => F9
           rename News _ _ _ _ => N9
           first
           | exact ret0 F9 N9 (end_none hrd (by assumption) (by assumption))
           | exact ret0 F9 N9 (end_tuple hrd (by assumption) (by assumption) (Decidable.not_not.mp (by assumption)) hD (.head _) (by simp) (by intro p hp; simp [hp]))
           | exact ret0 F9 N9 (end_tuple2 hrd (by assumption) (by assumption) (by assumption) hD (.head _) (by simp) (.tail _ (.head _)) (by intro p hp; simp [hp])))
        | skip))
end
end Mine

end
section
open PySem PySem.W PyProof.Rows PySem.Calls
namespace Mine
open AutoSeq1 (wpAny_loadPart')

abbrev lstObj (acc : Array Value) (c : Nat) : Obj := { cls := .type "list", dict := none, data := .seq acc c, slots := #[] }

/-- a generator that a list of the interpreter's is filled from: it yields, or ends, or raises -/
structure WalkR (prog : Program) (w : World) (A : Around) (I S : Addr) (St : Nat → Array Value → Shared → Prop) (Fn : Array Value → Shared → Prop) (Err : Value → Shared → Prop) : Prop where
  item : ∀ n acc (s : Shared) (Q : Option Value → Shared → Prop) (E : Value → Shared → Prop), St n acc s →
    (∀ m v s', n = m + 1 → (∃ c, s'.heap.get? S = some (lstObj acc c)) → acc.size + n ≤ sizeLine → St m (acc.push v) { s' with heap := s'.heap.update S (Obj.mapSeq (·.push v)) } → Q (some v) s') →
    (∀ s', Fn acc s' → Q none s') → (∀ e s', Err e s' → E e s') → wpAny (model prog w) A (pyNext (.ref I)) Q E s
  list : ∀ acc s, Fn acc s → ∃ c, s.heap.get? S = some (lstObj acc c)
  size : ∀ acc s, Fn acc s → acc.size ≤ sizeLine

section
variable {prog : Program} {w : World} {A : Around} {R : Result → Shared → Prop} {I S : Addr} {St : Nat → Array Value → Shared → Prop} {Fn : Array Value → Shared → Prop} {Err : Value → Shared → Prop}

theorem extend_loopR (W : WalkR prog w A.in1 I S St Fn Err) (res : Value) : ∀ (n : Nat) (s : Shared) (acc : Array Value), St n acc s →
    (∀ s' acc', Fn acc' s' → R (.ok (.ret res)) s') → (∀ e s', Err e s' → R (.error e) s') → codeAny (model prog w) A (.builtin "list.extend.loop" ⟨[.ref S, .ref I, res], []⟩) R s := by
  intro n
  induction n with
  | zero =>
    intro s acc hst hR hE
    refine codeAny_builtin F.entry_extend_loop ?_
    rw [Around.under_plainId F.plain_extend_loop _]
    show wpAny _ A.in1 (pyNext (.ref I) >>= _) _ _ s
    refine wpAny_bind (W.item 0 acc s _ _ hst (fun m v s' h _ _ => nomatch h) (fun s' hf => ?_) hE)
    exact wpAny_pure (hR s' acc hf)
  | succ n ih =>
    intro s acc hst hR hE
    refine codeAny_builtin F.entry_extend_loop ?_
    rw [Around.under_plainId F.plain_extend_loop _]
    show wpAny _ A.in1 (pyNext (.ref I) >>= _) _ _ s
    refine wpAny_bind (W.item (n + 1) acc s _ _ hst (fun m v s' h hS hz hst' => ?_) (fun s' hf => ?_) hE)
    · obtain rfl : n = m := Nat.succ.inj h
      obtain ⟨c, hS⟩ := hS
      show wpAny _ A.in1 (updateSeq S (·.push v) >>= _) _ _ _
      refine wpAny_bind ?_
      exact wpAny_updateSeq hS rfl (wpAny_pure ⟨plainId_quiet F.plain_extend_loop _, ih _ (acc.push v) hst' hR hE⟩)
        (by omega) (by show (acc.push v).size ≤ sizeLine + 1; rw [Array.size_push]; omega)
    · exact wpAny_pure (hR s' acc hf)
end

section
variable {prog : Program} {w : World} {A : Around} {E : Value → Shared → Prop} {s : Shared} {I : Addr} {St : Nat → Array Value → Shared → Prop} {Fn : Array Value → Shared → Prop} {Err : Value → Shared → Prop}

theorem collect_genR {Q : List Value → Shared → Prop} {g n : Nat} (hg : s.heap.IsGen I g) (W : WalkR prog w A.in1 I s.heap.objs.size St Fn Err)
    (h0 : ∀ h', (∀ b o, s.heap.get? b = some o → h'.get? b = some o) → (∃ c, h'.get? s.heap.objs.size = some (lstObj #[] c)) → St n #[] { s with heap := h' })
    (hQ : ∀ s' acc, Fn acc s' → Q acc.toList s') (hE : ∀ e s', Err e s' → E e s') : wpAny (model prog w) A (collect (.ref I)) Q E s := by
  have hSI : s.heap.objs.size ≠ I := fun e => by obtain ⟨o, _, _, ho, _⟩ := hg; exact Nat.lt_irrefl _ (e ▸ Heap.lt_size ho)
  unfold collect
  refine wpAny_bind (wpAny_runValue (codeAny_builtin F.entry_proto_collect ?_))
  rw [Around.under_plainId F.plain_proto_collect _]
  show wpAny _ A.in1 (newList [] >>= fun l => again (.builtin "list.__iadd__" ⟨[l, .ref I], []⟩)) _ _ s
  refine wpAny_bind (wpAny_newObj_type ?_)
  refine wpAny_pure ⟨plainId_quiet F.plain_list_iadd _, codeAny_builtin F.entry_list_iadd ?_⟩
  rw [Around.under_plainId F.plain_list_iadd _]
  have hg₁ : (s.heap.push { cls := .type "list", data := .seq ([] : List Value).toArray }).IsGen I g := hg.push _
  show wpAny _ A.in1 (Builtin.List.listExtendWith (.ref s.heap.objs.size) (.ref I) (.ref s.heap.objs.size)) _ _ _
  unfold Builtin.List.listExtendWith
  refine wpAny_bind (wpAny_typeOf (Heap.IsGen.typeIs (s := { s with heap := s.heap.push { cls := .type "list", data := .seq ([] : List Value).toArray } }) hg₁) ?_)
  have h1 : Builtin.List.listSameRef (.ref s.heap.objs.size) (.ref I) = false := by simp [Builtin.List.listSameRef, hSI]
  have h2 : (Value.type "generator" == Value.type "list") = false := by decide
  have h3 : (Value.type "generator" == Value.type "tuple") = false := by decide
  simp only [h1, h2, h3, Bool.or_false, Bool.false_eq_true, if_false]
  refine wpAny_bind (wpAny_pyIter_gen hg₁ ?_)
  refine wpAny_bind (wpAny_holding ?_)
  unfold Builtin.List.listLengthHint
  refine wpAny_bind (wpAny_specialOf (Heap.IsGen.typeIs (s := { s with heap := s.heap.push { cls := .type "list", data := .seq ([] : List Value).toArray } }) hg₁) F.gen_no_len ?_)
  show wpAny _ A.in1 (specialOf (Value.ref I) (Str.ofString "__length_hint__") >>= _) _ _ _
  refine wpAny_bind (wpAny_specialOf (Heap.IsGen.typeIs (s := { s with heap := s.heap.push { cls := .type "list", data := .seq ([] : List Value).toArray } }) hg₁) F.gen_no_hint ?_)
  refine wpAny_pure ?_
  show wpAny _ A.in1 (rule "list.extend.makes-room" >>= fun _ => Builtin.List.listTouch (.ref s.heap.objs.size) >>= fun _ =>
    again (.builtin "list.extend.loop" ⟨[.ref s.heap.objs.size, .ref I, .ref s.heap.objs.size], []⟩)) _ _ _
  refine wpAny_bind (wpAny_rule ?_)
  have hS₁ : (s.heap.push { cls := .type "list", data := .seq ([] : List Value).toArray }).get? s.heap.objs.size = some { cls := .type "list", data := .seq ([] : List Value).toArray } := Heap.get?_push_size _ rfl
  refine wpAny_bind ?_
  show wpAny _ A.in1 (updateSeq s.heap.objs.size (·.push .none) >>= fun _ => updateSeq s.heap.objs.size (·.pop)) _ _ _
  refine wpAny_bind (wpAny_updateSeq hS₁ rfl ?_)
  have hS₂ := Heap.get?_update_self (Obj.mapSeq (·.push Value.none)) hS₁ rfl
  refine wpAny_updateSeq hS₂ rfl ?_
  have hS₃ := Heap.get?_update_self (Obj.mapSeq (·.pop)) hS₂ rfl
  have oth : ∀ b o, s.heap.get? b = some o →
      (((s.heap.push { cls := .type "list", data := .seq ([] : List Value).toArray }).update s.heap.objs.size (Obj.mapSeq (·.push Value.none))).update s.heap.objs.size (Obj.mapSeq (·.pop))).get? b = some o :=
    fun b o e => by
      have hb : s.heap.objs.size ≠ b := Nat.ne_of_gt (Heap.lt_size e)
      exact (Heap.get?_update_other _ _ hb).trans ((Heap.get?_update_other _ _ hb).trans (Heap.get?_push_of_some _ e))
  refine wpAny_pure ⟨plainId_quiet F.plain_extend_loop _, extend_loopR (R := wants _ _) W _ n _ #[] (h0 _ oth ⟨_, hS₃⟩) (fun s' acc' hf => ?_) (fun e s' he => hE e s' he)⟩
  obtain ⟨c, hS'⟩ := W.list acc' s' hf
  show wpAny _ A (load s.heap.objs.size >>= _) _ _ s'
  refine wpAny_bind (wpAny_load hS' ?_)
  exact wpAny_pure (hQ s' acc' hf)

set_option maxRecDepth 100000 in
theorem code_tuple_genR {Q₁ : Value → Shared → Prop} {g n : Nat} (hg : s.heap.IsGen I g) (W : WalkR prog w A.in1.in1 I s.heap.objs.size St Fn Err)
    (h0 : ∀ h', (∀ b o, s.heap.get? b = some o → h'.get? b = some o) → (∃ c, h'.get? s.heap.objs.size = some (lstObj #[] c)) → St n #[] { s with heap := h' })
    (h : ∀ s' acc, Fn acc s' → Q₁ (.ref s'.heap.objs.size) { s' with heap := s'.heap.push { cls := .type "tuple", data := .seq acc } }) (hE : ∀ e s', Err e s' → E e s') :
    codeAny (model prog w) A (.call (.builtin "tuple.__new__") ⟨[.type "tuple", .ref I], []⟩) (wants Q₁ E) s := by
  refine codeAny_of_tree ?_
  show wpAny _ A.in1 (do checkBuiltinCall "tuple.__new__" ⟨[.type "tuple", .ref I], []⟩; again (.builtin "tuple.__new__" ⟨[.type "tuple", .ref I], []⟩)) _ _ s
  refine wpAny_bind (wpAny_of_eq (F.newCall_tuple_1 _) (wpAny_pure ⟨plainId_quiet F.plain_tuple_new _, codeAny_builtin F.entry_tuple_new ?_⟩))
  rw [Around.under_plainId F.plain_tuple_new _]
  have hsub := sub_tuple_self
  have hinit := init_tuple_lookup
  have hmh := madeHere_tuple
  have hTI : s.TypeIs (.ref I) "generator" := hg.typeIs
  wp_walk using wpAny_typeOf hTI, collect_genR hg W h0
  · intro s' acc hacc
    show wpAny _ _ (Builtin.Tuple.tupleExact acc.toList.toArray >>= fun v => ret v) _ _ _
    unfold Builtin.Tuple.tupleExact
    refine wpAny_bind (wpAny_newObj_type ?_ (by show acc.toList.toArray.size ≤ sizeLine; simp only [Array.toArray_toList]; exact W.size _ _ hacc))
    refine wpAny_pure ?_
    have e : acc.toList.toArray = acc := by simp
    rw [e]
    exact h s' acc hacc
  · exact hE

theorem call_tuple_genR {Q : Value → Shared → Prop} {g n : Nat} (hg : s.heap.IsGen I g) (W : WalkR prog w A.in1.in1.in1 I s.heap.objs.size St Fn Err)
    (h0 : ∀ h', (∀ b o, s.heap.get? b = some o → h'.get? b = some o) → (∃ c, h'.get? s.heap.objs.size = some (lstObj #[] c)) → St n #[] { s with heap := h' })
    (hQ : ∀ s' acc, Fn acc s' → Q (.ref s'.heap.objs.size) { s' with heap := s'.heap.push { cls := .type "tuple", data := .seq acc } }) (hE : ∀ e s', Err e s' → E e s') :
    wpAny (model prog w) A (call (.type "tuple") [.ref I]) Q E s := by
  refine callType_codes (Q₁ := fun obj s₁ => s₁.TypeIs obj "tuple" ∧ Q obj s₁) F.called_tuple (F.typeCall_tuple_1 _) F.entry_object_init
    (code_tuple_genR hg W h0 (fun s' acc hf => ⟨⟨_, Heap.get?_push_size _ rfl, rfl⟩, hQ s' acc hf⟩) hE) fun obj s₁ h₁ => ?_
  exact ⟨h₁.1, F.args_object_init_2 obj _, object_init_meets F.called_tuple.init.lookup F.called_tuple.made (by decide) prog w A.in1 _ s₁ ⟨h₁.1, rfl, h₁.2⟩⟩

/-- the next item of a generator that may raise -/
theorem pyNext_genR {a : Addr} {g n : Nat} {gs : GenState} {Rr : GenEnd} {Y : Protocol} {Q : Option Value → Shared → Prop} (hh : A.handled = none)
    (hl : s.heap.NoLimit) (hroom : A.depth < recursionLimit) (hg : s.heap.IsGen a g) (hgs : s.gens[g]? = some gs)
    (hgo : gs.Goes (model prog w) A.in1 Rr Y n (.send .none) (s.setGen g .running))
    (hY : ∀ v s₁ gs', Y (n - 1) (s.setGen g .running) v s₁ (fun r' s'' => match n with
        | 0 => False
        | m + 1 => gs'.Goes (model prog w) A.in1 Rr Y m r' s'') → Q (some v) (s₁.setGen g gs'))
    (hR : ∀ r s₁, Rr n (s.setGen g .running) r s₁ →
      (r = .ok (.ret .none) ∧ ∀ h', (∀ b o, s₁.heap.get? b = some o → h'.get? b = some o) → Q none { s₁.setGen g .finished with heap := h' }) ∨
      ∃ e X, r = .error (.ref e) ∧ s₁.heap.IsGen a g ∧ s₁.TypeIs (.ref e) X ∧ isSubtype (.type X) (.type "StopIteration") = pure false ∧ E (.ref e) (s₁.setGen g .finished)) :
    wpAny (model prog w) A (pyNext (.ref a)) Q E s := by
  unfold pyNext
  refine wpAny_bind (wpAny_attempt (wpAny_callSpecial?_slot (name := Str.ofString "__next__") hg.typeIs slot_gen_next
    (wpAny_call_entry slot_gen_next hg.typeIs entry_gen_next ?_ (args_gen_next _))))
  show wpAny _ _ (Builtin.Generator.genWake (.ref a) (.send .none)) _ _ s
  unfold Builtin.Generator.genWake
  refine wpAny_bind (wpAny_holding (wpAny_genNumber hg (wpAny_bind (wpAny_genState hgs ?_))))
  cases gs with
  | running => exact hgo.elim
  | finished => exact hgo.elim
  | _ =>
    refine wpAny_bind (wpAny_roomToWake hl hroom ?_)
    show wpAny _ _ (.resume g (.send .none) [] _) _ _ s
    refine wpAny_resume hgs hgo (fun x s₁ hx => ?_) (fun v s₁ gs' hv => ?_)
    · rcases hR x s₁ hx with ⟨rfl, hp⟩ | ⟨e, X, rfl, hga, hX, hns, hEe⟩
      · show wpAny _ _ (newExc (.type "StopIteration") [] >>= _) _ _ _
        refine wpAny_bind ?_
        simp only [newExc, newTuple]
        refine wpAny_bind (wpAny_newObj_type ?_ (by size_fits))
        refine wpAny_bind (m := firstArgMember _ _) (wpAny_of_eq (a := Value.none) (by first | rfl | (simp only [firstArgMember]; rfl)) ?_)
        refine wpAny_newObj_type ?_ (by size_fits)
        simp only [raiseNew]
        refine wpAny_bind (wpAny_bind (wpAny_handled ?_))
        rw [show A.in1.handled = none from hh]
        refine wpAny_throw ?_
        refine wpAny_bind (wpAny_isInstance (T := "StopIteration") (b := true) ⟨_, Heap.get?_push_size _ rfl, rfl⟩ isSubtype_stop ?_)
        exact wpAny_pure (hp _ fun b o hb => Heap.get?_push_of_some _ (Heap.get?_push_of_some _ hb))
      · show wpAny _ _ (Builtin.Generator.genLeft (.ref a) (.ref e)) _ _ _
        unfold Builtin.Generator.genLeft Builtin.Generator.madeByALambda
        obtain ⟨o, nm, qn, ho, hc, hd, hsl⟩ := hga
        refine wpAny_bind (wpAny_bind (wpAny_load (s := s₁.setGen g .finished) ho (wpAny_pure ?_)))
        refine wpAny_bind (wpAny_isInstance (s := s₁.setGen g .finished) (b := false) hX hns ?_)
        rw [hd]
        simp only [Bool.and_false, Bool.false_eq_true, if_false]
        unfold Builtin.Generator.genEscaped
        refine wpAny_bind (wpAny_isInstance (s := s₁.setGen g .finished) (b := false) hX hns ?_)
        simp only [Bool.not_false, if_true]
        refine wpAny_throw ?_
        refine wpAny_bind (wpAny_isInstance (s := s₁.setGen g .finished) (b := false) hX hns ?_)
        simp only [Bool.false_eq_true, if_false]
        exact wpAny_throw hEe
    · exact wpAny_pure ⟨v, rfl, wpAny_pure (hY v s₁ gs' hv)⟩
end
end Mine

end
section
open PySem PySem.W PyProof.Rows PySem.Calls
namespace Mine

section
variable {M : Model} {α : Type} {m : Sem α} {A₁ A₂ A : Around} {Q : α → Shared → Prop} {E : Value → Shared → Prop} {s : Shared} {c : Code} {fs : List Frame}
  {dp un : Nat} {gd : Option (List Code)} {cn : Str} {cs : Scope} {L a : Addr} {ccd : Value} {cl : List (Str × Addr)} {outer : List Env}
theorem weaken (h : ∀ Γ : Ctx, Γ.In A₁ → Γ.In A₂) (x : wpAny M A₂ m Q E s) : wpAny M A₁ m Q E s := fun Γ p hΓ => x Γ p (h Γ hΓ)

theorem to_top (h1 : A.handled = none) (h2 : A.depth ≤ dp) (h3 : A.frames = some (envX cn cs L a ccd cl :: outer)) (h4 : A.guards = gd) (h5 : A.units ≤ un)
    (x : wpAny M (ktrTop dp un gd cn cs L a ccd cl outer) m Q E s) : wpAny M A m Q E s := by
  refine weaken (fun Γ hΓ => ?_) x
  obtain ⟨g1, g2, g3, g4, g5⟩ := hΓ
  exact ⟨g1.trans h1, Nat.le_trans g2 h2, fun l hl => g3 l (h3.trans hl), fun g hg => g4 g (h4.trans hg), Nat.le_trans g5 h5⟩
end

section
variable {M : Model} {A : Around} {R : GenEnd} {Y : Protocol} {n : Nat} {s₀ : Shared} {c : Code} {fs : List Frame} {s : Shared} {env : Env}
  {K : Flow → Sem Fin} {H : Value → Sem Fin} {gd : Bool → Bool} {lv : List Value → List Value}
theorem seg_If {test : PySem.Expr} {body orelse : List Stmt} {pos : Pos}
    (h : wpAny M (A.over c fs) (isTrue test env (eval test env)) (fun b s' => if b = true then Seg M A R Y n s₀ c ((execs body env).wrap K H gd lv) fs s' else Seg M A R Y n s₀ c ((execs orelse env).wrap K H gd lv) fs s')
      (fun x s' => Seg M A R Y n s₀ c (H x) fs s') s) :
    Seg M A R Y n s₀ c ((exec (.If test body orelse pos) env).wrap K H gd lv) fs s := by
  rw [arm_exec_If]
  show Seg M A R Y n s₀ c (.at pos fun _ => (isTrue test env (eval test env) >>= fun b => if b = true then execs body env else execs orelse env).wrap K H gd lv) fs s
  refine seg_at ?_
  rw [Sem.bind_eq_wrap', Sem.wrap_wrap]
  refine seg_wrap (wpAny_mono h (fun b s' hb => ?_) fun _ _ x => x)
  cases b with
  | true => exact hb
  | false => exact hb
theorem seg_stmt {st : Stmt} {rest : List Stmt}
    (h : wpAny M (A.over c fs) (exec st env) (fun f s' => match f with | .next => Seg M A R Y n s₀ c ((execs rest env).wrap K H gd lv) fs s' | f => Seg M A R Y n s₀ c (K f) fs s') (fun x s' => Seg M A R Y n s₀ c (H x) fs s') s) :
    Seg M A R Y n s₀ c ((execs (st :: rest) env).wrap K H gd lv) fs s := by
  refine seg_execs_cons (seg_wrap (wpAny_mono h (fun f s' hf => ?_) fun _ _ x => x))
  cases f <;> exact hf
end

section
variable {prog : Program} {w : World} {A : Around} {E : Value → Shared → Prop} {s : Shared} {name qual : Str} {params : Arguments} {body : List Stmt} {scope : Scope} {cl : List (Str × Addr)} {dV kV doc pm cdv ct : Value} {an : Option Addr} {fo : Obj} {f : Addr}
theorem call_genX {Q : Value → Shared → Prop} (hlim : s.heap.NoLimit) (hroom : A.depth < recursionLimit)
    (ho : s.heap.get? f = some fo) (hd : fo.data = .func (fnX name qual params body scope cl dV kV doc pm an cdv ct)) (hcd : s.heap.CodeRec cdv qual)
    (hbind : BindsTo s (fnX name qual params body scope cl dV kV doc pm an cdv ct) ⟨[], []⟩ [])
    (h : ∀ L' I h' tk, (∀ b o, s.heap.get? b = some o → h'.get? b = some o) → h'.Ns L' (fun _ => none) → h'.IsGen I s.gens.size → s.heap.get? L' = none → s.heap.get? I = none → I ≠ L' → s.heap.objs.size ≤ L' → s.heap.objs.size ≤ I →
      Q (.ref I) { s with gens := s.gens.push (.fresh (.func body (envX qual scope L' f cdv cl))), heap := h', toks := tk })
    (hco : scope.isCoroutine = false) (hgen : scope.isGenerator = true) (hk : scope.kind = .function) (hcell : ∀ x ∈ scope.names, x.2 ≠ .cell) :
    wpAny (model prog w) A (call (.ref f) [] []) Q E s := by
  refine wpAny_call ?_
  refine codeAny_call_generator (fd := fnX name qual params body scope cl dV kV doc pm an cdv ct) hroom ho hd hco hgen rfl hcd (hbind _ _ _ _ ?_)
  refine wpAny_newFunctionEnv hcell (fun x hx => nomatch hx) (fun h₁ hns hsb => ?_) hk
  have hkp : ∀ b o, s.heap.get? b = some o → h₁.get? b = some o := fun b o e => hsb.extBut b o (Nat.ne_of_lt (Heap.lt_size e)) (Heap.get?_push_of_some _ e)
  have hz : h₁.objs.size = s.heap.objs.size + 1 := by rw [hsb.1, Heap.size_push]
  have hle : s.heap.objs.size ≤ h₁.objs.size := by rw [hz]; exact Nat.le_succ _
  have hne : h₁.objs.size ≠ s.heap.objs.size := by rw [hz]; exact Nat.succ_ne_self _
  refine ⟨hlim.fresh _ hsb, ?_⟩
  refine h s.heap.objs.size h₁.objs.size _ _ (fun b o e => Heap.get?_push_of_some _ (hkp b o e)) (hns.push _) ⟨_, _, _, Heap.get?_push_size _ rfl, rfl, rfl, rfl⟩ (Heap.get?_none_of_le (Nat.le_refl _)) (Heap.get?_none_of_le hle) hne (Nat.le_refl _) hle
end
end Mine

end
section
open PySem PySem.W PyProof.Rows PySem.Calls
namespace Mine
open Sem (wp)

/-- an exception noted at a frame: its record, the head of its traceback, where that is in flight -/
def Noted (base : Heap) (l : List Env) (e : Addr) (oe : Obj) (vs : Array Value) (fl : Value) (h : Heap) : Prop :=
  ∃ T oT ts, h.get? e = some oe ∧ oe.data = .fields vs ∧ vs[1]? = some (.ref T) ∧ base.get? T = none ∧ T ≠ e ∧ h.get? T = some oT ∧ oT.data = .fields ts ∧ ts[3]? = some fl ∧ base.StaysIn h ∧ h.FunFrames base l

section
variable {M : Model} {A : Around} {E : Value → Shared → Prop} {s : Shared} {base : Heap} {env : Env} {outer l : List Env} {L e : Addr} {oe : Obj} {vs : Array Value} {fl : Value} {Q : Unit → Shared → Prop}
theorem note_new (hfr : A.frames = some (env :: outer)) (hl : s.heap.FunFrames base (env :: outer)) (hf : env.frame = some L)
    (he : s.heap.get? e = some oe) (hkb : base.StaysIn s.heap) (hen : base.get? e = none) (hd : oe.data = .fields vs) (h1 : vs[1]? = some .none)
    (h : ∀ h' T, Noted base (env :: outer) e (oe.mapFields (·.setIfInBounds 1 (.ref T))) (vs.setIfInBounds 1 (.ref T)) (rawInt L) h' → s.heap.UpToSlots h' → Q () { s with heap := h' }) :
    wpAny M A (noteFrame (.ref e) env) Q E s := by
  have hsz : 1 < vs.size := (Array.getElem?_eq_some_iff.mp h1).1
  have hene : e ∉ (env :: outer).filterMap (·.frame) := fun hm => by
    obtain ⟨_, o, ho, hnf⟩ := hl.mem hm
    rw [he] at ho; injection ho with ho; subst ho; exact hnf vs hd
  unfold noteFrame
  simp only [hf]
  refine wpAny_bind (wpAny_field he hd h1 ?_)
  rw [if_neg (by decide)]
  refine wpAny_bind (wpAny_frameOf_fun hfr hl hf fun h₁ hs₁ => ?_)
  refine wpAny_bind (wpAny_entryPlaceOf fun pl hpl => ?_)
  unfold EntryCells.newEntry newFields
  refine wpAny_bind (wpAny_newObj_type ?_ (hpl.sizeOk5 _ _ _ _ _))
  have he₁ : h₁.get? e = some oe := (hs₁.2.1 e hene).trans he
  have kb₁ : base.StaysIn h₁ := fun b o hbo => (hs₁.2.1 b fun hm => by rw [(hl.mem hm).1] at hbo; cases hbo).trans (hkb b o hbo)
  have he₂ := Heap.get?_push_of_some (h := h₁) { cls := .type "traceback", dict := none, data := .fields ([Value.none, .ref L, .none, rawInt L, .none] ++ (if pl.isEmpty then List.replicate 6 Value.none else pl)).toArray } he₁
  refine wpAny_setField he₂ hd hsz (h _ h₁.objs.size ?_ ?_)
  · have hTe : h₁.objs.size ≠ e := Nat.ne_of_gt (Heap.lt_size he₁)
    have hd₃ := Obj.data_mapFields hd (·.setIfInBounds 1 (Value.ref h₁.objs.size))
    have he₃ := Heap.get?_update_self (Obj.mapFields (·.setIfInBounds 1 (Value.ref h₁.objs.size))) he₂ (Obj.isFreed_of_fields hd₃)
    have hT₃ := (Heap.get?_update_other (h₁.push { cls := .type "traceback", dict := none, data := .fields ([Value.none, .ref L, .none, rawInt L, .none] ++ (if pl.isEmpty then List.replicate 6 Value.none else pl)).toArray })
      (Obj.mapFields (·.setIfInBounds 1 (Value.ref h₁.objs.size))) (Ne.symm hTe)).trans (Heap.get?_push_size h₁ rfl)
    have keep : ∀ b o, b ≠ e → h₁.get? b = some o →
        ((h₁.push { cls := .type "traceback", dict := none, data := .fields ([Value.none, .ref L, .none, rawInt L, .none] ++ (if pl.isEmpty then List.replicate 6 Value.none else pl)).toArray }).update e (Obj.mapFields (·.setIfInBounds 1 (Value.ref h₁.objs.size)))).get? b = some o :=
      fun b o hbe hb => by
        rw [Heap.get?_update_other _ _ (Ne.symm hbe)]
        exact Heap.get?_push_of_some _ hb
    have noRecord : ∀ b o, s.heap.get? b = some o → (∀ vs, o.data ≠ .fields vs) → b ≠ e := fun b o hb hnf q => by
      rw [q, he] at hb; injection hb with hb; subst hb; exact hnf vs hd
    refine ⟨h₁.objs.size, _, _, he₃, hd₃, by simp [hsz], kb₁.fresh, hTe, hT₃, rfl, by first | (simp; done) | (rcases hpl with rfl | ⟨_, _, _, _, _, _, _, rfl⟩ <;> simp), fun b o hbo => keep b o (fun q => by rw [q, hen] at hbo; cases hbo) (kb₁ b o hbo), hl.of_keeps fun b o hb hnf => ?_⟩
    obtain ⟨sl, hs⟩ := hs₁.2.2 b o hb
    exact ⟨_, keep b _ (noRecord b o hb hnf) hs, rfl⟩
  · intro b o hb hnf
    have hbe : b ≠ e := fun q => by rw [q, he] at hb; injection hb with hb; subst hb; exact hnf vs hd
    obtain ⟨sl, hs⟩ := hs₁.2.2 b o hb
    refine ⟨sl, ?_⟩
    rw [Heap.get?_update_other _ _ (Ne.symm hbe)]
    exact Heap.get?_push_of_some _ hs

theorem set_flight {fr : Option Addr} (hn : Noted base l e oe vs fl s.heap)
    (h : ∀ h', Noted base l e oe vs (fr.elim .none fun f => rawInt f) h' → s.heap.UpToSlots h' → Q () { s with heap := h' }) : wpAny M A (setFlight (.ref e) fr) Q E s := by
  obtain ⟨T, oT, ts, he, hd, h1, hnT, hTe, hT, hdT, h3, hkb, hl⟩ := hn
  have hsz3 : 3 < ts.size := (Array.getElem?_eq_some_iff.mp h3).1
  have other : ∀ b, b ≠ T → (s.heap.update T (Obj.mapFields (·.setIfInBounds 3 (fr.elim Value.none fun f => rawInt f)))).get? b = s.heap.get? b :=
    fun b hb => Heap.get?_update_other _ _ (Ne.symm hb)
  have noRecord : ∀ b o, s.heap.get? b = some o → (∀ vs, o.data ≠ .fields vs) → b ≠ T := fun b o hb hnf q => by
    rw [q, hT] at hb; injection hb with hb; subst hb; exact hnf ts hdT
  unfold setFlight
  refine wpAny_bind (wpAny_field he hd h1 ?_)
  rw [if_pos (show (Value.ref T != Value.none) = true from by simp)]
  refine wpAny_setField hT hdT hsz3 (h _ ?_ fun b o hb hnf => ⟨o.slots, (other b (noRecord b o hb hnf)).trans hb⟩)
  exact ⟨T, _, _, (other e (Ne.symm hTe)).trans he, hd, h1, hnT, hTe, Heap.get?_update_self _ hT (Obj.isFreed_of_fields (Obj.data_mapFields hdT _)), Obj.data_mapFields hdT _, by simp [hsz3],
    fun b o hbo => (other b fun q => by rw [q, hnT] at hbo; cases hbo).trans (hkb b o hbo), hl.of_keeps fun b o hb hnf => ⟨o, (other b (noRecord b o hb hnf)).trans hb, rfl⟩⟩

theorem note_again (hf : env.frame = some L) (hn : Noted base l e oe vs (rawInt L) s.heap) (h : Q () s) : wpAny M A (noteFrame (.ref e) env) Q E s := by
  obtain ⟨T, oT, ts, he, hd, h1, hnT, hTe, hT, hdT, h3, _, _⟩ := hn
  unfold noteFrame
  simp only [hf]
  refine wpAny_bind (wpAny_field he hd h1 ?_)
  rw [if_pos (show (Value.ref T != Value.none) = true from by simp)]
  refine wpAny_bind (wpAny_field hT hdT h3 ?_)
  rw [if_pos (show (rawInt L == rawInt L) = true from by simp)]
  exact wpAny_pure h

theorem back_by (hf : env.frame = some L) (hn : Noted base l e oe vs fl s.heap) (h : ∀ h', Noted base l e oe vs (rawInt L) h' → s.heap.UpToSlots h' → E (.ref e) { s with heap := h' }) : cameBackBy M A env E (.ref e) s := by
  have hn' := hn
  obtain ⟨T, oT, ts, he, hd, h1, _⟩ := hn'
  unfold cameBackBy
  refine wpAny_bind (wpAny_field he hd h1 ?_)
  rw [if_neg (show ¬ (Value.ref T == Value.none) = true from by simp)]
  rw [hf]
  exact set_flight hn h

theorem Noted.typed {h : Heap} {cls : Value} (hn : Noted base l e oe vs fl h) (hc : oe.cls = cls) : ∃ ob, h.get? e = some ob ∧ ob.cls = cls := ⟨oe, hn.choose_spec.choose_spec.choose_spec.1, hc⟩
theorem Noted.flying {h : Heap} {cls a0 : Value} (hn : Noted base (env :: outer) e oe vs .none h) (hc : oe.cls = cls) (h0 : vs[0]? = some a0) (hen : base.get? e = none) : Heap.FlyingW base outer e cls a0 h := by
  obtain ⟨T, oT, ts, he, hd, h1, hnT, hTe, hT, hdT, h3, hkb, hl⟩ := hn
  obtain ⟨_, _, hl'⟩ := hl
  exact ⟨hkb, hen, hl', oe, vs, T, oT, ts, he, ⟨hc, h0⟩, hd, h1, hnT, hTe, hT, hdT, h3⟩
end

namespace Fx
theorem plain_unchain : plainId "proto.unchain" = true := by decide +kernel
theorem entry_unchain : entryFor table "proto.unchain" = some Builtin.«proto.unchain» := entryFor_of_fast (by kernel_rfl)
end Fx

section
variable {prog : Program} {w : World} {A : Around} {E : Value → Shared → Prop} {s : Shared} {env : Env}
/-- raise amid a suite of except: the exception at hand becomes the context of the new one -/
theorem raise_chained {cls : String} (F : ExcRaiseFacts cls) {e1 : Addr} {x : Sem Value} {Q : Flow → Shared → Prop} (hh : A.handled = some (.ref e1))
    (h : wpAny (model prog w) A x (fun v s₁ => ∃ e t, v = .ref e ∧ s₁.heap.get? e = some { cls := .type cls, data := .fields #[.ref t, .none, .none, .none, .bool false, .none] } ∧ e1 ≠ e ∧
      (∃ o1 vs1, s₁.heap.get? e1 = some o1 ∧ o1.data = .fields vs1 ∧ vs1[2]? = some .none) ∧ E (.ref e) { s₁ with heap := s₁.heap.update e (Obj.mapFields (·.setIfInBounds 2 (.ref e1))) }) E s) :
    wpAny (model prog w) A (raiseStmt env (some x) none) Q E s := by
  unfold raiseStmt
  refine wpAny_bind (wpAny_mono h (fun v s₁ h₁ => ?_) fun _ _ x => x)
  obtain ⟨e, t, rfl, he, hne, ⟨o1, vs1, ho1, hd1, h2⟩, hE⟩ := h₁
  obtain ⟨hp, g, d, tk, os⟩ := s₁
  have hsub := F.isExc
  have hmeta := F.plainMeta
  repeat (first | refine wpAny_loadPart he ?_ | wp_step)
  unfold raiseNew
  refine wpAny_bind (wpAny_handled ?_)
  rw [hh]
  dsimp only
  rw [if_pos (show (Value.ref e1 != Value.ref e) = true from by simp [hne])]
  refine wpAny_bind ?_
  refine wpAny_holding (wpAny_runValue (codeAny_builtin Fx.entry_unchain ?_))
  show wpAny _ _ (field (.ref e1) 2 >>= _) _ _ _
  refine wpAny_bind (wpAny_field ho1 hd1 h2 ?_)
  rw [if_pos (show (Value.none == Value.none) = true from rfl)]
  refine wpAny_pure ?_
  refine wpAny_bind (m := updateField e 2 (.ref e1)) ?_
  unfold updateField
  refine wpAny_bind (wpAny_load he ?_)
  dsimp only
  rw [if_pos (by simp)]
  exact wpAny_update he (wpAny_throw hE)
end
end Mine

end
section
open PySem PySem.W PyProof.Rows PySem.Calls
namespace Mine

section
variable {prog : Program} {w : World} {A : Around} {E : Value → Shared → Prop} {s : Shared} {env : Env}
theorem Raise_chainedB {cls newId initId : String} (FC : ExcCallFacts cls newId initId) (FR : ExcRaiseFacts cls) {x : Str} {np cpos pos : Pos} {t : Str} {k : Nat} {tp : Pos} {e1 : Addr} {Q : Flow → Shared → Prop} (hh : A.handled = some (.ref e1))
    (h : wpAny (model prog w) A (eval (.Name x np) env) (fun f s₁ => f = .type cls ∧
      ∀ h' e, Heap.MadeExc s₁.heap h' e cls [.str t s₁.toks] → e1 ≠ e ∧ (∃ o1 vs1, h'.get? e1 = some o1 ∧ o1.data = .fields vs1 ∧ vs1[2]? = some .none) ∧
        E (.ref e) { s₁ with heap := h'.update e (Obj.mapFields (·.setIfInBounds 2 (.ref e1))), toks := s₁.toks + 1 }) E s) :
    wpAny (model prog w) A (exec (.Raise (some (.Call (.Name x np) [.Constant (.str t) k tp] [] cpos)) none pos) env) Q E s := by
  have key : wpAny (model prog w) A (eval (.Call (.Name x np) [.Constant (.str t) k tp] [] cpos) env) (fun v s₁ => ∃ e t, v = .ref e ∧ s₁.heap.get? e = some { cls := .type cls, data := .fields #[.ref t, .none, .none, .none, .bool false, .none] } ∧ e1 ≠ e ∧
      (∃ o1 vs1, s₁.heap.get? e1 = some o1 ∧ o1.data = .fields vs1 ∧ vs1[2]? = some .none) ∧ E (.ref e) { s₁ with heap := s₁.heap.update e (Obj.mapFields (·.setIfInBounds 2 (.ref e1))) }) E s := by
    refine wpAny_Call_ofName (wpAny_mono h (fun f s₁ h₁ => ?_) fun _ _ x => x)
    obtain ⟨rfl, h₁⟩ := h₁
    refine callWith_excType rfl ?_
    have he : starEach [PySem.Expr.Constant (.str t) k tp] env = (false, eval (.Constant (.str t) k tp) env) :: starEach [] env := rfl
    have key2 : wpAny (model prog w) A (spliced (backTo cpos (starEach [PySem.Expr.Constant (.str t) k tp] env))) (fun vs s' => wpAny (model prog w) A (call (.type cls) ([] ++ vs) []) (fun v s₁ => ∃ e t, v = .ref e ∧ s₁.heap.get? e = some { cls := .type cls, data := .fields #[.ref t, .none, .none, .none, .bool false, .none] } ∧ e1 ≠ e ∧
      (∃ o1 vs1, s₁.heap.get? e1 = some o1 ∧ o1.data = .fields vs1 ∧ vs1[2]? = some .none) ∧ E (.ref e) { s₁ with heap := s₁.heap.update e (Obj.mapFields (·.setIfInBounds 2 (.ref e1))) }) E s') E s₁ := by
      refine spliced_more ?_
      refine Constant_str ?_
      refine spliced_none ?_
      obtain ⟨hp, g, d, tk, os⟩ := s₁
      dsimp only
      refine wpAny_call_exc FC (hrest := (by show 1 ≤ sizeLine; rw [sizeLine_eq]; omega)) fun h' e hm => ?_
      obtain ⟨t', ht, _, _⟩ := hm.there
      obtain ⟨q1, q2, q3⟩ := h₁ h' e hm
      exact ⟨e, t', rfl, ht, q1, q2, q3⟩
    rw [he] at key2 ⊢
    exact Calls.evalArgs_plain key2
  rw [arm_exec_Raise]
  first
    | exact wpAny_bind (wpAny_standAt (raise_chained FR hh (wpAny_bind (wpAny_mono key (fun v s₁ h₁ => wpAny_bind (wpAny_standAt (wpAny_pure h₁))) fun _ _ x => x))))
    | (simp only [evalOpt, Option.map]; exact wpAny_bind (wpAny_standAt (raise_chained FR hh (wpAny_bind (wpAny_mono key (fun v s₁ h₁ => wpAny_bind (wpAny_standAt (wpAny_pure h₁))) fun _ _ x => x)))))
    | (show wpAny _ A (do standAt pos; raiseStmt env (some (do let v ← eval (.Call (.Name x np) [.Constant (.str t) k tp] [] cpos) env; standAt pos; pure v)) none) Q E s; exact wpAny_bind (wpAny_standAt (raise_chained FR hh (wpAny_bind (wpAny_mono key (fun v s₁ h₁ => wpAny_bind (wpAny_standAt (wpAny_pure h₁))) fun _ _ x => x)))))
end

section
variable {M : Model} {A : Around} {E : Value → Shared → Prop} {s : Shared} {K : Frag} {base : Heap} {L a : Addr} {mg mb : Str → Option Value} {cn : Str} {cs : Scope} {ccd : Value} {cl : List (Str × Addr)} {p : Program} {loose : List Str} {x : Str} {pos : Pos} {v : Value} {Q : Value → Shared → Prop}
theorem name_b (keep : ∀ b o, base.get? b = some o → s.heap.get? b = some o) (X : K.In base) (T : TopRead p loose mg mb base) (e : nsIn K mainGlobals x = some none) (hv : bootBuiltins x = some v) (hn : x ≠ "__name__") (h : Q v s)
    (hk : cs.kind = .function) (hx : (envX cn cs L a ccd cl).kindOf x = some .globalImplicit) (hd : (x == ("__debug__" : Str)) = false) :
    wpAny M A (eval (.Name x pos) (envX cn cs L a ccd cl)) Q E s :=
  Name_function_global hk hx (loadGlobal_builtin (env := envX cn cs L a ccd cl) (T.g.keeps keep) (mg_none_of X T.g e) (T.b.keeps keep) ((T.builtins x hn).trans hv) h) hd
end
end Mine

end
section
open PySem PySem.W PyProof.Rows PySem.Calls
namespace Mine

section
variable {prog : Program} {w : World} {A : Around} {E : Value → Shared → Prop} {s : Shared} {K : Frag} {base : Heap} {L a e1 : Addr} {mg mb : Str → Option Value} {cn : Str} {cs : Scope} {ccd : Value} {cl : List (Str × Addr)} {outer : List Env} {p : Program} {loose : List Str}
  {np np2 tp cpos rpos hpos : Pos} {tx : Str} {kk : Nat} {Q : Flow → Shared → Prop}
theorem try_fails (hfr : A.frames = some (envX cn cs L a ccd cl :: outer)) (hl : s.heap.FunFrames base (envX cn cs L a ccd cl :: outer)) (hkb : ∀ b o, base.get? b = some o → s.heap.get? b = some o)
    (he : ∃ oe t, s.heap.get? e1 = some oe ∧ oe.cls = .type "IndexError" ∧ oe.data = .fields #[t, .none, .none, .none, .bool false, .none]) (hen : base.get? e1 = none)
    (X : K.In base) (T : TopRead p loose mg mb base) (eI : nsIn K mainGlobals "IndexError" = some none) (eV : nsIn K mainGlobals "ValueError" = some none)
    (hk : cs.kind = .function) (hxI : (envX cn cs L a ccd cl).kindOf "IndexError" = some .globalImplicit) (hxV : (envX cn cs L a ccd cl).kindOf "ValueError" = some .globalImplicit)
    (k : ∀ h' tk e2 oe vs a0, Noted base (envX cn cs L a ccd cl :: outer) e2 oe vs (rawInt L) h' → oe.cls = .type "ValueError" → vs[0]? = some a0 → base.get? e2 = none → s.heap.UpToSlots h' → E (.ref e2) { s with heap := h', toks := tk }) :
    wpAny (model prog w) A (noteFrame (.ref e1) (envX cn cs L a ccd cl)) (fun _ s₂ => wpAny (model prog w) A (setFlight (.ref e1) none) (fun _ s₃ =>
      wpAny (model prog w) A (handleBy (.ref e1) (envX cn cs L a ccd cl) [.ExceptHandler (some (.Name "IndexError" np)) none [.Raise (some (.Call (.Name "ValueError" np2) [.Constant (.str tx) kk tp] [] cpos)) none rpos] hpos]) Q E s₃) E s₂) E s := by
  obtain ⟨oe, t, he, hcls, hd⟩ := he
  refine note_new hfr hl rfl he hkb hen hd rfl fun h1 T1 N1 u1 => ?_
  refine set_flight N1 fun h2 N2 u2 => ?_
  have hcl2 : (oe.mapFields (·.setIfInBounds 1 (.ref T1))).cls = .type "IndexError" := (Obj.cls_mapFields _ _).trans hcls
  refine wpAny_handleBy_builtin (X := "IndexError") (T := "IndexError") (b := true) PySem.F.isExc_IndexError PySem.F.notTuple_IndexError (by rw [isSubtype_type]; kernel_rfl) ?_
  have keep2 : ∀ b o, base.get? b = some o → h2.get? b = some o := fun b o q => by
    obtain ⟨_, _, _, _, _, _, _, _, _, _, _, z, _⟩ := N2; exact z b o q
  refine name_b keep2 X T eI PyProof.Rows.Boot.«IndexError» (by decide) ⟨rfl, N2.typed hcl2, ?_⟩ hk hxI (by decide)
  rw [if_pos rfl]
  refine set_flight N2 fun h3 N3 u3 => ?_
  have N3' := N3
  obtain ⟨T3, oT3, ts3, he3, hd3, _, _, _, _, _, _, keep3, hl3⟩ := N3'
  refine wpAny_execs_cons (Raise_chainedB PySem.F.excCall_ValueError PySem.F.excRaise_ValueError rfl (name_b keep3 X T eV PyProof.Rows.Boot.«ValueError» (by decide) ⟨rfl, fun h4 e2 hm => ?_⟩ hk hxV (by decide)))
  have hne : e1 ≠ e2 := fun q => by have z := hm.new; rw [← q, he3] at z; cases z
  refine ⟨hne, ⟨_, _, hm.keeps _ _ he3, hd3, by simp⟩, ?_⟩
  obtain ⟨t2, ht2, _, _⟩ := hm.there
  have hen2 : base.get? e2 = none := by
    cases q : base.get? e2 with
    | none => rfl
    | some o => have z := hm.new; rw [keep3 _ _ q] at z; cases z
  have oth : ∀ b, b ≠ e2 → (h4.update e2 (Obj.mapFields (·.setIfInBounds 2 (.ref e1)))).get? b = h4.get? b := fun b hb => Heap.get?_update_other _ _ (Ne.symm hb)
  have hnf : ∀ b o, h3.get? b = some o → b ≠ e2 := fun b o q z => by have y := hm.new; rw [← z, q] at y; cases y
  have hd5 := Obj.data_mapFields (o := { cls := .type "ValueError", data := .fields #[.ref t2, .none, .none, .none, .bool false, .none] }) rfl (·.setIfInBounds 2 (Value.ref e1))
  have he5 := Heap.get?_update_self (Obj.mapFields (·.setIfInBounds 2 (Value.ref e1))) ht2 (Obj.isFreed_of_fields hd5)
  show notedBy _ _ _ _ _ _
  unfold notedBy
  refine note_new (base := base) (s := ⟨h4.update e2 (Obj.mapFields (·.setIfInBounds 2 (.ref e1))), _, _, _, _⟩) (L := L) hfr (hl3.of_keeps fun b o q _ => ⟨o, (oth b (hnf b o q)).trans (hm.keeps _ _ q), rfl⟩) rfl he5 (fun b o q => (oth b (hnf b o (keep3 b o q))).trans (hm.keeps _ _ (keep3 b o q))) hen2 hd5 rfl fun h6 T2 N6 u6 => ?_
  refine back_by rfl N6 fun h7 N7 u7 => ?_
  refine k h7 _ e2 _ _ (.ref t2) N7 (Obj.cls_mapFields _ _ |>.trans (Obj.cls_mapFields _ _)) (by simp) hen2 ?_
  refine ((u1.trans u2).trans u3).trans (Heap.UpToSlots.trans (fun b o q hnv => ⟨o.slots, ?_⟩) (u6.trans u7))
  exact (oth b (hnf b o q)).trans (hm.keeps _ _ q)
end
end Mine

end
section
open PySem PySem.W PyProof.Rows PySem.Calls
namespace Mine

/-- what a stretch of the generator's run leaves as it was -/
def Kept (L : Addr) (s s' : Shared) : Prop := (∀ b o, b ≠ L → s.heap.get? b = some o → s'.heap.get? b = some o) ∧ s'.gens = s.gens ∧ s'.drawn = s.drawn ∧ s'.os = s.os
/-- what the generator leans on between two stretches -/
def Stay (g₀ : Heap) (L cA : Addr) (s s' : Shared) : Prop := ∀ b o, (b = L ∨ b = cA ∨ ∃ o', g₀.get? b = some o') → s.heap.get? b = some o → s'.heap.get? b = some o
/-- data made behind the ground -/
def Made (g₀ : Heap) (L : Addr) (h : Heap) (TS : List (Addr × Obj)) : Prop := ∀ q ∈ TS, h.get? q.1 = some q.2 ∧ q.2.cls = .type "tuple" ∧ q.1 ≠ L ∧ g₀.get? q.1 = none
def ErrH (base : Heap) (L : Addr) (outer : List Env) (e : Addr) (h₀ h' : Heap) : Prop :=
  ∃ B a0, base.StaysIn B ∧ Heap.FlyingW B outer e (.type "ValueError") a0 h' ∧ (∀ b o, h₀.get? b = some o → b ≠ L → b ∉ outer.filterMap (·.frame) → B.get? b = some o) ∧
    ∀ b o, b ≠ L → h₀.get? b = some o → (∀ vs, o.data ≠ .fields vs) → ∃ sl, h'.get? b = some { o with slots := sl }

def Y0 (t : Str) (g₀ : Heap) (L cA : Addr) (N : Nat) : Protocol := fun n s₀ v s' kap => Kept L s₀ s' ∧
  (∀ ps, readS (sg t) start = some ps → ∃ p TS, ps[N - (n + 1)]? = some p ∧ DatIn TS v (partD p) ∧ Made g₀ L s'.heap TS) ∧
  ∀ s'', Stay g₀ L cA s' s'' → kap (.send .none) s''
def R0 (t : Str) (base : Heap) (L : Addr) (outer : List Env) (N : Nat) : GenEnd := fun n s₀ r s' =>
  (r = .ok (.ret .none) ∧ Kept L s₀ s' ∧ ∃ ps, readS (sg t) start = some ps ∧ ps.length = N - n) ∨
  ∃ e, r = .error (.ref e) ∧ readS (sg t) start = none ∧ s'.gens = s₀.gens ∧ s'.drawn = s₀.drawn ∧ s'.os = s₀.os ∧ ErrH base L outer e s₀.heap s'.heap

def GEq (gi : Nat) (a b : Array GenState) : Prop := b.size = a.size ∧ ∀ i, i ≠ gi → b[i]? = a[i]?
theorem GEq.set {gi : Nat} {a b : Array GenState} (h : GEq gi a b) (x : GenState) : GEq gi a (b.setIfInBounds gi x) := by
  refine ⟨by rw [Array.size_setIfInBounds]; exact h.1, fun i hi => ?_⟩
  rw [Array.getElem?_setIfInBounds_ne (Ne.symm hi)]
  exact h.2 i hi
theorem GEq.bare {gi : Nat} {a b : Array GenState} (h : GEq gi a b) (ha : AllBare a) : AllBare (b.setIfInBounds gi .finished) := by
  intro y hy
  obtain ⟨i, hi, rfl⟩ := Array.mem_iff_getElem.mp hy
  have e := Array.getElem?_eq_getElem hi
  by_cases hg : i = gi
  · subst hg
    rw [Array.getElem?_setIfInBounds] at e
    rw [if_pos rfl] at e
    split at e
    · rw [← Option.some.inj e]; rfl
    · cases e
  · rw [Array.getElem?_setIfInBounds_ne (Ne.symm hg), h.2 i hg] at e
    exact ha _ (Array.mem_of_getElem? e)

theorem Stay.trans {g₀ : Heap} {L cA : Addr} {s s' s'' : Shared} (x : Stay g₀ L cA s s') (y : Stay g₀ L cA s' s'') : Stay g₀ L cA s s'' := fun b o h e => y b o h (x b o h e)
theorem Kept.trans {L : Addr} {s s' s'' : Shared} (x : Kept L s s') (y : Kept L s' s'') : Kept L s s'' :=
  ⟨fun b o h e => y.1 b o h (x.1 b o h e), y.2.1.trans x.2.1, y.2.2.1.trans x.2.2.1, y.2.2.2.trans x.2.2.2⟩

section
variable {prog : Program} {w : World} {A : Around} {E : Value → Shared → Prop} {s : Shared} {t : Str} {base g₀ : Heap} {L I cA : Addr} {gi N : Nat} {outer : List Env} {body : List Stmt} {env : Env}

/-- what holds between two items: T is the state at the call of tuple, S the list that is filled -/
structure StG (prog : Program) (w : World) (A : Around) (t : Str) (base g₀ : Heap) (L I cA : Addr) (gi N : Nat) (outer : List Env) (T : Shared) (S : Addr) (n : Nat) (acc : Array Value) (s : Shared) : Prop where
  go : ∃ gs, s.gens[gi]? = some gs ∧ gs.Goes (model prog w) A.in1.in1.in1.in1 (R0 t base L outer N) (Y0 t g₀ L cA N) n (.send .none) (s.setGen gi .running)
  list : ∃ c, s.heap.get? S = some (lstObj acc c)
  num : acc.size + n = N
  keep : ∀ b o, b ≠ L → T.heap.get? b = some o → s.heap.get? b = some o
  gens : GEq gi T.gens s.gens
  drawn : s.drawn = T.drawn
  os : s.os = T.os
  got : ∀ ps, readS (sg t) start = some ps → ∃ TS, DatAll TS acc.toList ((ps.take acc.size).map partD) ∧ Made g₀ L s.heap TS

structure FnG (t : Str) (g₀ : Heap) (L I : Addr) (gi N : Nat) (T : Shared) (S : Addr) (acc : Array Value) (s : Shared) : Prop where
  list : ∃ c, s.heap.get? S = some (lstObj acc c)
  size : acc.size ≤ N
  keep : ∀ b o, b ≠ L → T.heap.get? b = some o → s.heap.get? b = some o
  gens : GEq gi T.gens s.gens
  fin : s.gens[gi]? = some .finished
  drawn : s.drawn = T.drawn
  os : s.os = T.os
  got : ∃ ps, readS (sg t) start = some ps ∧ ∃ TS, DatAll TS acc.toList (ps.map partD) ∧ Made g₀ L s.heap TS

structure ErG (t : Str) (base : Heap) (L : Addr) (gi : Nat) (outer : List Env) (T : Shared) (e : Value) (s : Shared) : Prop where
  none : readS (sg t) start = none
  gens : GEq gi T.gens s.gens
  fin : s.gens[gi]? = some .finished
  drawn : s.drawn = T.drawn
  os : s.os = T.os
  err : ∃ a, e = .ref a ∧ ErrH base L outer a T.heap s.heap

theorem Made.keep {h h' : Heap} {TS : List (Addr × Obj)} (m : Made g₀ L h TS) (k : ∀ b o, b ≠ L → o.cls = .type "tuple" → h.get? b = some o → h'.get? b = some o) : Made g₀ L h' TS :=
  fun q hq => ⟨k _ _ (m q hq).2.2.1 (m q hq).2.1 (m q hq).1, (m q hq).2⟩

theorem isSub_stop : isSubtype (.type "ValueError") (.type "StopIteration") = pure false := by rw [isSubtype_type]; kernel_rfl

theorem walkG {T : Shared} {S : Addr} (hh : A.handled = none) (hroom : A.depth + 8 < recursionLimit) (hlim : T.heap.NoLimit) (hI : T.heap.IsGen I gi) (hIL : I ≠ L) (hIo : I ∉ outer.filterMap (·.frame))
    (hS : T.heap.get? S = none) (hSL : S ≠ L) (hg : ∀ b o, g₀.get? b = some o → b ≠ S) (hc : cA ≠ S) (hN : N ≤ sizeLine) (hlimL : ∀ h' : Heap, (∀ b o, b ≠ L → T.heap.get? b = some o → h'.get? b = some o) → h'.NoLimit) :
    WalkR prog w A.in1.in1.in1 I S (fun n acc s => StG prog w A t base g₀ L I cA gi N outer T S n acc s) (fun acc s => FnG t g₀ L I gi N T S acc s) (fun e s => ErG t base L gi outer T e s) where
  list := fun acc s h => h.list
  size := fun acc s h => Nat.le_trans h.size hN
  item := fun n acc s Q E st hY hF hE => by
    obtain ⟨gs, hgs, hgo⟩ := st.go
    obtain ⟨o, nm, qn, hIo', r⟩ := hI
    have hIs : s.heap.IsGen I gi := ⟨o, nm, qn, st.keep _ _ hIL hIo', r⟩
    refine pyNext_genR (Rr := R0 t base L outer N) (Y := Y0 t g₀ L cA N) (n := n) hh (hlimL _ st.keep) (by show A.depth < recursionLimit; omega) hIs hgs hgo (fun v s₁ gs' hy => ?_) fun x s₁ hr => ?_
    · obtain ⟨⟨k1, k2, k3, k4⟩, hp, hk⟩ := hy
      cases n with
      | zero => exact (hk s₁ fun _ _ _ e => e).elim
      | succ m =>
        obtain ⟨c, hl⟩ := st.list
        have hl1 : s₁.heap.get? S = some (lstObj acc c) := k1 _ _ hSL hl
        refine hY m v (s₁.setGen gi gs') rfl ⟨c, hl1⟩ ?_ ?_
        · have := st.num; omega
        · have hup := Heap.get?_update_self (Obj.mapSeq (·.push v)) hl1 rfl
          have oth : ∀ b, b ≠ S → (s₁.heap.update S (Obj.mapSeq (·.push v))).get? b = s₁.heap.get? b := fun b hb => Heap.get?_update_other _ _ (Ne.symm hb)
          have hgi : gi < s₁.gens.size := by
            rw [k2]
            show gi < (s.gens.setIfInBounds gi .running).size
            rw [Array.size_setIfInBounds]
            exact (Array.getElem?_eq_some_iff.mp hgs).1
          refine ⟨⟨gs', ?_, ?_⟩, ⟨_, hup⟩, ?_, ?_, ?_, ?_, ?_, ?_⟩
          · show (s₁.gens.setIfInBounds gi gs')[gi]? = _
            rw [Array.getElem?_setIfInBounds_self_of_lt hgi]
          · refine hk _ fun b o hb e => ?_
            show (s₁.heap.update S (Obj.mapSeq (·.push v))).get? b = some o
            rw [oth b ?_]; exact e
            rintro rfl
            rcases hb with hb | hb | ⟨o', hb⟩
            · exact hSL hb
            · exact hc hb.symm
            · exact hg _ _ hb rfl
          · rw [Array.size_push]; have := st.num; omega
          · intro b o hb e
            show (s₁.heap.update S (Obj.mapSeq (·.push v))).get? b = some o
            rw [oth b (by rintro rfl; rw [hS] at e; cases e)]
            exact k1 _ _ hb (st.keep _ _ hb e)
          · show GEq gi T.gens (s₁.gens.setIfInBounds gi gs')
            refine GEq.set ?_ _
            rw [k2]; exact st.gens.set _
          · exact k3.trans st.drawn
          · exact k4.trans st.os
          · intro ps hps
            obtain ⟨TS, d1, d2⟩ := st.got ps hps
            obtain ⟨p, TS', e1, e2, e3⟩ := hp ps hps
            have hsz : N - (m + 1 - 1 + 1) = acc.size := by have := st.num; omega
            rw [hsz] at e1
            have hne : ∀ b o, o.cls = Value.type "tuple" → s₁.heap.get? b = some o → b ≠ S := fun b o h1 h2 q => by
              rw [q, hl1] at h2; rw [← Option.some.inj h2] at h1; exact absurd (Value.type.inj h1) (by decide)
            have m1 : Made g₀ L (s₁.heap.update S (Obj.mapSeq (·.push v))) TS := (d2.keep fun b o h1 _ h3 => k1 b o h1 h3).keep fun b o _ h2 h3 => by rw [oth b (hne b o h2 h3)]; exact h3
            have m2 : Made g₀ L (s₁.heap.update S (Obj.mapSeq (·.push v))) TS' := e3.keep fun b o _ h2 h3 => by rw [oth b (hne b o h2 h3)]; exact h3
            refine ⟨TS ++ TS', ?_, fun q hq => (List.mem_append.mp hq).elim (m1 q) (m2 q)⟩
            have et : (ps.take (acc.push v).size).map partD = (ps.take acc.size).map partD ++ [partD p] := by
              rw [Array.size_push, List.take_add_one, e1]
              simp
            rw [et, Array.toList_push]
            exact DatAll.append (DatAll.mono (fun q hq => List.mem_append_left _ hq) d1) (.one (DatIn.mono (fun q hq => List.mem_append_right _ hq) e2))
    · rcases hr with ⟨rfl, ⟨k1, k2, k3, k4⟩, ps, hps, hlen⟩ | ⟨e, rfl, hn, k2, k3, k4, herr⟩
      · refine .inl ⟨rfl, fun h' hk => hF _ ?_⟩
        obtain ⟨c, hl⟩ := st.list
        have hgi : gi < s₁.gens.size := by
          rw [k2]
          show gi < (s.gens.setIfInBounds gi .running).size
          rw [Array.size_setIfInBounds]
          exact (Array.getElem?_eq_some_iff.mp hgs).1
        refine ⟨⟨c, hk _ _ (k1 _ _ hSL hl)⟩, by have := st.num; omega, fun b o hb e => hk _ _ (k1 _ _ hb (st.keep _ _ hb e)), ?_, ?_, k3.trans st.drawn, k4.trans st.os, ps, hps, ?_⟩
        · show GEq gi T.gens (s₁.gens.setIfInBounds gi .finished)
          refine GEq.set ?_ _
          rw [k2]; exact st.gens.set _
        · show (s₁.gens.setIfInBounds gi .finished)[gi]? = _
          rw [Array.getElem?_setIfInBounds_self_of_lt hgi]
        · obtain ⟨TS, d1, d2⟩ := st.got ps hps
          refine ⟨TS, ?_, d2.keep fun b o h1 _ h3 => hk _ _ (k1 b o h1 h3)⟩
          rw [List.take_of_length_le (by have := st.num; omega)] at d1
          exact d1
      · obtain ⟨B, a0, b1, b2, b3, b4⟩ := herr
        obtain ⟨ob, hob, hcls⟩ := b2.there
        have hgi : gi < s₁.gens.size := by
          rw [k2]
          show gi < (s.gens.setIfInBounds gi .running).size
          rw [Array.size_setIfInBounds]
          exact (Array.getElem?_eq_some_iff.mp hgs).1
        refine .inr ⟨e, "ValueError", rfl, ⟨o, nm, qn, b2.1 _ _ (b3 _ _ (st.keep _ _ hIL hIo') hIL hIo), r⟩, ⟨ob, hob, hcls⟩, isSub_stop, hE _ _ ?_⟩
        refine ⟨hn, ?_, ?_, k3.trans st.drawn, k4.trans st.os, e, rfl, B, a0, b1, b2, fun b o h1 h2 h3 => b3 b o (st.keep b o h2 h1) h2 h3, fun b o h1 h2 h3 => b4 b o h1 (st.keep b o h1 h2) h3⟩
        · show GEq gi T.gens (s₁.gens.setIfInBounds gi .finished)
          refine GEq.set ?_ _
          rw [k2]; exact st.gens.set _
        · show (s₁.gens.setIfInBounds gi .finished)[gi]? = _
          rw [Array.getElem?_setIfInBounds_self_of_lt hgi]

theorem tuple_gen {Q : Value → Shared → Prop} (_BG : Below A base outer g₀) (_hcn : g₀.get? cA = none) (hh : A.handled = none) (hroom : A.depth + 8 < recursionLimit) (hlim : s.heap.NoLimit) (hI : s.heap.IsGen I gi) (hIL : I ≠ L) (hIo : I ∉ outer.filterMap (·.frame))
    (hL : L < s.heap.objs.size) (hg : ∀ b o, g₀.get? b = some o → s.heap.get? b = some o) (hcA : cA < s.heap.objs.size) (hN : N ≤ sizeLine) (hlimL : ∀ h' : Heap, (∀ b o, b ≠ L → s.heap.get? b = some o → h'.get? b = some o) → h'.NoLimit)
    (hf : s.gens[gi]? = some (.fresh (.func body env)))
    (hseg : ∀ s₁, Stay g₀ L cA s s₁ → Seg (model prog w) A.in1.in1.in1.in1 (R0 t base L outer N) (Y0 t g₀ L cA N) N s₁ (.func body env) ((model prog w).den (.func body env)) [] s₁)
    (hQ : ∀ ps acc TS h' gens' tk, readS (sg t) start = some ps → DatAll TS acc (ps.map partD) → Made g₀ L h' TS → (∀ b o, b ≠ L → s.heap.get? b = some o → h'.get? b = some o) → GEq gi s.gens gens' → gens'[gi]? = some .finished → acc.length ≤ N →
      Q (.ref h'.objs.size) { heap := h'.push { cls := .type "tuple", data := .seq acc.toArray }, gens := gens', drawn := s.drawn, toks := tk, os := s.os })
    (hE : ∀ e h' gens' tk, readS (sg t) start = none → ErrH base L outer e s.heap h' → GEq gi s.gens gens' → gens'[gi]? = some .finished → E (.ref e) { heap := h', gens := gens', drawn := s.drawn, toks := tk, os := s.os }) :
    wpAny (model prog w) A (call (.type "tuple") [.ref I]) Q E s := by
  refine call_tuple_genR (n := N) hI (walkG (T := s) (cA := cA) (t := t) (base := base) hh hroom hlim hI hIL hIo (Heap.get?_none_of_le (Nat.le_refl _)) (Nat.ne_of_gt hL) (fun b o e => Nat.ne_of_lt (Heap.lt_size (hg b o e))) (Nat.ne_of_lt hcA) hN hlimL) (fun h' hk hl => ?_) (fun s' acc hf' => ?_) fun e s' he => ?_
  · refine ⟨⟨_, hf, rfl, hseg _ fun b o _ e => hk b o e⟩, hl, by simp, fun b o _ e => hk b o e, ⟨rfl, fun _ _ => rfl⟩, rfl, rfl, fun ps _ => ⟨[], by simpa using DatAll.nil, fun _ h => nomatch h⟩⟩
  · obtain ⟨_, sz, kp, ge, gf, dr, os, ps, hps, TS, d1, d2⟩ := hf'
    have := hQ ps acc.toList TS s'.heap s'.gens s'.toks hps d1 d2 kp ge gf (by simpa using sz)
    obtain ⟨hp, g, d, tk, os'⟩ := s'
    simp only at dr os
    subst dr os
    rw [Array.toArray_toList] at this
    exact this
  · obtain ⟨hn, ge, gf, dr, os, a, rfl, herr⟩ := he
    have := hE a s'.heap s'.gens s'.toks hn herr ge gf
    obtain ⟨hp, g, d, tk, os'⟩ := s'
    simp only at dr os
    subst dr os
    exact this
end
end Mine

end
section
open PySem PySem.W PyProof.Rows PySem.Calls
namespace Mine
/-- the place of the first c; the length where there is none -/
def idx (l : List Nat) (c : Nat) : Nat := (l.takeWhile (fun d => d != c)).length
theorem idx_spec {c : Nat} : ∀ {l : List Nat} {i : Nat}, l[i]? = some c → (∀ k, k < i → l[k]? ≠ some c) → idx l c = i := by
  intro l
  induction l with
  | nil => intro i h; simp at h
  | cons d l ih =>
    intro i h hk
    cases i with
    | zero =>
      simp at h; subst h
      simp [idx]
    | succ i =>
      have hd : d ≠ c := fun e => hk 0 (Nat.succ_pos _) (by simp [e])
      have := ih (i := i) (by simpa using h) fun k hki => by
        have := hk (k + 1) (by omega)
        simpa using this
      unfold idx at this ⊢
      rw [List.takeWhile_cons_of_pos (by simpa using hd), List.length_cons, this]
theorem at_one {l : List Nat} {c i : Nat} : StrLaws.At (mk l) (one c) (mk l).length i ↔ l[i]? = some c := by
  have e1 : (one c).length = 1 := rfl
  constructor
  · rintro ⟨h1, h2⟩
    rw [e1, len_mk] at h1
    unfold Builtin.Str.subAt at h2
    rw [e1, beq_iff_eq] at h2
    have h3 := congrArg (·[0]?) h2
    simp [mk, one, Array.getElem?_extract] at h3
    rw [List.getElem?_eq_getElem (by omega)] at h3 ⊢
    simpa using h3
  · intro h
    have hi := (List.getElem?_eq_some_iff.mp h).1
    refine ⟨by rw [e1, len_mk]; omega, ?_⟩
    unfold Builtin.Str.subAt
    rw [e1, beq_iff_eq]
    refine Array.ext (by simp [mk, one]; omega) fun j h1 h2 => ?_
    have hj : j = 0 := by simp [one] at h2; omega
    subst hj
    have h3 := (List.getElem?_eq_some_iff.mp h).2
    simp [mk, one, h3]
theorem occ_idx {l : List Nat} {c : Nat} (h : c ∈ l) : ∃ r, Builtin.Str.occurrences (mk l) (one c) 0 (mk l).length 1 = idx l c :: r := by
  rcases StrLaws.occ_head (mk l) (one c) 1 (Nat.le_refl _) with ⟨_, hn⟩ | ⟨i, r, e, ha, hk⟩
  · obtain ⟨i, hi⟩ := List.mem_iff_getElem?.mp h
    exact absurd (at_one.mpr hi) (hn i)
  · rw [e, idx_spec (at_one.mp ha) fun k hki q => hk k hki (at_one.mpr q)]
    exact ⟨r, rfl⟩
theorem find_one (l : List Nat) (c : Nat) : Txt.find (mk l) (one c) = if c ∈ l then (idx l c : Int) else -1 := by
  unfold Txt.find
  by_cases h : c ∈ l
  · obtain ⟨r, e⟩ := occ_idx h
    rw [e, if_pos h]
  · rw [if_neg h]
    rcases StrLaws.occ_head (mk l) (one c) 1 (Nat.le_refl _) with ⟨e, _⟩ | ⟨i, r, e, ha, _⟩
    · rw [e]
    · exact absurd (List.mem_of_getElem? (at_one.mp ha)) h
theorem idx_lt {l : List Nat} {c : Nat} (h : c ∈ l) : idx l c < l.length ∧ l[idx l c]? = some c ∧ c ∉ l.take (idx l c) := by
  induction l with
  | nil => cases h
  | cons d l ih =>
    by_cases hd : d = c
    · subst hd; simp [idx]
    · have hm : c ∈ l := by rcases List.mem_cons.mp h with e | e; exact absurd e.symm hd; exact e
      obtain ⟨h1, h2, h3⟩ := ih hm
      have e : idx (d :: l) c = idx l c + 1 := by
        unfold idx
        rw [List.takeWhile_cons_of_pos (by simpa using hd), List.length_cons]
      rw [e]
      refine ⟨by simp; omega, by simpa using h2, ?_⟩
      rw [List.take_succ_cons, List.mem_cons, not_or]
      exact ⟨fun q => hd q.symm, h3⟩

section
variable {prog : Program} {w : World} {A : Around} {E Q : Value → Shared → Prop} {s : Shared} {l : List Nat} {c : Nat} {t u : Tok} {y : Str}
theorem notin_one (e : y = one c) (h : Q (.bool (decide (c ∉ l))) s) : wpAny (model prog w) A (compareOp .NotIn (.str y u) (.str (mk l) t)) Q E s := by
  subst e
  refine SB.notContains ?_
  unfold Txt.contains
  have := occ_one (mk l) c
  rw [show (one c) = ⟨#[c]⟩ from rfl, this, Bool.not_not, sg_mk, ← decide_not]
  exact h
theorem eq_mk {r : List Nat} (e : y = mk r) (h : Q (.bool (decide (l = r))) s) : wpAny (model prog w) A (compareOp .Eq (.str (mk l) t) (.str y u)) Q E s := by
  subst e
  refine eq_str ?_
  have e2 : (mk l == mk r) = decide (l = r) := by
    by_cases h : l = r
    · subst h; simp
    · have : mk l ≠ mk r := fun q => h (mk_inj q)
      simp [h, this]
  rw [e2]; exact h
theorem index_one (e : y = one c) (hm : c ∈ l) (h : Q (.int (idx l c : Nat) s.toks) { s with toks := s.toks + 1 }) : wpAny (model prog w) A (call (.builtin "str.index") [.str (mk l) t, .str y u]) Q E s := by
  subst e
  obtain ⟨r, e⟩ := occ_idx hm
  exact SC.index e h
theorem find_mk (e : y = one c) (h : Q (.int (if c ∈ l then (idx l c : Int) else -1) s.toks) { s with toks := s.toks + 1 }) : wpAny (model prog w) A (call (.builtin "str.find") [.str (mk l) t, .str y u]) Q E s := by
  subst e
  refine SC.find ?_
  rw [find_one]; exact h
end
end Mine

end
section
open PySem PySem.W PyProof.Rows PySem.Calls
namespace Mine

theorem take_split {l : List Nat} {c : Nat} (h : c ∈ l) : l = l.take (idx l c) ++ c :: l.drop (idx l c + 1) := by
  obtain ⟨h1, h2, _⟩ := idx_lt h
  conv => lhs; rw [← List.take_append_drop (idx l c) l]
  rw [List.drop_eq_getElem_cons h1]
  rw [List.getElem?_eq_getElem h1] at h2
  rw [Option.some.inj h2]

theorem rd_skip {t : List Nat} {i : Nat} {σ : RS} (h0 : σ.stage = 0) (h : 37 ∈ t.drop i) :
    readS (t.drop i) σ = readS (t.drop (i + idx (t.drop i) 37 + 1)) ⟨1, σ.plain ++ (t.drop i).take (idx (t.drop i) 37), none, [], [], [], σ.parts⟩ := by
  conv => lhs; rw [take_split h]
  rw [rd_text (idx_lt h).2.2 h0, List.drop_drop]
  rfl

theorem name_yes {r : List Nat} (h1 : 41 ∈ r) (h2 : 40 ∉ r.take (idx r 41)) : named r = true ∧ ahead r = idx r 41 := by
  obtain ⟨a1, a2, a3⟩ := idx_lt h1
  have e : ahead r = idx r 41 := by
    conv => lhs; rw [take_split h1]
    rw [ahead_app fun c hc => ?_]
    · rw [List.length_take]; omega
    · simp only [isBrk, Bool.or_eq_false_iff, beq_eq_false_iff_ne]
      exact ⟨fun q => h2 (q ▸ hc), fun q => a3 (q ▸ hc)⟩
  refine ⟨?_, e⟩
  unfold named
  rw [e, a2]; simp
theorem name_no {r : List Nat} (h : named r = true) : 41 ∈ r ∧ 40 ∉ r.take (idx r 41) := by
  unfold named at h
  rw [beq_iff_eq] at h
  have hk : ∀ k, k < ahead r → ∀ c, r[k]? = some c → isBrk c = false := fun k hk c hc => by
    refine brk_ahead (r := r) c (List.mem_iff_getElem?.mpr ⟨k, ?_⟩)
    rw [List.getElem?_take_of_lt hk]; exact hc
  have e : idx r 41 = ahead r := idx_spec h fun k hki q => by
    have := hk k hki 41 q
    simp [isBrk] at this
  refine ⟨List.mem_of_getElem? h, fun hm => ?_⟩
  rw [e] at hm
  have := brk_ahead (r := r) 40 hm
  simp [isBrk] at this

theorem past_of {t g : List Nat} {p : Nat → Bool} (i : Nat) (h : ∀ c, decide (c ∈ g) = p c) : past t g i = i + ((t.drop i).takeWhile p).length := by
  unfold past
  rw [show (fun c => decide (c ∈ g)) = p from funext h]
theorem take_while {p : Nat → Bool} (q : List Nat) : q.take (q.takeWhile p).length = q.takeWhile p := by
  conv => lhs; arg 2; rw [← List.takeWhile_append_dropWhile (p := p) (l := q)]
  exact List.take_left

theorem take_one {q : List Nat} {c : Nat} : q.take 1 = [c] ↔ ∃ r, q = c :: r := by
  cases q with
  | nil => simp
  | cons d r => simp [eq_comm]
theorem width_star {q : List Nat} (h : q.take 1 = [42]) : widthOf q = [42] := by
  obtain ⟨r, rfl⟩ := take_one.mp h
  simp [widthOf]
theorem width_dig {q : List Nat} (h : ¬ q.take 1 = [42]) : widthOf q = q.takeWhile isDig := by
  cases q with
  | nil => rfl
  | cons c r =>
    have : ¬ c = 42 := fun e => h (by simp [e])
    simp only [widthOf, if_neg this]
theorem prec_none {q : List Nat} (h : ¬ q.take 1 = [46]) : precOf q = [] := by
  cases q with
  | nil => rfl
  | cons c r =>
    have : ¬ c = 46 := fun e => h (by simp [e])
    simp only [precOf, if_neg this]
theorem prec_star {t : List Nat} {i : Nat} (h : (t.drop i).take 1 = [46]) (h2 : (t.drop (i + 1)).take 1 = [42]) : precOf (t.drop i) = [46, 42] := by
  obtain ⟨r, e⟩ := take_one.mp h
  have e2 : t.drop (i + 1) = r := by rw [← List.drop_drop, e]; rfl
  rw [e2] at h2
  obtain ⟨r', rfl⟩ := take_one.mp h2
  rw [e]; simp [precOf]
theorem prec_dig {t : List Nat} {i : Nat} (h : (t.drop i).take 1 = [46]) (h2 : ¬ (t.drop (i + 1)).take 1 = [42]) : precOf (t.drop i) = 46 :: (t.drop (i + 1)).takeWhile isDig := by
  obtain ⟨r, e⟩ := take_one.mp h
  have e2 : t.drop (i + 1) = r := by rw [← List.drop_drop, e]; rfl
  rw [e2] at h2 ⊢
  rw [e]
  cases r with
  | nil => rfl
  | cons d r =>
    have : ¬ d = 42 := fun q => h2 (by simp [q])
    simp only [precOf, if_pos, if_neg this]
theorem size_of {q : List Nat} : sizeOf q = if q.take 1 = [104] ∨ q.take 1 = [108] ∨ q.take 1 = [76] then 1 else 0 := by
  cases q with
  | nil => rfl
  | cons c r => simp [sizeOf, isSize, or_assoc]

theorem cut_pos {t fl wd pr : List Nat} {i sz : Nat} (hfl : (t.drop i).takeWhile isFlag = fl) (hwd : widthOf (t.drop (i + fl.length)) = wd) (hpr : precOf (t.drop (i + fl.length + wd.length)) = pr)
    (hsz : sizeOf (t.drop (i + fl.length + wd.length + pr.length)) = sz) : cutOf (t.drop i) = ⟨fl, wd, pr, sz, t.drop (i + fl.length + wd.length + pr.length + sz)⟩ := by
  subst hfl
  simp only [cutOf, List.drop_drop]
  rw [hwd, hpr, hsz]

/-- a placeholder from behind its name, by places -/
theorem rd_place {t fl wd pr : List Nat} {i sz : Nat} {σ : RS} (h2 : σ.stage = 2) (hf : σ.flags = []) (hw : σ.width = []) (hp : σ.prec = [])
    (hfl : (t.drop i).takeWhile isFlag = fl) (hwd : widthOf (t.drop (i + fl.length)) = wd) (hpr : precOf (t.drop (i + fl.length + wd.length)) = pr) (hsz : sizeOf (t.drop (i + fl.length + wd.length + pr.length)) = sz) :
    readS (t.drop i) σ = convS (t.drop (i + fl.length + wd.length + pr.length + sz)) ⟨2, σ.plain, σ.name, fl, wd, pr, σ.parts⟩ := by
  rw [rd_field h2 hf hw hp, cut_pos hfl hwd hpr hsz]
end Mine

end
section
open PySem PySem.W PyProof.Rows PySem.Calls
namespace Mine

/-- the table of the nested code: empty, or with the one entry -/
def TabOk (pos : Pos) (qual : Str) (ps : Array Value) (rest : List (Addr × Obj)) : Prop :=
  ps = #[] ∨ ∃ c' oc vs t, ps = #[rawInt pos.line, rawInt pos.col, .ref c'] ∧ (c', oc) ∈ rest ∧ oc.data = .fields vs ∧ vs[1]? = some (.str qual t)

section
variable {M : Model} {A : Around} {E : Value → Shared → Prop} {s : Shared} {h₀ : Heap} {L a c P : Addr} {m mg mb : Str → Option Value} {cn : Str} {cs : Scope} {ccd : Value} {cl : List (Str × Addr)} {p : Program} {loose : List Str} {mean : ExcName → Option Value}
  {name qual : Str} {params : Arguments} {body : List Stmt} {scope : Scope} {pos : Pos} {firstLine : Nat} {ps : Array Value} {clos : List (Str × Addr)} {cell : Addr × Obj} {rest : List (Addr × Obj)} {Q : Value → Shared → Prop}
theorem nest_any (F : Fr h₀ L s.heap m) (N : News h₀ L s.heap (cell :: (P, tabObj ps) :: rest)) (T : Top p loose mean mg mb h₀) (C : CodeHd h₀ c P) (hcd : ccd = .ref c) (hc : cell.1 ≠ P) (hr : ∀ q ∈ rest, q.1 ≠ P) (ht : TabOk pos qual ps rest)
    (hcl : closureFor scope (envX cn cs L a ccd cl) = pure clos)
    (h : ∀ f c' oc vs t ctv doc h' tk, Fr h₀ L h' m →
      News h₀ L h' ((f, fnMade name qual params body scope clos doc ((mg "__name__").getD .none) c' ctv) :: (c', oc) :: cell :: (P, tabObj #[rawInt pos.line, rawInt pos.col, .ref c']) :: rest) →
      oc.data = .fields vs → vs[1]? = some (.str qual t) → (∀ q ∈ rest, q.1 < f) → c' ≠ P → Q (.ref f) { s with heap := h', toks := tk }) :
    wpAny M A (makeFunction name qual params (.stmts body) scope (envX cn cs L a ccd cl) [] [] [] pos firstLine) Q E s := by
  rcases ht with rfl | ⟨c', oc, vs, t, rfl, hm, hd, hv⟩
  · refine nest_K F N T C hcd (UpdF.tail hc (UpdF.head hr)) (by exact True.intro) (by rfl) hcl fun f c' oc vs t ctv doc h' tk F' N' d1 d2 l1 l2 => ?_
    refine h f c' oc vs t ctv doc h' tk F' N' d1 d2 (fun q hq => Nat.lt_trans (l1 q (.tail _ (.tail _ hq))) l2) (Nat.ne_of_gt (l1 (P, tabObj #[]) (.tail _ (.head _))))
  · refine nestHit_K (c' := c') F N T C hcd (.tail _ (.head _)) (by exact True.intro) (by simp [codeAmong, rawInt]) hcl fun f ctv doc h' tk F' N' l1 => ?_
    refine h f c' oc vs t ctv doc h' tk F' (fun q hq => ?_) hd hv (fun q hq => l1 q (.tail _ (.tail _ hq))) (hr _ hm)
    simp only [List.mem_cons] at hq
    rcases hq with rfl | rfl | rfl | rfl | hq
    · exact N' _ (.head _)
    · exact N' _ (.tail _ (.tail _ (.tail _ hm)))
    · exact N' _ (.tail _ (.head _))
    · exact N' _ (.tail _ (.tail _ (.head _)))
    · exact N' _ (.tail _ (.tail _ (.tail _ hq)))
end
end Mine

end
section
open PySem PySem.W PyProof.Rows PySem.Calls
namespace Mine
/-- the ground under a call: the heap without what the caller has made -/
theorem ground2 {A₀ A : Around} {base h₀ h : Heap} {outer : List Env} {L : Addr} {m : Str → Option Value} {env : Env} {news : List (Addr × Obj)} (s : Shared)
    (B : Below A₀ base outer h₀) (F : Fr h₀ L h m) (N : News h₀ L h news) (hA : A.frames = some (env :: outer)) (hf : env.frame = some L) (hke : env.scope.kind = .function) :
    ∃ g₀, Fr h₀ L g₀ m ∧ Below A base (env :: outer) g₀ ∧ h₀.StaysIn g₀ ∧ (∀ b o, g₀.get? b = some o → h.get? b = some o) ∧ g₀.objs.size = h.objs.size ∧ ∀ p ∈ news, g₀.get? p.1 = none := by
  obtain ⟨x1, x2, x3, _⟩ := groundX (s := { s with heap := h }) (R := fun _ _ => True) B F N hA hf hke
  exact ⟨_, x1, x2, x3, fun b o e => of_hideAll _ e, hideAll_size _ _, fun p hp => hideAll_none _ (List.mem_map_of_mem hp)⟩
end Mine

end
section
open PySem PySem.W PyProof.Rows PySem.Calls
namespace Mine

theorem ne_of_get {h : Heap} {b c : Addr} {o : Obj} (h1 : h.get? b = some o) (h2 : h.get? c = none) : b ≠ c := by
  rintro rfl; rw [h2] at h1; cases h1

/-- all that a heap holds beside the ground and the frame -/
def allN (g₀ : Heap) (L : Addr) (h : Heap) : List (Addr × Obj) :=
  (List.range h.objs.size).filterMap fun b => if b = L then none else match g₀.get? b with | some _ => none | none => (h.get? b).map fun o => (b, o)
theorem mem_allN {g₀ h : Heap} {L : Addr} {b : Addr} {o : Obj} (hb : b ≠ L) (hg : g₀.get? b = none) (ho : h.get? b = some o) : (b, o) ∈ allN g₀ L h := by
  unfold allN
  refine List.mem_filterMap.mpr ⟨b, List.mem_range.mpr (Heap.lt_size ho), ?_⟩
  rw [if_neg hb, hg, ho]; rfl
theorem of_allN {g₀ h : Heap} {L : Addr} : News g₀ L h (allN g₀ L h) := by
  intro p hp
  obtain ⟨b, _, e⟩ := List.mem_filterMap.mp hp
  by_cases hb : b = L
  · rw [if_pos hb] at e; cases e
  · rw [if_neg hb] at e
    cases hg : g₀.get? b with
    | some o => rw [hg] at e; cases e
    | none =>
      rw [hg] at e
      simp only [Option.map_eq_some_iff] at e
      obtain ⟨o, ho, rfl⟩ := e
      exact ⟨ho, hb, hg⟩

/-- the frame and the news at the begin of a stretch -/
theorem stretch {g₀ h : Heap} {L cA : Addr} {m : Str → Option Value} {oc : Obj} (F : Fr g₀ L h m) (hc : h.get? cA = some oc) (hcL : cA ≠ L) (hcg : g₀.get? cA = none) :
    ∃ AN, News g₀ L h ((cA, oc) :: AN) ∧ ∀ h' m' tl, Fr g₀ L h' m' → News g₀ L h' (tl ++ (cA, oc) :: AN) → ∀ b o, b ≠ L → h.get? b = some o → h'.get? b = some o := by
  refine ⟨allN g₀ L h, ?_, ?_⟩
  · intro p hp
    rcases List.mem_cons.mp hp with rfl | hp
    · exact ⟨hc, hcL, hcg⟩
    · exact of_allN p hp
  · intro h' m' tl F' N' b o hb e
    cases q : g₀.get? b with
    | some o' =>
      have := F.keep b o' q
      rw [e] at this
      rw [Option.some.inj this]
      exact F'.keep b o' q
    | none => exact (N' (b, o) (List.mem_append_right _ (.tail _ (mem_allN hb q e)))).1

section
variable {M : Model} {A : Around} {R : GenEnd} {Y : Protocol} {c : Code} {fs : List Frame}
theorem seg_loop (Inv : Nat → Nat → Shared → Shared → Prop)
    (turn : ∀ k n s₀ s, Inv k n s₀ s → (∀ k' n' s₀' s', k' < k → Inv k' n' s₀' s' → Seg M A R Y n' s₀' c (M.den c) fs s') → Seg M A R Y n s₀ c (M.den c) fs s) :
    ∀ k n s₀ s, Inv k n s₀ s → Seg M A R Y n s₀ c (M.den c) fs s := by
  intro k
  induction k using Nat.strongRecOn with
  | ind k ih => exact fun n s₀ s hI => turn k n s₀ s hI fun k' n' s₀' s' hk hI' => ih k' hk n' s₀' s' hI'
end
end Mine

end
section
open PySem PySem.W PyProof.Rows PySem.Calls
namespace Mine

/-- what holds ahead of each turn of the generator's loop -/
def GI (t : Str) (g₀ : Heap) (L cA : Addr) (oc : Obj) (N k n : Nat) (s₀ s : Shared) : Prop :=
  ∃ (m : Str → Option Value) (i ss se : Nat) (b : Bool) (σ : RS) (ti ts te : Tok), Fr g₀ L s.heap m ∧ s.heap.get? cA = some oc ∧ Kept L s₀ s ∧ k = t.length - i ∧ i ≤ t.length ∧ k + 1 ≤ n ∧ σ.parts.length + n = N ∧
    m "i" = some (.int (i : Nat) ti) ∧ m "string_start" = some (.int (ss : Nat) ts) ∧ m "string_end" = some (.int (se : Nat) te) ∧ m "in_fmt" = some (.bool b) ∧ readS ((sg t).drop i) σ = readS (sg t) start ∧
    (b = false → σ.stage = 0 ∧ σ.plain = [] ∧ ss = i) ∧ (b = true → σ = ⟨1, ((sg t).drop ss).take (se - ss), none, [], [], [], σ.parts⟩ ∧ ss ≤ se ∧ se ≤ i)

section
variable {prog : Program} {w : World} {A : Around} {E Q : Value → Shared → Prop} {s : Shared} {l : List Nat} {a b c : Nat} {t u : Tok} {x y : Str}
theorem notin_x (e : y = one c) (hx : x = mk l) (h : Q (.bool (decide (c ∉ l))) s) : wpAny (model prog w) A (compareOp .NotIn (.str y u) (.str x t)) Q E s := by subst hx; exact notin_one e h
theorem eq_x {r : List Nat} (e : y = mk r) (hx : x = mk l) (h : Q (.bool (decide (l = r))) s) : wpAny (model prog w) A (compareOp .Eq (.str x t) (.str y u)) Q E s := by subst hx; exact eq_mk e h
theorem index_x (e : y = one c) (hx : x = mk l) (hm : c ∈ l) (h : ∀ k t', Q (.int (idx l c : Nat) t') { s with toks := k }) : wpAny (model prog w) A (call (.builtin "str.index") [.str x t, .str y u]) Q E s := by subst hx; exact index_one e hm (h _ _)
theorem find_x (e : y = one c) (hx : x = mk l) (h1 : c ∈ l → ∀ k t', Q (.int (idx l c : Nat) t') { s with toks := k }) (h2 : c ∉ l → ∀ k t', Q (.int (-1) t') { s with toks := k }) : wpAny (model prog w) A (call (.builtin "str.find") [.str x t, .str y u]) Q E s := by
  subst hx
  refine find_mk e ?_
  by_cases h : c ∈ l
  · rw [if_pos h]; exact h1 h _ _
  · rw [if_neg h]; exact h2 h _ _
theorem add_nn (h : ∀ t', Q (.int ((a + b : Nat) : Int) t') { s with toks := s.toks + 1 }) : wpAny (model prog w) A (binaryOp .Add (.int ((a : Nat) : Int) t) (.int ((b : Nat) : Int) u)) Q E s := by
  refine add_int ?_
  rw [← Int.natCast_add]; exact h _
theorem add_n1 (h : ∀ t', Q (.int ((a + 1 : Nat) : Int) t') { s with toks := s.toks + 1 }) : wpAny (model prog w) A (binaryOp .Add (.int ((a : Nat) : Int) t) (.int 1 u)) Q E s := add_nn (b := 1) h
theorem add_n2 (h : ∀ t', Q (.int ((a + 2 : Nat) : Int) t') { s with toks := s.toks + 1 }) : wpAny (model prog w) A (binaryOp .Add (.int ((a : Nat) : Int) t) (.int 2 u)) Q E s := add_nn (b := 2) h
theorem iadd_nn (h : ∀ t', Q (.int ((a + b : Nat) : Int) t') { s with toks := s.toks + 1 }) : wpAny (model prog w) A (inplaceOp .Add (.int ((a : Nat) : Int) t) (.int ((b : Nat) : Int) u)) Q E s := by
  refine iadd_int ?_
  rw [← Int.natCast_add]; exact h _
theorem iadd_n1 (h : ∀ t', Q (.int ((a + 1 : Nat) : Int) t') { s with toks := s.toks + 1 }) : wpAny (model prog w) A (inplaceOp .Add (.int ((a : Nat) : Int) t) (.int 1 u)) Q E s := iadd_nn (b := 1) h
end
theorem last_in {g₀ h : Heap} {L d : Addr} {l : List Nat} {tp : Tok} {k : Nat} {rest : List (Addr × Obj)} (N : News g₀ L h ((d, ({ cls := .type "tuple", data := .seq #[.str (mk l) tp, .none] k } : Obj)) :: rest)) :
    ∃ TS, DatIn TS (.ref d) (partD (l, none)) ∧ Made g₀ L h TS := by
  refine ⟨[_], DatIn.tuple (vs := [.str (mk l) tp, .none]) (n := k) (.head _) (.cons (.str _ _) (.cons .none .nil)), fun q hq => ?_⟩
  obtain rfl := List.mem_singleton.mp hq
  exact ⟨(N _ (.head _)).1, rfl, (N _ (.head _)).2.1, (N _ (.head _)).2.2⟩
theorem load_local {M : Model} {A : Around} {E Q : Value → Shared → Prop} {s : Shared} {h₀ : Heap} {L a : Addr} {m : Str → Option Value} {cn : Str} {cs : Scope} {ccd : Value} {cl : List (Str × Addr)} {x : Str} {v : Value}
    (F : Fr h₀ L s.heap m) (hk : cs.kind = .function) (hx : (envX cn cs L a ccd cl).kindOf x = some .local) (hv : m x = some v) (h : Q v s) : wpAny M A (loadName (envX cn cs L a ccd cl) x) Q E s := wpAny_loadName_local hk hx F.ns hv h
theorem mk_pct : Str.ofString "%" = mk [37] := lit_pct
theorem mk_open : Str.ofString "(" = mk [40] := lit_open
end Mine

end
section
open PySem PySem.W PyProof.Rows PySem.Calls
namespace Mine

section
variable {M : Model} {A A₁ : Around} {E : Value → Shared → Prop} {Q : Unit → Shared → Prop} {s : Shared} {base B g₀ h : Heap} {env : Env} {outer : List Env} {L e : Addr} {oe : Obj} {vs : Array Value} {m : Str → Option Value}
theorem leave_noted (hf : env.frame = some L) (hn : Noted B (env :: outer) e oe vs (rawInt L) s.heap) (h : ∀ h', Noted B (env :: outer) e oe vs .none h' → s.heap.UpToSlots h' → Q () { s with heap := h' }) : wpAny M A (leaving env (.ref e)) Q E s := by
  unfold leaving
  exact wpAny_bind (note_again hf hn (set_flight (fr := none) hn h))

/-- the ground of a raise: the heap without the frames -/
theorem raise_ground (BG : Below A₁ base outer g₀) (F : Fr g₀ L h m) (hf : env.frame = some L) (hke : env.scope.kind = .function) :
    ∃ B, base.StaysIn B ∧ h.FunFrames B (env :: outer) ∧ (∀ b o, B.get? b = some o → h.get? b = some o) ∧ ∀ b o, h.get? b = some o → b ≠ L → b ∉ outer.filterMap (·.frame) → B.get? b = some o := by
  have K' := pushX BG F hf hke
  have hin : ∀ env' ∈ (env :: outer), ∀ b, env'.frame = some b → b ∈ (env :: outer).filterMap (·.frame) := fun env' he b hb => List.mem_filterMap.mpr ⟨env', he, hb⟩
  refine ⟨hideAll h ((env :: outer).filterMap (·.frame)), fun b o q => hideAll_get _ (K'.stays b o q) fun hm => ?_, funFrames_hide K'.frames hin, fun b o q => of_hideAll _ q, fun b o q h1 h2 => hideAll_get _ q fun hm => ?_⟩
  · rw [(K'.frames.mem hm).1] at q; cases q
  · obtain ⟨env', he, hb⟩ := List.mem_filterMap.mp hm
    rcases List.mem_cons.mp he with rfl | he
    · rw [hf] at hb; exact h1 (Option.some.inj hb).symm
    · exact h2 (List.mem_filterMap.mpr ⟨env', he, hb⟩)

theorem errH_of {hs h' : Heap} {a0 : Value} (hst : base.StaysIn B) (hBk : ∀ b o, h.get? b = some o → b ≠ L → b ∉ outer.filterMap (·.frame) → B.get? b = some o) (hn : Noted B (env :: outer) e oe vs .none h') (hc : oe.cls = .type "ValueError") (h0 : vs[0]? = some a0)
    (hen : B.get? e = none) (hkeep : ∀ b o, b ≠ L → hs.get? b = some o → h.get? b = some o) (hup : h.UpToSlots h') : ErrH base L outer e hs h' :=
  ⟨B, a0, hst, hn.flying hc h0 hen, fun b o q h1 h2 => hBk b o (hkeep b o h1 q) h1 h2, fun b o h1 q nf => hup b o (hkeep b o h1 q) nf⟩

theorem leave_fresh {hs : Heap} (BG : Below A₁ base outer g₀) (F : Fr g₀ L h m) (hf : env.frame = some L) (hke : env.scope.kind = .function) (hfr : A.frames = some (env :: outer)) (hx : Heap.NewExc h s.heap e "ValueError")
    (hkeep : ∀ b o, b ≠ L → hs.get? b = some o → h.get? b = some o) (hQ : ∀ h', ErrH base L outer e hs h' → Q () { s with heap := h' }) : wpAny M A (leaving env (.ref e)) Q E s := by
  obtain ⟨B, st, hl, hB, hBk⟩ := raise_ground BG F hf hke
  obtain ⟨ob, tp, he, hcls, hd⟩ := hx.there
  have hen : B.get? e = none := by
    cases q : B.get? e with
    | none => rfl
    | some o => have := hB _ _ q; rw [hx.new] at this; cases this
  unfold leaving
  refine wpAny_bind (note_new hfr (hl.of_keeps fun b o q _ => ⟨o, hx.keeps b o q, rfl⟩) hf he (fun b o q => hx.keeps b o (hB b o q)) hen hd rfl fun h1 T1 N1 u1 => ?_)
  refine set_flight (fr := none) N1 fun h2 N2 u2 => hQ h2 ?_
  exact errH_of (a0 := tp) st hBk N2 ((Obj.cls_mapFields _ _).trans hcls) (by simp) hen hkeep (((Heap.UpToSlots.of_keeps hx.keeps).trans u1).trans u2)
end
end Mine

end
section
open PySem PySem.W PyProof.Rows PySem.Calls
namespace Mine

/-- a statement that falls through, with what holds behind it -/
def CutP (P : Shared → Prop) (f : Flow) (s : Shared) : Prop := f = .next ∧ P s
def NoRaise (_ : Value) (_ : Shared) : Prop := False
section
variable {M : Model} {A : Around} {R : GenEnd} {Y : Protocol} {n : Nat} {s₀ : Shared} {c : Code} {fs : List Frame} {s : Shared} {env : Env}
  {K : Flow → Sem Fin} {H : Value → Sem Fin} {gd : Bool → Bool} {lv : List Value → List Value}
theorem seg_cut (P : Shared → Prop) {st : Stmt} {rest : List Stmt} (h : wpAny M (A.over c fs) (exec st env) (CutP P) NoRaise s)
    (k : ∀ s', P s' → Seg M A R Y n s₀ c ((execs rest env).wrap K H gd lv) fs s') : Seg M A R Y n s₀ c ((execs (st :: rest) env).wrap K H gd lv) fs s := by
  refine seg_stmt (wpAny_mono h (fun f s' hf => ?_) fun _ _ x => x.elim)
  obtain ⟨rfl, hp⟩ := hf
  exact k s' hp
theorem seg_cut2 (P : Shared → Prop) {s1 s2 : Stmt} {rest : List Stmt} {A₂ : Around} (hw : ∀ Γ : Ctx, Γ.In (A.over c fs) → Γ.In A₂) (h : wpAny M A₂ (exec s1 env) (fun f s' => match f with | .next => wpAny M A₂ (exec s2 env) (CutP P) NoRaise s' | _ => False) NoRaise s)
    (k : ∀ s', P s' → Seg M A R Y n s₀ c ((execs rest env).wrap K H gd lv) fs s') : Seg M A R Y n s₀ c ((execs (s1 :: s2 :: rest) env).wrap K H gd lv) fs s := by
  refine seg_stmt (weaken hw (wpAny_mono h (fun f s' hf => ?_) fun _ _ x => x.elim))
  cases f with
  | next => exact seg_cut P (weaken hw hf) k
  | _ => exact hf.elim
theorem seg_cut3 (P : Shared → Prop) {s1 s2 s3 : Stmt} {rest : List Stmt} {A₂ : Around} (hw : ∀ Γ : Ctx, Γ.In (A.over c fs) → Γ.In A₂) (h : wpAny M A₂ (exec s1 env) (fun f s' => match f with | .next => wpAny M A₂ (exec s2 env) (fun f s' => match f with | .next => wpAny M A₂ (exec s3 env) (CutP P) NoRaise s' | _ => False) NoRaise s' | _ => False) NoRaise s)
    (k : ∀ s', P s' → Seg M A R Y n s₀ c ((execs rest env).wrap K H gd lv) fs s') : Seg M A R Y n s₀ c ((execs (s1 :: s2 :: s3 :: rest) env).wrap K H gd lv) fs s := by
  refine seg_stmt (weaken hw (wpAny_mono h (fun f s' hf => ?_) fun _ _ x => x.elim))
  cases f with
  | next => exact seg_cut2 P hw hf k
  | _ => exact hf.elim
theorem in_top {dp un : Nat} {gd : Option (List Code)} {cn : Str} {cs : Scope} {L a : Addr} {ccd : Value} {cl : List (Str × Addr)} {outer : List Env} (h1 : A.handled = none) (h2 : A.depth ≤ dp) (h3 : A.frames = some (envX cn cs L a ccd cl :: outer)) (h4 : A.guards = gd) (h5 : A.units ≤ un) :
    ∀ Γ : Ctx, Γ.In A → Γ.In (ktrTop dp un gd cn cs L a ccd cl outer) := fun Γ hΓ => by
  obtain ⟨g1, g2, g3, g4, g5⟩ := hΓ
  exact ⟨g1.trans h1, Nat.le_trans g2 h2, fun l hl => g3 l (h3.trans hl), fun g hg => g4 g (h4.trans hg), Nat.le_trans g5 h5⟩
end

/-- what holds between the statements of a placeholder: the known locals, the ledger, what stays -/
def Mid (g₀ : Heap) (L cA : Addr) (oc : Obj) (AN : List (Addr × Obj)) (s₀ : Shared) (ks : List (Str × Value)) (s : Shared) : Prop :=
  (∃ u, Fr g₀ L s.heap (kstB u ks)) ∧ News g₀ L s.heap ((cA, oc) :: AN) ∧ s.gens = s₀.gens ∧ s.drawn = s₀.drawn ∧ s.os = s₀.os
def KS (m : Str → Option Value) : List (Str × Value) → Prop
  | [] => True
  | p :: r => m p.1 = some p.2 ∧ KS m r
theorem KS.all {m : Str → Option Value} : ∀ {ks : List (Str × Value)}, KS m ks → ∀ p ∈ ks, m p.1 = some p.2 := by
  intro ks
  induction ks with
  | nil => intro _ p hp; cases hp
  | cons q r ih =>
    intro h p hp
    rcases List.mem_cons.mp hp with rfl | hp
    · exact h.1
    · exact ih h.2 p hp
theorem Mid.mk {g₀ : Heap} {L cA : Addr} {oc : Obj} {AN : List (Addr × Obj)} {s₀ s : Shared} {ks : List (Str × Value)} {m : Str → Option Value} (F : Fr g₀ L s.heap m) (N : News g₀ L s.heap ((cA, oc) :: AN))
    (hp : KS m ks) (h1 : s.gens = s₀.gens := by rfl) (h2 : s.drawn = s₀.drawn := by rfl) (h3 : s.os = s₀.os := by rfl) : Mid g₀ L cA oc AN s₀ ks s := ⟨⟨m, fr_known F ks hp.all⟩, N, h1, h2, h3⟩

section
variable {w : World} {loose : List Str} {mean : ExcName → Option Value} {mg mb : Str → Option Value}
    {dp un : Nat} {gd : Option (List Code)} {cn : Str} {cs : Scope} {a : Addr} {ccd : Value} {cl : List (Str × Addr)} {outer : List Env} {A₀ : Around} {base h₀ : Heap} {L : Addr} {m : Str → Option Value} {news : List (Addr × Obj)} {s : Shared} {Q E : Value → Shared → Prop}
theorem past_flag
    (B : Below A₀ base outer h₀) (F : Fr h₀ L s.heap m) (X : (hd.heap_39 w.params).In h₀) (N : News h₀ L s.heap news) (T : Top topProg loose mean mg mb h₀) (hcs : cs.kind = .function)
    (hd : dp + 1 < recursionLimit) (hu : un + 8 < cLine)
    (t : Str) (tk gk ik : Tok) (i : Nat) (hi : i ≤ t.length) (ht : t.length ≤ 1000)
    (hret : ∀ v h' tk', Fr h₀ L h' m → News h₀ L h' news → Q (.int ((i + (((sg t).drop i).takeWhile isFlag).length : Nat) : Int) v) { s with heap := h', toks := tk' }) :
    wpAny (model PySem.Challenge.rw_bl0022_01.row.prog w) (ktrTop dp un gd cn cs L a ccd cl outer) (call (.ref 21) [.str t tk, .int i ik, .str (Str.ofString "#0+ -") gk]) Q E s := by
  refine past_call B F X N T hcs hd hu t _ tk gk ik i hi ht fun v h' tk' a b => ?_
  rw [past_of i mem_flag]; exact hret v h' tk' a b
theorem past_dig
    (B : Below A₀ base outer h₀) (F : Fr h₀ L s.heap m) (X : (hd.heap_39 w.params).In h₀) (N : News h₀ L s.heap news) (T : Top topProg loose mean mg mb h₀) (hcs : cs.kind = .function)
    (hd : dp + 1 < recursionLimit) (hu : un + 8 < cLine)
    (t : Str) (tk gk ik : Tok) (i : Nat) (hi : i ≤ t.length) (ht : t.length ≤ 1000)
    (hret : ∀ v h' tk', Fr h₀ L h' m → News h₀ L h' news → Q (.int ((i + (((sg t).drop i).takeWhile isDig).length : Nat) : Int) v) { s with heap := h', toks := tk' }) :
    wpAny (model PySem.Challenge.rw_bl0022_01.row.prog w) (ktrTop dp un gd cn cs L a ccd cl outer) (call (.ref 21) [.str t tk, .int i ik, .str (Str.ofString "0123456789") gk]) Q E s := by
  refine past_call B F X N T hcs hd hu t _ tk gk ik i hi ht fun v h' tk' a b => ?_
  rw [past_of i mem_dig]; exact hret v h' tk' a b
end
theorem lt_take {t : List Nat} {i c : Nat} (h : (t.drop i).take (i + 1 - i) = [c]) : i + 1 ≤ t.length := by
  rw [Nat.add_sub_cancel_left] at h
  have := congrArg List.length h
  rw [List.length_take, List.length_drop, List.length_singleton] at this
  omega
theorem lt_takeS {t : Str} {i c : Nat} (h : ((sg t).drop i).take (i + 1 - i) = [c]) : i + 1 ≤ t.length := by rw [len_sg]; exact lt_take h
theorem take_fit {t : Str} {p : Nat → Bool} {i : Nat} (h : i ≤ t.length) : i + (((sg t).drop i).takeWhile p).length ≤ t.length := by
  have := (List.takeWhile_sublist (p := p) (l := (sg t).drop i)).length_le
  rw [List.length_drop, ← len_sg] at this
  omega
/-- a cut text or None, as the value of `or` -/
theorem or_cut {t : Str} {a b : Nat} {u : Value} {l : List Nat} (h : DatIn [] u (orD (sg (Txt.slice t (some (a : Int)) (some (b : Int)))))) (e : ((sg t).drop a).take (b - a) = l) : DatIn [] u (orD l) := by
  rw [slice_nat, sg_mk, e] at h; exact h
section
variable {prog : Program} {w : World} {A A₁ : Around} {E : Value → Shared → Prop} {s : Shared} {K' : Frag} {base g₀ h : Heap} {L a e1 : Addr} {mg mb : Str → Option Value} {cn : Str} {cs : Scope} {ccd : Value} {cl : List (Str × Addr)} {outer : List Env} {p : Program} {loose : List Str} {m : Str → Option Value}
  {np np2 tp cpos rpos hpos : Pos} {tx : Str} {kk : Nat} {Q : Flow → Shared → Prop}
/-- the whole handler: an own exception behind an IndexError just made -/
theorem try_out (BG : Below A₁ base outer g₀) (F : Fr g₀ L h m) (hfr : A.frames = some (envX cn cs L a ccd cl :: outer)) (hx : Heap.NewExc h s.heap e1 "IndexError")
    (X : K'.In base) (T : TopRead p loose mg mb base) (eI : nsIn K' mainGlobals "IndexError" = some none) (eV : nsIn K' mainGlobals "ValueError" = some none)
    (hk : cs.kind = .function) (hxI : (envX cn cs L a ccd cl).kindOf "IndexError" = some .globalImplicit) (hxV : (envX cn cs L a ccd cl).kindOf "ValueError" = some .globalImplicit)
    (k : ∀ h' tk e2 oe vs a0 B, base.StaysIn B → (∀ b o, h.get? b = some o → b ≠ L → b ∉ outer.filterMap (·.frame) → B.get? b = some o) → Noted B (envX cn cs L a ccd cl :: outer) e2 oe vs (rawInt L) h' → oe.cls = .type "ValueError" → vs[0]? = some a0 → B.get? e2 = none → h.UpToSlots h' → E (.ref e2) { s with heap := h', toks := tk }) :
    wpAny (model prog w) A (noteFrame (.ref e1) (envX cn cs L a ccd cl)) (fun _ s₂ => wpAny (model prog w) A (setFlight (.ref e1) none) (fun _ s₃ =>
      wpAny (model prog w) A (handleBy (.ref e1) (envX cn cs L a ccd cl) [.ExceptHandler (some (.Name "IndexError" np)) none [.Raise (some (.Call (.Name "ValueError" np2) [.Constant (.str tx) kk tp] [] cpos)) none rpos] hpos]) Q E s₃) E s₂) E s := by
  obtain ⟨B, st, hl, hB, hBk⟩ := raise_ground (env := envX cn cs L a ccd cl) BG F rfl hk
  have hen : B.get? e1 = none := by
    cases q : B.get? e1 with
    | none => rfl
    | some o => have := hB _ _ q; rw [hx.new] at this; cases this
  refine try_fails (base := B) hfr (hl.of_keeps fun b o q _ => ⟨o, hx.keeps b o q, rfl⟩) (fun b o q => hx.keeps b o (hB b o q)) (by obtain ⟨ob, t, r⟩ := hx.there; exact ⟨ob, t, r⟩) hen (X.keeps st) (T.keeps st) eI eV hk hxI hxV fun h' tk e2 oe vs a0 N hc h0 hen2 hup => ?_
  exact k h' tk e2 oe vs a0 B st hBk N hc h0 hen2 ((Heap.UpToSlots.of_keeps hx.keeps).trans hup)
end
section
variable {M : Model} {A : Around} {E : Value → Shared → Prop} {s : Shared} {base : Heap} {env : Env} {l : List Env} {L e : Addr} {oe : Obj} {vs : Array Value} {fl : Value} {Q : Unit → Shared → Prop}
theorem back_wp (hn : Noted base l e oe vs fl s.heap) (h : ∀ h', Noted base l e oe vs (rawInt L) h' → s.heap.UpToSlots h' → Q () { s with heap := h' }) :
    wpAny M A (do
      if (← field (.ref e) 1) == .none then unsupported "frame.own-activation:exception-without-traceback"
      setFlight (.ref e) (some L)) Q E s := by
  have hn' := hn
  obtain ⟨T, oT, ts, he, hd, h1, _⟩ := hn'
  refine wpAny_bind (wpAny_field he hd h1 ?_)
  rw [if_neg (show ¬ (Value.ref T == Value.none) = true from by simp)]
  exact set_flight hn h
theorem note_lot (hf : env.frame = some L) (hn : Noted base l e oe vs (rawInt L) s.heap) (h : Q () s) : wpAny M A (do noteFrame (.ref e) env; theTreesLotGoes (.ref e)) Q E s :=
  wpAny_bind (note_again hf hn (wpAny_theTreesLotGoes h))
end
theorem wp_raise {α : Type} {M : Model} {A : Around} {Q : α → Shared → Prop} {E : Value → Shared → Prop} {s : Shared} {x : Value} (h : E x s) : wpAny M A (Sem.raise x : Sem α) Q E s := fun _ _ _ => h
end Mine

end
section
open PySem PySem.W PyProof.Rows PySem.Calls
namespace Mine
section
variable {t : List Nat} {i : Nat} {σ : RS}
theorem idx_cons_ne {c d : Nat} {r : List Nat} (h : d ≠ c) : idx (d :: r) c = idx r c + 1 := by
  unfold idx
  rw [List.takeWhile_cons_of_pos (by simpa using h), List.length_cons]
theorem drop_succ_of {c : Nat} {r : List Nat} (e : t.drop i = c :: r) : t.drop (i + 1) = r := by
  rw [← List.drop_drop, e]; rfl
theorem nm_yes (h1 : σ.stage = 1) (h0 : (t.drop i).take 1 = [40]) (h41 : 41 ∈ t.drop i) (hno : 40 ∉ (t.drop (i + 1)).take (i + idx (t.drop i) 41 - (i + 1))) :
    readS (t.drop i) σ = readS (t.drop (i + idx (t.drop i) 41 + 1)) ⟨2, σ.plain, some ((t.drop (i + 1)).take (i + idx (t.drop i) 41 - (i + 1))), σ.flags, σ.width, σ.prec, σ.parts⟩ := by
  obtain ⟨r, e⟩ := take_one.mp h0
  have e1 : t.drop (i + 1) = r := drop_succ_of e
  have e2 : idx (t.drop i) 41 = idx r 41 + 1 := by rw [e, idx_cons_ne (by decide)]
  have e3 : i + (idx r 41 + 1) - (i + 1) = idx r 41 := by omega
  have hm : 41 ∈ r := by rw [e] at h41; rcases List.mem_cons.mp h41 with q | q; exact absurd q (by decide); exact q
  rw [e2, e1, e3] at hno ⊢
  obtain ⟨n1, n2⟩ := name_yes hm hno
  have e4 : t.drop (i + (idx r 41 + 1) + 1) = r.drop (idx r 41 + 1) := by
    rw [← e1, List.drop_drop]; congr 1; omega
  rw [e, rd_named h1 n1, n2, e4]
theorem nm_no (h1 : σ.stage = 1) (h : (t.drop i).take 1 = [40] → 41 ∈ t.drop i → 0 < idx (t.drop i) 41 → 40 ∈ (t.drop (i + 1)).take (i + idx (t.drop i) 41 - (i + 1))) :
    readS (t.drop i) σ = readS (t.drop i) ⟨2, σ.plain, σ.name, σ.flags, σ.width, σ.prec, σ.parts⟩ := by
  refine rd_first h1 fun r e => ?_
  have e1 : t.drop (i + 1) = r := drop_succ_of e
  cases q : named r with
  | false => rfl
  | true =>
    obtain ⟨n1, n2⟩ := name_no q
    have e2 : idx (t.drop i) 41 = idx r 41 + 1 := by rw [e, idx_cons_ne (by decide)]
    refine absurd (h (by rw [e]; rfl) (by rw [e]; exact .tail _ n1) (by omega)) ?_
    rw [e2, e1, show i + (idx r 41 + 1) - (i + 1) = idx r 41 by omega]
    exact n2
end
theorem take_two {t : List Nat} {i a b : Nat} (h : (t.drop i).take 1 = [a]) (h2 : (t.drop (i + 1)).take 1 = [b]) : (t.drop i).take 2 = [a, b] := by
  obtain ⟨r, e⟩ := take_one.mp h
  rw [drop_succ_of e] at h2
  obtain ⟨r', rfl⟩ := take_one.mp h2
  rw [e]; rfl
theorem take_dig {t : List Nat} {i a n : Nat} (h : (t.drop i).take 1 = [a]) : (t.drop i).take (i + 1 + n - i) = a :: (t.drop (i + 1)).take n := by
  obtain ⟨r, e⟩ := take_one.mp h
  rw [drop_succ_of e, e, show i + 1 + n - i = n + 1 by omega]
  rfl
theorem one_of {t : List Nat} {i a : Nat} (h : (t.drop i).take (i + 1 - i) = [a]) : (t.drop i).take 1 = [a] := by rwa [Nat.add_sub_cancel_left] at h
theorem two_of {t : List Nat} {i a : Nat} (h : (t.drop (i + 1)).take (i + 2 - (i + 1)) = [a]) : (t.drop (i + 1)).take 1 = [a] := by rwa [show i + 2 - (i + 1) = 1 by omega] at h
theorem none_of {t : List Nat} {i a : Nat} (h : ¬ (t.drop i).take (i + 1 - i) = [a]) : ¬ (t.drop i).take 1 = [a] := by rwa [Nat.add_sub_cancel_left] at h
theorem ntwo_of {t : List Nat} {i a : Nat} (h : ¬ (t.drop (i + 1)).take (i + 2 - (i + 1)) = [a]) : ¬ (t.drop (i + 1)).take 1 = [a] := by rwa [show i + 2 - (i + 1) = 1 by omega] at h
theorem width_fit {t : List Nat} {i : Nat} (h : i ≤ t.length) : i + (widthOf (t.drop i)).length ≤ t.length := by
  obtain ⟨s, e⟩ := widthOf_pre (t.drop i)
  have := congrArg List.length e
  rw [List.length_append, List.length_drop] at this
  omega
theorem prec_fit {t : List Nat} {i : Nat} (h : i ≤ t.length) : i + (precOf (t.drop i)).length ≤ t.length := by
  obtain ⟨s, e⟩ := precOf_pre (t.drop i)
  have := congrArg List.length e
  rw [List.length_append, List.length_drop] at this
  omega
theorem mk_h : Str.ofString "h" = mk [104] := by decide +kernel
theorem mk_l : Str.ofString "l" = mk [108] := by decide +kernel
theorem mk_L : Str.ofString "L" = mk [76] := by decide +kernel
theorem mk_beq {l r : List Nat} : (mk l == mk r) = decide (r = l) := by
  rw [Bool.eq_iff_iff, beq_iff_eq, decide_eq_true_eq]
  exact ⟨fun h => (mk_inj h).symm, fun h => by rw [h]⟩
theorem any_size {t : Str} {i : Nat} {b : Bool} (h : ([Str.ofString "h", Str.ofString "l", Str.ofString "L"].any fun x => x == Txt.slice t (some (i : Int)) (some ((i + 1 : Nat) : Int))) = b) : sizeOf ((sg t).drop i) = if b = true then 1 else 0 := by
  rw [slice_nat, Nat.add_sub_cancel_left] at h
  simp only [List.any_cons, List.any_nil, Bool.or_false, mk_h, mk_l, mk_L, mk_beq] at h
  rw [size_of]
  subst h
  simp only [Bool.or_eq_true, decide_eq_true_eq]
theorem size_fit {t : List Nat} {i : Nat} (h : i ≤ t.length) : i + sizeOf (t.drop i) ≤ t.length := by
  cases e : t.drop i with
  | nil => simpa [sizeOf] using h
  | cons c r =>
    have := congrArg List.length e
    rw [List.length_drop, List.length_cons] at this
    have h1 : sizeOf (c :: r) ≤ 1 := by
      rw [size_of]; split <;> omega
    omega
theorem part_at {q : List Nat} {a : Option (List Nat)} {b c d : List Nat} {ps0 ps : List Part} {p : Part} (h : readS q ⟨0, [], a, b, c, d, ps0 ++ [p]⟩ = some ps) : ps[ps0.length]? = some p := by
  obtain ⟨rest, e, _⟩ := read_inv _ q _ ps (Nat.le_refl _) rfl (by simp) h
  subst e
  simp
theorem conv_at {t : List Nat} {i : Nat} {σ : RS} (h : i < t.length) : ∀ c, t[i]? = some c → convS (t.drop i) σ = readS (t.drop (i + 1)) ⟨0, [], σ.name, σ.flags, σ.width, σ.prec, σ.parts ++ [(σ.plain, some ⟨σ.name, σ.flags, σ.width, σ.prec, c⟩)]⟩ := by
  intro c hc
  rw [List.drop_eq_getElem_cons h]
  rw [List.getElem?_eq_getElem h] at hc
  rw [Option.some.inj hc]
  rfl
theorem conv_end {t : List Nat} {i : Nat} {σ : RS} (h : t.length ≤ i) : convS (t.drop i) σ = none := by
  rw [List.drop_of_length_le h]; rfl
theorem field_in {g₀ h : Heap} {L d1 d2 : Addr} {plain fl wd pr : List Nat} {nm : Option (List Nat)} {c : Nat} {tp tc : Tok} {k1 k2 : Nat} {v0 v1 v2 v3 : Value} {rest : List (Addr × Obj)}
    (N : News g₀ L h ((d1, ({ cls := .type "tuple", data := .seq #[.str (mk plain) tp, .ref d2] k1 } : Obj)) :: (d2, { cls := .type "tuple", data := .seq #[v0, v1, v2, v3, .str (one c) tc] k2 }) :: rest))
    (h0 : DatIn [] v0 (optD nm)) (h1 : DatIn [] v1 (orD fl)) (h2 : DatIn [] v2 (orD wd)) (h3 : DatIn [] v3 (orD pr)) :
    ∃ TS, DatIn TS (.ref d1) (partD (plain, some ⟨nm, fl, wd, pr, c⟩)) ∧ Made g₀ L h TS := by
  refine ⟨[(d1, { cls := .type "tuple", data := .seq #[.str (mk plain) tp, .ref d2] k1 }), (d2, { cls := .type "tuple", data := .seq #[v0, v1, v2, v3, .str (one c) tc] k2 })], part_in (σ := ⟨0, [], nm, fl, wd, pr, []⟩) (TS := []) h0 (by rw [sg_mk]; exact h1) (by rw [sg_mk]; exact h2) (by rw [sg_mk]; exact h3), fun q hq => ?_⟩
  rcases List.mem_cons.mp hq with rfl | hq
  · exact ⟨(N _ (.head _)).1, rfl, (N _ (.head _)).2.1, (N _ (.head _)).2.2⟩
  · obtain rfl := List.mem_singleton.mp hq
    exact ⟨(N _ (.tail _ (.head _))).1, rfl, (N _ (.tail _ (.head _))).2.1, (N _ (.tail _ (.head _))).2.2⟩
end Mine

end
section
open PySem PySem.W PyProof.Rows PySem.Calls
namespace Mine
section
variable {base gP g₀ hM h5 h' : Heap} {LP Lg c' : Addr} {mP : Str → Option Value} {fo cell : Addr × Obj} {of : Obj} {P3 : Array Value} {rest TS : List (Addr × Obj)} {acc : List Value} {ps : List Part} {n : Nat}
theorem none_in {g h : Heap} (k : ∀ b o, g.get? b = some o → h.get? b = some o) {b : Addr} (e : h.get? b = none) : g.get? b = none := by
  cases q : g.get? b with
  | none => rfl
  | some o => have := k b o q; rw [e] at this; cases this

theorem ppf_up (hLn : hM.get? Lg = none) (hk5 : ∀ b o, hM.get? b = some o → h5.get? b = some o) (hkeep : ∀ b o, b ≠ Lg → h5.get? b = some o → h'.get? b = some o) : ∀ b o, hM.get? b = some o → h'.get? b = some o :=
  fun b o e => hkeep b o (ne_of_get e hLn) (hk5 b o e)

theorem ppf_ret (FG : Fr gP LP g₀ mP) (sG : gP.StaysIn g₀) (FM : Fr gP LP hM mP) (NM : News gP LP hM (fo :: (c', of) :: cell :: (23, tabObj P3) :: rest)) (up : ∀ b o, hM.get? b = some o → h'.get? b = some o) (hmade : Made g₀ Lg h' TS) {T : Obj} (hT : T.isFreed = false) :
    Fr gP LP (h'.push T) mP ∧ News gP LP (h'.push T) ((23, tabObj P3) :: (((h'.objs.size, T) :: (c', of) :: TS) ++ rest)) := by
  have up2 : ∀ b o, hM.get? b = some o → (h'.push T).get? b = some o := fun b o e => Heap.get?_push_of_some _ (up b o e)
  refine ⟨FM.keeps up2, fun p hp => ?_⟩
  have old : ∀ q ∈ (fo :: (c', of) :: cell :: (23, tabObj P3) :: rest), (h'.push T).get? q.1 = some q.2 ∧ q.1 ≠ LP ∧ gP.get? q.1 = none := fun q hq => ⟨up2 _ _ (NM q hq).1, (NM q hq).2⟩
  rcases List.mem_cons.mp hp with rfl | hp
  · exact old _ (.tail _ (.tail _ (.tail _ (.head _))))
  rcases List.mem_cons.mp hp with rfl | hp
  · refine ⟨Heap.get?_push_size _ hT, fun e => ?_, ?_⟩
    · obtain ⟨o, es, ep, ho, _⟩ := FM.ns
      have := Heap.lt_size (up _ _ ho)
      exact absurd e (Nat.ne_of_gt this)
    · exact none_in (fun b o e => up b o (FM.keep b o e)) (Heap.get?_none_of_le (Nat.le_refl _))
  rcases List.mem_cons.mp hp with rfl | hp
  · exact old _ (.tail _ (.head _))
  rcases List.mem_append.mp hp with hp | hp
  · obtain ⟨a1, _, _, a4⟩ := hmade p hp
    refine ⟨Heap.get?_push_of_some _ a1, fun e => ?_, none_in sG a4⟩
    obtain ⟨o, es, ep, ho, _⟩ := FG.ns
    rw [e, ho] at a4; cases a4
  · exact old _ (.tail _ (.tail _ (.tail _ (.tail _ hp))))

theorem ppf_off (NM : News gP LP hM (fo :: (c', of) :: cell :: (23, tabObj P3) :: rest)) (up : ∀ b o, hM.get? b = some o → h'.get? b = some o) (hmade : Made g₀ Lg h' TS) (hc : c' ≠ 23) {T : Obj} : ∀ p ∈ (h'.objs.size, T) :: (c', of) :: TS, p.1 ≠ 23 := by
  intro p hp
  have h23 := up _ _ (NM _ (.tail _ (.tail _ (.tail _ (.head _))))).1
  rcases List.mem_cons.mp hp with rfl | hp
  · exact Nat.ne_of_gt (Heap.lt_size h23)
  rcases List.mem_cons.mp hp with rfl | hp
  · exact hc
  intro e
  obtain ⟨a1, a2, _⟩ := hmade p hp
  rw [e, h23] at a1
  rw [← Option.some.inj a1] at a2
  cases a2

theorem ppf_dat (hdat : DatAll TS acc (ps.map partD)) : DatIn ((h'.objs.size, { cls := .type "tuple", data := .seq acc.toArray }) :: (c', of) :: TS) (.ref h'.objs.size) (.tuple (ps.map partD)) :=
  DatIn.tuple (vs := acc) (.head _) (DatAll.mono (fun q hq => .tail _ (.tail _ hq)) hdat)

theorem gens_bare {gi : Nat} {G : Array GenState} {x : GenState} {gens' : Array GenState} (hb : AllBare G) (hgi : gi = G.size) (he : GEq gi (G.push x) gens') (hf : gens'[gi]? = some .finished) : AllBare gens' := by
  intro y hy
  obtain ⟨i, hi, rfl⟩ := Array.mem_iff_getElem.mp hy
  have e := Array.getElem?_eq_getElem hi
  by_cases hg : i = gi
  · subst hg
    rw [hf] at e
    rw [← Option.some.inj e]; rfl
  · rw [he.2 i hg] at e
    rw [Array.getElem?_push] at e
    split at e
    · exact absurd (by omega) hg
    · exact hb _ (Array.mem_of_getElem? e)

theorem ppf_exc {envP envX' : Env} {outer : List Env} {Aₓ : Around} {e : Addr} {B : Heap} {h'' : Heap} {a0 : Value} (BX : Below Aₓ base (envX' :: outer) gP) (hPf : envP.frame = some LP) (FM : Fr gP LP hM mP) (NM : News gP LP hM (fo :: (c', of) :: cell :: (23, tabObj P3) :: rest)) (hLn : hM.get? Lg = none) (hk5 : ∀ b o, hM.get? b = some o → h5.get? b = some o)
    (st : base.StaysIn B) (hBk : ∀ b o, h5.get? b = some o → b ≠ Lg → b ∉ (envP :: envX' :: outer).filterMap (·.frame) → B.get? b = some o) (hfl : Heap.FlyingW B (envX' :: outer) e (.type "ValueError") a0 h'') :
    RaisedN base (envX' :: outer) e (.type "ValueError") ((23, tabObj P3) :: (c', of) :: rest) h'' := by
  refine ⟨B, a0, st, fun q hq => ?_, hfl⟩
  have hm : q ∈ (fo :: (c', of) :: cell :: (23, tabObj P3) :: rest) := by
    simp only [List.mem_cons] at hq ⊢
    rcases hq with rfl | rfl | hq
    · exact .inr (.inr (.inr (.inl rfl)))
    · exact .inr (.inl rfl)
    · exact .inr (.inr (.inr (.inr hq)))
  obtain ⟨a1, a2, a3⟩ := NM q hm
  refine ⟨hBk _ _ (hk5 _ _ a1) (ne_of_get a1 hLn) fun hf => ?_, none_in BX.stays a3⟩
  obtain ⟨env', he, hb⟩ := List.mem_filterMap.mp hf
  rcases List.mem_cons.mp he with rfl | he
  · rw [hPf] at hb; exact a2 (Option.some.inj hb).symm
  · obtain ⟨_, o, ho, _⟩ := BX.frames.mem (List.mem_filterMap.mpr ⟨env', he, hb⟩)
    rw [ho] at a3; cases a3
end
end Mine

end
section
open PySem PySem.W PyProof.Rows PySem.Calls
namespace Mine
local macro_rules | `(tactic| walk_at "my cells") => `(tactic| (refine' code_defC ?k1 ?k2 ?k3 ?k4 ?k5 ?kA ?kF ?kK ?k6 ?k7 ?k8 ?k9 ?kB ?kD ?_ ?c2 ?c3 ?c4; (case kA => exact rfl); (case kF => exact rfl); (case kK => assumption); (case k1 => k_asm); (case k2 => k_asm); (case k3 => k_asm); (case k4 => k_asm); (case k5 => k_asm); (case k6 => k_is); (case k7 => k_is); (case k8 => ktr_room); (case k9 => exact BindsTo.of_eq rfl); (case kB => exact rfl); (case kD => decide +kernel); (case c2 => exact rfl); (case c3 => exact rfl); (case c4 => exact rfl); k_whole; intro g' L' h' tk' cells' FG' F' N' Y' B' X' T' l1; (try k_lt l1); k_cells Y'; (try simp only [List.cons_append, List.nil_append] at N'); (try dsimp only); (try k_lift B'); (try k_fold)))
local macro_rules | `(tactic| k_all) => `(tactic| assumption)
local macro_rules | `(tactic| walk_at "compareOp NotIn str str") => `(tactic| (k_here; first | refine notin_x lit_pct (slice_from _ _) ?_ | refine notin_x lit_open (slice_nat _ _ _) ?_))
local macro_rules | `(tactic| walk_at "call builtin:str.index") => `(tactic| (k_here; refine index_x lit_pct (slice_from _ _) (by assumption) ?_; intro _ _))
local macro_rules | `(tactic| walk_at "inplaceOp Add int int") => `(tactic| (k_here; first | (with_reducible refine iadd_nn ?_; intro _) | (with_reducible refine iadd_n1 ?_; intro _)))
local macro_rules | `(tactic| walk_at "binaryOp Add int int") => `(tactic| (k_here; first | (with_reducible refine add_nn ?_; intro _) | (with_reducible refine add_n1 ?_; intro _) | (with_reducible refine add_n2 ?_; intro _)))
local macro_rules | `(tactic| walk_at "call builtin:str.find") => `(tactic| (k_here; refine find_x lit_shut (slice_from _ _) ?_ ?_ <;> intro _ _ _))
local macro_rules | `(tactic| walk_at "loadName") => `(tactic| (k_dflt (refine' load_local ?l1 ?l2 ?l3 ?l4 ?_; (case l1 => k_asm); (case l2 => rfl); (case l3 => rfl); (case l4 => rfl))))
local macro_rules | `(tactic| walk_at "exec Raise some none") => `(tactic| (k_here; refine Raise_new rfl ?_))
local macro_rules | `(tactic| walk_at "compareOp Eq str str") => `(tactic| (k_here; first | refine eq_x mk_open (slice_nat _ _ _) ?_ | refine eq_x mk_star (slice_nat _ _ _) ?_ | refine eq_x mk_dot (slice_nat _ _ _) ?_))
local macro_rules | `(tactic| walk_at "eval BoolOp") => `(tactic| (k_here; refine or_none ?_))
local macro_rules | `(tactic| walk_at "OrPost") => `(tactic| (refine or_post ?hl ?_; (case hl => omega); intro _ _ _; (try dsimp only)))
local macro_rules | `(tactic| walk_at "call ref") => `(tactic| (k_here; (first | (refine' past_flag ?pb ?pf ?px ?pn ?pt rfl ?pd ?pu _ _ _ _ _ ?pi ?pl ?_) | (refine' past_dig ?pb ?pf ?px ?pn ?pt rfl ?pd ?pu _ _ _ _ _ ?pi ?pl ?_)); (case pb => assumption); (case pf => k_asm); (case px => assumption); (case pn => k_asm); (case pt => assumption); (case pd => ktr_room); (case pu => ktr_room); (case pi => first | omega | exact lt_takeS (by assumption)); (case pl => assumption); intro _ _ _ _ _; (try dsimp only)))
local macro_rules | `(tactic| walk_at "subscriptTail Name Name str int") => `(tactic| (k_here; (with_reducible show wpAny _ _ (subscriptTail _ _ (Value.str _ _) (Value.int _ _)) _ _ _); ((with_reducible refine' sub_nat ?p2 ?p3 ?_); (case p2 => omega); (case p3 => omega); intro _ _ _ _; (try dsimp only))))
local macro_rules | `(tactic| walk_at "exec Try") => `(tactic| (k_here; refine wpAny_Try_except ?_))
section
variable {w : World} {loose : List Str} {mean : ExcName → Option Value} {mg mb : Str → Option Value}
    {dp un : Nat} {gd : Option (List Code)} {cn : Str} {cs : Scope} {a : Addr} {ccd : Value} {cl : List (Str × Addr)} {outer : List Env} {A₀ : Around} {base h₀ : Heap} {L : Addr} {m : Str → Option Value} {rest : List (Addr × Obj)} {s : Shared} {Q E : Value → Shared → Prop}
set_option maxRecDepth 100000 in
set_option maxHeartbeats 100000000 in
set_option rowWalk.seconds 0 in
theorem ppf_call
    (B : Below A₀ base outer h₀) (F : Fr h₀ L s.heap m) (X : (hd.heap_39 w.params).In h₀) (ps : Array Value) (N : News h₀ L s.heap ((23, tabObj ps) :: rest)) (T : Top topProg loose mean mg mb h₀) (hcs : cs.kind = .function) (C : CodeHd base 27 23) (hoff : ∀ p ∈ rest, p.1 ≠ 23) (htab : TabOk ⟨8, 4, 40, 34⟩ "parse_percent_format.<locals>._parse_inner" ps rest)
    (XB : (hd.heap_39 w.params).In base) (TB : TopRead topProg loose mg mb base)
    (hd : dp + 12 < recursionLimit) (hu : un + 40 < cLine) (t : Str) (tk : Tok) (ht : t.length ≤ 1000) (hbare : AllBare s.gens)
    (hret : ∀ qs D h' tk' gens' tl P3, readS (sg t) start = some qs → Fr h₀ L h' m → News h₀ L h' ((23, tabObj P3) :: (tl ++ rest)) → (∀ p ∈ tl, p.1 ≠ 23) → TabOk ⟨8, 4, 40, 34⟩ "parse_percent_format.<locals>._parse_inner" P3 (tl ++ rest) → DatIn tl (.ref D) (.tuple (qs.map partD)) → AllBare gens' →
      Q (.ref D) { heap := h', gens := gens', drawn := s.drawn, toks := tk', os := s.os })
    (hexc : ∀ e g h'' tk' gens' c' of P3, readS (sg t) start = none → Fr h₀ L g m → g.UpToSlots h'' → RaisedN base (envX cn cs L a ccd cl :: outer) e (.type "ValueError") ((23, tabObj P3) :: (c', of) :: rest) h'' → AllBare gens' →
      E (.ref e) { heap := h'', gens := gens', drawn := s.drawn, toks := tk', os := s.os }) :
    wpAny (model PySem.Challenge.rw_bl0022_01.row.prog w) (ktrTop dp un gd cn cs L a ccd cl outer) (call (.ref 28) [.str t tk]) Q E s := by
  w_on
  w_strict (
    revert X
    k_fill
    intro X
    refine wpAny_call ?_
    k_dflt (walk_at "my cells")
    rename_i gP LP hP tkP FGP FP BP XP TP lP oP dP NP
    rename Fr _ _ _ (bindL _ _ _) => F1
    rename News _ _ _ (_ :: (23, _) :: _) => N1
    rename Obj => oc
    rename oc.data = _ => hoc
    have hoc2 : oc.data = .cell (some (.str t tk)) := hoc
    clear hoc
    obtain ⟨u, F2⟩ : ∃ u, Fr _ _ _ u := ⟨_, F1⟩
    clear F1
    k_steps
    k_dflt (refine' nestDef_K ?d0 ?k0 ?a0 ?_; (case d0 => exact rfl); (case k0 => exact rfl); (case a0 => exact rfl))
    refine nest_any F2 N1 (by assumption) (C.keeps (Below.stays (by assumption))) rfl (Nat.ne_of_gt (Nat.lt_succ_of_lt (And.left (by assumption)))) hoff ?_ rfl ?_
    · exact htab
    intro f c' of vs qt ctv doc h2 tk2 F3 N3 d1 d2 l1 l2
    k_steps
    rename Fr _ _ _ (fun y => if y = _ then _ else _) => F4
    rename News _ _ _ (_ :: _ :: _ :: _) => N4
    rename Below (ktrTop _ _ _ _ _ _ _ _ _ _) _ _ _ => B4
    rename Top _ _ _ _ _ _ => T4
    rename Frag.In _ _ => X4
    obtain ⟨g₀, FG, BG, sG, q1, q2, q3⟩ := ground2 (s := s) (env := envOfC "parse_percent_format" { kind := .function, names := [("s", .cell), ("_parse_inner", .local), ("tuple", .globalImplicit)], isGenerator := false, isCoroutine := false } _ 28 (.ref 27)) (A := (ktrTop dp un gd cn cs L a ccd cl outer).deeper (envOfC "parse_percent_format" { kind := .function, names := [("s", .cell), ("_parse_inner", .local), ("tuple", .globalImplicit)], isGenerator := false, isCoroutine := false } _ 28 (.ref 27))) B4 F4 N4 rfl rfl rfl
    have XG := X4.keeps sG
    have TG := T4.keeps sG
    have hcA := q3 _ (.tail _ (.tail _ (.head _)))
    refine call_genX (T4.nolimit.keeps F4.keep) (by ktr_room) (N4 _ (.head _)).1 rfl (codeRec_news N4 (.tail _ (.head _)) d1 d2) (BindsTo.of_eq rfl) ?_ rfl rfl rfl (by decide)
    intro Lg I h5 tk5 hk5 hns hgen hLn hIn hIL hLs hIs
    have F5 := F4.keeps hk5
    have N5 : News _ _ h5 _ := fun p hp => ⟨hk5 _ _ (N4 p hp).1, (N4 p hp).2⟩
    k_steps
    dsimp only at hk5 hgen hLn hIn hLs hIs
    refine tuple_gen (L := Lg) (N := 2 * t.length + 2) (t := t) BG hcA rfl ?_ ?_ hgen hIL ?_ hns.lt (fun b o e => hk5 b o (q1 b o e)) (Heap.lt_size (N5 _ (.tail _ (.tail _ (.head _)))).1) (by rw [sizeLine_eq]; omega) ?_ (Array.getElem?_push_size ..) ?_ ?_ ?_
    · show dp + 1 + 8 < recursionLimit
      omega
    · exact T4.nolimit.keeps F5.keep
    · intro hm
      obtain ⟨_, o, ho, _⟩ := BG.frames.mem hm
      have := q1 _ _ ho
      rw [hIn] at this; cases this
    · exact fun h' k => TG.nolimit.keeps fun b o e => k b o (Nat.ne_of_lt (Nat.lt_of_lt_of_le (Heap.lt_size (q1 b o e)) hLs)) (hk5 b o (q1 b o e))
    · intro s₁ hst
      have F6 : Fr g₀ Lg s₁.heap (fun _ => none) := ⟨(by obtain ⟨o, es, ep, ho, r⟩ := hns; exact ⟨o, es, ep, hst _ _ (.inl rfl) ho, r⟩), fun b o e => hst b o (.inr (.inr ⟨o, e⟩)) (hk5 b o (q1 b o e)), by rw [q2]; exact hLs⟩
      have hcell := hst _ _ (.inr (.inl rfl)) (N5 _ (.tail _ (.tail _ (.head _)))).1
      have hcL := ne_of_get (N4 _ (.tail _ (.tail _ (.head _)))).1 hLn
      clear hret hexc hbare hst hns hgen hIn hIL hIs hLs hLn F5 N5 F4 N4 B4 T4 X4 FG sG q1 q2 q3 hk5 B F X N T hoff htab d1 d2 l1 l2
      obtain ⟨AN, N6, hkept⟩ := stretch F6 hcell hcL hcA
      refine seg_func ?_
      refine seg_stmt ?_
      refine to_top rfl (Nat.le_refl _) rfl rfl (Nat.le_refl _) ?_
      k_steps
      dsimp only
      refine seg_stmt ?_
      refine to_top rfl (Nat.le_refl _) rfl rfl (Nat.le_refl _) ?_
      k_steps
      dsimp only
      refine seg_stmt ?_
      refine to_top rfl (Nat.le_refl _) rfl rfl (Nat.le_refl _) ?_
      k_steps
      dsimp only
      refine seg_stmt ?_
      refine to_top rfl (Nat.le_refl _) rfl rfl (Nat.le_refl _) ?_
      k_steps
      dsimp only
      rename Fr _ _ _ (fun y => if y = _ then _ else _) => F7
      rename News _ _ _ (_ :: AN) => N7
      refine seg_execs_cons (seg_While fun p => ?_)
      refine seg_loop (GI t g₀ Lg (LP + 1) oc (2 * t.length + 2)) ?_ t.length _ _ _ ?_
      case refine_2 =>
        refine ⟨_, 0, 0, 0, false, start, _, _, _, F7, (N7 _ (.head _)).1, ⟨hkept _ _ [] F7 N7, rfl, rfl, rfl⟩, by simp, Nat.zero_le _, by omega, by simp [start], rfl, rfl, rfl, rfl, by simp, fun _ => ⟨rfl, rfl, rfl⟩, fun h => nomatch h⟩
      clear F7 N7 hkept
      rintro k n s₂ s₃ ⟨m3, i, ss, se, b, σ, ti, ts, te, F8, hc8, hkp, rfl, hi, hn, hnum, e1, e2, e3, e4, hrd, hb0, hb1⟩ ih
      obtain ⟨AN2, N8, hkept⟩ := stretch F8 hc8 hcL hcA
      cases b with
      | false =>
        obtain ⟨h0, hpl, rfl⟩ := hb0 rfl
        obtain ⟨u8, F9⟩ : ∃ u, Fr g₀ Lg s₃.heap (kstB u [("i", .int ss ti), ("string_start", .int ss ts), ("string_end", .int se te), ("in_fmt", .bool false)]) := ⟨_, fr_known F8 _ (by intro p hp; simp only [List.mem_cons, List.not_mem_nil, or_false] at hp; rcases hp with rfl | rfl | rfl | rfl <;> assumption)⟩
        clear F8 e1 e2 e3 e4 hb1 hb0
        dsimp only [kstB] at F9
        refine seg_whileLoop ?_
        refine to_top rfl (Nat.le_refl _) rfl rfl (Nat.le_refl _) ?_
        k_steps
        all_goals (try dsimp only)
        · refine seg_execs_cons (seg_If ?_)
          refine to_top rfl (Nat.le_refl _) rfl rfl (Nat.le_refl _) ?_
          k_steps
          all_goals (try dsimp only)
          refine seg_execs_cons (seg_If ?_)
          refine to_top rfl (Nat.le_refl _) rfl rfl (Nat.le_refl _) ?_
          k_steps
          all_goals (try dsimp only)
          · rename ¬ (37 ∈ _) => hno
            obtain ⟨n', rfl⟩ : ∃ n', n = n' + 1 := ⟨n - 1, by omega⟩
            refine seg_execs_cons (seg_Expr_Yield rfl rfl rfl ?_)
            refine to_top rfl (Nat.le_refl _) rfl rfl (Nat.le_refl _) ?_
            k_steps
            rename_i kap hk
            rename Fr _ _ _ (fun y => if y = _ then _ else _) => FA
            rename News _ _ _ (_ :: (LP + 1, _) :: _) => NA
            have hq0 : (sg t).drop ss ≠ [] := fun q => by
              have := congrArg List.length q
              rw [List.length_drop, ← len_sg] at this
              simp at this; omega
            have hend : readS (sg t) start = some (σ.parts ++ [((sg t).drop ss, none)]) := by
              rw [← hrd, rd_last hno h0, hpl, List.nil_append, if_neg hq0]
            rw [slice_from] at NA
            obtain ⟨TS, hTS, hmade⟩ := last_in NA
            refine ⟨⟨fun b o h1 h2 => hkept _ _ [_] FA NA b o h1 (hkp.1 b o h1 h2), hkp.2⟩, fun ps hps => ⟨((sg t).drop ss, none), TS, ?_, hTS, hmade⟩, fun s'' hst => hk .none s'' ?_⟩
            · rw [hend] at hps
              cases hps
              have e9 : 2 * t.length + 2 - (n' + 1) = σ.parts.length := by omega
              rw [e9]; simp
            · dsimp only
              refine seg_stmt ?_
              refine to_top rfl (Nat.le_refl _) rfl rfl (Nat.le_refl _) ?_
              refine wpAny_Return_none ?_
              dsimp only
              refine seg_leaf (.ok (.ret .none)) ?_
              refine seg_end (.ok (.ret .none)) ?_
              refine .inl ⟨rfl, ⟨fun _ _ _ h => h, rfl, rfl, rfl⟩, _, hend, ?_⟩
              simp; omega
          · rename ¬¬(37 ∈ _) => hin
            replace hin := Decidable.not_not.mp hin
            refine seg_stmt ?_
            refine to_top rfl (Nat.le_refl _) rfl rfl (Nat.le_refl _) ?_
            k_steps
            try dsimp only
            refine seg_stmt ?_
            refine to_top rfl (Nat.le_refl _) rfl rfl (Nat.le_refl _) ?_
            k_steps
            try dsimp only
            refine seg_stmt ?_
            refine to_top rfl (Nat.le_refl _) rfl rfl (Nat.le_refl _) ?_
            k_steps
            try dsimp only
            refine seg_stmt ?_
            refine to_top rfl (Nat.le_refl _) rfl rfl (Nat.le_refl _) ?_
            k_steps
            try dsimp only
            rename Fr _ _ _ (fun y => if y = _ then _ else _) => FA
            rename News _ _ _ ((LP + 1, _) :: _) => NA
            obtain ⟨j1, j2, _⟩ := idx_lt hin
            rw [List.length_drop, ← len_sg] at j1
            refine seg_again (by rfl) (ih (t.length - (ss + idx ((sg t).drop ss) 37 + 1)) n _ _ (by omega) ⟨_, ss + idx ((sg t).drop ss) 37 + 1, ss, ss + idx ((sg t).drop ss) 37, true, ⟨1, ((sg t).drop ss).take (idx ((sg t).drop ss) 37), none, [], [], [], σ.parts⟩, _, _, _, FA, (NA _ (.head _)).1, ⟨fun b o h1 h2 => hkept _ _ [] FA NA b o h1 (hkp.1 b o h1 h2), hkp.2⟩, rfl, by omega, by omega, hnum, rfl, rfl, rfl, rfl, ?_, (fun h => nomatch h), fun _ => ⟨?_, by omega, by omega⟩⟩)
            · rw [← hrd, rd_skip h0 hin, hpl, List.nil_append]
            · rw [show ss + idx ((sg t).drop ss) 37 - ss = idx ((sg t).drop ss) 37 by omega]
        · refine seg_execs_nil ?_
          refine seg_leaf (.ok .next) ?_
          refine seg_execs_cons (seg_If ?_)
          refine to_top rfl (Nat.le_refl _) rfl rfl (Nat.le_refl _) ?_
          k_steps
          try dsimp only
          refine seg_execs_nil ?_
          try dsimp only
          refine seg_execs_nil ?_
          refine seg_end (.ok (.ret .none)) ?_
          refine .inl ⟨rfl, hkp, σ.parts, ?_, by omega⟩
          rw [← hrd, List.drop_of_length_le (by rw [← len_sg]; omega), readS_nil, if_neg (by simp [h0]), if_pos hpl]
      | true =>
        obtain ⟨hσ, hse1, hse2⟩ := hb1 rfl
        obtain ⟨u8, F9⟩ : ∃ u, Fr g₀ Lg s₃.heap (kstB u [("i", .int i ti), ("string_start", .int ss ts), ("string_end", .int se te), ("in_fmt", .bool true)]) := ⟨_, fr_known F8 _ (by intro p hp; simp only [List.mem_cons, List.not_mem_nil, or_false] at hp; rcases hp with rfl | rfl | rfl | rfl <;> assumption)⟩
        clear F8 e1 e2 e3 e4 hb1 hb0
        dsimp only [kstB] at F9
        refine seg_whileLoop ?_
        refine to_top rfl (Nat.le_refl _) rfl rfl (Nat.le_refl _) ?_
        k_steps
        all_goals (try dsimp only)
        · refine seg_execs_cons (seg_If ?_)
          refine to_top rfl (Nat.le_refl _) rfl rfl (Nat.le_refl _) ?_
          k_steps
          try dsimp only
          have h1s : σ.stage = 1 := by rw [hσ]
          have hnm : σ.name = none := by rw [hσ]
          have hfl : σ.flags = [] := by rw [hσ]
          have hwd : σ.width = [] := by rw [hσ]
          have hpr : σ.prec = [] := by rw [hσ]
          refine seg_cut2 (fun s' => ∃ (i1 : Nat) (t1 : Tok) (nm : Option (List Nat)) (kv : Value), Mid g₀ Lg (LP + 1) oc AN2 s₃ [("i", .int i1 t1), ("string_start", .int ss ts), ("string_end", .int se te), ("key", kv)] s' ∧ DatIn [] kv (optD nm) ∧ i1 ≤ t.length ∧ i ≤ i1 ∧ readS ((sg t).drop i1) ⟨2, σ.plain, nm, [], [], [], σ.parts⟩ = readS (sg t) start) (in_top (dp := dp + 2) (un := un + 10) rfl (Nat.le_refl (dp + 2)) rfl rfl (Nat.le_refl (un + 10))) ?_ ?_
          · skip
            k_steps
            all_goals rename Fr _ _ _ (fun y => if y = _ then _ else _) => FA
            all_goals rename News _ _ _ ((LP + 1, _) :: _) => NA
            all_goals rw [Nat.add_sub_cancel_left] at *
            · rename 41 ∈ _ => g1
              rename ¬ 40 ∈ _ => g2
              rename List.take _ _ = [40] => g3
              obtain ⟨j1, _, _⟩ := idx_lt g1
              rw [List.length_drop, ← len_sg] at j1
              refine ⟨rfl, i + idx ((sg t).drop i) 41 + 1, _, some (((sg t).drop (i + 1)).take (i + idx ((sg t).drop i) 41 - (i + 1))), _, Mid.mk FA NA (.intro rfl (.intro rfl (.intro rfl (.intro rfl trivial)))), ?_, by omega, by omega, ?_⟩
              · exact (slice_nat t _ _) ▸ .str _ _
              · rw [← hrd, nm_yes h1s g3 g1 g2, hfl, hwd, hpr]
            · rename 41 ∈ _ => g1
              rename ¬ ¬ 40 ∈ _ => g2
              refine ⟨rfl, i, ti, none, .none, Mid.mk FA NA (.intro rfl (.intro rfl (.intro rfl (.intro rfl trivial)))), .none, hi, Nat.le_refl _, ?_⟩
              rw [← hrd, nm_no h1s fun _ _ _ => Decidable.not_not.mp g2, hnm, hfl, hwd, hpr]
            · refine ⟨rfl, i, ti, none, .none, Mid.mk FA NA (.intro rfl (.intro rfl (.intro rfl (.intro rfl trivial)))), .none, hi, Nat.le_refl _, ?_⟩
              rw [← hrd, nm_no h1s fun _ _ _ => by omega, hnm, hfl, hwd, hpr]
            · rename ¬ List.take _ _ = [40] => g2
              refine ⟨rfl, i, ti, none, .none, Mid.mk FA NA (.intro rfl (.intro rfl (.intro rfl (.intro rfl trivial)))), .none, hi, Nat.le_refl _, ?_⟩
              rw [← hrd, nm_no h1s fun h _ _ => absurd h g2, hnm, hfl, hwd, hpr]
            · rename ¬ 41 ∈ _ => g2
              refine ⟨rfl, i, ti, none, .none, Mid.mk FA NA (.intro rfl (.intro rfl (.intro rfl (.intro rfl trivial)))), .none, hi, Nat.le_refl _, ?_⟩
              rw [← hrd, nm_no h1s fun _ h _ => absurd h g2, hnm, hfl, hwd, hpr]
            · rename ¬ 41 ∈ _ => g2
              refine ⟨rfl, i, ti, none, .none, Mid.mk FA NA (.intro rfl (.intro rfl (.intro rfl (.intro rfl trivial)))), .none, hi, Nat.le_refl _, ?_⟩
              rw [← hrd, nm_no h1s fun _ h _ => absurd h g2, hnm, hfl, hwd, hpr]
          clear F9 N8
          rintro s4 ⟨i1, t1, nm, kv, ⟨⟨u4, F4⟩, N4, y1, y2, y3⟩, hkv, hi1, hii, hR⟩
          dsimp only [kstB] at F4
          refine seg_cut2 (fun s' => ∃ (t2 : Tok) (fv : Value), Mid g₀ Lg (LP + 1) oc AN2 s₃ [("i", .int (i1 + (((sg t).drop i1).takeWhile isFlag).length : Nat) t2), ("string_start", .int ss ts), ("string_end", .int se te), ("key", kv), ("conversion_flag", fv)] s' ∧ DatIn [] fv (orD (((sg t).drop i1).takeWhile isFlag))) (in_top (dp := dp + 2) (un := un + 10) rfl (Nat.le_refl (dp + 2)) rfl rfl (Nat.le_refl (un + 10))) ?_ ?_
          · skip
            k_steps
            rename Fr _ _ _ (fun y => if y = _ then _ else _) => FA
            rename News _ _ _ (_ :: (LP + 1, _) :: _) => NA
            rename DatIn _ _ (orD (sg (Txt.slice _ _ _))) => hv
            refine ⟨rfl, _, _, Mid.mk FA (fun p hp => NA p (.tail _ hp)) (.intro rfl (.intro rfl (.intro rfl (.intro rfl (.intro rfl trivial))))) y1 y2 y3, or_cut hv ?_⟩
            rw [Nat.add_sub_cancel_left, take_while]
          clear F4 N4 y1 y2 y3
          rintro s5 ⟨t2, fv, ⟨⟨u5, F5⟩, N5, y1, y2, y3⟩, hfv⟩
          dsimp only [kstB] at F5
          have hi2 : i1 + (((sg t).drop i1).takeWhile isFlag).length ≤ t.length := take_fit hi1
          generalize hflq : ((sg t).drop i1).takeWhile isFlag = fl at F5 hfv hi2
          generalize hi2q : i1 + fl.length = i2 at F5 hi2
          refine seg_cut2 (fun s' => ∃ (t3 : Tok) (wv : Value), Mid g₀ Lg (LP + 1) oc AN2 s₃ [("i", .int (i2 + (widthOf ((sg t).drop i2)).length : Nat) t3), ("string_start", .int ss ts), ("string_end", .int se te), ("key", kv), ("conversion_flag", fv), ("width", wv)] s' ∧ DatIn [] wv (orD (widthOf ((sg t).drop i2)))) (in_top (dp := dp + 2) (un := un + 10) rfl (Nat.le_refl (dp + 2)) rfl rfl (Nat.le_refl (un + 10))) ?_ ?_
          · skip
            k_steps
            all_goals rename Fr _ _ _ (fun y => if y = _ then _ else _) => FA
            all_goals rename News _ _ _ (_ :: (LP + 1, _) :: _) => NA
            all_goals rename DatIn _ _ (orD (sg (Txt.slice _ _ _))) => hv
            · rename List.take _ _ = [42] => g1
              refine ⟨rfl, ?_⟩
              rw [width_star (one_of g1)]
              exact ⟨_, _, Mid.mk FA (fun p hp => NA p (.tail _ hp)) (.intro rfl (.intro rfl (.intro rfl (.intro rfl (.intro rfl (.intro rfl trivial)))))) y1 y2 y3, or_cut hv g1⟩
            · rename ¬ List.take _ _ = [42] => g1
              refine ⟨rfl, ?_⟩
              rw [width_dig (none_of g1)]
              exact ⟨_, _, Mid.mk FA (fun p hp => NA p (.tail _ hp)) (.intro rfl (.intro rfl (.intro rfl (.intro rfl (.intro rfl (.intro rfl trivial)))))) y1 y2 y3, or_cut hv (by rw [Nat.add_sub_cancel_left, take_while])⟩
          clear F5 N5 y1 y2 y3
          rintro s6 ⟨t3, wv, ⟨⟨u6, F6⟩, N6, y1, y2, y3⟩, hwv⟩
          dsimp only [kstB] at F6
          have hi3 : i2 + (widthOf ((sg t).drop i2)).length ≤ t.length := by rw [len_sg]; exact width_fit (by rw [← len_sg]; exact hi2)
          generalize hwdq : widthOf ((sg t).drop i2) = wd at F6 hwv hi3
          generalize hi3q : i2 + wd.length = i3 at F6 hi3
          refine seg_cut3 (fun s' => ∃ (t4 : Tok) (pv : Value), Mid g₀ Lg (LP + 1) oc AN2 s₃ [("i", .int (i3 + (precOf ((sg t).drop i3)).length : Nat) t4), ("string_start", .int ss ts), ("string_end", .int se te), ("key", kv), ("conversion_flag", fv), ("width", wv), ("precision", pv)] s' ∧ DatIn [] pv (orD (precOf ((sg t).drop i3)))) (in_top (dp := dp + 2) (un := un + 10) rfl (Nat.le_refl (dp + 2)) rfl rfl (Nat.le_refl (un + 10))) ?_ ?_
          · skip
            k_steps
            all_goals (try rename Fr _ _ _ (fun y => if y = _ then _ else _) => FA)
            all_goals (try rename News _ _ _ (_ :: (LP + 1, _) :: _) => NA)
            all_goals (try rename DatIn _ _ (orD (sg (Txt.slice _ _ _))) => hv)
            · rename List.take _ _ = [42] => g2
              rename List.take _ _ = [46] => g1
              refine ⟨rfl, ?_⟩
              rw [prec_star (one_of g1) (two_of g2)]
              exact ⟨_, _, Mid.mk FA (fun p hp => NA p (.tail _ hp)) (.intro rfl (.intro rfl (.intro rfl (.intro rfl (.intro rfl (.intro rfl (.intro rfl trivial))))))) y1 y2 y3, or_cut hv (by rw [Nat.add_sub_cancel_left]; exact take_two (one_of g1) (two_of g2))⟩
            · rename ¬ List.take _ _ = [42] => g2
              rename List.take _ _ = [46] => g1
              refine ⟨rfl, ?_⟩
              rw [prec_dig (one_of g1) (ntwo_of g2), List.length_cons, ← Nat.add_assoc, Nat.add_right_comm]
              exact ⟨_, _, Mid.mk FA (fun p hp => NA p (.tail _ hp)) (.intro rfl (.intro rfl (.intro rfl (.intro rfl (.intro rfl (.intro rfl (.intro rfl trivial))))))) y1 y2 y3, or_cut hv (by rw [take_dig (one_of g1), take_while])⟩
            · rename ¬ List.take _ _ = [46] => g1
              refine ⟨rfl, ?_⟩
              rw [prec_none (none_of g1)]
              exact ⟨_, _, Mid.mk FA (fun p hp => NA p (.tail _ hp)) (.intro rfl (.intro rfl (.intro rfl (.intro rfl (.intro rfl (.intro rfl (.intro rfl trivial))))))) y1 y2 y3, or_cut hv (by rw [Nat.sub_self]; rfl)⟩
          clear F6 N6 y1 y2 y3
          rintro s7 ⟨t4, pv, ⟨⟨u7, F7⟩, N7, y1, y2, y3⟩, hpv⟩
          dsimp only [kstB] at F7
          have hi4 : i3 + (precOf ((sg t).drop i3)).length ≤ t.length := by rw [len_sg]; exact prec_fit (by rw [← len_sg]; exact hi3)
          generalize hprq : precOf ((sg t).drop i3) = pr at F7 hpv hi4
          generalize hi4q : i3 + pr.length = i4 at F7 hi4
          refine seg_cut (fun s' => ∃ (t5 : Tok), Mid g₀ Lg (LP + 1) oc AN2 s₃ [("i", .int (i4 + sizeOf ((sg t).drop i4) : Nat) t5), ("string_start", .int ss ts), ("string_end", .int se te), ("key", kv), ("conversion_flag", fv), ("width", wv), ("precision", pv)] s') ?_ ?_
          · refine to_top (dp := dp + 2) (un := un + 10) rfl (Nat.le_refl (dp + 2)) rfl rfl (Nat.le_refl (un + 10)) ?_
            k_steps
            all_goals rename Fr _ _ _ (fun y => if y = _ then _ else _) => FA
            all_goals rename News _ _ _ (_ :: (LP + 1, _) :: _) => NA
            all_goals rename List.any _ _ = _ => g1
            · refine ⟨rfl, ?_⟩
              rw [any_size g1]
              exact ⟨_, Mid.mk FA (fun p hp => NA p (.tail _ hp)) (.intro rfl (.intro rfl (.intro rfl (.intro rfl (.intro rfl (.intro rfl (.intro rfl trivial))))))) y1 y2 y3⟩
            · refine ⟨rfl, ?_⟩
              rw [any_size g1]
              exact ⟨_, Mid.mk FA (fun p hp => NA p (.tail _ hp)) (.intro rfl (.intro rfl (.intro rfl (.intro rfl (.intro rfl (.intro rfl (.intro rfl trivial))))))) y1 y2 y3⟩
          clear F7 N7 y1 y2 y3
          rintro s8 ⟨t5, ⟨⟨u8, F8⟩, N8, y1, y2, y3⟩⟩
          dsimp only [kstB] at F8
          have hi5 : i4 + sizeOf ((sg t).drop i4) ≤ t.length := by rw [len_sg]; exact size_fit (by rw [← len_sg]; exact hi4)
          generalize hszq : sizeOf ((sg t).drop i4) = sz at F8 hi5
          generalize hi5q : i4 + sz = i5 at F8 hi5
          have hplace := rd_place (t := sg t) (i := i1) (fl := fl) (wd := wd) (pr := pr) (sz := sz) (σ := ⟨2, σ.plain, nm, [], [], [], σ.parts⟩) rfl rfl rfl rfl hflq (by rw [hi2q]; exact hwdq) (by rw [hi2q, hi3q]; exact hprq) (by rw [hi2q, hi3q, hi4q]; exact hszq)
          rw [hR, hi2q, hi3q, hi4q, hi5q] at hplace
          clear hflq hwdq hprq hszq hR
          rcases Nat.lt_or_ge i5 t.length with h5 | h5
          · refine seg_cut (fun s' => ∃ (c : Nat) (tc : Tok), (sg t)[i5]? = some c ∧ Mid g₀ Lg (LP + 1) oc AN2 s₃ [("i", .int (i5 : Nat) t5), ("string_start", .int ss ts), ("string_end", .int se te), ("key", kv), ("conversion_flag", fv), ("width", wv), ("precision", pv), ("conversion", .str (one c) tc)] s') ?_ ?_
            · refine to_top (dp := dp + 2) (un := un + 10) rfl (Nat.le_refl (dp + 2)) rfl rfl (Nat.le_refl (un + 10)) ?_
              k_steps
              rename Fr _ _ _ (fun y => if y = _ then _ else _) => FA
              exact ⟨rfl, _, _, by assumption, Mid.mk FA (by assumption) (.intro rfl (.intro rfl (.intro rfl (.intro rfl (.intro rfl (.intro rfl (.intro rfl (.intro rfl trivial)))))))) y1 y2 y3⟩
            clear F8 N8 y1 y2 y3
            rintro s9 ⟨c, tc, hc, ⟨⟨u9, F9⟩, N9, y1, y2, y3⟩⟩
            dsimp only [kstB] at F9
            have hend := (hplace.trans (conv_at (by rw [← len_sg]; exact h5) c hc))
            dsimp only at hend
            refine seg_stmt ?_
            refine to_top (dp := dp + 2) (un := un + 10) rfl (Nat.le_refl (dp + 2)) rfl rfl (Nat.le_refl (un + 10)) ?_
            k_steps
            try dsimp only
            refine seg_stmt ?_
            refine to_top (dp := dp + 2) (un := un + 10) rfl (Nat.le_refl (dp + 2)) rfl rfl (Nat.le_refl (un + 10)) ?_
            k_steps
            try dsimp only
            obtain ⟨n', rfl⟩ : ∃ n', n = n' + 1 := ⟨n - 1, by omega⟩
            refine seg_execs_cons (seg_Expr_Yield rfl rfl rfl ?_)
            refine to_top (dp := dp + 2) (un := un + 10) rfl (Nat.le_refl (dp + 2)) rfl rfl (Nat.le_refl (un + 10)) ?_
            k_steps
            rename_i kap hk
            rename Fr _ _ _ (fun y => if y = _ then _ else _) => FA
            rename News _ _ _ (_ :: _ :: (LP + 1, _) :: _) => NA
            rw [slice_nat] at NA
            obtain ⟨TS, hTS, hmade⟩ := field_in NA hkv hfv hwv hpv
            have hpl : σ.plain = ((sg t).drop ss).take (se - ss) := by rw [hσ]
            refine ⟨⟨fun b o h1 h2 => hkept _ _ [_, _] FA NA b o h1 (hkp.1 b o h1 h2), y1.trans hkp.2.1, y2.trans hkp.2.2.1, y3.trans hkp.2.2.2⟩, fun ps hps => ⟨_, TS, ?_, hTS, hmade⟩, fun s'' hst => hk .none s'' ?_⟩
            · rw [hend] at hps
              have e9 : 2 * t.length + 2 - (n' + 1) = σ.parts.length := by omega
              rw [e9, ← hpl]
              exact part_at hps
            · have FB : Fr g₀ Lg s''.heap _ := ⟨(by obtain ⟨o, es, ep, ho, r⟩ := FA.ns; exact ⟨o, es, ep, hst _ _ (.inl rfl) ho, r⟩), fun b o e => hst b o (.inr (.inr ⟨o, e⟩)) (FA.keep b o e), FA.above⟩
              have hc9 := hst (LP + 1) _ (.inr (.inl rfl)) (NA _ (.tail _ (.tail _ (.head _)))).1
              obtain ⟨AN3, N10, hkept3⟩ := stretch FB hc9 hcL hcA
              clear hmade hTS NA FA hkept hk hst
              dsimp only
              refine seg_stmt ?_
              refine to_top (dp := dp + 2) (un := un + 10) rfl (Nat.le_refl (dp + 2)) rfl rfl (Nat.le_refl (un + 10)) ?_
              k_steps
              try dsimp only
              refine seg_stmt ?_
              refine to_top (dp := dp + 2) (un := un + 10) rfl (Nat.le_refl (dp + 2)) rfl rfl (Nat.le_refl (un + 10)) ?_
              k_steps
              try dsimp only
              rename Fr _ _ _ (fun y => if y = _ then _ else _) => FC
              rename News _ _ _ ((LP + 1, _) :: _) => NC
              refine seg_again (by rfl) (ih (t.length - (i5 + 1)) n' _ _ (by omega) ⟨_, i5 + 1, i5 + 1, se, false, ⟨0, [], nm, fl, wd, pr, σ.parts ++ [(σ.plain, some ⟨nm, fl, wd, pr, c⟩)]⟩, _, _, _, FC, (NC _ (.head _)).1, ⟨fun b o h1 h2 => hkept3 _ _ [] FC NC b o h1 h2, rfl, rfl, rfl⟩, rfl, by omega, by omega, (by simp; omega), rfl, rfl, rfl, rfl, hend.symm, fun _ => ⟨rfl, rfl, rfl⟩, fun h => nomatch h⟩)
          · refine seg_stmt ?_
            refine to_top (dp := dp + 2) (un := un + 10) rfl (Nat.le_refl (dp + 2)) rfl rfl (Nat.le_refl (un + 10)) ?_
            k_steps
            all_goals (try (exfalso; omega))
            rename Heap.NewExc _ _ _ _ => hx
            have hnone : readS (sg t) start = none := hplace.trans (conv_end (by rw [← len_sg]; exact h5))
            refine try_out BG F8 rfl hx XB TB (by k_is) (by k_is) rfl rfl rfl fun h1 tk1 e2 oe vs a0 BB st hBk hN hcl h0 hen hup => ?_
            dsimp only
            refine seg_wrap ?_
            refine note_lot (s := ⟨h1, _, _, _, _⟩) rfl hN ?_
            refine seg_leaf (.error (.ref e2)) ?_
            dsimp only
            refine seg_wrap ?_
            refine wpAny_onRaise (wp_raise ?_)
            refine back_wp (s := ⟨h1, _, _, _, _⟩) hN fun h2 N2 u2 => ?_
            refine seg_wrap ?_
            refine leave_noted (s := ⟨h2, _, _, _, _⟩) rfl N2 fun h3 N3 u3 => ?_
            refine seg_end (.error _) ?_
            exact .inr ⟨_, rfl, hnone, y1.trans hkp.2.1, y2.trans hkp.2.2.1, y3.trans hkp.2.2.2, errH_of st hBk N3 hcl h0 hen (fun b o q1 q2 => hkept _ _ [] F8 N8 b o q1 (hkp.1 b o q1 q2)) ((hup.trans u2).trans u3)⟩
        · refine seg_execs_nil ?_
          refine seg_leaf (.ok .next) ?_
          refine seg_execs_cons (seg_If ?_)
          refine to_top rfl (Nat.le_refl _) rfl rfl (Nat.le_refl _) ?_
          k_steps
          try dsimp only
          refine seg_stmt ?_
          refine to_top rfl (Nat.le_refl _) rfl rfl (Nat.le_refl _) ?_
          k_steps
          rename Heap.NewExc _ _ _ _ => hx
          have hnone : readS (sg t) start = none := by
            rw [← hrd, List.drop_of_length_le (by rw [← len_sg]; omega), readS_nil, if_pos (by rw [hσ]; simp)]
          refine seg_wrap ?_
          refine leave_fresh BG F9 rfl rfl rfl hx hkp.1 (fun h' herr => ?_)
          refine seg_end (.error _) ?_
          exact .inr ⟨_, rfl, hnone, hkp.2.1, hkp.2.2.1, hkp.2.2.2, herr⟩
    · intro qs acc TS h' gens' tk6 hps hdat hmade hkeep hgeq hfin hlen
      dsimp only at hkeep hgeq
      have up := ppf_up hLn hk5 hkeep
      obtain ⟨FR, NR⟩ := ppf_ret (T := { cls := .type "tuple", data := .seq acc.toArray }) FG sG F4 N4 up hmade rfl
      refine leaveK_ FR NR fun FL NL => ?_
      exact hret qs _ _ _ _ _ _ hps FL NL (ppf_off N4 up hmade l2) (.inr ⟨c', of, vs, qt, rfl, List.mem_append_left _ (.tail _ (.head _)), d1, d2⟩) (ppf_dat hdat) (gens_bare hbare rfl hgeq hfin)
    · intro e h' gens' tk6 hnone herr hgeq hfin
      dsimp only at hgeq herr
      obtain ⟨BB, a0, st, hfl, hBk, hup⟩ := herr
      refine wpAny_leaves_onW rfl rfl hfl fun h'' hfl2 up2 => ?_
      exact hexc e gP h'' _ _ _ _ _ hnone FGP (Heap.UpToSlots.trans (fun b o q nf => hup b o (ne_of_get (F4.keep b o q) hLn) (hk5 _ _ (F4.keep b o q)) nf) up2) (ppf_exc B4 rfl F4 N4 hLn hk5 st hBk hfl2) (gens_bare hbare rfl hgeq hfin))
end
end Mine

end
section
open PySem PySem.W PyProof.Rows PySem.Calls
namespace Mine
/-- the end of a turn of a for over a tuple: the body falls through -/
def TupEnd (h₀ : Heap) (L : Addr) (J : (Str → Option Value) → Prop) (ledger : List (Addr × Obj)) (s₁ : Shared) (f : Flow) (s₂ : Shared) : Prop :=
  f = .next ∧ ∃ h' tk m', s₂ = { s₁ with heap := h', toks := tk } ∧ Fr h₀ L h' m' ∧ News h₀ L h' ledger ∧ J m'
theorem tup_end {h₀ h' : Heap} {L : Addr} {J : (Str → Option Value) → Prop} {ledger : List (Addr × Obj)} {s₁ : Shared} {tk : Nat} {m' : Str → Option Value} (F : Fr h₀ L h' m') (N : News h₀ L h' ledger) (j : J m') : TupEnd h₀ L J ledger s₁ .next { s₁ with heap := h', toks := tk } := ⟨rfl, h', tk, m', rfl, F, N, j⟩

section
variable {prog : Program} {w : World} {A : Around} {E : Value → Shared → Prop} {s : Shared} {env : Env} {h₀ : Heap} {target : PySem.Expr} {body : List Stmt} {Q : Flow → Shared → Prop}
theorem tup_loop {ax : Addr} {lo : Obj} {vs : List Value} {n : Nat} {m₀ : Str → Option Value} {news : List (Addr × Obj)} (J : Nat → (Str → Option Value) → Prop)
    (hh : A.handled = none) (F : Fr h₀ env.locals s.heap m₀) (N : News h₀ env.locals s.heap news) (hm : (ax, lo) ∈ news) (hc : lo.cls = .type "tuple") (hd : lo.data = .seq vs.toArray n) (h0 : J 0 m₀)
    (turn : ∀ i v m₁ h tk own, vs[i]? = some v → J i m₁ → Fr h₀ env.locals h m₁ → News h₀ env.locals h (own ++ news) →
      wpAny (model prog w) A (assign target env v) (fun _ s₂ => wpAny (model prog w) A (execs body env) (TupEnd h₀ env.locals (J (i + 1)) (own ++ news) { s with heap := h, toks := tk }) E s₂) E { s with heap := h, toks := tk })
    (done : ∀ m₁ h tk, J vs.length m₁ → Fr h₀ env.locals h m₁ → News h₀ env.locals h news → Q .next { s with heap := h, toks := tk }) :
    wpAny (model prog w) A (pyIter (.ref ax)) (fun it s₂ => TurnsAt prog w A h₀ env target body Q E it s₂) E s := by
  have hax := N _ hm
  have hl : s.heap.IsTuple ax vs.toArray := ⟨lo, hax.1, hc, n, hd⟩
  have hlt : ax < s.heap.objs.size := Heap.lt_size hax.1
  have hne : ax ≠ s.heap.objs.size := Nat.ne_of_lt hlt
  refine wpAny_pyIter_tuple hl ?_
  have W := KTurns.ofWalks (target := target) (Walks.tuple hh (prog := prog) (w := w) s.heap.objs.size ax hne vs.toArray) fun i v s Q E st q => letGo_tupleiter st.1 q
  refine ⟨_, _, _, _, _, _, _, m₀, news, fun i m₁ news₁ => news₁ = news ∧ J i m₁, rfl, W, ?_, ?_, ?_, ?_, F.push _, fun p hp => ⟨Heap.get?_push_of_some _ (N p hp).1, (N p hp).2⟩, ⟨rfl, h0⟩, ?_, ?_⟩
  · intro hI
    rcases List.mem_cons.mp hI with e | hI
    · exact absurd F.ns.lt (e ▸ Nat.lt_irrefl _)
    · exact hax.2.1 (List.mem_singleton.mp hI).symm
  · intro b hb
    rw [List.mem_singleton.mp hb]
    exact next_is_new F
  · intro p hp hI
    exact absurd (Heap.lt_size (N p hp).1) ((List.mem_singleton.mp hI) ▸ Nat.lt_irrefl _)
  · exact ⟨⟨_, Heap.get?_push_size _ rfl, rfl, rfl⟩, hl.at fun o e => Heap.get?_push_of_some _ e⟩
  · rintro i v m₁ news₁ h₁ tk₁ own hi hP ⟨rfl, hJ⟩ hoff _ _ _ _ F₁ N₁
    have hv : vs[i]? = some v := by
      have : vs.toArray[i]? = some v := hP
      simpa using this
    refine wpAny_mono (turn i v m₁ h₁ tk₁ own hv hJ F₁ N₁) (fun _ s₂ h₂ => wpAny_mono h₂ (fun f s₃ p => ?_) fun _ _ e => e) fun _ _ e => e
    obtain ⟨rfl, h', tk', m', e, F', N', j⟩ := p
    exact LoopStepV.next ⟨rfl, h', tk', m', news₁, e, F', N', hoff, rfl, j⟩
  · rintro h' tk m' news' F' N' _ ⟨rfl, j⟩
    refine done m' h' tk ?_ F' N'
    simpa using j
end

section
variable {prog : Program} {w : World} {A : Around} {E : Value → Shared → Prop} {s : Shared} {env : Env} {l r : List Nat} {x y : Str} {t u : Tok} {Q : Value → Shared → Prop}
theorem add_x (hx : x = mk l) (hy : y = mk r) (hz : l.length + r.length ≤ 1048576) (h : ∀ t' k, Q (.str (mk (l ++ r)) t') { s with toks := k }) : wpAny (model prog w) A (binaryOp .Add (.str x t) (.str y u)) Q E s := by
  subst hx hy; exact add_mk hz h
theorem iadd_x (hx : x = mk l) (hy : y = mk r) (hz : l.length + r.length ≤ 1048576) (h : ∀ t' k, Q (.str (mk (l ++ r)) t') { s with toks := k }) : wpAny (model prog w) A (inplaceOp .Add (.str x t) (.str y u)) Q E s := by
  subst hx hy; exact iadd_mk hz h

def TxtPost (Q : Value → Shared → Prop) (v : Value) (s : Shared) : Prop :=
  ∃ l, DatIn [] v (orD l) ∧ l.length ≤ 1048576 ∧ ∀ t k, Q (.str (mk l) t) { s with toks := k }
theorem txt_post {v : Value} (hd : DatIn [] v (orD l)) (hl : l.length ≤ 1048576) (h : ∀ t k, Q (.str (mk l) t) { s with toks := k }) : TxtPost Q v s := ⟨l, hd, hl, h⟩
theorem or_inv {v : Value} (h : DatIn [] v (orD l)) : (l = [] ∧ v = .none) ∨ (l ≠ [] ∧ ∃ t, v = .str (mk l) t) := by
  unfold orD at h
  by_cases e : l = []
  · rw [if_pos e] at h; cases h; exact .inl ⟨e, rfl⟩
  · rw [if_neg e] at h; cases h; exact .inr ⟨e, _, rfl⟩
theorem or_text {e₁ : PySem.Expr} {pos p : Pos} {kk : Nat} (h : wpAny (model prog w) A (eval e₁ env) (TxtPost Q) E s) : wpAny (model prog w) A (eval (.BoolOp .Or [e₁, .Constant (.str (Str.ofString "")) kk p] pos) env) Q E s := by
  refine BoolOp_or (wpAny_mono h (fun v s₁ h₁ => ?_) fun _ _ x => x)
  obtain ⟨l, hd, hl, hQ⟩ := h₁
  rcases or_inv hd with ⟨rfl, rfl⟩ | ⟨hne, t, rfl⟩
  · refine truthy_none ?_
    refine BoolOp_one (Constant_str ?_)
    have := hQ s₁.toks (s₁.toks + 1)
    rwa [← mk_nil] at this
  · refine KXt.truthy (b := (((mk l).length : Int) != 0)) rfl (by rw [len_mk]; omega) fun k => ?_
    have e : (((mk l).length : Int) != 0) = true := by
      rw [len_mk]; simp [hne]
    rw [e]
    exact hQ _ _
end

theorem part_inv {TS : List (Addr × Obj)} {v : Value} {p : Part} (h : DatIn TS v (partD p)) : (p.2 = none ∧ ∃ d t n, v = .ref d ∧ (d, ({ cls := .type "tuple", data := .seq #[.str (mk p.1) t, .none] n } : Obj)) ∈ TS) ∨
    ∃ f, p.2 = some f ∧ ∃ d d2 t n n2 v0 v1 v2 v3 tc, v = .ref d ∧ (d, ({ cls := .type "tuple", data := .seq #[.str (mk p.1) t, .ref d2] n } : Obj)) ∈ TS ∧ (d2, ({ cls := .type "tuple", data := .seq #[v0, v1, v2, v3, .str (mk [f.conv]) tc] n2 } : Obj)) ∈ TS ∧
      DatIn TS v0 (optD f.name) ∧ DatIn TS v1 (orD f.flags) ∧ DatIn TS v2 (orD f.width) ∧ DatIn TS v3 (orD f.prec) := by
  obtain ⟨pl, fo⟩ := p
  unfold partD at h
  cases h with
  | tuple hm ha =>
    cases ha with
    | cons h1 ha =>
      cases ha with
      | cons h2 ha =>
        cases ha
        cases h1
        cases fo with
        | none => cases h2; exact .inl ⟨rfl, _, _, _, rfl, hm⟩
        | some f =>
          dsimp only at h2
          unfold fldD at h2
          cases h2 with
          | tuple hm2 ha2 =>
            cases ha2 with
            | cons g0 ha2 => cases ha2 with
              | cons g1 ha2 => cases ha2 with
                | cons g2 ha2 => cases ha2 with
                  | cons g3 ha2 => cases ha2 with
                    | cons g4 ha2 =>
                      cases ha2
                      cases g4
                      exact .inr ⟨f, rfl, _, _, _, _, _, _, _, _, _, _, rfl, hm, hm2, g0, g1, g2, g3⟩
theorem opt_inv {TS : List (Addr × Obj)} {v : Value} {o : Option (List Nat)} (h : DatIn TS v (optD o)) : (o = none ∧ v = .none) ∨ ∃ l t, o = some l ∧ v = .str (mk l) t := by
  cases o with
  | none => cases h; exact .inl ⟨rfl, rfl⟩
  | some l => cases h; exact .inr ⟨l, _, rfl, rfl⟩
theorem or_nil {TS : List (Addr × Obj)} {v : Value} {l : List Nat} (h : DatIn TS v (orD l)) : DatIn [] v (orD l) := by
  unfold orD at h ⊢
  by_cases e : l = []
  · rw [if_pos e] at h ⊢; cases h; exact .none
  · rw [if_neg e] at h ⊢; cases h; exact .str _ _
theorem written_take {ps : List Part} {i : Nat} {p : Part} (h : ps[i]? = some p) : written (ps.take (i + 1)) = written (ps.take i) ++ wPart p := by
  induction ps generalizing i with
  | nil => simp at h
  | cons q r ih =>
    cases i with
    | zero => simp at h; subst h; simp [written]
    | succ i =>
      simp only [List.take_succ_cons, written]
      rw [ih (by simpa using h), List.append_assoc]
theorem written_len {ps : List Part} (i : Nat) : (written (ps.take i)).length ≤ (written ps).length := by
  induction ps generalizing i with
  | nil => simp [written]
  | cons q r ih =>
    cases i with
    | zero => simp [written]
    | succ i => simp only [List.take_succ_cons, written, List.length_append]; have := ih i; omega
end Mine

end
section
open PySem PySem.W PyProof.Rows PySem.Calls
namespace Mine
theorem mk_shut : Str.ofString ")" = mk [41] := lit_shut
theorem dat_at {TS : List (Addr × Obj)} {vs : List Value} {ps : List Part} (h : DatAll TS vs (ps.map partD)) {i : Nat} {v : Value} (hv : vs[i]? = some v) : ∃ p, ps[i]? = some p ∧ DatIn TS v (partD p) := by
  induction ps generalizing vs i with
  | nil => cases h; simp at hv
  | cons q r ih =>
    cases h with
    | cons h1 h2 =>
      cases i with
      | zero => simp at hv; subst hv; exact ⟨q, rfl, h1⟩
      | succ i => exact ih h2 (by simpa using hv)
theorem dat_len {TS : List (Addr × Obj)} {vs : List Value} {ps : List Part} (h : DatAll TS vs (ps.map partD)) : vs.length = ps.length := by
  induction ps generalizing vs with
  | nil => cases h; rfl
  | cons q r ih => cases h with | cons h1 h2 => simp [ih h2]
local macro_rules | `(tactic| walk_at "pyIter ref") => `(tactic| (refine stuck ?_))
local macro_rules | `(tactic| walk_at "exec For Tuple Name cons nil") => `(tactic| (refine stuck ?_))
local macro_rules | `(tactic| walk_at "my text") => `(tactic| first | (with_reducible exact rfl) | exact mk_pct | exact mk_open | exact mk_shut | exact mk_h | exact mk_nil)
local macro_rules | `(tactic| walk_at "inplaceOp Add str str") => `(tactic| (k_here; (refine' iadd_x ?hx ?hy ?hz ?_); (case hx => walk_at "my text"); (case hy => walk_at "my text"); (case hz => first | omega | (simp only [List.length_append, List.length_cons, List.length_nil]; omega) | decide); intro _ _; (try dsimp only)))
local macro_rules | `(tactic| walk_at "binaryOp Add str str") => `(tactic| (k_here; (refine' add_x ?hx ?hy ?hz ?_); (case hx => walk_at "my text"); (case hy => walk_at "my text"); (case hz => first | omega | (simp only [List.length_append, List.length_cons, List.length_nil]; omega) | decide); intro _ _; (try dsimp only)))
local macro_rules | `(tactic| walk_at "eval BoolOp") => `(tactic| (k_here; refine or_text ?_))
local macro_rules | `(tactic| walk_at "TxtPost") => `(tactic| (refine' txt_post ?hd ?hl ?_; (case hd => assumption); (case hl => omega); intro _ _; (try dsimp only)))
section
variable {w : World} {loose : List Str} {mean : ExcName → Option Value} {mg mb : Str → Option Value}
    {dp un : Nat} {gd : Option (List Code)} {cn : Str} {cs : Scope} {a : Addr} {ccd : Value} {cl : List (Str × Addr)} {outer : List Env} {A₀ : Around} {base h₀ : Heap} {L : Addr} {m : Str → Option Value} {news : List (Addr × Obj)} {s : Shared} {Q E : Value → Shared → Prop}

set_option maxRecDepth 100000 in
set_option maxHeartbeats 8000000 in
set_option rowWalk.seconds 0 in
theorem written_call
    (B : Below A₀ base outer h₀) (F : Fr h₀ L s.heap m) (X : (hd.heap_39 w.params).In h₀) (N : News h₀ L s.heap news) (T : Top topProg loose mean mg mb h₀) (hcs : cs.kind = .function)
    (hd : dp + 1 < recursionLimit) (hu : un + 8 < cLine)
    (ps : List Part) (D : Addr) (TS : List (Addr × Obj)) (hD : DatIn TS (.ref D) (.tuple (ps.map partD))) (hTS : ∀ q ∈ TS, q ∈ news) (hw : (written ps).length ≤ 1000)
    (hret : ∀ tok h' tk', Fr h₀ L h' m → News h₀ L h' news → Q (.str (mk (written ps)) tok) { s with heap := h', toks := tk' }) :
    wpAny (model PySem.Challenge.rw_bl0022_01.row.prog w) (ktrTop dp un gd cn cs L a ccd cl outer) (call (.ref 49) [.ref D]) Q E s := by
  w_on
  w_strict (
    revert X
    k_fill
    intro X
    refine wpAny_call ?_
    k_dflt cell_enter
    rename_i g' L' h' FG' F' N' B' X' T'
    cases hD with
    | tuple hm ha =>
      k_steps
      unfold Stuck
      try dsimp only at *
      rename Fr g' L' _ _ => F1
      rw [mk_nil] at F1
      rename News g' L' _ news => N1
      refine For_turns F1 ?_
      k_steps
      unfold Stuck
      try dsimp only at *
      refine tup_loop (fun i m₁ => ∃ tok, m₁ "text" = some (.str (mk (written (ps.take i))) tok)) rfl (by assumption) (by assumption) (hTS _ hm) rfl rfl ⟨_, rfl⟩ ?_ ?_
      · rintro i v m₁ h tk2 own hv ⟨tok, e1⟩ Fi Ni
        obtain ⟨p, hp, hpd⟩ := dat_at ha hv
        have F3 := fr_known Fi [("text", .str (mk (written (ps.take i))) tok)] (by intro q hq; obtain rfl := List.mem_singleton.mp hq; exact e1)
        dsimp only [kstB] at F3
        have hwt := written_take hp
        have hl1 := written_len (ps := ps) (i + 1)
        rw [hwt, List.length_append] at hl1
        clear F1 N1 Fi e1
        rcases part_inv hpd with ⟨hn, d, t0, n0, rfl, hm1⟩ | ⟨f, hf, d, d2, t0, n0, n2, v0, v1, v2, v3, tc, rfl, hm1, hm2, g0, g1, g2, g3⟩
        · have N3 : News g' L' h ((d, ({ cls := .type "tuple", data := .seq #[.str (mk p.1) t0, .none] n0 } : Obj)) :: (own ++ news)) := fun q hq => by
            rcases List.mem_cons.mp hq with rfl | hq
            · exact Ni _ (List.mem_append_right _ (hTS _ hm1))
            · exact Ni _ hq
          clear Ni
          have hwp : wPart p = p.1 := by unfold wPart; rw [hn]; exact List.append_nil _
          rw [hwp] at hwt hl1
          k_steps
          rename Fr _ _ _ (fun y => if y = _ then _ else _) => FA
          rename News _ _ _ _ => NA
          refine tup_end FA (fun q hq => NA q (.tail _ hq)) ?_
          rw [hwt]
          exact ⟨_, rfl⟩
        · have N3 : News g' L' h ((d, ({ cls := .type "tuple", data := .seq #[.str (mk p.1) t0, .ref d2] n0 } : Obj)) :: (d2, ({ cls := .type "tuple", data := .seq #[v0, v1, v2, v3, .str (mk [f.conv]) tc] n2 } : Obj)) :: (own ++ news)) := fun q hq => by
            rcases List.mem_cons.mp hq with rfl | hq
            · exact Ni _ (List.mem_append_right _ (hTS _ hm1))
            rcases List.mem_cons.mp hq with rfl | hq
            · exact Ni _ (List.mem_append_right _ (hTS _ hm2))
            · exact Ni _ hq
          clear Ni
          replace g1 := or_nil g1
          replace g2 := or_nil g2
          replace g3 := or_nil g3
          have hwp : wPart p = p.1 ++ wField f := by unfold wPart; rw [hf]
          rw [hwp] at hwt hl1
          have hl2 : (written (ps.take i)).length + p.1.length + (wName f.name).length + f.flags.length + f.width.length + f.prec.length ≤ 1000 := by
            unfold wField at hl1
            simp only [List.length_append, List.length_cons] at hl1
            omega
          rcases opt_inv g0 with ⟨hnm, rfl⟩ | ⟨nn, tn, hnm, rfl⟩
          · rw [hnm] at hl2
            k_steps
            rename Fr _ _ _ (fun y => if y = _ then _ else _) => FA
            rename News _ _ _ _ => NA
            refine tup_end FA (fun q hq => NA q (.tail _ (.tail _ hq))) ?_
            have e : written (ps.take i) ++ (p.1 ++ wField f) = written (ps.take i) ++ p.1 ++ ([37] ++ []) ++ (f.flags ++ f.width ++ f.prec ++ [104] ++ [f.conv]) := by simp [wField, hnm, wName]
            rw [hwt, e]
            exact ⟨_, rfl⟩
          · have hl3 : nn.length ≤ 1000 := by
              rw [hnm] at hl2
              simp only [wName, List.length_append, List.length_cons] at hl2
              omega
            k_steps
            rename Fr _ _ _ (fun y => if y = _ then _ else _) => FA
            rename News _ _ _ _ => NA
            refine tup_end FA (fun q hq => NA q (.tail _ (.tail _ hq))) ?_
            have e : written (ps.take i) ++ (p.1 ++ wField f) = written (ps.take i) ++ p.1 ++ ([37] ++ ([40] ++ nn ++ [41])) ++ (f.flags ++ f.width ++ f.prec ++ [104] ++ [f.conv]) := by simp [wField, hnm, wName]
            rw [hwt, e]
            exact ⟨_, rfl⟩
      · rintro m₁ h tk2 ⟨tok, e1⟩ Fd Nd
        rw [dat_len ha, List.take_length] at e1
        have F3 := fr_known Fd [("text", .str (mk (written ps)) tok)] (by intro q hq; obtain rfl := List.mem_singleton.mp hq; exact e1)
        dsimp only [kstB] at F3
        clear F1 N1 Fd e1
        k_steps
        exact hret _ _ _ (by assumption) (by assumption))
end
end Mine

end
section
open PySem PySem.W PyProof.Rows PySem.Calls
namespace Mine
/-- the end of the law: a value without addresses; generators that have ended may be left; the nested code's table may have grown -/
def GoodB (c : ClaimW) (cl : Str → Option Addr) (args : List WData) (tabs : List (Addr × Addr)) (s₁ : Shared) (r : Result) (s' : Shared) : Prop :=
  (∃ v d, r = .ok (.ret v) ∧ (∀ cls, c.raises args cls = false) ∧ ReadsW c.records cl s'.heap v d [] ∧ c.post args d args = true) ∧
    (∀ b o, (ghostOf s₁.heap tabs).get? b = some o → s'.heap.get? b = some o) ∧ s'.os = s₁.os ∧ AllBare s'.gens ∧ GrownAll tabs s'.heap
theorem post_bare {M : Model} {A : Around} {cd : Code} {s s₁ : Shared} {cw : ClaimW} {cl : Str → Option Addr} {mean : ExcName → Option Value} {args : List WData} {tabs : List (Addr × Addr)} (hT : TabsAt tabs s₁.heap)
    (h : codeAny M A cd (GoodB cw cl args tabs s₁) s) : codeAny M A cd (GoodWG cw cl mean args s₁) s := by
  refine codeAny_mono h fun r s' g => ?_
  obtain ⟨⟨v, d, hr, hn, hd, hp⟩, hk, hos, hb, hgr⟩ := g
  have other : ∀ b o, s₁.heap.get? b = some o → b ∉ tabs.map (·.2) → s'.heap.get? b = some o := fun b o e nb => hk b o (ghost_ne e nb)
  have table : ∀ b o, s₁.heap.get? b = some o → b ∈ tabs.map (·.2) → isCodeTable s₁.heap b ∧ o = tabObj #[] ∧ ∃ ps, s'.heap.get? b = some (tabObj ps) := by
    intro b o e mb
    obtain ⟨q, hq, e1⟩ := List.mem_map.mp mb
    obtain ⟨c1, c2⟩ := hT q hq
    have c3 := (c1.tab c2).isCodeTable
    rw [e1] at c2 c3
    obtain rfl := Option.some.inj (e.symm.trans c2)
    obtain ⟨ps, hps⟩ := hgr.get q hq
    exact ⟨c3, rfl, ps, by rw [← e1]; exact hps⟩
  refine ⟨.inl ⟨v, d, [], hr, hn, hd, hp, fun _ => ⟨List.nodup_nil, fun a ha => nomatch ha⟩⟩, ⟨fun b o e => ?_, fun b o e => ?_⟩, hos, hb⟩
  · by_cases mb : b ∈ tabs.map (·.2)
    · obtain ⟨c1, rfl, ps, c2⟩ := table b o e mb
      exact .inr (.inl ⟨c1, rfl, #[], ps, rfl, by simpa using c2⟩)
    · exact .inl (other b o e mb)
  · by_cases mb : b ∈ tabs.map (·.2)
    · obtain ⟨_, _, ps, c2⟩ := table b o e mb
      exact ⟨_, c2⟩
    · exact ⟨o, other b o e mb⟩
end Mine

end
section
open PySem PySem.W PyProof.Rows PySem.Calls
namespace Mine
theorem asc_join : ∀ (l : List Str), (∀ x ∈ l, Asc 27 x) → Asc (27 * l.length) (Str.join (Str.ofString "") l)
  | [], _ => ⟨by decide, fun c hc => by simp [Str.join, Str.empty] at hc⟩
  | [x], h => h x (.head _)
  | x :: y :: r, h => by
    have ih := asc_join (y :: r) fun z hz => h z (.tail _ hz)
    have e0 : Asc 0 (Str.ofString "") := ⟨by decide +kernel, by decide +kernel⟩
    have := Asc.app (Asc.app (h x (.head _)) e0) ih
    show Asc _ (x ++ Str.ofString "" ++ Str.join (Str.ofString "") (y :: r))
    refine this.mono ?_
    simp only [List.length_cons]; omega
theorem small_pairs {n : Nat} : ∀ {ys : List Value}, (∀ y ∈ ys, Small n y) → ∃ l : List (Str × Tok), strValues l = ys ∧ ∀ p ∈ l, Asc n p.1
  | [], _ => ⟨[], rfl, fun _ h => nomatch h⟩
  | y :: r, h => by
    obtain ⟨l, e, hl⟩ := small_pairs fun z hz => h z (.tail _ hz)
    obtain ⟨x, t, rfl, hx⟩ := h _ (.head _)
    refine ⟨(x, t) :: l, by simp only [strValues, List.map_cons] at e ⊢; rw [e], fun p hp => ?_⟩
    rcases List.mem_cons.mp hp with rfl | hp
    · exact hx
    · exact hl p hp
section
variable {prog : Program} {w : World} {A : Around} {E : Value → Shared → Prop} {s : Shared} {t : Tok} {Q : Value → Shared → Prop} {D : Addr} {ys : List Value}
theorem join_small (hl : s.heap.IsList D ys.toArray) (hy : ∀ y ∈ ys, Small 27 y) (hn : ys.length ≤ 16) (h : ∀ x t' k, Asc 432 x → Q (.str x t') { s with toks := k }) :
    wpAny (model prog w) A (call (.builtin "str.join") [.str (Str.ofString "") t, .ref D]) Q E s := by
  obtain ⟨l, rfl, hp⟩ := small_pairs hy
  have hlen : l.length ≤ 16 := by simpa [strValues] using hn
  have hB : ∀ x ∈ l.map (·.1), Asc 27 x := fun x hx => by
    obtain ⟨p, q, rfl⟩ := List.mem_map.mp hx
    exact hp p q
  refine SC.join hl rfl ?_ fun t' k => h _ t' k ?_
  · unfold JoinOk
    rw [Bool.not_eq_true']
    refine StrLaws.joinFits (B := 27) (fun y hy => (hB y hy).1) ?_
    rw [List.length_map, show (Str.ofString "").length = 0 by decide +kernel]
    omega
  · show Asc 432 (Builtin.Str.glued (Str.ofString "") (l.map (·.1)))
    rw [StrLaws.glued_eq_join]
    refine (asc_join _ hB).mono ?_
    rw [List.length_map]; omega
end

section
variable {prog : Program} {w : World} {A : Around} {h₀ : Heap} {L : Addr} {m : Str → Option Value} {env : Env} {elt : PySem.Expr} {x : Str} {scope : Scope} {cl : List (Str × Addr)} {s : Shared} {S : List (Addr × Obj) → Prop} {P : Nat → Value → Prop} {Fin : List Value → List (Addr × Obj) → Prop} {news : List (Addr × Obj)}
theorem small_rest {n : Nat} (hP : ∀ i v, i < n → P i v → ∃ k t, v = .int k t)
    (turn : ∀ k t I oI C oC D m₂ ys h tk (E' : Value → Shared → Prop), LCg.NsObj oC m₂ → m₂ x = some (.int k t) → Fr h₀ L h m → News h₀ L h ((I, oI) :: (C, oC) :: (D, LCg.lst ys) :: news) → LCg.Off3 I C D news → ((@Ne Nat I C) ∧ (@Ne Nat I D) ∧ (@Ne Nat C D)) →
      wpAny (model prog w) A (eval elt (compEnvC scope cl C env)) (LCg.CompEnd h₀ L m { s with heap := h, toks := tk } I oI C oC D (LCg.lst ys) S (fun y news' => news' = news ∧ Small 27 y)) E' { s with heap := h, toks := tk })
    (fin : ∀ ys, ys.length = n → (∀ y ∈ ys, Small 27 y) → Fin ys news) : LCg.CompRest prog w A h₀ L m env elt x scope cl s S P Fin n 0 [] news := by
  have key : ∀ (j i : Nat) (ys : List Value), i + j = n → ys.length = i → (∀ y ∈ ys, Small 27 y) → LCg.CompRest prog w A h₀ L m env elt x scope cl s S P Fin j i ys news := by
    intro j
    induction j with
    | zero => exact fun i ys hi hl hy => LCg.CompRest.zero (fin ys (by omega) hy)
    | succ j ih =>
      intro i ys hi hl hy
      refine LCg.CompRest.succ ?_
      intro v I oI C oC D m₂ h tk E' hv hC hx F N off ne
      obtain ⟨k, t, rfl⟩ := hP i v (by omega) hv
      refine wpAny_mono (turn k t I oI C oC D m₂ ys h tk E' hC hx F N off ne) (fun y s₂ hq => ?_) fun _ _ e => e
      obtain ⟨h', tk', nw, e, F', N', off', hS, rfl, hs⟩ := hq
      refine ⟨h', tk', nw, e, F', N', off', hS, ih (i + 1) _ (by omega) (by simp [hl]) fun z hz => ?_⟩
      rcases List.mem_append.mp hz with hz | hz
      · exact hy z hz
      · rw [List.mem_singleton.mp hz]; exact hs
  exact key n 0 [] (by omega) rfl fun _ h => nomatch h
end
end Mine

end
section
open PySem PySem.W PyProof.Rows PySem.Calls
namespace Mine
mutual
theorem dat_filter {TS : List (Addr × Obj)} {f : Addr × Obj → Bool} (hf : ∀ p ∈ TS, (p.2.cls = .type "tuple" ∨ p.2.cls = .type "list") → f p = true) : ∀ {v : Value} {d : Dat}, DatIn TS v d → DatIn (TS.filter f) v d
  | _, _, .none => .none
  | _, _, .bool b => .bool b
  | _, _, .int i t => .int i t
  | _, _, .str x t => .str x t
  | _, _, .bytes b t => .bytes b t
  | _, _, .tuple h r => .tuple (List.mem_filter.mpr ⟨h, hf _ h (.inl rfl)⟩) (dats_filter hf r)
  | _, _, .list h r => .list (List.mem_filter.mpr ⟨h, hf _ h (.inr rfl)⟩) (dats_filter hf r)
theorem dats_filter {TS : List (Addr × Obj)} {f : Addr × Obj → Bool} (hf : ∀ p ∈ TS, (p.2.cls = .type "tuple" ∨ p.2.cls = .type "list") → f p = true) : ∀ {vs : List Value} {ds : List Dat}, DatAll TS vs ds → DatAll (TS.filter f) vs ds
  | _, _, .nil => .nil
  | _, _, .cons h r => .cons (dat_filter hf h) (dats_filter hf r)
end

theorem strOk_mk {l : List Nat} (h : ∀ c ∈ l, c < 1114112) : PyData.strOk (mk l) = true := by
  unfold PyData.strOk mk
  rw [← Array.all_toList]
  simpa using h
theorem opt_ok {n : Nat} {o : Option (List Nat)} (h : ∀ l, o = some l → ∀ c ∈ l, c < 1114112) : kqdOk n (optD o) = true := by
  cases o with
  | none => simp [optD, kqdOk]
  | some l => simp only [optD, kqdOk]; exact strOk_mk (h l rfl)
theorem or_ok {n : Nat} {l : List Nat} (h : ∀ c ∈ l, c < 1114112) : kqdOk n (orD l) = true := by
  unfold orD
  split
  · simp [kqdOk]
  · simp only [kqdOk]; exact strOk_mk h
theorem part_ok {p : Part} (h : Fits 1114112 p) : kqdOk 7 (partD p) = true := by
  obtain ⟨pl, fo⟩ := p
  obtain ⟨h1, h2⟩ := h
  unfold partD
  cases fo with
  | none => simp [kqdOk, strOk_mk h1]
  | some f =>
    obtain ⟨a1, a2, a3, a4, a5⟩ := h2 f rfl
    simp only [kqdOk, fldD, List.all_cons, List.all_nil, Bool.and_true, Bool.and_eq_true]
    exact ⟨strOk_mk h1, opt_ok a1, or_ok a2, or_ok a3, or_ok a4, strOk_mk fun c hc => by rw [List.mem_singleton.mp hc]; exact a5⟩
theorem parts_ok {ps : List Part} (h : ∀ p ∈ ps, Fits 1114112 p) : kqdOk 8 (.tuple (ps.map partD)) = true := by
  simp only [kqdOk, List.all_map, List.all_eq_true]
  exact fun p hp => part_ok (h p hp)

section
variable {prog : Program} {w : World} {A : Around} {E : Value → Shared → Prop} {s : Shared} {h₀ : Heap} {L : Addr} {news n₁ n₂ : List (Addr × Obj)} {v u : Value} {d : Dat} {Q : Value → Shared → Prop}
theorem dats_eq (N : News h₀ L s.heap news) (D1 : DatIn n₁ v d) (D2 : DatIn n₂ u d) (s1 : ∀ p ∈ n₁, p ∈ news) (s2 : ∀ p ∈ n₂, p ∈ news) (hk : kqdOk 8 d = true) (hu : A.units + 64 < cLine) (h : Q (.bool true) s) :
    wpAny (model prog w) A (compareOp .Eq v u) Q E s := by
  obtain ⟨as, ra⟩ := kqd_in N 8 (D1.mono s1) hk
  obtain ⟨bs, rb⟩ := kqd_in N 8 (D2.mono s2) hk
  obtain ⟨l1, l2⟩ := kqd_lay 8 d hk
  refine SeqAt.compareEq_reads ra rb l1 l1 ?_ ?_
  · rw [Nat.min_self]; omega
  · rw [(kqd_eqv 8 d d 8 hk hk).mpr rfl]; exact h
end
end Mine

end
section
open PySem PySem.W PyProof.Rows PySem.Calls
namespace Mine
local macro_rules | `(tactic| walk_at "call ref") => `(tactic| (refine stuck ?_))
local macro_rules | `(tactic| walk_at "eval ListComp") => `(tactic| (k_here; k_dflt (refine LCg.ListComp_U (F₀ := by k_asm) (by with_unfolding_all rfl) (by decide) (by rfl) (by decide) (by rfl) ?_)))
local macro_rules | `(tactic| walk_at "compareOp Eq ref ref") => `(tactic| (refine stuck ?_))
local macro_rules | `(tactic| walk_at "CompSrc") => `(tactic| (refine stuck ?_))
local macro_rules | `(tactic| kn_posts) => `(tactic| (refine post_bare (by assumption) ?_))
set_option maxRecDepth 100000 in
set_option maxHeartbeats 8000000 in
set_option rowWalk.seconds 0 in
theorem law1 : PySem.Challenge.rw_bl0022_01.Holds := Mine.hd (by
  w_strict (
    k_go0
    (all_goals try k_fold)
    k_steps
    unfold Stuck
    rename IntsAre _ (List.take 16 _) => hI16
    rename (List.take 16 _).length = _ => hC16
    rename Below _ _ _ _ => K0
    have hlen16 := hI16.length
    refine LCg.CompSrc.ledger rfl (by assumption) (by assumption) (.head _) (by rw [List.size_toArray, sizeLine_eq]; omega) ?_
    intro g
    refine small_rest (fun i v _ hv => by obtain ⟨k, t, e, _⟩ := IntsAre.at hI16 i v (by simpa using hv); exact ⟨k, t, e⟩) (fun k t I oI C oC D m₂ ys h tk E' hC hx F N off ne => ?_) (fun ys hlen hsm => ?_)
    · k_steps
      unfold Stuck
      refine to_top (dp := 310) (un := 16) rfl (Nat.le_of_ble_eq_true rfl) rfl rfl (Nat.le_of_ble_eq_true rfl) ?_
      refine' chunk_call K0 ?pf ?px ?pn ?pt rfl ?pd ?pu _ _ ?_
      case pf => k_asm
      case px => assumption
      case pn => k_asm
      case pt => assumption
      case pd => decide
      case pu => decide
      intro v h' tk' tl F' N' hv
      k_steps
      exact ⟨h', tk', _, rfl, F', fun p hp => N' p (List.mem_append_right _ hp), off, .inr ⟨_, .head _, rfl, _, rfl⟩, rfl, hv⟩
    · intro D h tk F N _
      k_steps
      refine join_small (ys := ys) ⟨_, (N _ (.head _)).1, rfl, _, rfl⟩ hsm (by rw [hlen, List.size_toArray]; omega) fun x tx kx hx => ?_
      have hx1 : x.length ≤ 1000 := by have := hx.1; omega
      clear hsm hlen hlen16 hI16 hC16
      k_steps
      unfold Stuck
      refine to_top (dp := 310) (un := 16) rfl (Nat.le_of_ble_eq_true rfl) rfl rfl (Nat.le_of_ble_eq_true rfl) ?_
      refine' read_call K0 ?pf ?px ?pn ?pt rfl ?pd ?pu _ _ hx1 ?_
      case pf => k_asm
      case px => assumption
      case pn => k_asm
      case pt => assumption
      case pd => decide
      case pu => decide
      intro v2 h2 tk2 tl2 F2 N2 hv2
      k_steps
      unfold Stuck
      rename Fr _ _ _ (fun y => if y = _ then _ else _) => F3
      rename News _ _ _ (tl2 ++ _) => N3
      have h23 := N3 (23, tabObj #[]) (List.mem_append_right tl2 (.tail _ (.tail _ (.head _))))
      obtain ⟨R1, N4, hoff, hv4⟩ : ∃ R1, News _ _ _ ((23, tabObj #[]) :: R1) ∧ (∀ p ∈ R1, p.1 ≠ 23) ∧ ReadG (readS (sg x) start) v2 R1 := by
        refine ⟨tl2.filter (fun p => p.1 != 23), fun p hp => ?_, fun p hp => ?_, ?_⟩
        · rcases List.mem_cons.mp hp with rfl | hp
          · exact h23
          · exact N3 _ (List.mem_append_left _ (List.mem_filter.mp hp).1)
        · simpa using (List.mem_filter.mp hp).2
        · cases hr : readS (sg x) start with
          | none => rw [hr] at hv2; exact hv2
          | some ps =>
            rw [hr] at hv2
            refine dat_filter (fun p hp hc => ?_) hv2
            rw [bne_iff_ne]
            intro e
            have h1 := (N3 p (List.mem_append_left _ hp)).1
            rw [e, h23.1] at h1
            rw [← Option.some.inj h1] at hc
            rcases hc with hc | hc <;> cases hc
      clear N3 h23 hv2
      rename Frag.In _ _ => XX
      rename Top topProg _ _ _ _ _ => TX
      rename Shared.gens _ = #[] => hg0
      rename CodeHd _ _ _ => CX
      refine to_top (dp := 310) (un := 16) rfl (Nat.le_of_ble_eq_true rfl) rfl rfl (Nat.le_of_ble_eq_true rfl) ?_
      refine' ppf_call (ps := #[]) (rest := R1) K0 ?pf XX ?pn TX rfl CX hoff (.inl rfl) XX (topRead_of TX) ?pd ?pu x _ hx1 ?pb ?pr ?pe
      case pf => k_asm
      case pn => k_asm
      case pd => decide
      case pu => decide
      case pb => exact .of_eq hg0
      case pr =>
        intro qs Dp h3 tk3 gens3 tl3 P3 hqs F5 N5 hoff3 htab3 hdat3 hb3
        rw [hqs] at hv4
        obtain ⟨a2, rfl⟩ : ∃ a, v2 = .ref a := by cases hv4; exact ⟨_, rfl⟩
        clear F3 N4
        obtain ⟨hwr, _, hwl, hfit⟩ := reader_law hqs
        have hk8 := parts_ok (hfit 1114112 fun c hc => Nat.lt_trans (hx.2 c hc) (by decide))
        have hwl2 : (written qs).length ≤ 1000 := by
          have := hx.1
          rw [← len_sg] at hwl
          omega
        k_steps
        unfold Stuck
        rename News _ _ _ _ => N6
        refine dats_eq N6 hdat3 hv4 (fun p hp => .tail _ (List.mem_append_left _ hp)) (fun p hp => .tail _ (List.mem_append_right _ hp)) hk8 (Nat.lt_of_succ_le (Nat.le_of_ble_eq_true rfl)) ?_
        k_steps
        unfold Stuck
        refine to_top (dp := 310) (un := 16) rfl (Nat.le_of_ble_eq_true rfl) rfl rfl (Nat.le_of_ble_eq_true rfl) ?_
        refine' written_call K0 ?pf XX N6 TX rfl ?pd ?pu qs Dp tl3 hdat3 (fun p hp => .tail _ (List.mem_append_left _ hp)) hwl2 ?_
        case pf => k_asm
        case pd => decide
        case pu => decide
        intro tok h5 tk5 F7 N7
        clear N6
        k_steps
        unfold Stuck
        refine to_top (dp := 310) (un := 16) rfl (Nat.le_of_ble_eq_true rfl) rfl rfl (Nat.le_of_ble_eq_true rfl) ?_
        refine' ppf_call (ps := P3) (rest := tl3 ++ R1) K0 ?qf XX N7 TX rfl CX ?qo htab3 XX (topRead_of TX) ?qd ?qu (mk (written qs)) _ ?ql ?qb ?_ ?qe
        case qf => k_asm
        case qo => exact fun p hp => (List.mem_append.mp hp).elim (hoff3 p) (hoff p)
        case qd => decide
        case qu => decide
        case ql => rw [len_mk]; exact hwl2
        case qb => exact hb3
        case qe =>
          intro e g h6 tk6 gens6 c6 of6 P6 hnone
          rw [sg_mk, hwr] at hnone
          cases hnone
        intro qs2 Dp2 h6 tk6 gens6 tl6 P6 hqs2 F8 N8 hoff6 htab6 hdat6 hb6
        rw [sg_mk, hwr] at hqs2
        obtain rfl := Option.some.inj hqs2
        clear N7
        k_steps
        unfold Stuck
        refine dats_eq N8 hdat6 hdat3 (fun p hp => .tail _ (List.mem_append_left _ hp)) (fun p hp => .tail _ (List.mem_append_right _ (List.mem_append_left _ hp))) hk8 (Nat.lt_of_succ_le (Nat.le_of_ble_eq_true rfl)) ?_
        k_steps
        rename Fr _ _ _ _ => FZ
        rename News _ _ _ _ => NZ
        exact ⟨⟨.bool true, .bool true, rfl, fun _ => rfl, .bool true, (by wrow_post)⟩, FZ.keep, rfl, hb6, GrownAt.of NZ (.head _), trivial⟩
      case pe =>
        intro e g h3 tk3 gens3 c3 of3 P3 hnone Fg hup hR hb3
        rw [hnone] at hv4
        obtain rfl : v2 = .none := hv4
        clear F3 N4
        refine caught_N0 K0 Fg hup hR (topRead_of TX) PyProof.Rows.Boot.«ValueError» (by rw [isSubtype_type]; kernel_rfl) (by rw [isSubtype_type]; kernel_rfl) (by rw [isSubtype_type]; kernel_rfl) fun h4 F4 N4 => ?_
        k_steps
        dsimp only
        rename Fr _ _ _ _ => FZ
        rename News _ _ _ _ => NZ
        exact ⟨⟨.bool true, .bool true, rfl, fun _ => rfl, .bool true, (by wrow_post)⟩, FZ.keep, rfl, hb3, GrownAt.of NZ (.head _), trivial⟩))
end Mine

end
set_option maxRecDepth 100000 in
theorem PySem.Challenge.cw_bl0022_01_holds : PySem.Challenge.rw_bl0022_01.Holds := by
  exact Mine.law1
