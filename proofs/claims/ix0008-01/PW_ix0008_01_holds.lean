import PyProof.Rows.All
import PyProof.Rows.SortPure
import PyProof.Rows.SortShell
import PyProof.SetScanFacts
import PyProof.SetRoads
import PyProof.DictStraight
import PyProof.TupleIter
import PyProof.SetNew
import PyProof.CollectWalk
import Wide.All
import OpenK.AllK
import Wide.FinOn
import PySem.Challenge.RW_ix0008_01
set_option Elab.async false
set_option linter.unusedVariables false
set_option compiler.extract_closed false
set_option genSizeOf false
section
set_option genInjectivity false
set_option genSizeOf false
namespace Mine.An
noncomputable section
inductive T where
  | v (i : Nat) | c (n : Nat) | a (x y : T) | l (k : Nat) (x : T) | r (x : T) (k : Nat)
inductive I where
  | n (t : T) | v (i : Nat) | c (n : Nat) | a (x y : I) | s (x y : I) | g (x : I) | l (k : Nat) (x : I) | r (x : I) (k : Nat)
inductive F where
  | le (x y : T) | lt (x y : T) | eq (x y : T) | zle (x y : I) | zlt (x y : I) | zeq (x y : I)
  | and (p q : F) | or (p q : F) | imp (p q : F) | not (p : F) | iff (p q : F) | su (z x y : T) | sv (z x y : T) | fa | tr
noncomputable def nth {α : Type} (d : α) (l : List α) : Nat → α := List.rec (motive := fun _ => Nat → α) (fun _ => d) (fun x _ ih n => Nat.rec (motive := fun _ => α) x (fun m _ => ih m) n) l
noncomputable def T.dn (E : List Nat) (t : T) : Nat := T.rec (motive := fun _ => Nat) (fun i => nth 0 E i) (fun n => n) (fun _ _ p q => p + q) (fun k _ p => k * p) (fun _ k p => p * k) t
noncomputable def I.dn (E : List Nat) (Z : List Int) (t : I) : Int :=
  I.rec (motive := fun _ => Int) (fun t => ((t.dn E : Nat) : Int)) (fun i => nth 0 Z i) (fun n => (n : Int)) (fun _ _ p q => p + q) (fun _ _ p q => p - q) (fun _ p => - p) (fun k _ p => (k : Int) * p) (fun _ k p => p * (k : Int)) t
noncomputable def F.dn (E : List Nat) (Z : List Int) (f : F) : Prop :=
  F.rec (motive := fun _ => Prop) (fun x y => x.dn E ≤ y.dn E) (fun x y => x.dn E < y.dn E) (fun x y => x.dn E = y.dn E)
    (fun x y => x.dn E Z ≤ y.dn E Z) (fun x y => x.dn E Z < y.dn E Z) (fun x y => x.dn E Z = y.dn E Z)
    (fun _ _ p q => p ∧ q) (fun _ _ p q => p ∨ q) (fun _ _ p q => p → q) (fun _ p => ¬ p) (fun _ _ p q => p ↔ q)
    (fun z x y => z.dn E = x.dn E - y.dn E) (fun z x y => z.dn E = x.dn E - y.dn E) False True f
-- vectors: a constant, coefficients of the naturals, of the integers
structure V where
  c : Nat
  n : List Nat
  z : List Nat
noncomputable def dot (a : List Nat) : List Int → Int := List.rec (motive := fun _ => List Int → Int) (fun _ => 0) (fun (k : Nat) _ ih (e : List Int) => List.rec (motive := fun _ => Int) 0 (fun (x : Int) es _ => (k : Int) * x + ih es) e) a
noncomputable def zl (E : List Nat) : List Int := List.rec (motive := fun _ => List Int) [] (fun (x : Nat) _ ih => (x : Int) :: ih) E
noncomputable def V.dn (E : List Nat) (Z : List Int) (v : V) : Int := (v.c : Int) + dot v.n (zl E) + dot v.z Z
noncomputable def ladd (a : List Nat) : List Nat → List Nat :=
  List.rec (motive := fun _ => List Nat → List Nat) (fun b => b) (fun x xs ih b => List.rec (motive := fun _ => List Nat) (x :: xs) (fun y ys _ => (Nat.add x y) :: ih ys) b) a
noncomputable def lmul (k : Nat) (a : List Nat) : List Nat := List.rec (motive := fun _ => List Nat) [] (fun x _ ih => Nat.mul k x :: ih) a
noncomputable def V.add (x y : V) : V := ⟨Nat.add x.c y.c, ladd x.n y.n, ladd x.z y.z⟩
noncomputable def V.mul (k : Nat) (x : V) : V := ⟨Nat.mul k x.c, lmul k x.n, lmul k x.z⟩
noncomputable def V.o : V := ⟨0, [], []⟩
noncomputable def un (i : Nat) : List Nat := Nat.rec (motive := fun _ => List Nat) [1] (fun _ ih => 0 :: ih) i
noncomputable def T.ln (t : T) : V := T.rec (motive := fun _ => V) (fun i => ⟨0, un i, []⟩) (fun n => ⟨n, [], []⟩) (fun _ _ p q => p.add q) (fun k _ p => p.mul k) (fun _ k p => p.mul k) t
noncomputable def I.ln (t : I) : V × V :=
  I.rec (motive := fun _ => V × V) (fun t => (t.ln, V.o)) (fun i => (⟨0, [], un i⟩, V.o)) (fun n => (⟨n, [], []⟩, V.o))
    (fun _ _ p q => (p.1.add q.1, p.2.add q.2)) (fun _ _ p q => (p.1.add q.2, p.2.add q.1)) (fun _ p => (p.2, p.1))
    (fun k _ p => (p.1.mul k, p.2.mul k)) (fun _ k p => (p.1.mul k, p.2.mul k)) t
theorem nth_zl (E : List Nat) (i : Nat) : nth 0 (zl E) i = ((nth 0 E i : Nat) : Int) := by
  induction E generalizing i with
  | nil => rfl
  | cons x xs ih => cases i with
    | zero => rfl
    | succ n => exact ih n
theorem dot_un (E : List Int) (i : Nat) : dot (un i) E = nth 0 E i := by
  induction i generalizing E with
  | zero => cases E with
    | nil => rfl
    | cons x xs => exact (Int.add_zero _).trans (Int.one_mul x)
  | succ n ih => cases E with
    | nil => rfl
    | cons x xs => exact (congrArg (· + dot (un n) xs) (Int.zero_mul x)).trans ((Int.zero_add _).trans (ih xs))
theorem a4 (a b c d : Int) : a + b + (c + d) = a + c + (b + d) := by rw [Int.add_assoc, Int.add_assoc, Int.add_left_comm b]
theorem dot_add (a b : List Nat) (E : List Int) : dot (ladd a b) E = dot a E + dot b E := by
  induction a generalizing b E with
  | nil => exact (Int.zero_add _).symm
  | cons x xs ih => cases b with
    | nil => exact (Int.add_zero _).symm
    | cons y ys => cases E with
      | nil => rfl
      | cons e es =>
        show ((x + y : Nat) : Int) * e + dot (ladd xs ys) es = ((x : Int) * e + dot xs es) + ((y : Int) * e + dot ys es)
        rw [ih, Int.natCast_add, Int.add_mul]; exact a4 _ _ _ _
theorem dot_mul (k : Nat) (a : List Nat) (E : List Int) : dot (lmul k a) E = (k : Int) * dot a E := by
  induction a generalizing E with
  | nil => exact (Int.mul_zero _).symm
  | cons x xs ih => cases E with
    | nil => exact (Int.mul_zero _).symm
    | cons e es => show ((k * x : Nat) : Int) * e + dot (lmul k xs) es = (k : Int) * ((x : Int) * e + dot xs es); rw [ih, Int.natCast_mul, Int.mul_add, Int.mul_assoc]
section
variable {E : List Nat} {Z : List Int}
theorem V.dn_add (x y : V) : (x.add y).dn E Z = x.dn E Z + y.dn E Z := by
  show ((x.c + y.c : Nat) : Int) + dot (ladd x.n y.n) (zl E) + dot (ladd x.z y.z) Z = ((x.c : Int) + dot x.n (zl E) + dot x.z Z) + ((y.c : Int) + dot y.n (zl E) + dot y.z Z)
  rw [dot_add, dot_add, Int.natCast_add, a4 (x.c : Int) y.c]; exact a4 _ _ _ _
theorem V.dn_mul (k : Nat) (x : V) : (x.mul k).dn E Z = (k : Int) * x.dn E Z := by
  show ((k * x.c : Nat) : Int) + dot (lmul k x.n) (zl E) + dot (lmul k x.z) Z = (k : Int) * ((x.c : Int) + dot x.n (zl E) + dot x.z Z)
  rw [dot_mul, dot_mul, Int.natCast_mul, ← Int.mul_add, ← Int.mul_add]
theorem T.ok (t : T) : t.ln.dn E Z = (t.dn E : Int) := by
  induction t with
  | v i => exact (Int.add_zero _).trans ((Int.zero_add _).trans ((dot_un _ i).trans (nth_zl E i)))
  | c n => exact (Int.add_zero _).trans (Int.add_zero _)
  | a x y hx hy => show (x.ln.add y.ln).dn E Z = _; rw [V.dn_add, hx, hy]; rfl
  | l k x hx => show (x.ln.mul k).dn E Z = _; rw [V.dn_mul, hx]; rfl
  | r x k hx => show (x.ln.mul k).dn E Z = _; rw [V.dn_mul, hx]; exact Int.mul_comm _ _
theorem I.ok (t : I) : t.dn E Z + t.ln.2.dn E Z = t.ln.1.dn E Z := by
  induction t with
  | n t => exact (Int.add_zero _).trans (T.ok t).symm
  | v i => exact (Int.add_zero _).trans (((Int.zero_add _).trans (dot_un Z i)).symm)
  | c n => exact ((Int.add_zero _).trans (Int.add_zero _).symm).trans (Int.add_zero _).symm
  | a x y hx hy => show _ + (x.ln.2.add y.ln.2).dn E Z = (x.ln.1.add y.ln.1).dn E Z; rw [V.dn_add, V.dn_add, ← hx, ← hy]; exact a4 _ _ _ _
  | s x y hx hy =>
    show x.dn E Z - y.dn E Z + (x.ln.2.add y.ln.1).dn E Z = (x.ln.1.add y.ln.2).dn E Z
    rw [V.dn_add, V.dn_add, ← hx, ← hy]; omega
  | g x hx => show - x.dn E Z + x.ln.1.dn E Z = x.ln.2.dn E Z; rw [← hx]; exact Int.neg_add_cancel_left _ _
  | l k x hx => show (k : Int) * x.dn E Z + (x.ln.2.mul k).dn E Z = (x.ln.1.mul k).dn E Z; rw [V.dn_mul, V.dn_mul, ← hx, Int.mul_add]
  | r x k hx => show x.dn E Z * (k : Int) + (x.ln.2.mul k).dn E Z = (x.ln.1.mul k).dn E Z; rw [V.dn_mul, V.dn_mul, ← hx, Int.mul_add, Int.mul_comm]
-- a row: left at most right; a set of rows; one of some sets
noncomputable def R (E : List Nat) (Z : List Int) (p : V × V) : Prop := p.1.dn E Z ≤ p.2.dn E Z
noncomputable def C (E : List Nat) (Z : List Int) (l : List (V × V)) : Prop := List.rec (motive := fun _ => Prop) True (fun p _ ih => R E Z p ∧ ih) l
noncomputable def O (E : List Nat) (Z : List Int) (l : List (List (V × V))) : Prop := List.rec (motive := fun _ => Prop) False (fun c _ ih => C E Z c ∨ ih) l
noncomputable def A (E : List Nat) (Z : List Int) (l : List (List (List (V × V)))) : Prop := List.rec (motive := fun _ => Prop) True (fun c _ ih => O E Z c ∧ ih) l
noncomputable def V.s (x : V) : V := ⟨Nat.succ x.c, x.n, x.z⟩
theorem V.dn_s (x : V) : x.s.dn E Z = x.dn E Z + 1 := by
  show ((x.c + 1 : Nat) : Int) + dot x.n (zl E) + dot x.z Z = ((x.c : Int) + dot x.n (zl E) + dot x.z Z) + 1
  rw [Int.natCast_add, Int.add_right_comm _ ((1 : Nat) : Int), Int.add_right_comm _ ((1 : Nat) : Int)]; rfl
noncomputable def app {α : Type} (a b : List α) : List α := List.rec (motive := fun _ => List α) b (fun x _ ih => x :: ih) a
noncomputable def pr (x : List (V × V)) (b : List (List (V × V))) : List (List (V × V)) := List.rec (motive := fun _ => List (List (V × V))) [] (fun y _ ih => app x y :: ih) b
noncomputable def prod (a b : List (List (V × V))) : List (List (V × V)) := List.rec (motive := fun _ => List (List (V × V))) [] (fun x _ ih => app (pr x b) ih) a
theorem C_app {a b : List (V × V)} (ha : C E Z a) (hb : C E Z b) : C E Z (app a b) := by
  induction a with
  | nil => exact hb
  | cons x xs ih => exact ⟨ha.1, ih ha.2⟩
theorem O_app {a b : List (List (V × V))} (h : O E Z a ∨ O E Z b) : O E Z (app a b) := by
  induction a with
  | nil => exact h.elim False.elim id
  | cons x xs ih => exact h.elim (fun h => h.elim .inl fun h => .inr (ih (.inl h))) fun h => .inr (ih (.inr h))
theorem O_pr {x : List (V × V)} {b : List (List (V × V))} (hx : C E Z x) (hb : O E Z b) : O E Z (pr x b) := by
  induction b with
  | nil => exact hb
  | cons y ys ih => exact hb.elim (fun h => .inl (C_app hx h)) (fun h => .inr (ih h))
theorem O_prod {a b : List (List (V × V))} (ha : O E Z a) (hb : O E Z b) : O E Z (prod a b) := by
  induction a with
  | nil => exact ha
  | cons x xs ih => exact O_app (ha.elim (fun h => .inl (O_pr h hb)) (fun h => .inr (ih h)))
noncomputable def lev (x y : V) : List (List (V × V)) := [[(x, y)]]
noncomputable def eqv (x y : V) : List (List (V × V)) := [[(x, y), (y, x)]]
noncomputable def nev (x y : V) : List (List (V × V)) := [[(x.s, y)], [(y.s, x)]]
theorem O_le {x y : V} (h : x.dn E Z ≤ y.dn E Z) : O E Z (lev x y) := .inl ⟨h, trivial⟩
theorem lt_ {x y : V} (h : x.dn E Z < y.dn E Z) : R E Z (x.s, y) := by show x.s.dn E Z ≤ y.dn E Z; rw [V.dn_s]; exact h
theorem O_lt {x y : V} (h : x.dn E Z < y.dn E Z) : O E Z (lev x.s y) := .inl ⟨lt_ h, trivial⟩
theorem O_eq {x y : V} (h : x.dn E Z = y.dn E Z) : O E Z (eqv x y) := .inl ⟨Int.le_of_eq h, Int.le_of_eq h.symm, trivial⟩
theorem O_ne {x y : V} (h : x.dn E Z ≠ y.dn E Z) : O E Z (nev x y) :=
  (Int.lt_or_gt_of_ne h).elim (fun q => .inl ⟨lt_ q, trivial⟩) (fun q => .inr (.inl ⟨lt_ q, trivial⟩))
-- the rows of a form, for it and against it
noncomputable def F.ln (f : F) : List (List (V × V)) × List (List (V × V)) :=
  F.rec (motive := fun _ => List (List (V × V)) × List (List (V × V)))
    (fun x y => (lev x.ln y.ln, lev y.ln.s x.ln)) (fun x y => (lev x.ln.s y.ln, lev y.ln x.ln)) (fun x y => (eqv x.ln y.ln, nev x.ln y.ln))
    (fun x y => (lev (x.ln.1.add y.ln.2) (y.ln.1.add x.ln.2), lev (y.ln.1.add x.ln.2).s (x.ln.1.add y.ln.2)))
    (fun x y => (lev (x.ln.1.add y.ln.2).s (y.ln.1.add x.ln.2), lev (y.ln.1.add x.ln.2) (x.ln.1.add y.ln.2)))
    (fun x y => (eqv (x.ln.1.add y.ln.2) (y.ln.1.add x.ln.2), nev (x.ln.1.add y.ln.2) (y.ln.1.add x.ln.2)))
    (fun _ _ p q => (prod p.1 q.1, app p.2 q.2)) (fun _ _ p q => (app p.1 q.1, prod p.2 q.2)) (fun _ _ p q => (app p.2 q.1, prod p.1 q.2)) (fun _ p => (p.2, p.1))
    (fun _ _ p q => (app (prod p.1 q.1) (prod p.2 q.2), app (prod p.1 q.2) (prod p.2 q.1)))
    (fun z x y => ([[(x.ln, z.ln.add y.ln), (z.ln.add y.ln, x.ln)], [(z.ln, V.o), (x.ln, y.ln)]], [[]])) (fun z x y => ([[(x.ln, z.ln.add y.ln), (z.ln, x.ln)]], [[]]))
    ([], [[]]) ([[]], []) f
theorem Inil : O E Z [[]] := .inl trivial
theorem F.ok (f : F) : (f.dn E Z → O E Z f.ln.1) ∧ (¬ f.dn E Z → O E Z f.ln.2) := by
  have N : ∀ x : T, x.ln.dn E Z = (x.dn E : Int) := fun x => T.ok x
  have S : ∀ z y : T, (z.ln.add y.ln).dn E Z = ((z.dn E + y.dn E : Nat) : Int) := fun z y => (T.ok (T.a z y))
  have M : ∀ x y : I, (x.ln.1.add y.ln.2).dn E Z = x.dn E Z + (x.ln.2.dn E Z + y.ln.2.dn E Z) := fun x y => by
    rw [V.dn_add, ← I.ok x, Int.add_assoc]
  have M2 : ∀ x y : I, (y.ln.1.add x.ln.2).dn E Z = y.dn E Z + (x.ln.2.dn E Z + y.ln.2.dn E Z) := fun x y => (M y x).trans (by rw [Int.add_comm (y.ln.2.dn E Z)])
  induction f with
  | le x y => exact ⟨fun h => O_le (by rw [N, N]; exact Int.ofNat_le.mpr h), fun h => O_lt (by rw [N, N]; exact Int.ofNat_lt.mpr (Nat.lt_of_not_le h))⟩
  | lt x y => exact ⟨fun h => O_lt (by rw [N, N]; exact Int.ofNat_lt.mpr h), fun h => O_le (by rw [N, N]; exact Int.ofNat_le.mpr (Nat.le_of_not_lt h))⟩
  | eq x y => exact ⟨fun h => O_eq (by rw [N, N]; exact congrArg _ h), fun h => O_ne (by rw [N, N]; exact fun e => h (Int.ofNat.inj e))⟩
  | zle x y => exact ⟨fun h => O_le (by rw [M, M2]; exact Int.add_le_add_right h _), fun h => O_lt (by rw [M, M2]; exact Int.add_lt_add_right (Int.lt_of_not_ge h) _)⟩
  | zlt x y => exact ⟨fun h => O_lt (by rw [M, M2]; exact Int.add_lt_add_right h _), fun h => O_le (by rw [M, M2]; exact Int.add_le_add_right (Int.not_lt.mp h) _)⟩
  | zeq x y => exact ⟨fun h => O_eq (by rw [M, M2]; exact congrArg (· + _) h), fun h => O_ne (by rw [M, M2]; exact fun e => h ((Int.add_left_inj _).mp e))⟩
  | and p q hp hq => exact ⟨fun h => O_prod (hp.1 h.1) (hq.1 h.2), fun h => O_app ((Classical.not_and_iff_not_or_not.mp h).elim (fun k => .inl (hp.2 k)) (fun k => .inr (hq.2 k)))⟩
  | or p q hp hq => exact ⟨fun h => O_app (h.elim (fun h => .inl (hp.1 h)) (fun h => .inr (hq.1 h))), fun h => O_prod (hp.2 fun k => h (.inl k)) (hq.2 fun k => h (.inr k))⟩
  | imp p q hp hq =>
    refine ⟨fun h => O_app ((Classical.em (p.dn E Z)).elim (fun k => .inr (hq.1 (h k))) (fun k => .inl (hp.2 k))), fun h => ?_⟩
    have k := Classical.not_imp.mp h
    exact O_prod (hp.1 k.1) (hq.2 k.2)
  | not p hp => exact ⟨hp.2, fun h => hp.1 (Classical.not_not.mp h)⟩
  | iff p q hp hq =>
    refine ⟨fun h => O_app ((Classical.em (p.dn E Z)).elim (fun k => .inl (O_prod (hp.1 k) (hq.1 (h.mp k)))) (fun k => .inr (O_prod (hp.2 k) (hq.2 fun l => k (h.mpr l))))), fun h => O_app ?_⟩
    refine (Classical.em (p.dn E Z)).elim (fun k => .inl (O_prod (hp.1 k) (hq.2 fun l => h ⟨fun _ => l, fun _ => k⟩))) (fun k => .inr (O_prod (hp.2 k) (hq.1 (Classical.byContradiction fun l => h ⟨fun x => (k x).elim, fun x => (l x).elim⟩))))
  | su z x y =>
    refine ⟨fun (h : z.dn E = x.dn E - y.dn E) => ?_, fun _ => Inil⟩
    refine (Nat.le_total (y.dn E) (x.dn E)).elim (fun q => .inl ?_) (fun q => .inr (.inl ⟨?_, ?_, trivial⟩))
    · have e : (z.ln.add y.ln).dn E Z = x.ln.dn E Z := by rw [S, N, h, Nat.sub_add_cancel q]
      exact ⟨Int.le_of_eq e.symm, Int.le_of_eq e, trivial⟩
    · show z.ln.dn E Z ≤ 0; rw [N, h, Nat.sub_eq_zero_of_le q]; exact Int.le_refl _
    · show x.ln.dn E Z ≤ y.ln.dn E Z; rw [N, N]; exact Int.ofNat_le.mpr q
  | sv z x y =>
    refine ⟨fun (h : z.dn E = x.dn E - y.dn E) => .inl ⟨?_, ?_, trivial⟩, fun _ => Inil⟩
    · show x.ln.dn E Z ≤ (z.ln.add y.ln).dn E Z; rw [S, N, h]; exact Int.ofNat_le.mpr (Nat.sub_le_iff_le_add.mp (Nat.le_refl _))
    · show z.ln.dn E Z ≤ x.ln.dn E Z; rw [N, N, h]; exact Int.ofNat_le.mpr (Nat.sub_le _ _)
  | fa => exact ⟨False.elim, fun _ => Inil⟩
  | tr => exact ⟨fun _ => Inil, fun h => (h trivial).elim⟩
-- the test: a leaf adds rows up
noncomputable def dg (s : Nat) : Nat := Nat.mod s 16
noncomputable def sh (s : Nat) : Nat := Nat.div s 16
noncomputable def pN (s : Nat) : Nat × Nat :=
  Nat.rec (motive := fun _ => Nat → Nat × Nat) (fun s => (0, s))
    (fun _ ih s => Bool.rec (motive := fun _ => Nat × Nat) (Nat.add (Nat.sub (dg s) 8) (Nat.mul 8 (ih (sh s)).1), (ih (sh s)).2) (dg s, sh s) (Nat.ble (dg s) 7)) 40 s
noncomputable def comb (l : List (V × V)) : Nat → (V × V) × Nat :=
  List.rec (motive := fun _ => Nat → (V × V) × Nat) (fun s => ((V.o, V.o), s))
    (fun p _ ih s => Nat.rec (motive := fun _ => (V × V) × Nat) (ih (pN s).2) (fun j _ => (((p.1.mul (Nat.succ j)).add (ih (pN s).2).1.1, (p.2.mul (Nat.succ j)).add (ih (pN s).2).1.2), (ih (pN s).2).2)) (pN s).1) l
noncomputable def bnd (b a : Bool) : Bool := Bool.rec (motive := fun _ => Bool) false b a
noncomputable def lle (a : List Nat) : List Nat → Bool :=
  List.rec (motive := fun _ => List Nat → Bool) (fun _ => true) (fun x xs ih b => List.rec (motive := fun _ => Bool) (bnd (ih []) (Nat.ble x 0)) (fun y ys _ => bnd (ih ys) (Nat.ble x y)) b) a
noncomputable def bad (p : V × V) : Bool := bnd (bnd (bnd (lle p.1.z p.2.z) (lle p.2.z p.1.z)) (lle p.2.n p.1.n)) (Nat.ble (Nat.succ p.2.c) p.1.c)
theorem band {a b : Bool} (h : bnd b a = true) : a = true ∧ b = true := by
  cases a with
  | false => exact nomatch h
  | true => exact ⟨rfl, h⟩
theorem dot_nil {a : List Nat} {E : List Int} (h : lle a [] = true) : dot a E = 0 := by
  induction a generalizing E with
  | nil => rfl
  | cons x xs ih => cases E with
    | nil => rfl
    | cons e es =>
      have k := band h
      have e1 : x = 0 := Nat.le_zero.mp (Nat.le_of_ble_eq_true k.1)
      show (x : Int) * e + dot xs es = 0
      rw [ih k.2, e1]; exact (Int.add_zero _).trans (Int.zero_mul _)
theorem lle_n {a b : List Nat} {E : List Nat} (h : lle a b = true) : dot a (zl E) ≤ dot b (zl E) := by
  induction a generalizing b E with
  | nil =>
    show 0 ≤ dot b (zl E)
    induction b generalizing E with
    | nil => exact Int.le_refl _
    | cons y ys ih => cases E with
      | nil => exact Int.le_refl _
      | cons e es => exact Int.add_nonneg (Int.mul_nonneg (Int.natCast_nonneg _) (Int.natCast_nonneg _)) (ih rfl)
  | cons x xs ih =>
    cases E with
    | nil => cases b <;> exact Int.le_refl _
    | cons e es =>
      cases b with
      | nil => exact Int.le_of_eq (dot_nil h)
      | cons y ys =>
        have k := band h
        exact Int.add_le_add (Int.mul_le_mul_of_nonneg_right (Int.ofNat_le.mpr (Nat.le_of_ble_eq_true k.1)) (Int.natCast_nonneg _)) (ih k.2)
theorem lle_z {a b : List Nat} {E : List Int} (h : lle a b = true) (g : lle b a = true) : dot a E = dot b E := by
  induction a generalizing b E with
  | nil => exact (dot_nil g).symm
  | cons x xs ih => cases b with
    | nil => exact dot_nil h
    | cons y ys => cases E with
      | nil => rfl
      | cons e es =>
        have k := band h
        have l := band g
        have e1 : x = y := Nat.le_antisymm (Nat.le_of_ble_eq_true k.1) (Nat.le_of_ble_eq_true l.1)
        show (x : Int) * e + dot xs es = (y : Int) * e + dot ys es
        rw [e1, ih k.2 l.2]
theorem bad_ok {p : V × V} (h : bad p = true) (r : R E Z p) : False := by
  have k := band h
  have l := band k.2
  have m := band l.2
  have r : (p.1.c : Int) + dot p.1.n (zl E) + dot p.1.z Z ≤ (p.2.c : Int) + dot p.2.n (zl E) + dot p.2.z Z := r
  rw [lle_z (E := Z) m.2 m.1] at r
  have r := Int.le_of_add_le_add_right r
  exact Int.not_lt.mpr r (Int.add_lt_add_of_lt_of_le (Int.ofNat_lt.mpr (Nat.le_of_ble_eq_true k.1)) (lle_n (E := E) l.1))
theorem comb_ok {l : List (V × V)} (s : Nat) (h : C E Z l) : R E Z (comb l s).1 := by
  induction l generalizing s with
  | nil => exact Int.le_refl _
  | cons p xs ih =>
    have k := ih (pN s).2 h.2
    show R E Z (Nat.rec (motive := fun _ => (V × V) × Nat) (comb xs (pN s).2) (fun j _ => (((p.1.mul (Nat.succ j)).add (comb xs (pN s).2).1.1, (p.2.mul (Nat.succ j)).add (comb xs (pN s).2).1.2), (comb xs (pN s).2).2)) (pN s).1).1
    cases (pN s).1 with
    | zero => exact k
    | succ j =>
      show V.dn E Z (V.add _ _) ≤ V.dn E Z (V.add _ _)
      rw [V.dn_add, V.dn_add, V.dn_mul, V.dn_mul]
      exact Int.add_le_add (Int.mul_le_mul_of_nonneg_left h.1 (Int.natCast_nonneg _)) k
noncomputable def alts (ck : List (V × V) → Nat → Bool × Nat) (L : List (V × V)) (o : List (List (V × V))) : Nat → Bool × Nat :=
  List.rec (motive := fun _ => Nat → Bool × Nat) (fun s => (true, s)) (fun c _ ih s => Bool.rec (motive := fun _ => Bool × Nat) (false, 0) (ih (ck (app c L) s).2) (ck (app c L) s).1) o
noncomputable def leaf (L : List (V × V)) (s : Nat) : Bool × Nat := (bad (comb L s).1, (comb L s).2)
-- a fact with one way in joins the rows; at any other a figure says: leaf (0) or split
noncomputable def step (ck : List (V × V) → Nat → Bool × Nat) (L : List (V × V)) (s : Nat) (o : List (List (V × V))) : Bool × Nat :=
  List.rec (motive := fun _ => Bool × Nat) (true, s)
    (fun c r _ => List.rec (motive := fun _ => Bool × Nat) (ck (app c L) s) (fun _ _ _ => Nat.rec (motive := fun _ => Bool × Nat) (leaf L (sh s)) (fun _ _ => alts ck L o (sh s)) (dg s)) r) o
noncomputable def ck (fs : List (List (List (V × V)))) : List (V × V) → Nat → Bool × Nat :=
  List.rec (motive := fun _ => List (V × V) → Nat → Bool × Nat) leaf (fun o _ ih L s => step ih L s o) fs
theorem alts_ok {k : List (V × V) → Nat → Bool × Nat} (hk : ∀ L s, (k L s).1 = true → C E Z L → False) {L : List (V × V)} (hL : C E Z L) {o : List (List (V × V))} (s : Nat) (h : (alts k L o s).1 = true) (ho : O E Z o) : False := by
  induction o generalizing s with
  | nil => exact ho
  | cons c r ih =>
    have h : (Bool.rec (motive := fun _ => Bool × Nat) (false, 0) (alts k L r (k (app c L) s).2) (k (app c L) s).1).1 = true := h
    cases q : (k (app c L) s).1 with
    | false => rw [q] at h; exact nomatch h
    | true =>
      rw [q] at h
      exact ho.elim (fun x => hk _ _ q (C_app x hL)) (ih _ h)
theorem ck_ok (fs : List (List (List (V × V)))) (L : List (V × V)) (s : Nat) (h : (ck fs L s).1 = true) (hL : C E Z L) (hf : A E Z fs) : False := by
  induction fs generalizing L s with
  | nil => exact bad_ok h (comb_ok s hL)
  | cons o fs ih =>
    have k : ∀ L s, (ck fs L s).1 = true → C E Z L → False := fun L s h hL => ih L s h hL hf.2
    have ho := hf.1
    have h : (step (ck fs) L s o).1 = true := h
    cases o with
    | nil => exact ho
    | cons c r => cases r with
      | nil => exact ho.elim (fun x => k _ _ h (C_app x hL)) id
      | cons c2 r =>
        have h : (Nat.rec (motive := fun _ => Bool × Nat) (leaf L (sh s)) (fun _ _ => alts (ck fs) L (c :: c2 :: r) (sh s)) (dg s)).1 = true := h
        cases q : dg s with
        | zero => rw [q] at h; exact bad_ok h (comb_ok _ hL)
        | succ _ => rw [q] at h; exact alts_ok k hL _ h ho
end
-- a problem: how many naturals, how many integers, facts, goal, figures
structure Pb where
  e : Nat
  z : Nat
  h : List F
  g : F
  s : Nat
noncomputable def rows (h : List F) : List (List (List (V × V))) := List.rec (motive := fun _ => List (List (List (V × V)))) [] (fun f _ ih => f.ln.1 :: ih) h
noncomputable def Pb.run (p : Pb) : Bool := (ck (p.g.ln.2 :: rows p.h) [] p.s).1
noncomputable def imps (g : Prop) (E : List Nat) (Z : List Int) (h : List F) : Prop := List.rec (motive := fun _ => Prop) g (fun f _ ih => f.dn E Z → ih) h
noncomputable def qn (α : Type) (n : Nat) : (List α → Prop) → Prop := Nat.rec (motive := fun _ => (List α → Prop) → Prop) (fun k => k []) (fun _ ih k => ∀ {a}, ih fun E => k (a :: E)) n
noncomputable def Pb.dn (p : Pb) : Prop := qn Nat p.e fun E => qn Int p.z fun Z => imps (p.g.dn E Z) E Z p.h
theorem qn_ok {α : Type} (n : Nat) (k : List α → Prop) (h : ∀ E, k E) : qn α n k := by
  induction n generalizing k with
  | zero => exact h []
  | succ n ih => exact fun {a} => ih _ fun E => h (a :: E)
theorem imps_ok {g : Prop} {E Z} (h : List F) (k : A E Z (rows h) → g) : imps g E Z h := by
  induction h with
  | nil => exact k trivial
  | cons f h ih => exact fun hf => ih fun k' => k ⟨(F.ok f).1 hf, k'⟩
theorem Pb.ok (p : Pb) (h : p.run = true) : p.dn :=
  qn_ok _ _ fun E => qn_ok _ _ fun Z => imps_ok _ fun hh => Classical.byContradiction fun hg => ck_ok _ _ _ h trivial ⟨(F.ok _).2 hg, hh⟩
noncomputable def Pb.says (p : Pb) : Prop := Bool.rec (motive := fun _ => Prop) True p.dn p.run
theorem Pb.says_ok (p : Pb) : p.says := by
  unfold Pb.says
  cases h : p.run with
  | false => trivial
  | true => exact Pb.ok p h
-- reading a problem out of a number
noncomputable def pT (n : Nat) : Nat → T × Nat :=
  Nat.rec (motive := fun _ => Nat → T × Nat) (fun s => (.c 0, s))
    (fun _ ih s => Bool.rec (motive := fun _ => T × Nat)
      (nth (fun s => (T.a (ih s).1 (T.c 1), (ih s).2)) [fun s => (T.v (pN s).1, (pN s).2), fun s => (T.c (pN s).1, (pN s).2), fun s => (T.a (ih s).1 (ih (ih s).2).1, (ih (ih s).2).2),
        fun s => (T.l (pN s).1 (ih (pN s).2).1, (ih (pN s).2).2), fun s => (T.r (ih s).1 (pN (ih s).2).1, (pN (ih s).2).2)] (Nat.sub (dg s) 10) (sh s))
      (T.v (dg s), sh s) (Nat.ble (dg s) 9)) n
noncomputable def pI (n : Nat) : Nat → I × Nat :=
  Nat.rec (motive := fun _ => Nat → I × Nat) (fun s => (.c 0, s))
    (fun _ ih s => Bool.rec (motive := fun _ => I × Nat)
      (nth (fun s => (I.a (ih s).1 (I.c 1), (ih s).2)) [fun s => (I.v (pN s).1, (pN s).2), fun s => (I.n (pT 16 s).1, (pT 16 s).2), fun s => (I.c (pN s).1, (pN s).2), fun s => (I.a (ih s).1 (ih (ih s).2).1, (ih (ih s).2).2),
        fun s => (I.s (ih s).1 (ih (ih s).2).1, (ih (ih s).2).2), fun s => (I.g (ih s).1, (ih s).2),
        fun s => (I.l (pN s).1 (ih (pN s).2).1, (ih (pN s).2).2), fun s => (I.r (ih s).1 (pN (ih s).2).1, (pN (ih s).2).2)] (Nat.sub (dg s) 6) (sh s))
      (I.v (dg s), sh s) (Nat.ble (dg s) 5)) n
noncomputable def p2 {α β : Type} (p : Nat → α × Nat) (f : α → α → β) (s : Nat) : β × Nat := (f (p s).1 (p (p s).2).1, (p (p s).2).2)
noncomputable def pS (f : T → T → T → F) (s : Nat) : F × Nat := (fun (x : (T × T) × Nat) => (f (pT 16 s).1 x.1.1 x.1.2, x.2)) (p2 (pT 16) Prod.mk (pT 16 s).2)
noncomputable def pF (n : Nat) : Nat → F × Nat :=
  Nat.rec (motive := fun _ => Nat → F × Nat) (fun s => (.tr, s))
    (fun _ ih s => nth (fun s => (F.tr, s)) [p2 (pT 16) F.le, p2 (pT 16) F.lt, p2 (pT 16) F.eq, p2 (pI 16) F.zle, p2 (pI 16) F.zlt, p2 (pI 16) F.zeq,
      p2 ih F.and, p2 ih F.or, p2 ih F.imp, fun s => (F.not (ih s).1, (ih s).2), p2 ih F.iff, pS F.su, pS F.sv, fun s => (F.fa, s)] (dg s) (sh s)) n
noncomputable def pL (n : Nat) : Nat → List F × Nat :=
  Nat.rec (motive := fun _ => Nat → List F × Nat) (fun s => ([], s)) (fun _ ih s => ((pF 8 s).1 :: (ih (pF 8 s).2).1, (ih (pF 8 s).2).2)) n
noncomputable def pb2 (e z : Nat) (h : List F × Nat) : Pb := (fun (g : F × Nat) => ⟨e, z, h.1, g.1, g.2⟩) (pF 8 h.2)
noncomputable def pb1 (e z : Nat × Nat) : Pb := pb2 e.1 z.1 (pL (pN z.2).1 (pN z.2).2)
noncomputable def pb (s : Nat) : Pb := pb1 (pN s) (pN (pN s).2)
end
end Mine.An
namespace Mine
theorem cutG {G : Prop} (h : ∀ X : Prop, (G → X) → X) : G := h G id
theorem oI {P : Prop} (h : P) : P := h
theorem oY : true = true := rfl
theorem aL (s : Nat) : (An.pb s).says := An.Pb.says_ok _
-- facts for the test
theorem aS (a b : Nat) : a - b = a - b := rfl
theorem aD (k x : Nat) (h : Nat.ble 1 k = true) : k * (x / k) ≤ x ∧ x ≤ k * (x / k) + (k - 1) :=
  have e := Nat.div_add_mod x k
  ⟨Nat.mul_div_le x k, Nat.le_trans (Nat.le_of_eq e.symm) (Nat.add_le_add_left (Nat.le_sub_one_of_lt (Nat.mod_lt x (Nat.le_of_ble_eq_true h))) _)⟩
theorem aT (x : Int) : ((x.toNat : Nat) : Int) = x ∨ x.toNat = 0 ∧ x ≤ 0 := (Int.le_total 0 x).elim (fun h => .inl (Int.toNat_of_nonneg h)) (fun h => .inr ⟨Int.toNat_of_nonpos h, h⟩)
theorem aF (k : Nat) (x : Int) (h : Nat.ble 1 k = true) : x % (k : Int) + (k : Int) * (x / (k : Int)) = x ∧ 0 ≤ x % (k : Int) ∧ x % (k : Int) < (k : Int) :=
  have h1 : 0 < (k : Int) := Int.ofNat_lt.mpr (Nat.le_of_ble_eq_true h)
  ⟨Int.emod_add_mul_ediv x k, Int.emod_nonneg x (Int.ne_of_gt h1), Int.emod_lt_of_pos x h1⟩
theorem aN (x y : Nat) : min x y ≤ x ∧ min x y ≤ y := ⟨Nat.min_le_left _ _, Nat.min_le_right _ _⟩
theorem aO (x y : Nat) : x ≤ min x y ∨ y ≤ min x y := (Nat.le_total x y).elim (fun h => .inl (Nat.le_min.mpr ⟨Nat.le_refl _, h⟩)) (fun h => .inr (Nat.le_min.mpr ⟨h, Nat.le_refl _⟩))
theorem aX (x y : Nat) : x ≤ max x y ∧ y ≤ max x y := ⟨Nat.le_max_left _ _, Nat.le_max_right _ _⟩
theorem aV (x y : Nat) : max x y ≤ x ∨ max x y ≤ y := (Nat.le_total x y).elim (fun h => .inr (Nat.max_le.mpr ⟨h, Nat.le_refl _⟩)) (fun h => .inl (Nat.max_le.mpr ⟨Nat.le_refl _, h⟩))
theorem bN (x y : Int) : min x y ≤ x ∧ min x y ≤ y := ⟨Int.min_le_left _ _, Int.min_le_right _ _⟩
theorem bO (x y : Int) : x ≤ min x y ∨ y ≤ min x y := (Int.le_total x y).elim (fun h => .inl (Int.le_min.mpr ⟨Int.le_refl _, h⟩)) (fun h => .inr (Int.le_min.mpr ⟨h, Int.le_refl _⟩))
theorem bX (x y : Int) : x ≤ max x y ∧ y ≤ max x y := ⟨Int.le_max_left _ _, Int.le_max_right _ _⟩
theorem bV (x y : Int) : max x y ≤ x ∨ max x y ≤ y := (Int.le_total x y).elim (fun h => .inr (Int.max_le.mpr ⟨h, Int.le_refl _⟩)) (fun h => .inl (Int.max_le.mpr ⟨Int.le_refl _, h⟩))
theorem aC (x k : Int) : x ≤ k ∨ k + 1 ≤ x := (Classical.em (x ≤ k)).elim .inl (fun h => .inr (Int.lt_of_not_ge h))
end Mine
end
local macro_rules | `(tactic| obtain ⟨$a, $b, $c, $ds,*⟩ := $e:term) => `(tactic| (refine Mine.cutG fun X hX => ?_; rcases $e:term with ⟨$a, $b, $c, $ds,*⟩; all_goals (refine hX ?_; clear hX X)))
section
open PySem PyProof.Rows
set_option maxRecDepth 100000
set_option maxHeartbeats 4000000
namespace Mine.Srt
noncomputable def Up (xs : Array Keyed) (lo hi : Nat) : Prop := ∀ i j, lo ≤ i → i ≤ j → j < hi → K xs i ≤ K xs j
noncomputable def Dn (xs : Array Keyed) (lo hi : Nat) : Prop := ∀ i j, lo ≤ i → i ≤ j → j < hi → K xs j ≤ K xs i
noncomputable def Off (xs ys : Array Keyed) (lo hi : Nat) : Prop := ∀ i, (i < lo ∨ hi ≤ i) → K ys i = K xs i
noncomputable def Ch (st : SortSt) (lo hi : Nat) (st' : SortSt) : Prop := ∃ xs, st' = setArr st xs ∧ xs.Perm (arrOf st) ∧ Off (arrOf st) xs lo hi
structure Ok (st : SortSt) : Prop where
  k : kindOf st = oneType'
  f : failedOf st = none
  i : IntKeys (arrOf st)
theorem Ch.refl (st : SortSt) (lo hi : Nat) : Ch st lo hi st := ⟨arrOf st, by cases st; rfl, .refl _, fun _ _ => rfl⟩
theorem Ch.trans {a b c : SortSt} {lo hi : Nat} (h1 : Ch a lo hi b) (h2 : Ch b lo hi c) : Ch a lo hi c := by
  obtain ⟨xs, rfl, p1, o1⟩ := h1
  obtain ⟨ys, rfl, p2, o2⟩ := h2
  exact ⟨ys, rfl, p2.trans p1, fun i hi => (o2 i hi).trans (o1 i hi)⟩
theorem Ch.ok {a b : SortSt} {lo hi : Nat} (h : Ch a lo hi b) (o : Ok a) : Ok b := by
  obtain ⟨xs, rfl, p1, o1⟩ := h
  exact ⟨o.k, o.f, fun p hp => o.i p ((Array.perm_iff_toList_perm.mp p1).mem_iff.mp hp)⟩
theorem Ch.size {a b : SortSt} {lo hi : Nat} (h : Ch a lo hi b) : (arrOf b).size = (arrOf a).size := by
  obtain ⟨xs, rfl, p1, o1⟩ := h; exact p1.size_eq
theorem Ch.perm {a b : SortSt} {lo hi : Nat} (h : Ch a lo hi b) : (arrOf b).Perm (arrOf a) := by
  obtain ⟨xs, rfl, p1, o1⟩ := h; exact p1
theorem Ch.pend {a b : SortSt} {lo hi : Nat} (h : Ch a lo hi b) : pendingOf b = pendingOf a := by
  obtain ⟨xs, rfl, p1, o1⟩ := h; rfl
theorem Ch.off {a b : SortSt} {lo hi : Nat} (h : Ch a lo hi b) : Off (arrOf a) (arrOf b) lo hi := by
  obtain ⟨xs, rfl, p1, o1⟩ := h; exact o1
theorem Ch.mirror {st : SortSt} {lo hi i j : Nat} (h1 : lo ≤ i) (h2 : j ≤ hi) (h3 : j ≤ (arrOf st).size) : Ch st lo hi (setArr st (mirror (arrOf st) i j ((j - i) / 2))) := by
  refine ⟨_, rfl, mirror_perm _ _ _ _, fun k hk => ?_⟩
  rw [K_mirror h3, if_neg (by exact aL 0x10011011011241410694300417320100305 h1 h2 hk)]

section
variable {prog : Program} {w : World} {A : Around} {E : Value → Shared → Prop} {s : Shared}

theorem at_ {st : SortSt} (o : Ok st) {i : Nat} (hi : i < (arrOf st).size) : ∃ t q, (arrOf st)[i]? = some (.int (K (arrOf st) i) t, q) := by
  obtain ⟨n, t, hn⟩ := o.i (arrOf st)[i] (by simp)
  refine ⟨t, (arrOf st)[i].2, ?_⟩
  have e : (arrOf st)[i]? = some (arrOf st)[i] := getElem?_pos _ i hi
  have e2 : (arrOf st)[i] = (.int n t, (arrOf st)[i].2) := Prod.ext hn rfl
  unfold K
  rw [e, e2]
  rfl
theorem ltA {st : SortSt} {i j : Nat} {Q : Option Bool → SortSt → Prop} (o : Ok st) (hi : i < (arrOf st).size) (hj : j < (arrOf st).size)
    (h : Q (some (decide (K (arrOf st) i < K (arrOf st) j))) st) : wpS (model prog w) A E s (ltAt' i j) Q st := by
  obtain ⟨t, p, e1⟩ := at_ o hi
  obtain ⟨u, q, e2⟩ := at_ o hj
  exact wpS_ltAt o.k e1 e2 h
theorem use_dup {α : Type} {kont whole : StateT SortSt Sem α} {Q : α → SortSt → Prop} {st : SortSt} (C : SortSt → Prop)
    (h : (∀ st', C st' → wpS (model prog w) A E s kont Q st') → wpS (model prog w) A E s whole Q st) (hk : ∀ st', C st' → wpS (model prog w) A E s kont Q st') : wpS (model prog w) A E s whole Q st := h hk

theorem Up.step {xs : Array Keyed} {lo n : Nat} (h : Up xs lo (lo + n)) (hn : 1 ≤ n) (hl : ¬ K xs (lo + n) < K xs (lo + n - 1)) : Up xs lo (lo + (n + 1)) := by
  intro i j h1 h2 h3
  by_cases hjx : j < lo + n
  · exact h i j h1 h2 hjx
  · have e : j = lo + n := by exact aL 0x110101121c0221c0192f1c01203 h3 hjx
    subst e
    by_cases hi : i = lo + n
    · subst hi; exact Int.le_refl _
    · exact Int.le_trans (h i (lo + n - 1) h1 (by exact aL 0x1110101103021c32921c301b21c0c304 (aS _ _) h2 hi) (by exact aL 0x11011010102c111b02c1b01b0203 hn (aS _ _))) (Int.not_lt.mp hl)
theorem Dn.step {xs : Array Keyed} {lo n : Nat} (h : Dn xs lo (lo + n)) (hn : 1 ≤ n) (hl : K xs (lo + n) ≤ K xs (lo + n - 1)) : Dn xs lo (lo + (n + 1)) := by
  intro i j h1 h2 h3
  by_cases hjx : j < lo + n
  · exact h i j h1 h2 hjx
  · have e : j = lo + n := by exact aL 0x110101121c0221c0192f1c01203 h3 hjx
    subst e
    by_cases hi : i = lo + n
    · subst hi; exact Int.le_refl _
    · exact Int.le_trans hl (h i (lo + n - 1) h1 (by exact aL 0x1110101103021c32921c301b21c0c304 (aS _ _) h2 hi) (by exact aL 0x11011010102c111b02c1b01b0203 hn (aS _ _)))
theorem Dn.congr {xs ys : Array Keyed} {lo hi : Nat} (h : Dn xs lo hi) (e : ∀ k, K ys k = K xs k) : Dn ys lo hi := fun i j a b c => by rw [e, e]; exact h i j a b c

theorem wpS_count {st : SortSt} {lo nrem : Nat} {Q : Option Nat → SortSt → Prop} (o : Ok st) (hn : lo + nrem ≤ (arrOf st).size) (h1 : 1 ≤ nrem)
    (h : ∀ m st', Ch st lo (lo + nrem) st' → 1 ≤ m → m ≤ nrem → Up (arrOf st') lo (lo + m) → Q (some m) st') :
    wpS (model prog w) A E s (countRun' lo nrem) Q st := by
  rw [countRun'_eq]
  refine wpS_bind (wpS_mono (wpS_forRange (I := fun x c st' => st' = st ∧ c = (none, x) ∧ Up (arrOf st) lo (lo + x))
    (Q := fun c st' => st' = st ∧ ∃ n, c = (none, n) ∧ 1 ≤ n ∧ n ≤ nrem ∧ Up (arrOf st) lo (lo + n) ∧ (n = nrem ∨ K (arrOf st) (lo + n) < K (arrOf st) (lo + n - 1))) ?step ?fin ⟨rfl, rfl, fun i j a b c => by
    have : i = j := by exact aL 0x1010110112120f21210100303 a b c
    subst this; exact Int.le_refl _⟩) ?post)
  case step =>
    intro x c st' hax hxn H0
    obtain ⟨rfl, rfl, hs⟩ := H0
    dsimp only
    refine wpS_bind (ltA o (by exact oI (aL 0x111302c1312c0101204 hxn hn)) (by exact oI (aL 0x11011401431c03211b21c0c305 (aS _ _) hxn hn)) ?_)
    by_cases hless : K (arrOf st') (lo + x) < K (arrOf st') (lo + x - 1)
    · simp only [hless, decide_true, if_true]
      exact wpS_pure ⟨rfl, x, rfl, hax, by exact aL 0x11100101102 hxn, hs, .inr hless⟩
    · simp only [hless, decide_false, Bool.false_eq_true, if_false]
      exact wpS_pure ⟨rfl, rfl, hs.step (by exact aL 0x1101b001b0101 hax) hless⟩
  case fin =>
    intro c st' H0
    obtain ⟨rfl, rfl, hs⟩ := H0
    rw [show max 1 nrem = nrem by exact aL 0x100011100111010010120101b10710011b0601b0302 h1 (aX _ _) (aV _ _)] at hs ⊢
    exact ⟨rfl, nrem, rfl, h1, by exact aL 0x1000001, hs, .inl rfl⟩
  case post =>
    intro c st' H0
    obtain ⟨rfl, n, rfl, hn1, hn2, hs, hor⟩ := H0
    dsimp only
    by_cases hnn : n = nrem
    · rw [if_pos (by simpa using hnn)]
      exact wpS_pure (h n _ (.refl _ _ _) hn1 hn2 hs)
    rw [if_neg (by simpa using hnn)]
    have hlt := hor.resolve_left hnn
    apply use_dup (C := fun s2 => Ch st' lo (lo + nrem) s2 ∧ Dn (arrOf s2) lo (lo + (n + 1)))
    · intro hk
      by_cases hgt : n > 1
      · rw [if_pos hgt]
        refine wpS_bind (ltA o (by exact oI (aL 0x111211201c001b0203 h1 hn)) (by exact oI (aL 0x11011101012411b30c4b31b1130210c0405 hn hn2 hgt (aS _ _))) ?_)
        by_cases hrose : K (arrOf st') lo < K (arrOf st') (lo + n - 1)
        · simp only [hrose, decide_true, if_true]
          exact wpS_pure (h n st' (.refl _ _ _) hn1 hn2 hs)
        · simp only [hrose, decide_false, Bool.false_eq_true, if_false]
          have hsz : lo + n ≤ (arrOf st').size := by exact aL 0x111230c0130210c0204 hn hn2
          have hall : ∀ k, lo ≤ k → k < lo + n → K (arrOf st') k = K (arrOf st') (lo + n - 1) := by
            intro k hk0 hk
            have a1 := hs lo k (Nat.le_refl _) hk0 hk
            have a2 := hs k (lo + n - 1) hk0 (by exact aL 0x101103021c311b21c0c204 (aS _ _) hk) (by exact aL 0x1101010102c111b02c1b01b1203 hgt (aS _ _))
            exact aL 0x1001111011251232031049330 hrose a1 a2
          refine wpS_bind (wpS_reverse ?_)
          refine hk _ ⟨.mirror (Nat.le_refl _) (by exact aL 0x1112c02c0100103 hn2) hsz, ?_⟩
          refine Dn.congr (xs := arrOf st') ?_ (K_mirror_equal hsz hall)
          refine Dn.step (fun i j a b c => ?_) (by exact aL 0x1101b001b1101 hgt) (Int.le_of_lt hlt)
          rw [hall i (by exact aL 0x11100100102 a) (by exact aL 0x11132c0132c11100204 b c), hall j (by exact aL 0x111200210100203 a b) c]; exact Int.le_refl _
      · rw [if_neg hgt]
        have hn1' : n = 1 := by exact aL 0x10111011b0201b1901b0201 hn1 hgt
        subst hn1'
        refine hk _ ⟨.refl _ _ _, Dn.step (fun i j a b c => ?_) (by exact aL 0x11b1b0000) (Int.le_of_lt hlt)⟩
        have : i = j := by exact aL 0x1010110112120f21210100303 a b c
        subst this; exact Int.le_refl _
    · rintro s1 ⟨hc1, hd1⟩
      refine wpS_bind (wpS_lift (wpAny_rule ⟨rfl, ?_⟩))
      refine wpS_bind (wpS_mono (wpS_forRange (I := fun x c s2 => ∃ neq, c = (none, x, neq) ∧ Ch st' lo (lo + nrem) s2 ∧ Dn (arrOf s2) lo (lo + x) ∧ neq + 1 ≤ x ∧
          (∀ i, lo + x - (neq + 1) ≤ i → i < lo + x → K (arrOf s2) i = K (arrOf s2) (lo + x - 1)))
        (Q := fun c s2 => ∃ x neq, c = (none, x, neq) ∧ 1 ≤ x ∧ x ≤ nrem ∧ Ch st' lo (lo + nrem) s2 ∧ Dn (arrOf s2) lo (lo + x) ∧ neq + 1 ≤ x ∧
          (∀ i, lo + x - (neq + 1) ≤ i → i < lo + x → K (arrOf s2) i = K (arrOf s2) (lo + x - 1))) ?dstep ?dfin ⟨0, rfl, hc1, hd1, by exact aL 0x10f0bf0001, fun i a b => by congr 1; exact aL 0x101011001010322f1c313000bf2f1c0c304 (aS _ _) a b⟩) ?dpost)
      case dfin =>
        intro c s2 H0
        obtain ⟨neq, rfl, hc, hd, hq, he⟩ := H0
        rw [show max (n + 1) nrem = nrem by exact aL 0x1000100100011000111110100112210291200f20721020f06100403 hn2 (aX _ _) (aV _ _) hnn] at *
        exact ⟨nrem, neq, rfl, by exact aL 0x1101b001b0101 h1, by exact aL 0x1000001, hc, hd, hq, he⟩
      case dstep =>
        intro x c s2 hax hxn H0
        obtain ⟨neq, rfl, hc, hd, hq, he⟩ := H0
        dsimp only
        have hsz : lo + x ≤ (arrOf s2).size := by rw [hc.size]; exact aL 0x111230c0131210c0204 hn hxn
        have o2 := hc.ok o
        have hz := hc.size
        refine wpS_bind (ltA o2 (by exact oI (aL 0x11110430c1242131210c0305 hn hxn hz)) (by exact oI (aL 0x111011011013411b12c4b312c010f0305 hax hsz (aS _ _))) ?_)
        by_cases hless : K (arrOf s2) (lo + x) < K (arrOf s2) (lo + x - 1)
        · simp only [hless, decide_true, if_true]
          by_cases hneq : neq > 0
          · rw [if_pos hneq]
            refine wpS_bind (wpS_reverse (wpS_pure ⟨0, rfl, hc.trans (.mirror (by exact aL 0x101101023f03f21c0c204 (aS _ _) hq) (by exact aL 0x1112c02c0101103 hxn) hsz), Dn.congr (hd.step (by exact aL 0x1111b010f0102 hq) (Int.le_of_lt hless)) (K_mirror_equal hsz he), by exact aL 0x10f0bf0001, fun i a b => by congr 1; exact aL 0x101011001010322f1c313000bf2f1c0c304 (aS _ _) a b⟩))
          · rw [if_neg hneq]
            exact wpS_pure ⟨0, rfl, hc, hd.step (by exact aL 0x1111b010f0102 hq) (Int.le_of_lt hless), by exact aL 0x10f0bf0001, fun i a b => by congr 1; exact aL 0x101011001010322f1c313000bf2f1c0c304 (aS _ _) a b⟩
        · simp only [hless, decide_false, Bool.false_eq_true, if_false]
          refine wpS_bind (ltA o2 (by exact oI (aL 0x111011011013411b12c4b312c010f0305 hax hsz (aS _ _))) (by exact oI (aL 0x11110430c1242131210c0305 hn hxn hz)) ?_)
          by_cases hlarger : K (arrOf s2) (lo + x - 1) < K (arrOf s2) (lo + x)
          · simp only [hlarger, decide_true, if_true]
            exact wpS_pure ⟨x, neq, rfl, by exact aL 0x1111b010f0102 hq, by exact aL 0x11100101102 hxn, hc, hd, hq, he⟩
          · simp only [hlarger, decide_false, Bool.false_eq_true, if_false]
            have heqx : K (arrOf s2) (lo + x) = K (arrOf s2) (lo + x - 1) := by exact aL 0x101110110501491049220 hless hlarger
            refine wpS_pure ⟨neq + 1, rfl, hc, hd.step (by exact aL 0x1111b010f0102 hq) (by exact aL 0x110131049120 hlarger), by exact aL 0x111f0ff010f0102 hq, fun i a b => ?_⟩
            rw [show lo + (x + 1) - 1 = lo + x by exact aL 0x10111011101011121c021b2f1c0b103 (aS _ _)]
            by_cases hix : i = lo + x
            · subst hix; rfl
            · rw [heqx]; exact he i (by exact aL 0x10000110111014503f21c5b4003ff2f1c0c306 (aS (lo + (x + 1)) (neq + 1 + 1)) a (aS (lo + x) (neq + 1))) (by exact aL 0x11101121c0121c0292f1c01203 b hix)
      case dpost =>
        intro c s2 H0
        obtain ⟨x, neq, rfl, hx1, hx2, hc, hd, hq, he⟩ := H0
        dsimp only
        have hsz : lo + x ≤ (arrOf s2).size := by rw [hc.size]; exact aL 0x111230c0130210c0204 hn hx2
        apply use_dup (C := fun s3 => Ch st' lo (lo + nrem) s3 ∧ Dn (arrOf s3) lo (lo + x))
        · intro hk
          by_cases hneq : neq > 0
          · rw [if_pos hneq]
            exact wpS_bind (wpS_reverse (hk _ ⟨hc.trans (.mirror (by exact aL 0x101101023f03f21c0c204 (aS _ _) hq) (by exact aL 0x1112c02c0100103 hx2) hsz), Dn.congr hd (K_mirror_equal hsz he)⟩))
          · rw [if_neg hneq]
            exact hk _ ⟨hc, hd⟩
        · rintro s3 ⟨hc3, hd3⟩
          have hz3 := hc3.size
          refine wpS_bind (wpS_reverse ?_)
          have hc4 : Ch st' lo (lo + nrem) (setArr s3 (mirror (arrOf s3) lo (lo + x) ((lo + x - lo) / 2))) := hc3.trans (.mirror (Nat.le_refl _) (by exact aL 0x1112c02c0100103 hx2) (by exact aL 0x11110430c0242130210c0305 hn hx2 hz3))
          have hu4 : Up (mirror (arrOf s3) lo (lo + x) ((lo + x - lo) / 2)) lo (lo + x) := by
            intro i j a b c
            rw [K_mirror (by exact aL 0x11110430c0242130210c0305 hn hx2 hz3), K_mirror (by exact aL 0x11110430c0242130210c0305 hn hx2 hz3), if_pos (by exact aL 0x10111100130c11100630c21210100304 a b c), if_pos (by exact aL 0x10011110130c21200630c21210100304 a b c)]
            exact hd3 _ _ (by exact aL 0x10101103043c211b43c3c1c210c305 (aS _ _) (aS _ _) c) (by exact aL 0x1000011011101040314b320210c305 (aS _ _) b (aS _ _)) (by exact aL 0x110010101000100011001010101153c01210b1b53c3c1b53c41230210c506 (aS _ _) a c (aS _ _) (aS _ _))
          generalize hs4 : setArr s3 (mirror (arrOf s3) lo (lo + x) ((lo + x - lo) / 2)) = s4 at *
          have hu5 : Up (arrOf s4) lo (lo + x) := by rw [← hs4]; exact hu4
          have o4 := hc4.ok o
          have hz4 := hc4.size
          refine wpS_bind (wpS_mono (wpS_forRange (I := fun y c s5 => s5 = s4 ∧ c = (none, y) ∧ Up (arrOf s4) lo (lo + y))
            (Q := fun c s5 => s5 = s4 ∧ ∃ n, c = (none, n) ∧ 1 ≤ n ∧ n ≤ nrem ∧ Up (arrOf s4) lo (lo + n)) ?ustep ?ufin ⟨rfl, rfl, hu5⟩) ?upost)
          case ustep =>
            intro y c s5 hay hyn H0
            obtain ⟨rfl, rfl, hs⟩ := H0
            dsimp only
            refine wpS_bind (ltA o4 (by exact oI (aL 0x11110430c1242131210c0305 hn hyn hz4)) (by exact oI (aL 0x1101110501452321431c01b21c0c406 (aS _ _) hn hyn hz4)) ?_)
            by_cases hless : K (arrOf s5) (lo + y) < K (arrOf s5) (lo + y - 1)
            · simp only [hless, decide_true, if_true]
              exact wpS_pure ⟨rfl, y, rfl, by exact aL 0x11121b021010f0203 hq hay, by exact aL 0x11100101102 hyn, hs⟩
            · simp only [hless, decide_false, Bool.false_eq_true, if_false]
              exact wpS_pure ⟨rfl, rfl, hs.step (by exact aL 0x11121b021010f0203 hq hay) hless⟩
          case ufin =>
            intro c s5 H0
            obtain ⟨rfl, rfl, hs⟩ := H0
            rw [show max x nrem = nrem by exact aL 0x1000111001110100112212002072102006100303 hx2 (aX _ _) (aV _ _)] at hs ⊢
            exact ⟨rfl, nrem, rfl, h1, by exact aL 0x1000001, hs⟩
          case upost =>
            intro c s5 H0
            obtain ⟨rfl, m, rfl, hm1, hm2, hs⟩ := H0
            exact wpS_pure (h m _ hc4 hm1 hm2 hs)

theorem wpS_bins {st : SortSt} {lo n ok : Nat} {Q : Bool → SortSt → Prop} (o : Ok st) (hn : lo + n ≤ (arrOf st).size) (hok : ok ≤ n) (hs : Up (arrOf st) lo (lo + ok))
    (h : ∀ st', Ch st lo (lo + n) st' → Up (arrOf st') lo (lo + n) → Q true st') : wpS (model prog w) A E s (binarySort' lo n ok) Q st := by
  rw [binarySort'_eq]
  refine wpS_bind (wpS_mono (wpS_forRange (I := fun k c st' => c = (none, ()) ∧ Ch st lo (lo + n) st' ∧ Up (arrOf st') lo (lo + min k n))
    (Q := fun c st' => c = (none, ()) ∧ Ch st lo (lo + n) st' ∧ Up (arrOf st') lo (lo + n)) ?step ?fin ?init) ?post)
  case post =>
    intro c st' H0
    obtain ⟨rfl, hB', hs'⟩ := H0
    exact wpS_pure (h st' hB' hs')
  case init =>
    refine ⟨rfl, .refl _ _ _, fun i j a b c => ?_⟩
    by_cases h1 : ok = 0
    · have : i = j := by exact aL 0x101000000110100011011101011112121b50450763053060b4230c21210100607 a b c h1 (aN _ _) (aV _ _)
      subst this; exact Int.le_refl _
    · exact hs i j a b (by exact aL 0x1101110000011110110151c010b5291b305307420320621c01406 c (aN _ _) (aV _ _) h1)
  case fin =>
    intro c st' H0
    obtain ⟨hc, hB', hs'⟩ := H0
    refine ⟨hc, hB', ?_⟩
    rwa [show min (max (max ok 1) n) n = n by exact aL 0x11000010000110010111202020010712013062001006304 (aN _ _) (aX _ _) (aO _ _)] at hs'
  case step =>
    intro k c st' hak hkn H0
    obtain ⟨rfl, hc, hs'⟩ := H0
    rw [show min k n = k by exact aL 0x1001001011100011102221020071200206101303 hkn (aN _ _) (aO _ _)] at hs'
    have hz := hc.size
    have o' := hc.ok o
    refine wpS_bind (wpS_mono (wpS_forRange (I := fun x c st'' => st'' = st' ∧ ∃ l r, c = (none, l, r) ∧ l ≤ r ∧ r ≤ k ∧ r - l ≤ k - x ∧
        (∀ i, i < l → K (arrOf st') (lo + i) ≤ K (arrOf st') (lo + k)) ∧ (∀ i, r ≤ i → i < k → K (arrOf st') (lo + k) < K (arrOf st') (lo + i)))
      (Q := fun c st'' => st'' = st' ∧ ∃ l r, c = (none, l, r) ∧ l ≤ k ∧
        (∀ i, i < l → K (arrOf st') (lo + i) ≤ K (arrOf st') (lo + k)) ∧ (∀ i, l ≤ i → i < k → K (arrOf st') (lo + k) < K (arrOf st') (lo + i))) ?istep ?ifin ?iinit) ?ipost)
    case iinit => exact ⟨rfl, 0, k, rfl, by exact aL 0x100b0001, by exact aL 0x1000001, by exact aL 0x1000001, fun i hi => by exact aL 0x11030b01121 hi, fun i h1 h2 => by exact aL 0x11104011100222 h1 h2⟩
    case ifin =>
      intro c st'' H0
      obtain ⟨rfl, l, r, rfl, hlr, hrk, hm, hlo, hhi⟩ := H0
      have : l = r := by exact aL 0x1001000010101000110101101011122453b45040b06300120210c506 (aS _ _) hlr hm (aX _ _) (aS _ _)
      subst this
      exact ⟨rfl, l, l, rfl, hrk, hlo, hhi⟩
    case istep =>
      intro x c st'' _ hxk H0
      obtain ⟨rfl, l, r, rfl, hlr, hrk, hm, hlo, hhi⟩ := H0
      dsimp only
      by_cases hge : l ≥ r
      · rw [if_pos hge]
        have : l = r := by exact aL 0x1101011102010100202 hlr hge
        subst this
        exact wpS_pure ⟨rfl, l, l, rfl, hrk, hlo, hhi⟩
      · rw [if_neg hge]
        refine wpS_bind (ltA o' (by exact oI (aL 0x11110430c1242131210c0305 hn hkn hz)) (by exact oI (aL 0x222202101470c172df56c056c72d066509350242131210c06018 hn hkn hz hrk hge (aD 2 _ oY))) ?_)
        by_cases hless : K (arrOf st'') (lo + k) < K (arrOf st'') (lo + (l + r) / 2)
        · simp only [hless, decide_true, if_true]
          refine wpS_pure ⟨rfl, l, (l + r) / 2, rfl, by exact aL 0x211021022df01c001c22d061009203 hge (aD 2 _ oY), by exact aL 0x2210113032df02c002c32d062009100304 hrk hge (aD 2 _ oY), by exact aL 0x1000000001020001101200120101101201011080216b578b72df45c045c72d06630543c2f10c6019 (aS (k) (x + 1)) (aS (r) (l)) hm (aD 2 (l + r) oY) (aS ((l + r) / 2) (l)) (aS (k) (x)), hlo, fun i h1 h2 => ?_⟩
          exact Int.lt_of_lt_of_le hless (hs' _ _ (by exact aL 0x110c00002) (by exact aL 0x1112c02c0100103 h1) (by exact aL 0x1112c02c1101103 h2))
        · simp only [hless, decide_false, Bool.false_eq_true, if_false]
          refine wpS_pure ⟨rfl, (l + r) / 2 + 1, r, rfl, by exact aL 0x210102f022df01c001c22d061009203 hge (aD 2 _ oY), by exact aL 0x11100100102 hrk, by exact aL 0x1000000001000001110200110101110201011080216b7f48b72df45c045c72d06630543c2f10c6019 (aS (k) (x + 1)) (aS (r) (l)) hm (aD 2 (l + r) oY) (aS (r) ((l + r) / 2 + 1)) (aS (k) (x)), fun i h1 => ?_, hhi⟩
          exact Int.le_trans (hs' (lo + i) (lo + (l + r) / 2) (by exact aL 0x110c00002) (by exact aL 0x1112c02c01f01103 h1) (by exact aL 0x2210114c34c132df02c002c32d062009100305 hrk hge (aD 2 _ oY))) (Int.not_lt.mp hless)
    case ipost =>
      intro c st'' H0
      obtain ⟨rfl, l, r, rfl, hlk, hlo, hhi⟩ := H0
      dsimp only
      rw [moveDown'_eq]
      have hks : lo + k < (arrOf st'').size := by exact oI (aL 0x11110430c1242131210c0305 hn hkn hz)
      refine wpS_bind (wpS_modify (wpS_pure ⟨rfl, hc.trans ⟨_, rfl, bubble_perm _ _ _, fun i hi => ?_⟩, ?_⟩))
      · rw [K_bubble hks (by exact aL 0x11021c0031c21c0c104 (aS _ _)), if_neg (by exact aL 0x11010011001001110110100110010101110629641c0161751c21c3b421321c0c407 (aS _ _) hkn (aS _ _) hi), if_neg (by exact aL 0x1101001010001001010101011121c6060169641c0161751c21c3b421321c0c407 (aS _ _) hkn (aS _ _) hi)]
      rw [show min (k + 1) n = k + 1 by exact aL 0x100101100110001110f2221020f071200f206101303 hkn (aN _ _) (aO _ _)]
      intro i j a b c
      show K (bubble (arrOf st'') (lo + k) (lo + k - (lo + l))) i ≤ K (bubble (arrOf st'') (lo + k) (lo + k - (lo + l))) j
      rw [K_bubble hks (by exact aL 0x11021c0031c21c0c104 (aS _ _)), K_bubble hks (by exact aL 0x11021c0031c21c0c104 (aS _ _)), show lo + k - (lo + k - (lo + l)) = lo + l by exact aL 0x1100100100000011000011011101101010101001141c02321c0b41c21c3b240321c0c405 (aS _ _) hlk (aS _ _) (aS _ _)]
      repeat' split
      all_goals first
        | (exfalso; (first | exact aL 0x1000100001111010101d32c10142c16942c12942c023f2c11100505 b c (by assumption) (by assumption) (by assumption) | exact aL 0x10101d32c1242c00032c16100305 b (by assumption) (by assumption) | exact aL 0x1001100111d32c10142c16932c00042c163f2c11100405 b c (by assumption) (by assumption)))
        | exact Int.le_refl _
        | (have := hlo (i - lo) (by (first | exact aL 0x10110110001011000011011341014b30c12930c22210100505 a b (by assumption) (by assumption) (aS _ _) | exact aL 0x11001000000110100110010110001001100001010111351015b40c10130c16930c12940c20230c16210100606 a b (by assumption) (by assumption) (by assumption) (aS _ _) | exact aL 0x10100000110100010101110100110101010111451015b30c20240c16940c2293f0c21210100606 a b c (by assumption) (by assumption) (aS _ _))); rwa [show lo + (i - lo) = i by exact aL 0x1101101011010100111120c2012b100203 a (aS _ _)] at this)
        | (have := Int.le_of_lt (hhi (j - 1 - lo) (by exact aL 0x101010124053c10143c16302c1b10c306 (aS _ _) (aS _ _) (by assumption)) (by exact aL 0x1101101010011000110010101011501210b1b41b52c40432c16210c406 (aS _ _) (by assumption) (aS _ _) (aS _ _))); rwa [show lo + (j - 1 - lo) = j - 1 by (first | exact aL 0x1010001011000000101100010001023c2302b53c10143c16302c1b10c406 (aS _ _) (aS _ _) (by assumption) (aS _ _) | exact aL 0x1010101100001011000010100000111052c2205b42c10132c161b10c306 (aS _ _) (by assumption) (aS _ _))] at this)
        | exact hs' _ _ (by (first | exact aL 0x1010102042c10132c161b10c205 (aS _ _) (by assumption) | exact aL 0x11100100102 a)) (by (first | exact aL 0x10000110111010301b23b1201b10c304 (aS _ _) b (aS _ _) | exact aL 0x11011010011102053c20243c16953c10143c161201b10c406 (aS _ _) b (by assumption) (by assumption) | exact aL 0x11100100102 b)) (by (first | exact aL 0x1110111010130c411b24b30c20210c16205 (by assumption) (aS _ _) | exact aL 0x10100011111010113c2113c20203c16903c2291f3c21100404 hlk c (by assumption) (by assumption)))

noncomputable def gal : Bool → Keyed → Array Keyed → Nat → Nat → Nat → StateT SortSt Sem (Option Nat) := sortPriv% PySem.Builtin.gallop
noncomputable def IntK (p : Keyed) : Prop := ∃ n t, p.1 = .int n t
noncomputable abbrev ky (p : Keyed) : Int := numOf p.1
theorem lt_ {st : SortSt} {x y : Keyed} {Q : Option Bool → SortSt → Prop} (k : kindOf st = oneType') (hx : IntK x) (hy : IntK y) (h : Q (some (decide (ky x < ky y))) st) :
    wpS (model prog w) A E s (lt' x y) Q st := by
  obtain ⟨x1, x2⟩ := x
  obtain ⟨y1, y2⟩ := y
  obtain ⟨a, t, hx⟩ := hx
  obtain ⟨b, u, hy⟩ := hy
  simp only at hx hy
  subst hx; subst hy
  rw [lt'_eq]
  refine wpS_bind (wpS_get ?_)
  rw [k, keyLt'_oneType]
  refine wpS_bind (wpS_lift (wpAny_attempt (oneLt_int ⟨rfl, ?_⟩)))
  exact wpS_pure h
theorem elem_ {st : SortSt} {xs : Array Keyed} {i : Nat} {Q : Keyed → SortSt → Prop} (hi : i < xs.size) (h : Q xs[i] st) : wpS (model prog w) A E s (elem' xs i) Q st := by
  rw [elem'_eq, getElem?_pos xs i hi]
  exact wpS_pure h
noncomputable def bey (left : Bool) (key : Keyed) (xs : Array Keyed) (i : Nat) : Prop := if left then K xs i < ky key else K xs i ≤ ky key
noncomputable abbrev beyD (left : Bool) (key : Keyed) (xs : Array Keyed) (i : Nat) : Decidable (bey left key xs i) := by unfold bey; infer_instance
theorem bey.down {left : Bool} {key : Keyed} {xs : Array Keyed} {lo hi i j : Nat} (h : bey left key xs j) (u : Up xs lo hi) (h1 : lo ≤ i) (h2 : i ≤ j) (h3 : j < hi) : bey left key xs i := by
  have := u i j h1 h2 h3
  unfold bey at *
  split <;> rename_i q <;> simp only [q, if_true, if_false, Bool.false_eq_true] at h <;> (first | exact aL 0x111204214103230 this h | exact aL 0x111203213103230 this h)
theorem intK_at {xs : Array Keyed} (h : IntKeys xs) {i : Nat} (hi : i < xs.size) : IntK xs[i] := h _ (by simp)
theorem bey_ {st : SortSt} {left : Bool} {key : Keyed} {xs : Array Keyed} {i : Nat} {Q : Option Bool → SortSt → Prop} (k : kindOf st = oneType') (hk : IntK key) (hx : IntKeys xs) (hi : i < xs.size)
    (h : Q (some (@decide (bey left key xs i) (beyD left key xs i))) st) :
    wpS (model prog w) A E s (do let x ← elem' xs i; if left = true then lt' x key else (do let r ← lt' key x; pure (Option.map (fun x => !x) r))) Q st := by
  refine wpS_bind (elem_ hi ?_)
  have e : K xs i = ky xs[i] := K_eq hi
  cases left with
  | true =>
    simp only [if_true]
    refine lt_ k (intK_at hx hi) hk ?_
    simpa [bey, e] using h
  | false =>
    simp only [if_false, Bool.false_eq_true]
    refine wpS_bind (lt_ k hk (intK_at hx hi) ?_)
    refine wpS_pure ?_
    have e2 : (!decide (ky key < ky xs[i])) = @decide (bey false key xs i) (beyD false key xs i) := by
      by_cases q : ky key < ky xs[i] <;> simp [bey, e, q] <;> exact aL 0x110131049120 q
    show Q (some (!decide (ky key < ky xs[i]))) st
    rw [e2]; exact h
theorem wpS_gal {st : SortSt} {left : Bool} {key : Keyed} {xs : Array Keyed} {base n hint : Nat} {Q : Option Nat → SortSt → Prop} (k : kindOf st = oneType') (hk : IntK key) (hx : IntKeys xs)
    (hb : base + n ≤ xs.size) (hh : hint < n) (u : Up xs base (base + n))
    (h : ∀ p, p ≤ n → (∀ i, i < p → bey left key xs (base + i)) → (∀ i, p ≤ i → i < n → ¬ bey left key xs (base + i)) → Q (some p) st) :
    wpS (model prog w) A E s (gal left key xs base n hint) Q st := by
  have bin : ∀ {lo hi : Nat} {cont : Option (Option Nat) × Nat × Nat → StateT SortSt Sem (Option Nat)} {body : Nat → Option (Option Nat) × Nat × Nat → StateT SortSt Sem (ForInStep (Option (Option Nat) × Nat × Nat))},
      lo ≤ hi → hi ≤ n → (∀ i, i < lo → bey left key xs (base + i)) → (∀ i, hi ≤ i → i < n → ¬ bey left key xs (base + i)) →
      (∀ x lo hi R, (¬ lo ≥ hi → wpS (model prog w) A E s (do let x ← elem' xs (base + (lo + (hi - lo) / 2)); if left = true then lt' x key else (do let r ← lt' key x; pure (Option.map (fun x => !x) r)))
          (fun b s2 => ∃ b', b = some b' ∧ R (if b' then .yield (none, lo + (hi - lo) / 2 + 1, hi) else .yield (none, lo, lo + (hi - lo) / 2)) s2) st) → (lo ≥ hi → R (.done (none, lo, hi)) st) → wpS (model prog w) A E s (body x (none, lo, hi)) R st) →
      (∀ lo, Q (some lo) st → wpS (model prog w) A E s (cont (none, lo, lo)) Q st) →
      wpS (model prog w) A E s (forIn [0:n] (none, lo, hi) body >>= cont) Q st := by
    intro lo hi cont body h1 h2 h3 h4 hbody hcont
    refine wpS_bind (wpS_mono (wpS_forRange (I := fun x c st' => st' = st ∧ ∃ lo hi, c = (none, lo, hi) ∧ lo ≤ hi ∧ hi ≤ n ∧ hi - lo ≤ n - x ∧
        (∀ i, i < lo → bey left key xs (base + i)) ∧ (∀ i, hi ≤ i → i < n → ¬ bey left key xs (base + i)))
      (Q := fun c st' => st' = st ∧ ∃ lo, c = (none, lo, lo) ∧ lo ≤ n ∧
        (∀ i, i < lo → bey left key xs (base + i)) ∧ (∀ i, lo ≤ i → i < n → ¬ bey left key xs (base + i))) ?step ?fin ⟨rfl, lo, hi, rfl, h1, h2, by exact aL 0x1100113004100b43c210c305 (aS _ _) (aS _ _) h2, h3, h4⟩) ?post)
    case fin =>
      intro c st' H0
      obtain ⟨rfl, lo, hi, rfl, a, b, c, d, e⟩ := H0
      have : lo = hi := by exact aL 0x1001000010101000110101101011122453b45040b06300120210c506 (aS _ _) a c (aX _ _) (aS _ _)
      subst this
      exact ⟨rfl, lo, rfl, b, d, e⟩
    case post =>
      intro c st' H0
      obtain ⟨rfl, lo, rfl, b, d, e⟩ := H0
      exact hcont lo (h lo b d e)
    case step =>
      intro x c st' _ hxn H0
      obtain ⟨rfl, lo, hi, rfl, a, b, c, d, e⟩ := H0
      refine hbody x lo hi _ (fun hge => bey_ k hk hx (by exact oI (aL 0x10010222101101254c0c1436b52df60652d064309130210c0507 hb b hge (aD 2 _ oY) (aS _ _))) ⟨_, rfl, ?_⟩) (fun hge => ?_)
      · by_cases q : bey left key xs (base + (lo + (hi - lo) / 2))
        · simp only [q, decide_true, if_true]
          exact ⟨trivial, _, _, rfl, by exact aL 0x100102101101021cf0103b22df30322d061009304 hge (aD 2 _ oY) (aS _ _), by exact aL 0x11100100102 b, by exact aL 0x1001101010000000001101011010101137082cf17b546b21096005f43c210c6019 (aS _ _) (aS _ _) c hge (aS _ _) (aS _ _), fun i hi => q.down u (by exact aL 0x110c00002) (by exact aL 0x1121c3c03c021cf01104 hi) (by exact aL 0x100102210110115c32c5c1204b32df40432d062009100406 b hge (aD 2 _ oY) (aS _ _)), e⟩
        · simp only [q, decide_false, Bool.false_eq_true, if_false]
          exact ⟨trivial, _, _, rfl, by exact aL 0x110c00002, by exact aL 0x1001011001101132c0204b32df40432d062009100405 b hge (aD 2 _ oY) (aS _ _), by exact aL 0x1000100100000000012010101102011060757c6b214b52df30352d064301212f10c6018 (aS _ _) hxn c (aD 2 _ oY) (aS _ _) (aS _ _), d, fun i h1 h2 q2 => q (q2.down u (by exact aL 0x121c0c00003) (by exact aL 0x1123c10c3c0210c0104 h1) (by exact aL 0x1112c02c1101103 h2))⟩
      · have : lo = hi := by exact aL 0x1101011102010100202 a hge
        subst this
        exact ⟨rfl, lo, rfl, b, d, e⟩
  refine wpS_bind (bey_ k hk hx (by exact oI (aL 0x111230c1131210c0204 hb hh)) ?_)
  dsimp only
  by_cases q0 : bey left key xs (base + hint)
  · simp only [q0, decide_true, if_true]
    refine wpS_bind (wpS_mono (wpS_forRange (I := fun x c st' => st' = st ∧ ∃ la of, c = (none, la, of) ∧ x < of ∧ la < of ∧ hint + la < n ∧ bey left key xs (base + (hint + la)))
      (Q := fun c st' => st' = st ∧ ∃ la of, c = (none, la, of) ∧ la < of ∧ hint + la < n ∧ bey left key xs (base + (hint + la)) ∧ (of ≥ n - hint ∨ ¬ bey left key xs (base + (hint + of)))) ?step ?fin ⟨rfl, 0, 1, rfl, by exact aL 0x11b0b1000, by exact aL 0x11b0b1000, by exact aL 0x1110b0c1101102 hh, q0⟩) ?post)
    case fin =>
      intro c st' H0
      obtain ⟨rfl, la, of, rfl, a, b, c, d⟩ := H0
      exact ⟨rfl, la, of, rfl, b, c, d, .inl (by exact aL 0x11011040031030b06431210c305 (aS _ _) a (aX _ _))⟩
    case step =>
      intro x c st' _ hxn H0
      obtain ⟨rfl, la, of, rfl, a, b, c, d⟩ := H0
      dsimp only
      by_cases hge : of ≥ n - hint
      · rw [if_pos hge]
        exact wpS_pure ⟨rfl, la, of, rfl, b, c, d, .inl hge⟩
      · rw [if_neg hge]
        refine wpS_bind (bey_ k hk hx (by exact oI (aL 0x101111101245c0c1513b4309210c0306 hb hge (aS _ _))) ?_)
        by_cases q : bey left key xs (base + (hint + of))
        · simp only [q, decide_true, Bool.not_true, Bool.false_eq_true, if_false]
          exact wpS_pure ⟨rfl, of, 2 * of + 1, rfl, by exact aL 0x1112df0f1101102 a, by exact aL 0x102df01001, by exact aL 0x10111101213c1320b1009204 hge (aS _ _), q⟩
        · simp only [q, decide_false, Bool.not_false, if_true]
          exact wpS_pure ⟨rfl, la, of, rfl, b, c, d, .inr q⟩
    case post =>
      intro c st' H0
      obtain ⟨rfl, la, of, rfl, b, c, d, e⟩ := H0
      dsimp only
      refine bin (by exact aL 0x101011100101152c32cf05005407132c1431210c406 (aS _ _) b c (aO _ _)) (by exact aL 0x100101010101120c0014b4203206101305 hh (aN _ _) (aS _ _)) (fun i hi => d.down u (by exact aL 0x110c00002) (by exact aL 0x1121c3c03c021cf01104 hi) (by exact aL 0x1123c10c3c1210c1104 c)) (fun i h1 h2 q => ?_) ?_ ?_
      · rcases e with e | e
        · exact aL 0x111010111111d3003507500141432c0210c506 (aS _ _) h1 h2 e (aO _ _)
        · exact e (q.down u (by exact aL 0x121c0c00003) (by exact aL 0x1111100101146c52c6c03003507141432c0210c407 (aS _ _) h1 h2 (aO _ _)) (by exact aL 0x1112c02c1101103 h2))
      · intro x lo hi R hb hd
        dsimp only
        by_cases hge : lo ≥ hi
        · rw [if_pos hge]; exact wpS_pure (hd hge)
        · rw [if_neg hge]
          refine wpS_bind (wpS_mono (hb hge) ?_)
          intro b s2 H0
          obtain ⟨b', rfl, hr⟩ := H0
          cases b' <;> exact wpS_pure hr
      · intro lo hq; exact wpS_pure hq
  · simp only [q0, decide_false, Bool.false_eq_true, if_false]
    refine wpS_bind (wpS_mono (wpS_forRange (I := fun x c st' => st' = st ∧ ∃ la of, c = (none, la, of) ∧ x < of ∧ la < of ∧ la ≤ hint ∧ ¬ bey left key xs (base + (hint - la)))
      (Q := fun c st' => st' = st ∧ ∃ la of, c = (none, la, of) ∧ la < of ∧ la ≤ hint ∧ ¬ bey left key xs (base + (hint - la)) ∧ (of ≥ hint + 1 ∨ bey left key xs (base + (hint - of)))) ?step ?fin ⟨rfl, 0, 1, rfl, by exact aL 0x11b0b1000, by exact aL 0x11b0b1000, by exact aL 0x100b0001, q0⟩) ?post)
    case fin =>
      intro c st' H0
      obtain ⟨rfl, la, of, rfl, a, b, c, d⟩ := H0
      exact ⟨rfl, la, of, rfl, b, c, d, .inl (by exact aL 0x1111030f021020b06321101304 hh a (aX _ _))⟩
    case step =>
      intro x c st' _ hxn H0
      obtain ⟨rfl, la, of, rfl, a, b, c, d⟩ := H0
      dsimp only
      by_cases hge : of ≥ hint + 1
      · rw [if_pos hge]
        exact wpS_pure ⟨rfl, la, of, rfl, b, c, d, .inl hge⟩
      · rw [if_neg hge]
        refine wpS_bind (bey_ k hk hx (by exact oI (aL 0x11011503c1411543c0210c306 (aS _ _) hb hh)) ?_)
        by_cases q : bey left key xs (base + (hint - of))
        · simp only [q, decide_true, if_true]
          exact wpS_pure ⟨rfl, la, of, rfl, b, c, d, .inr q⟩
        · simp only [q, decide_false, Bool.false_eq_true, if_false]
          exact wpS_pure ⟨rfl, of, 2 * of + 1, rfl, by exact aL 0x1112df0f1101102 a, by exact aL 0x102df01001, by exact aL 0x1101010f09102 hge, q⟩
    case post =>
      intro c st' H0
      obtain ⟨rfl, la, of, rfl, b, c, d, e⟩ := H0
      dsimp only
      refine bin (by exact aL 0x1000010100010110111011104051f0530751f4b321210c406 (aS _ _) b (aS _ _) (aO _ _)) (by exact aL 0x1101300311210c204 (aS _ _) hh) (fun i hi => ?_) (fun i h1 h2 q => d (q.down u (by exact aL 0x110c00002) (by exact aL 0x1112c02c0100103 h1) (by exact aL 0x1112c02c1101103 h2))) ?_ ?_
      · rcases e with e | e
        · exact False.elim (aL 0x10010101011110111d42f0430742f1b32f0101405 hi e (aS _ _) (aO _ _))
        · exact e.down u (by exact aL 0x110c00002) (by exact aL 0x1010000110110111011106c36c051f0520751f4b431210c407 (aS _ _) hi (aS _ _) (aO _ _)) (by exact aL 0x110134c04c1311210c205 (aS _ _) hh)
      · intro x lo hi R hb hd
        dsimp only
        by_cases hge : lo ≥ hi
        · rw [if_pos hge]; exact wpS_pure (hd hge)
        · rw [if_neg hge]
          refine wpS_bind (wpS_mono (hb hge) ?_)
          intro b s2 H0
          obtain ⟨b', rfl, hr⟩ := H0
          cases b' <;> exact wpS_pure hr
      · intro lo hq; exact wpS_pure hq
end
end Mine.Srt
end
section
open PySem PyProof.Rows
set_option maxRecDepth 100000
set_option maxHeartbeats 4000000
namespace Mine.Srt
noncomputable def mLo : Array Keyed → Array Keyed → StateT SortSt Sem (Array Keyed) := sortPriv% PySem.Builtin.mergeLo
noncomputable def mHi : Array Keyed → Array Keyed → StateT SortSt Sem (Array Keyed) := sortPriv% PySem.Builtin.mergeHi
noncomputable abbrev ex (a : Array Keyed) (i j : Nat) : List Keyed := (a.extract i j).toList
noncomputable abbrev So (l : List Keyed) : Prop := l.Pairwise fun x y => ky x ≤ ky y
theorem ex_eq (a : Array Keyed) (i j : Nat) : ex a i j = (a.toList.drop i).take (j - i) := by
  show (a.extract i j).toList = _
  rw [Array.toList_extract]
theorem ex_app (a : Array Keyed) {i j k : Nat} (h1 : i ≤ j) (h2 : j ≤ k) : ex a i j ++ ex a j k = ex a i k := by
  rw [ex_eq, ex_eq, ex_eq]
  have e1 : a.toList.drop j = (a.toList.drop i).drop (j - i) := by rw [List.drop_drop]; congr 1; exact aL 0x101010011110110101120c12012b100203 h1 (aS _ _)
  have e2 : k - i = (j - i) + (k - j) := by exact aL 0x10001010010101010010100111001001101001001011111000001011101001101101101001100101010111000001011100101101101011001100011010111154c32125b014b023b210100506 h1 h2 (aS _ _) (aS _ _) (aS _ _)
  rw [e1, e2, List.take_add]
theorem ex_all (a : Array Keyed) {k : Nat} (h : a.size ≤ k) : ex a 0 k = a.toList := by
  rw [ex_eq]; simp [List.take_of_length_le, h]
theorem ex_nil (a : Array Keyed) {i j : Nat} (h : j ≤ i ∨ a.size ≤ i) : ex a i j = [] := by
  rw [ex_eq]
  rcases h with h | h
  · rw [show j - i = 0 by exact aL 0x10011110110010b22102b100203 h (aS _ _)]; rfl
  · rw [List.drop_of_length_le (by simpa using h)]; simp
theorem ex_one (a : Array Keyed) {i : Nat} (h : i < a.size) : ex a i (i + 1) = [a[i]] := by
  rw [ex_eq, show i + 1 - i = 1 by exact aL 0x101101010101111b0211f0b102 (aS _ _), List.drop_eq_getElem_cons (by simpa using h)]
  simp
theorem mem_ex {a : Array Keyed} {i j : Nat} {x : Keyed} (h : x ∈ ex a i j) : ∃ m, i ≤ m ∧ m < j ∧ m < a.size ∧ ky x = K a m := by
  rw [ex_eq, List.mem_take_iff_getElem] at h
  obtain ⟨k, hk, e⟩ := h
  simp only [List.length_drop, Array.length_toList] at hk
  rw [List.getElem_drop] at e
  refine ⟨i + k, by exact aL 0x110c00002, by exact aL 0x101011101101405c1542b3102106101306 hk (aN _ _) (aS _ _), by exact oI (aL 0x110011110101405c1543b3102106101306 hk (aN _ _) (aS _ _)), ?_⟩
  rw [K_eq (by exact oI (aL 0x110011110101405c1543b3102106101306 hk (aN _ _) (aS _ _))), ← e]
  simp
theorem so_ex {a : Array Keyed} (u : Up a 0 a.size) (i j : Nat) : So (ex a i j) := by
  rw [ex_eq]
  refine List.Pairwise.sublist ((List.take_sublist _ _).trans (List.drop_sublist _ _)) ?_
  rw [List.pairwise_iff_getElem]
  intro p q hp hq hpq
  have := u p q (Nat.zero_le _) (Nat.le_of_lt hpq) (by simpa using hq)
  rw [K_eq (by simpa using hp), K_eq (by simpa using hq)] at this
  simpa using this

structure Mg (a b : Array Keyed) (O : List Keyed) (i j : Nat) : Prop where
  perm : O.Perm (ex a 0 i ++ ex b 0 j)
  srt : So O
  la : ∀ x ∈ O, ∀ m, i ≤ m → m < a.size → ky x ≤ K a m
  lb : ∀ x ∈ O, ∀ m, j ≤ m → m < b.size → ky x ≤ K b m
theorem Mg.sym {a b : Array Keyed} {O : List Keyed} {i j : Nat} (h : Mg a b O i j) : Mg b a O j i := ⟨h.perm.trans List.perm_append_comm, h.srt, h.lb, h.la⟩
theorem Mg.pushA {a b : Array Keyed} {O : List Keyed} {i j k : Nat} (h : Mg a b O i j) (u : Up a 0 a.size) (hk : ∀ m n, i ≤ m → m < i + k → m < a.size → j ≤ n → n < b.size → K a m ≤ K b n) :
    Mg a b (O ++ ex a i (i + k)) (i + k) j := by
  refine ⟨?_, ?_, ?_, ?_⟩
  · rw [← ex_app a (Nat.zero_le i) (Nat.le_add_right i k)]
    refine (h.perm.append_right _).trans ?_
    rw [List.append_assoc, List.append_assoc]
    exact List.Perm.append_left _ List.perm_append_comm
  · refine List.pairwise_append.mpr ⟨h.srt, so_ex u _ _, fun x hx y hy => ?_⟩
    obtain ⟨m, h1, h2, h3, e⟩ := mem_ex hy
    rw [e]; exact h.la x hx m h1 h3
  · intro x hx m h1 h2
    rcases List.mem_append.mp hx with hx | hx
    · exact h.la x hx m (by exact aL 0x11200210c0103 h1) h2
    · obtain ⟨n, n1, n2, n3, e⟩ := mem_ex hx
      rw [e]; exact u n m (Nat.zero_le _) (by exact aL 0x11123010c31210c0204 h1 n2) h2
  · intro x hx m h1 h2
    rcases List.mem_append.mp hx with hx | hx
    · exact h.lb x hx m h1 h2
    · obtain ⟨n, n1, n2, n3, e⟩ := mem_ex hx
      rw [e]; exact hk n m n1 n2 n3 h1 h2
theorem Mg.pushB {a b : Array Keyed} {O : List Keyed} {i j k : Nat} (h : Mg a b O i j) (u : Up b 0 b.size) (hk : ∀ m n, j ≤ m → m < j + k → m < b.size → i ≤ n → n < a.size → K b m ≤ K a n) :
    Mg a b (O ++ ex b j (j + k)) i (j + k) := (h.sym.pushA u hk).sym
noncomputable def Fin (a b out : Array Keyed) : Prop := out.toList.Perm (a.toList ++ b.toList) ∧ So out.toList
theorem Mg.fin {a b : Array Keyed} {O : List Keyed} {i j : Nat} (h : Mg a b O i j) (ua : Up a 0 a.size) (ub : Up b 0 b.size) (hi : i ≤ a.size) (hj : j ≤ b.size)
    (hk : ∀ m n, i ≤ m → m < a.size → j ≤ n → n < b.size → K a m ≤ K b n) :
    (O ++ ex a i a.size ++ ex b j b.size).Perm (a.toList ++ b.toList) ∧ So (O ++ ex a i a.size ++ ex b j b.size) := by
  have h1 := h.pushA (k := a.size - i) ua (fun m n h1 h2 h3 h4 h5 => hk m n h1 h3 h4 h5)
  rw [show i + (a.size - i) = a.size by exact aL 0x1101101011010100111120c2012b100203 hi (aS _ _)] at h1
  have h2 := h1.pushB (k := b.size - j) ub (fun m n h1 h2 h3 h4 h5 => by exact aL 0x11103011100222 h4 h5)
  rw [show j + (b.size - j) = b.size by exact aL 0x1101101011010100111120c2012b100203 hj (aS _ _)] at h2
  refine ⟨?_, h2.srt⟩
  have := h2.perm
  rwa [ex_all a (Nat.le_refl _), ex_all b (Nat.le_refl _)] at this
theorem Mg.done {a b out : Array Keyed} {i j : Nat} (h : Mg a b out.toList i j) (ua : Up a 0 a.size) (ub : Up b 0 b.size) (hi : i ≤ a.size) (hj : j ≤ b.size)
    (e : i = a.size ∨ j = b.size) : Fin a b (out ++ a.extract i ++ b.extract j) := by
  have := h.fin ua ub hi hj (fun m n _ _ _ _ => by exact aL 0x1110011001011035322027541430211100526 (by assumption) (by assumption) (by assumption) (by assumption) e)
  unfold Fin
  rw [Array.toList_append, Array.toList_append]
  exact this
theorem Mg.last {a b out : Array Keyed} {i j : Nat} (h : Mg a b out.toList i j) (ua : Up a 0 a.size) (ub : Up b 0 b.size) (hi : i + 1 = a.size) (hj : j ≤ b.size)
    (e : ∀ n, n < b.size → K b n ≤ K a (a.size - 1)) : Fin a b (out ++ b.extract j ++ a.extract i) := by
  have := h.sym.fin ub ua hj (by exact aL 0x10110010f2102 hi) (fun m n h1 h2 h3 h4 => by rw [show n = a.size - 1 by exact aL 0x10001101000101110000011101010113221b13b12120010f2404 hi h3 h4 (aS _ _)]; exact e m h2)
  unfold Fin
  rw [Array.toList_append, Array.toList_append]
  exact ⟨this.1.trans List.perm_append_comm, this.2⟩
theorem Mg.push1A {a b out : Array Keyed} {i j : Nat} (h : Mg a b out.toList i j) (u : Up a 0 a.size) (hi : i < a.size) (hk : ∀ n, j ≤ n → n < b.size → K a i ≤ K b n) :
    Mg a b (out.push a[i]).toList (i + 1) j := by
  have := h.pushA (k := 1) u (fun m n h1 h2 h3 h4 h5 => by rw [show m = i by exact aL 0x10111010120f11100202 h1 h2]; exact hk n h4 h5)
  rw [ex_one a hi] at this
  rwa [Array.toList_push]
theorem Mg.push1B {a b out : Array Keyed} {i j : Nat} (h : Mg a b out.toList i j) (u : Up b 0 b.size) (hj : j < b.size) (hk : ∀ n, i ≤ n → n < a.size → K b j ≤ K a n) :
    Mg a b (out.push b[j]).toList i (j + 1) := (h.sym.push1A u hj hk).sym
theorem Mg.pushNA {a b out : Array Keyed} {i j k : Nat} (h : Mg a b out.toList i j) (u : Up a 0 a.size) (hk : ∀ m n, i ≤ m → m < i + k → m < a.size → j ≤ n → n < b.size → K a m ≤ K b n) :
    Mg a b (out ++ a.extract i (i + k)).toList (i + k) j := by
  rw [Array.toList_append]; exact h.pushA u hk
theorem Mg.pushNB {a b out : Array Keyed} {i j k : Nat} (h : Mg a b out.toList i j) (u : Up b 0 b.size) (hk : ∀ m n, j ≤ m → m < j + k → m < b.size → i ≤ n → n < a.size → K b m ≤ K a n) :
    Mg a b (out ++ b.extract j (j + k)).toList i (j + k) := by
  rw [Array.toList_append]; exact h.pushB u hk
noncomputable def Gs (st st' : SortSt) : Prop := kindOf st' = kindOf st ∧ arrOf st' = arrOf st ∧ pendingOf st' = pendingOf st ∧ failedOf st' = failedOf st
theorem Gs.refl (st : SortSt) : Gs st st := ⟨rfl, rfl, rfl, rfl⟩
noncomputable def setMG : Nat → StateT SortSt Sem Unit := sortPriv% PySem.Builtin.setMinGallop
section
variable {prog : Program} {w : World} {A : Around} {E : Value → Shared → Prop} {s : Shared}
theorem setMG_ {st st0 : SortSt} {g : Nat} {Q : Unit → SortSt → Prop} (hg : Gs st0 st) (h : ∀ st', Gs st0 st' → Q () st') : wpS (model prog w) A E s (setMG g) Q st :=
  wpS_modify (h _ hg)
theorem wpS_forR {prog : Program} {w : World} {A : Around} {E : Value → Shared → Prop} {s : Shared} {β : Type} {a b : Nat} {f : Nat → β → StateT SortSt Sem (ForInStep β)} (I : Nat → β → SortSt → Prop) {Q : β → SortSt → Prop}
    (hstep : ∀ i c st, a ≤ i → i < b → I i c st → ∀ P : ForInStep β → SortSt → Prop, (∀ c' st', Q c' st' → P (.done c') st') → (∀ c' st', I (i + 1) c' st' → P (.yield c') st') → wpS (model prog w) A E s (f i c) P st)
    (hend : ∀ c st, I (max a b) c st → Q c st) {c : β} {st : SortSt} (h : I a c st) : wpS (model prog w) A E s (forIn [a:b] c f) Q st :=
  wpS_forRange I (fun i c st h1 h2 h3 => hstep i c st h1 h2 h3 _ (fun _ _ q => q) (fun _ _ q => q)) hend h
theorem use_dup1 {α X : Type} {kont : X → StateT SortSt Sem α} {whole : StateT SortSt Sem α} {Q : α → SortSt → Prop} {st : SortSt} (C : X → SortSt → Prop)
    (h : (∀ x st', C x st' → wpS (model prog w) A E s (kont x) Q st') → wpS (model prog w) A E s whole Q st) (hk : ∀ x st', C x st' → wpS (model prog w) A E s (kont x) Q st') : wpS (model prog w) A E s whole Q st := h hk
theorem use_dup2 {α X Y : Type} {kont : X → Y → StateT SortSt Sem α} {whole : StateT SortSt Sem α} {Q : α → SortSt → Prop} {st : SortSt} (C : X → Y → SortSt → Prop)
    (h : (∀ x y st', C x y st' → wpS (model prog w) A E s (kont x y) Q st') → wpS (model prog w) A E s whole Q st) (hk : ∀ x y st', C x y st' → wpS (model prog w) A E s (kont x y) Q st') : wpS (model prog w) A E s whole Q st := h hk
theorem ky_at {a : Array Keyed} {i : Nat} (h : i < a.size) : ky a[i] = K a i := (K_eq h).symm

theorem wpS_mLo {st : SortSt} {a b : Array Keyed} {Q : Array Keyed → SortSt → Prop} (k : kindOf st = oneType') (ia : IntKeys a) (ib : IntKeys b) (ua : Up a 0 a.size) (ub : Up b 0 b.size)
    (na : 1 ≤ a.size) (nb : 1 ≤ b.size) (hb0 : ∀ m, m < a.size → K b 0 ≤ K a m) (hal : ∀ n, n < b.size → K b n ≤ K a (a.size - 1))
    (h : ∀ out st', Gs st st' → Fin a b out → Q out st') : wpS (model prog w) A E s (mLo a b) Q st := by
  refine wpS_bind (wpS_lift (wpAny_rule ⟨rfl, ?_⟩))
  refine wpS_bind (elem_ (xs := b) nb ?_)
  have m0 : Mg a b (#[b[0]] : Array Keyed).toList 0 1 := by
    have : Mg a b (#[] : Array Keyed).toList 0 0 := ⟨by simp, .nil, by simp, by simp⟩
    have := this.push1B ub nb (fun n _ hn => hb0 n hn)
    simpa using this
  by_cases e1 : 1 = b.size
  · rw [if_pos (by simpa using e1)]
    exact wpS_pure (h _ _ (.refl _) (m0.done ua ub (by exact aL 0x100b0001) (by exact aL 0x10101b001b2101 e1) (.inr e1)))
  rw [if_neg (by simpa using e1)]
  by_cases e2 : 0 + 1 = a.size
  · rw [if_pos (by simpa using e2)]
    exact wpS_pure (h _ _ (.refl _) (m0.last ua ub e2 (by exact aL 0x1101b001b0101 nb) hal))
  rw [if_neg (by simpa using e2)]
  refine wpS_bind (wpS_get ?_)
  refine wpS_bind (wpS_mono (wpS_forR (I := fun x c st' => Gs st st' ∧ ∃ out i j g, c = (none, out, i, j, g) ∧ Mg a b out.toList i j ∧ i + 1 < a.size ∧ j < b.size ∧ x + 1 ≤ i + j)
    (Q := fun c st' => Gs st st' ∧ ∃ r, c.1 = some r ∧ Fin a b r) ?step ?fin ⟨.refl _, _, _, _, _, rfl, m0, by exact oI (aL 0x11101100bf100bf2901b0201 na e2), by exact oI (aL 0x11101101b101b2901b0201 nb e1), by exact aL 0x10bf0bf0000⟩) ?post)
  case fin =>
    intro c st' H0
    obtain ⟨hg, out, i, j, g, rfl, hm, h1, h2, h3⟩ := H0
    exact False.elim (aL 0x11110d431c040b0620c4f032110f1405 h1 h2 h3 (aX _ _))
  case post =>
    intro ⟨c, d⟩ st' H0
    obtain ⟨hg, r, e, hf⟩ := H0
    simp only at e
    subst e
    exact wpS_pure (h r _ hg hf)
  case step =>
    intro x c st1 _ hx H0 P hD hY
    obtain ⟨hg1, out1, i1, j1, g1, rfl, hm1, hi1, hj1, hp1⟩ := H0
    dsimp only
    refine wpS_bind (wpS_mono (wpS_forR (I := fun y c st' => Gs st st' ∧ ∃ out i j u v, c = (none, out, i, j, u, v) ∧ Mg a b out.toList i j ∧ i + 1 < a.size ∧ j < b.size ∧ i1 + j1 + y ≤ i + j)
      (Q := fun c st' => Gs st st' ∧ ((∃ out i j u v, c = (none, out, i, j, u, v) ∧ Mg a b out.toList i j ∧ i + 1 < a.size ∧ j < b.size ∧ i1 + j1 + 1 ≤ i + j) ∨ ∃ r, c.1 = some r ∧ Fin a b r)) ?istep ?ifin ⟨hg1, _, _, _, _, _, rfl, hm1, hi1, hj1, by exact aL 0x110c0b10cc0002⟩) ?ipost)
    case ifin =>
      intro c st' H0
      obtain ⟨hg, out, i, j, u, v, rfl, hm, h1, h2, h3⟩ := H0
      exact ⟨hg, .inl ⟨_, _, _, _, _, rfl, hm, h1, h2, by exact aL 0x1111076c43cf0521c050b0676c543cc021c013018 hx h3 (aX _ _)⟩⟩
    case istep =>
      intro y c st2 _ hy H0 P1 hD1 hY1
      obtain ⟨hg, out, i, j, u, v, rfl, hm, h1, h2, h3⟩ := H0
      dsimp only
      refine wpS_bind (elem_ h2 (wpS_bind (elem_ (by exact oI (aL 0x1110110f1102 h1)) (wpS_bind (lt_ (hg.1.trans k) (intK_at ib h2) (intK_at ia (by exact oI (aL 0x1110110f1102 h1))) ?_)))))
      dsimp only
      rw [ky_at, ky_at]
      by_cases q : K b j < K a i
      · simp only [q, decide_true, if_true]
        have hm' := hm.push1B ub h2 (fun n n1 n2 => by have := ua i n (Nat.zero_le _) n1 n2; exact aL 0x111203213104230 q this)
        refine wpS_bind (elem_ h2 ?_)
        by_cases r1 : j + 1 = b.size
        · rw [if_pos (by simpa using r1)]
          exact wpS_pure (hD1 _ _ ⟨hg, .inr ⟨_, rfl, hm'.done ua ub (by exact aL 0x1110010f1102 h1) (by exact aL 0x10110f010f2102 r1) (.inr r1)⟩⟩)
        · rw [if_neg (by simpa using r1)]
          split
          · exact wpS_pure (hD1 _ _ ⟨hg, .inl ⟨_, _, _, _, _, rfl, hm', by exact oI (aL 0x1110f110f1102 h1), by exact oI (aL 0x11101110f110f29101202 h2 r1), by exact aL 0x114f3c10cf043c210cc0105 h3⟩⟩)
          · exact wpS_pure (hY1 _ _ ⟨hg, _, _, _, _, _, rfl, hm', by exact oI (aL 0x1110f110f1102 h1), by exact oI (aL 0x11101110f110f29101202 h2 r1), by exact aL 0x114f3c2f10cc043c210cc0105 h3⟩)
      · simp only [q, decide_false, Bool.false_eq_true, if_false]
        have hm' := hm.push1A ua (by exact oI (aL 0x1110110f1102 h1)) (fun n n1 n2 => by have := ub j n (Nat.zero_le _) n1 n2; exact aL 0x1112132031049230 q this)
        refine wpS_bind (elem_ (by exact oI (aL 0x1110110f1102 h1)) ?_)
        by_cases r1 : i + 1 + 1 = a.size
        · rw [if_pos (by simpa using r1)]
          exact wpS_pure (hD1 _ _ ⟨hg, .inr ⟨_, rfl, hm'.last ua ub r1 (by exact aL 0x11100101102 h2) hal⟩⟩)
        · rw [if_neg (by simpa using r1)]
          split
          · exact wpS_pure (hD1 _ _ ⟨hg, .inl ⟨_, _, _, _, _, rfl, hm', by exact oI (aL 0x11101110ff110ff2910f1202 h1 r1), by exact oI (aL 0x11101101102 h2), by exact aL 0x1143fc10cf043c210cc0105 h3⟩⟩)
          · exact wpS_pure (hY1 _ _ ⟨hg, _, _, _, _, _, rfl, hm', by exact oI (aL 0x11101110ff110ff2910f1202 h1 r1), by exact oI (aL 0x11101101102 h2), by exact aL 0x1143fc2f10cc043c210cc0105 h3⟩)
    case ipost =>
      rintro ⟨c, d⟩ st2 ⟨hg2, hor⟩
      refine cutG fun X hX => ?_
      rcases hor with ⟨out2, i2, j2, u, v, e, hm2, hi2, hj2, hp2⟩ | ⟨r, e, hf⟩
      all_goals (refine hX ?_; clear hX X)
      rotate_left
      · simp only at e
        subst e
        exact wpS_pure (hD _ _ ⟨hg2, r, rfl, hf⟩)
      cases e
      dsimp only
      refine wpS_bind (wpS_lift (wpAny_rule ⟨rfl, ?_⟩))
      refine wpS_bind (wpS_mono (wpS_forR (I := fun y c st' => Gs st st' ∧ ∃ out i j g u v, c = (none, out, i, j, g, u, v) ∧ Mg a b out.toList i j ∧ i + 1 < a.size ∧ j < b.size ∧ x + 2 ≤ i + j)
        (Q := fun c st' => Gs st st' ∧ ((∃ out i j g u v, c = (none, out, i, j, g, u, v) ∧ Mg a b out.toList i j ∧ i + 1 < a.size ∧ j < b.size ∧ x + 2 ≤ i + j) ∨ ∃ r, c.1 = some r ∧ Fin a b r)) ?gstep ?gfin ⟨hg2, _, _, _, _, _, _, rfl, hm2, hi2, hj2, by exact aL 0x11143c2b0c043c21cf021c0f0205 hp1 hp2⟩) ?gpost)
      case gfin =>
        rintro c st' ⟨hg, hh⟩
        exact ⟨hg, .inl hh⟩
      case gpost =>
        rintro ⟨c, d⟩ st3 ⟨hg3, hor⟩
        refine cutG fun X hX => ?_
        rcases hor with ⟨out3, i3, j3, g3, u, v, e, hm3, hi3, hj3, hp3⟩ | ⟨r, e, hf⟩
        all_goals (refine hX ?_; clear hX X)
        rotate_left
        · simp only at e
          subst e
          exact wpS_pure (hD _ _ ⟨hg3, r, rfl, hf⟩)
        cases e
        dsimp only
        refine wpS_bind (setMG_ hg3 fun st4 hg4 => ?_)
        exact wpS_pure (hY _ _ ⟨hg4, _, _, _, _, rfl, hm3, hi3, hj3, by exact aL 0x1121c0ff021c2b0c0103 hp3⟩)
      case gstep =>
        intro y c st3 _ hy H0 P1 hD1 hY1
        obtain ⟨hg3, out3, i3, j3, g3, u, v, rfl, hm3, hi3, hj3, hp3⟩ := H0
        dsimp only
        apply use_dup1 (C := fun (_ : Nat) st' => Gs st st')
        · intro hk
          by_cases hg : g3 > 1
          · rw [if_pos hg]
            generalize g3 - 1 = g4
            exact hk g4 _ hg3
          · rw [if_neg hg]
            exact hk g3 _ hg3
        clear hg3
        intro g4 st4 hg4
        refine wpS_bind (setMG_ hg4 fun st5 hg5 => ?_)
        refine wpS_bind (elem_ hj3 ?_)
        have e4 : i3 + (a.size - i3) = a.size := by exact aL 0x110101010110100111120c2012b10f1203 hi3 (aS _ _)
        refine wpS_bind (wpS_gal (hg5.1.trans k) (intK_at ib hj3) ia (by exact aL 0x101210c0210c2103 e4) (by exact aL 0x111020b1120c210f1203 hi3 e4) (by rw [e4]; exact fun p q _ h1 h2 => ua p q (Nat.zero_le _) h1 h2) fun p hp hp1 hp2 => ?_)
        dsimp only
        simp only [bey, Bool.false_eq_true, if_false, ky_at] at hp1 hp2
        apply use_dup2 (C := fun (out : Array Keyed) (i : Nat) st' => Gs st st' ∧ Mg a b out.toList i j3 ∧ i + 1 < a.size ∧ x + 2 ≤ i + j3 ∧ ∀ n, i ≤ n → n < a.size → K b j3 ≤ K a n)
        · intro hk
          by_cases hp0 : p > 0
          · rw [if_pos hp0]
            have hm' := hm3.pushNA (k := p) ua (fun m n h1 h2 h3 h4 h5 => by
              have := hp1 (m - i3) (by exact aL 0x11101101101231013b20c11100304 h1 h2 (aS _ _))
              rw [show i3 + (m - i3) = m by exact aL 0x1101101011010100111120c2012b100203 h1 (aS _ _)] at this
              have := ub j3 n (Nat.zero_le _) h4 h5
              exact aL 0x111203213103230 (by assumption) this)
            have hlow : ∀ n, i3 + p ≤ n → n < a.size → K b j3 ≤ K a n := fun n h1 h2 => by
              have := hp2 (n - i3) (by exact aL 0x1011030132c0210c204 (aS _ _) h1) (by exact aL 0x110110111001101151045b241430c0210c2406 e4 h1 h2 (aS _ _))
              rw [show i3 + (n - i3) = n by exact aL 0x1101101011010100111230c2023b210c0204 h1 (aS _ _)] at this
              exact aL 0x110131039120 this
            have hle : i3 + p ≤ a.size := by exact aL 0x1011230c0130210c2204 e4 hp
            have hpp : x + 2 ≤ i3 + p + j3 := by exact aL 0x11231cc2b0c021c2b0c0104 hp3
            generalize out3 ++ a.extract i3 (i3 + p) = out4 at *
            generalize i3 + p = i4 at *
            by_cases r1 : i4 + 1 = a.size
            · rw [if_pos (by simpa using r1)]
              exact wpS_pure (hD1 _ _ ⟨hg5, .inr ⟨_, rfl, hm'.last ua ub r1 (by exact aL 0x11100101102 hj3) hal⟩⟩)
            rw [if_neg (by simpa using r1)]
            by_cases r2 : i4 = a.size
            · rw [if_pos (by simpa using r2)]
              exact wpS_pure (hD1 _ _ ⟨hg5, .inr ⟨_, rfl, hm'.done ua ub (by exact aL 0x101100102102 r2) (by exact aL 0x11100101102 hj3) (.inl r2)⟩⟩)
            rw [if_neg (by simpa using r2)]
            exact hk out4 i4 _ ⟨hg5, hm', by exact oI (aL 0x101001111010110f1102910f29100302 hle r1 r2), hpp, hlow⟩
          · rw [if_neg hp0]
            have hp0' : p = 0 := by exact aL 0x111010b0200b19101 hp0
            refine hk out3 i3 _ ⟨hg5, hm3, hi3, hp3, fun n h1 h2 => ?_⟩
            have := hp2 (n - i3) (by exact aL 0x1110000b19102 hp0) (by exact aL 0x110110111001101141034b231300210c2405 e4 h1 h2 (aS _ _))
            rw [show i3 + (n - i3) = n by exact aL 0x1101101011010100111120c2012b100203 h1 (aS _ _)] at this
            exact aL 0x110131039120 this
        clear hg5 hm3 hi3 hp3 hp1 hp2 hg4 hp e4
        intro out4 i4 st6 H0
        obtain ⟨hg6, hm4, hi4, hp4, hlow⟩ := H0
        refine wpS_bind (elem_ hj3 ?_)
        have hm5 := hm4.push1B ub hj3 hlow
        by_cases r1 : j3 + 1 = b.size
        · rw [if_pos (by simpa using r1)]
          exact wpS_pure (hD1 _ _ ⟨hg6, .inr ⟨_, rfl, hm5.done ua ub (by exact aL 0x1110010f1102 hi4) (by exact aL 0x10110f010f2102 r1) (.inr r1)⟩⟩)
        rw [if_neg (by simpa using r1)]
        refine wpS_bind (elem_ (by exact oI (aL 0x1110110f1102 hi4)) ?_)
        have e5 : j3 + 1 + (b.size - (j3 + 1)) = b.size := by exact aL 0x1101101011010100111120fc20f12b101203 hj3 (aS _ _)
        refine wpS_bind (wpS_gal (hg6.1.trans k) (intK_at ia (by exact oI (aL 0x1110110f1102 hi4))) ib (by exact aL 0x101210fc0210fc2103 e5) (by exact aL 0x111101110b120f29210fc2203 e5 r1) (by rw [e5]; exact fun p q _ h1 h2 => ub p q (Nat.zero_le _) h1 h2) fun t ht ht1 ht2 => ?_)
        dsimp only
        simp only [bey, if_true, ky_at] at ht1 ht2
        generalize out4.push b[j3] = out5 at *
        have hj5 : j3 + 1 < b.size := by exact oI (aL 0x111001120f120f29210fc2203 e5 r1)
        have hp5 : x + 2 ≤ i4 + (j3 + 1) := by exact aL 0x112f1c2b0c021c2b0c0103 hp4
        generalize j3 + 1 = j5 at *
        apply use_dup2 (C := fun (out : Array Keyed) (j : Nat) st' => Gs st st' ∧ Mg a b out.toList i4 j ∧ j < b.size ∧ x + 2 ≤ i4 + j ∧ ∀ n, j ≤ n → n < b.size → K a i4 ≤ K b n)
        · intro hk
          have hlow : ∀ n, j5 + t ≤ n → n < b.size → K a i4 ≤ K b n := fun n h1 h2 => by
            have := ht2 (n - j5) (by exact aL 0x1011030132c0210c204 (aS _ _) h1) (by exact aL 0x110110111001101151045b241430c0210c2406 e5 h1 h2 (aS _ _))
            rw [show j5 + (n - j5) = n by exact aL 0x1101101011010100111230c2023b210c0204 h1 (aS _ _)] at this
            exact aL 0x110131049120 this
          by_cases ht0 : t > 0
          · rw [if_pos ht0]
            have hm' := hm5.pushNB (k := t) ub (fun m n h1 h2 h3 h4 h5 => by
              have := ht1 (m - j5) (by exact aL 0x11101101101231013b20c11100304 h1 h2 (aS _ _))
              rw [show j5 + (m - j5) = m by exact aL 0x1101101011010100111120c2012b100203 h1 (aS _ _)] at this
              have := ua i4 n (Nat.zero_le _) h4 h5
              exact aL 0x111203213104230 (by assumption) this)
            have hle : j5 + t ≤ b.size := by exact aL 0x1011230c0130210c2204 e5 ht
            have hpp : x + 2 ≤ i4 + (j5 + t) := by exact aL 0x1132c1c2b0c021c2b0c0104 hp5
            generalize out5 ++ b.extract j5 (j5 + t) = out6 at *
            generalize j5 + t = j6 at *
            by_cases r1 : j6 = b.size
            · rw [if_pos (by simpa using r1)]
              exact wpS_pure (hD1 _ _ ⟨hg6, .inr ⟨_, rfl, hm'.done ua ub (by exact aL 0x1110010f1102 hi4) (by exact aL 0x101100102102 r1) (.inr r1)⟩⟩)
            rw [if_neg (by simpa using r1)]
            exact hk out6 j6 _ ⟨hg6, hm', by exact oI (aL 0x1110111011029100202 hle r1), hpp, hlow⟩
          · rw [if_neg ht0]
            exact hk out5 j5 _ ⟨hg6, hm5, by exact oI (aL 0x11101101102 hj5), hp5, fun n h1 h2 => hlow n (by exact aL 0x111201c021000b19203 ht0 h1) h2⟩
        clear hg6 hm5 hj5 hp5 ht1 ht2 ht e5
        intro out6 j6 st7 H0
        obtain ⟨hg7, hm6, hj6, hp6, hlow6⟩ := H0
        refine wpS_bind (elem_ (by exact oI (aL 0x1110110f1102 hi4)) ?_)
        have hm7 := hm6.push1A ua (by exact oI (aL 0x1110110f1102 hi4)) hlow6
        by_cases r1 : i4 + 1 + 1 = a.size
        · rw [if_pos (by simpa using r1)]
          exact wpS_pure (hD1 _ _ ⟨hg7, .inr ⟨_, rfl, hm7.last ua ub r1 (by exact aL 0x11100101102 hj6) hal⟩⟩)
        rw [if_neg (by simpa using r1)]
        split
        · exact wpS_pure (hD1 _ _ ⟨hg7, .inl ⟨_, _, _, _, _, _, rfl, hm7, by exact oI (aL 0x11101110ff110ff2910f1202 hi4 r1), hj6, by exact aL 0x1121fc2b0c021c2b0c0103 hp6⟩⟩)
        · exact wpS_pure (hY1 _ _ ⟨hg7, _, _, _, _, _, _, rfl, hm7, by exact oI (aL 0x11101110ff110ff2910f1202 hi4 r1), hj6, by exact aL 0x1121fc2b0c021c2b0c0103 hp6⟩)
end
end Mine.Srt
end
section
open PySem PyProof.Rows
set_option maxRecDepth 100000
set_option maxHeartbeats 4000000
namespace Mine.Srt
structure Mh (a b : Array Keyed) (R : List Keyed) (i j : Nat) : Prop where
  perm : R.Perm (ex a i a.size ++ ex b j b.size)
  srt : So R
  la : ∀ x ∈ R, ∀ m, m < i → m < a.size → K a m ≤ ky x
  lb : ∀ x ∈ R, ∀ m, m < j → m < b.size → K b m ≤ ky x
theorem Mh.sym {a b : Array Keyed} {R : List Keyed} {i j : Nat} (h : Mh a b R i j) : Mh b a R j i := ⟨h.perm.trans List.perm_append_comm, h.srt, h.lb, h.la⟩
theorem Mh.pushA {a b : Array Keyed} {R : List Keyed} {i j p : Nat} (h : Mh a b R i j) (u : Up a 0 a.size) (hp : p ≤ i) (hi : i ≤ a.size) (hk : ∀ m n, p ≤ m → m < i → n < j → n < b.size → K b n ≤ K a m) :
    Mh a b (ex a p i ++ R) p j := by
  refine ⟨?_, ?_, ?_, ?_⟩
  · rw [← ex_app a hp hi, List.append_assoc]
    exact h.perm.append_left _
  · refine List.pairwise_append.mpr ⟨so_ex u _ _, h.srt, fun x hx y hy => ?_⟩
    obtain ⟨m, h1, h2, h3, e⟩ := mem_ex hx
    rw [e]; exact h.la y hy m h2 h3
  · intro x hx m h1 h2
    rcases List.mem_append.mp hx with hx | hx
    · obtain ⟨n, n1, n2, n3, e⟩ := mem_ex hx
      rw [e]; exact u m n (Nat.zero_le _) (by exact aL 0x111200210101203 h1 n1) n3
    · exact h.la x hx m (by exact aL 0x111121021100203 hp h1) h2
  · intro x hx m h1 h2
    rcases List.mem_append.mp hx with hx | hx
    · obtain ⟨n, n1, n2, n3, e⟩ := mem_ex hx
      rw [e]; exact hk n m n1 n2 h1 h2
    · exact h.lb x hx m h1 h2
theorem Mh.fin {a b : Array Keyed} {R : List Keyed} {i j : Nat} (h : Mh a b R i j) (ua : Up a 0 a.size) (ub : Up b 0 b.size) (hi : i ≤ a.size) (hj : j ≤ b.size)
    (hk : ∀ m n, m < i → n < j → K a m ≤ K b n) :
    (ex a 0 i ++ ex b 0 j ++ R).Perm (a.toList ++ b.toList) ∧ So (ex a 0 i ++ ex b 0 j ++ R) := by
  have h1 := (h.sym.pushA (p := 0) ub (Nat.zero_le _) hj (fun m n _ h2 h3 h4 => hk n m h3 h2)).sym
  have h2 := h1.pushA (p := 0) ua (Nat.zero_le _) hi (fun m n _ h2 h3 h4 => by exact aL 0x11030b01121 h3)
  rw [List.append_assoc]
  refine ⟨?_, h2.srt⟩
  have := h2.perm
  rwa [ex_all a (Nat.le_refl _), ex_all b (Nat.le_refl _)] at this
theorem Mh.done {a b out : Array Keyed} {i j : Nat} (h : Mh a b out.toList.reverse i j) (ua : Up a 0 a.size) (ub : Up b 0 b.size) (hi : i ≤ a.size) (hj : j ≤ b.size)
    (e : i = 0 ∨ j = 0) : Fin a b (a.extract 0 i ++ b.extract 0 j ++ out.reverse) := by
  have := h.fin ua ub hi hj (fun m n _ _ => by exact aL 0x1010100111030b320b127321101324 (by assumption) (by assumption) e)
  unfold Fin
  rw [Array.toList_append, Array.toList_append, Array.toList_reverse]
  exact this
theorem Mh.first {a b out : Array Keyed} {i j : Nat} (h : Mh a b out.toList.reverse i j) (ua : Up a 0 a.size) (ub : Up b 0 b.size) (hi : i ≤ a.size) (hj : j = 1) (nb : 1 ≤ b.size)
    (e : ∀ m, m < a.size → K b 0 ≤ K a m) : Fin a b (b.extract 0 j ++ a.extract 0 i ++ out.reverse) := by
  have := h.sym.fin ub ua (by exact aL 0x101110011b01b02202 hj nb) hi (fun m n h1 h2 => by rw [show m = 0 by exact aL 0x1011100010b120111b02202 hj h1]; exact e n (by exact oI (aL 0x111121021100203 hi h2)))
  unfold Fin
  rw [Array.toList_append, Array.toList_append, Array.toList_reverse]
  exact ⟨this.1.trans List.perm_append_comm, this.2⟩
theorem Mh.pushNA {a b out : Array Keyed} {i j p : Nat} (h : Mh a b out.toList.reverse i j) (u : Up a 0 a.size) (hp : p ≤ i) (hi : i ≤ a.size) (hk : ∀ m n, p ≤ m → m < i → n < j → n < b.size → K b n ≤ K a m) :
    Mh a b (out ++ (a.extract p i).reverse).toList.reverse p j := by
  rw [Array.toList_append, Array.toList_reverse, List.reverse_append, List.reverse_reverse]
  exact h.pushA u hp hi hk
theorem Mh.push1A {a b out : Array Keyed} {i j : Nat} (h : Mh a b out.toList.reverse i j) (u : Up a 0 a.size) (h1 : 1 ≤ i) (hi : i ≤ a.size) (hk : ∀ n, n < j → n < b.size → K b n ≤ K a (i - 1)) :
    Mh a b (out.push (a[i - 1]'(by exact oI (aL 0x111011011011211b02b10001b0303 h1 hi (aS _ _))))).toList.reverse (i - 1) j := by
  have := h.pushA (p := i - 1) u (by exact aL 0x1101001b10c102 (aS _ _)) hi (fun m n h1 h2 h3 h4 => by rw [show m = i - 1 by exact aL 0x101011001010221212001b10c303 (aS _ _) h1 h2]; exact hk n h3 h4)
  have e := ex_one a (i := i - 1) (by exact oI (aL 0x111011011011211b02b10001b0303 h1 hi (aS _ _)))
  rw [show i - 1 + 1 = i by exact aL 0x110110101101010011101f21b01b01b0202 h1 (aS _ _)] at e
  rw [e] at this
  rw [Array.toList_push, List.reverse_append]
  exact this
section
variable {prog : Program} {w : World} {A : Around} {E : Value → Shared → Prop} {s : Shared}
theorem wpS_mHi {st : SortSt} {a b : Array Keyed} {Q : Array Keyed → SortSt → Prop} (k : kindOf st = oneType') (ia : IntKeys a) (ib : IntKeys b) (ua : Up a 0 a.size) (ub : Up b 0 b.size)
    (na : 1 ≤ a.size) (nb : 1 ≤ b.size) (hb0 : ∀ m, m < a.size → K b 0 ≤ K a m) (hal : ∀ n, n < b.size → K b n ≤ K a (a.size - 1))
    (h : ∀ out st', Gs st st' → Fin a b out → Q out st') : wpS (model prog w) A E s (mHi a b) Q st := by
  refine wpS_bind (wpS_lift (wpAny_rule ⟨rfl, ?_⟩))
  refine wpS_bind (elem_ (xs := a) (i := a.size - 1) (by exact oI (aL 0x1101101010111b01b01b0202 na (aS _ _))) ?_)
  have m0 : Mh a b (#[a[a.size - 1]'(by exact oI (aL 0x1101101010111b01b01b0202 na (aS _ _)))] : Array Keyed).toList.reverse (a.size - 1) b.size := by
    have : Mh a b (#[] : Array Keyed).toList.reverse a.size b.size := ⟨by rw [ex_nil a (.inr (Nat.le_refl _)), ex_nil b (.inr (Nat.le_refl _))]; simp, .nil, by simp, by simp⟩
    exact this.push1A ua na (Nat.le_refl _) (fun n _ hn => hal n hn)
  by_cases e1 : a.size - 1 = 0
  · rw [if_pos (by simpa using e1)]
    exact wpS_pure (h _ _ (.refl _) (m0.done ua ub (by exact aL 0x1011000b02102 e1) (by exact aL 0x1000001) (.inl e1)))
  rw [if_neg (by simpa using e1)]
  by_cases e2 : b.size = 1
  · rw [if_pos (by simpa using e2)]
    exact wpS_pure (h _ _ (.refl _) (m0.first ua ub (by exact aL 0x1101001b10c102 (aS _ _)) e2 nb hb0))
  rw [if_neg (by simpa using e2)]
  refine wpS_bind (wpS_get ?_)
  refine wpS_bind (wpS_mono (wpS_forR (I := fun x c st' => Gs st st' ∧ ∃ i j out g, c = (none, i, j, out, g) ∧ Mh a b out.toList.reverse i j ∧ 1 ≤ i ∧ 2 ≤ j ∧ i ≤ a.size ∧ j ≤ b.size ∧ i + j + x + 1 ≤ a.size + b.size)
    (Q := fun c st' => Gs st st' ∧ ∃ r, c.1 = some r ∧ Fin a b r) ?step ?fin ⟨.refl _, _, _, _, _, rfl, m0, by exact aL 0x1101101b00b029101 e1, by exact aL 0x101011102b01b02901b0201 nb e2, by exact aL 0x1101001b10c102 (aS _ _), by exact aL 0x1000001, by exact aL 0x11011010120c0b21ccf01b01b01b0203 na (aS _ _)⟩) ?post)
  case fin =>
    intro c st' H0
    obtain ⟨hg, i, j, out, g, rfl, hm, h1, h2, h3, h4, h5⟩ := H0
    exact False.elim (aL 0x110d243c020b0643c210ccf0205 h5 (aX _ _))
  case post =>
    intro ⟨c, d⟩ st' H0
    obtain ⟨hg, r, e, hf⟩ := H0
    simp only at e
    subst e
    exact wpS_pure (h r _ hg hf)
  case step =>
    intro x c st1 _ hx H0 P hD hY
    obtain ⟨hg1, i1, j1, out1, g1, rfl, hm1, hi1, hj1, hia1, hjb1, hp1⟩ := H0
    dsimp only
    refine wpS_bind (wpS_mono (wpS_forR (I := fun y c st' => Gs st st' ∧ ∃ i j out u v, c = (none, i, j, out, u, v) ∧ Mh a b out.toList.reverse i j ∧ 1 ≤ i ∧ 2 ≤ j ∧ i ≤ a.size ∧ j ≤ b.size ∧ i + j + y ≤ i1 + j1)
      (Q := fun c st' => Gs st st' ∧ ((∃ i j out u v, c = (none, i, j, out, u, v) ∧ Mh a b out.toList.reverse i j ∧ 1 ≤ i ∧ 2 ≤ j ∧ i ≤ a.size ∧ j ≤ b.size ∧ i + j + 1 ≤ i1 + j1) ∨ ∃ r, c.1 = some r ∧ Fin a b r)) ?istep ?ifin ⟨hg1, _, _, _, _, _, rfl, hm1, hi1, hj1, hia1, hjb1, by exact aL 0x110c0b10cc0002⟩) ?ipost)
    case ifin =>
      intro c st' H0
      obtain ⟨hg, i, j, out, u, v, rfl, hm, h1, h2, h3, h4, h5⟩ := H0
      exact ⟨hg, .inl ⟨_, _, _, _, _, rfl, hm, h1, h2, h3, h4, by exact aL 0x1111076c43cf0521c050b0676c543cc021c013018 hx h5 (aX _ _)⟩⟩
    case istep =>
      intro y c st2 _ hy H0 P1 hD1 hY1
      obtain ⟨hg, i, j, out, u, v, rfl, hm, h1, h2, h3, h4, h5⟩ := H0
      dsimp only
      refine wpS_bind (elem_ (i := j - 1) (by exact oI (aL 0x10101011011211b02b10002b0303 h2 h4 (aS _ _))) (wpS_bind (elem_ (i := i - 1) (by exact oI (aL 0x111011011011211b02b10001b0303 h1 h3 (aS _ _))) (wpS_bind (lt_ (hg.1.trans k) (intK_at ib (by exact oI (aL 0x10101011011211b02b10002b0303 h2 h4 (aS _ _)))) (intK_at ia (by exact oI (aL 0x111011011011211b02b10001b0303 h1 h3 (aS _ _)))) ?_)))))
      dsimp only
      rw [ky_at, ky_at]
      by_cases q : K b (j - 1) < K a (i - 1)
      · simp only [q, decide_true, if_true]
        have hm' := hm.push1A ua h1 h3 (fun n n1 n2 => by have := ub n (j - 1) (Nat.zero_le _) (by exact aL 0x10110201211b10c203 (aS _ _) n1) (by exact oI (aL 0x10101011011211b02b10002b0303 h2 h4 (aS _ _))); exact aL 0x111123023104230 q this)
        refine wpS_bind (elem_ (by exact oI (aL 0x111011011011211b02b10001b0303 h1 h3 (aS _ _))) ?_)
        by_cases r1 : i - 1 = 0
        · rw [if_pos (by simpa using r1)]
          exact wpS_pure (hD1 _ _ ⟨hg, .inr ⟨_, rfl, hm'.done ua ub (by exact aL 0x1011000b02102 r1) (by exact aL 0x11100100102 h4) (.inl r1)⟩⟩)
        · rw [if_neg (by simpa using r1)]
          split
          · exact wpS_pure (hD1 _ _ ⟨hg, .inl ⟨_, _, _, _, _, rfl, hm', by exact aL 0x1101101b00b029101 r1, by exact aL 0x1102b002b0101 h2, by exact aL 0x11012002101b10c203 (aS _ _) h3, by exact aL 0x11100100102 h4, by exact aL 0x1110110110143c15cf01b05b43c210cc001b0306 h1 h5 (aS _ _)⟩⟩)
          · exact wpS_pure (hY1 _ _ ⟨hg, _, _, _, _, _, rfl, hm', by exact aL 0x1101101b00b029101 r1, by exact aL 0x1102b002b0101 h2, by exact aL 0x11012002101b10c203 (aS _ _) h3, by exact aL 0x11100100102 h4, by exact aL 0x1110110110143c2f15cc01b05b43c210cc001b0306 h1 h5 (aS _ _)⟩)
      · simp only [q, decide_false, Bool.false_eq_true, if_false]
        have hm' := (hm.sym.push1A ub (by exact aL 0x1101b002b0101 h2) h4 (fun n n1 n2 => by have := ua n (i - 1) (Nat.zero_le _) (by exact aL 0x10110201211b10c203 (aS _ _) n1) (by exact oI (aL 0x111011011011211b02b10001b0303 h1 h3 (aS _ _))); exact aL 0x1110231231049230 q this)).sym
        refine wpS_bind (elem_ (by exact oI (aL 0x10101011011211b02b10002b0303 h2 h4 (aS _ _))) ?_)
        by_cases r1 : j - 1 = 1
        · rw [if_pos (by simpa using r1)]
          exact wpS_pure (hD1 _ _ ⟨hg, .inr ⟨_, rfl, hm'.first ua ub (by exact aL 0x11100100102 h3) r1 nb hb0⟩⟩)
        · rw [if_neg (by simpa using r1)]
          split
          · exact wpS_pure (hD1 _ _ ⟨hg, .inl ⟨_, _, _, _, _, rfl, hm', by exact aL 0x1101b001b0101 h1, by exact aL 0x1000100111102b01b02912b01b10c302 (aS _ _) h2 r1, by exact aL 0x11100100102 h3, by exact aL 0x11012002101b10c203 (aS _ _) h4, by exact aL 0x101010110143c51cf01b05b43c201cc002b0306 h2 h5 (aS _ _)⟩⟩)
          · exact wpS_pure (hY1 _ _ ⟨hg, _, _, _, _, _, rfl, hm', by exact aL 0x1101b001b0101 h1, by exact aL 0x1000100111102b01b02912b01b10c302 (aS _ _) h2 r1, by exact aL 0x11100100102 h3, by exact aL 0x11012002101b10c203 (aS _ _) h4, by exact aL 0x101010110143c2f51cc01b05b43c201cc002b0306 h2 h5 (aS _ _)⟩)
    case ipost =>
      rintro ⟨c, d⟩ st2 ⟨hg2, hor⟩
      refine cutG fun X hX => ?_
      rcases hor with ⟨i2, j2, out2, u, v, e, hm2, hi2, hj2, hia2, hjb2, hp2⟩ | ⟨r, e, hf⟩
      all_goals (refine hX ?_; clear hX X)
      rotate_left
      · simp only at e
        subst e
        exact wpS_pure (hD _ _ ⟨hg2, r, rfl, hf⟩)
      cases e
      dsimp only
      refine wpS_bind (wpS_lift (wpAny_rule ⟨rfl, ?_⟩))
      refine wpS_bind (wpS_mono (wpS_forR (I := fun y c st' => Gs st st' ∧ ∃ i j out g u v, c = (none, i, j, out, g, u, v) ∧ Mh a b out.toList.reverse i j ∧ 1 ≤ i ∧ 2 ≤ j ∧ i ≤ a.size ∧ j ≤ b.size ∧ i + j + (x + 1) + 1 ≤ a.size + b.size)
        (Q := fun c st' => Gs st st' ∧ ((∃ i j out g u v, c = (none, i, j, out, g, u, v) ∧ Mh a b out.toList.reverse i j ∧ 1 ≤ i ∧ 2 ≤ j ∧ i ≤ a.size ∧ j ≤ b.size ∧ i + j + (x + 1) + 1 ≤ a.size + b.size) ∨ ∃ r, c.1 = some r ∧ Fin a b r)) ?gstep ?gfin ⟨hg2, _, _, _, _, _, _, rfl, hm2, hi2, hj2, hia2, hjb2, by exact aL 0x11143c2f65ccf010c65cf043c210ccf0207 hp1 hp2⟩) ?gpost)
      case gfin =>
        rintro c st' ⟨hg, hh⟩
        exact ⟨hg, .inl hh⟩
      case gpost =>
        rintro ⟨c, d⟩ st3 ⟨hg3, hor⟩
        refine cutG fun X hX => ?_
        rcases hor with ⟨i3, j3, out3, g3, u, v, e, hm3, hi3, hj3, hia3, hjb3, hp3⟩ | ⟨r, e, hf⟩
        all_goals (refine hX ?_; clear hX X)
        rotate_left
        · simp only at e
          subst e
          exact wpS_pure (hD _ _ ⟨hg3, r, rfl, hf⟩)
        cases e
        dsimp only
        refine wpS_bind (setMG_ hg3 fun st4 hg4 => ?_)
        exact wpS_pure (hY _ _ ⟨hg4, _, _, _, _, rfl, hm3, hi3, hj3, hia3, hjb3, by exact aL 0x1143c2f10ccf043c2f10ccf0105 hp3⟩)
      case gstep =>
        intro y c st3 _ hy H0 P1 hD1 hY1
        obtain ⟨hg3, i3, j3, out3, g3, u, v, rfl, hm3, hi3, hj3, hia3, hjb3, hp3⟩ := H0
        dsimp only
        apply use_dup1 (C := fun (_ : Nat) st' => Gs st st')
        · intro hk
          by_cases hg : g3 > 1
          · rw [if_pos hg]
            generalize g3 - 1 = g4
            exact hk g4 _ hg3
          · rw [if_neg hg]
            exact hk g3 _ hg3
        clear hg3
        intro g4 st4 hg4
        refine wpS_bind (setMG_ hg4 fun st5 hg5 => ?_)
        refine wpS_bind (elem_ (i := j3 - 1) (by exact oI (aL 0x10101011011211b02b10002b0303 hj3 hjb3 (aS _ _))) ?_)
        refine wpS_bind (wpS_gal (hg5.1.trans k) (intK_at ib (by exact oI (aL 0x10101011011211b02b10002b0303 hj3 hjb3 (aS _ _)))) ia (by exact aL 0x11100bc0100102 hia3) (by exact aL 0x1101101010111b01b01b0202 hi3 (aS _ _)) (by rw [Nat.zero_add]; exact fun p q _ h1 h2 => ua p q (Nat.zero_le _) h1 (by exact oI (aL 0x111121021100203 hia3 h2))) fun p hp hp1 hp2 => ?_)
        dsimp only
        simp only [bey, Bool.false_eq_true, if_false, ky_at, Nat.zero_add] at hp1 hp2
        have hkk0 : 0 + (i3 - p) = i3 - p := by exact aL 0x111000bc2001
        generalize hkk : i3 - p = kk at *
        clear hkk0
        apply use_dup2 (C := fun (i : Nat) (out : Array Keyed) st' => Gs st st' ∧ Mh a b out.toList.reverse i j3 ∧ 1 ≤ i ∧ i ≤ i3 ∧ ∀ n, n < i → K a n ≤ K b (j3 - 1))
        · intro hk
          by_cases hp0 : kk > 0
          · rw [if_pos hp0]
            have hm' := hm3.pushNA (p := p) ua hp hia3 (fun m n h1 h2 h3 h4 => by
              have := hp2 m h1 h2
              have := ub n (j3 - 1) (Nat.zero_le _) (by exact aL 0x10110201211b10c203 (aS _ _) h3) (by exact oI (aL 0x10101011011211b02b10002b0303 hj3 hjb3 (aS _ _)))
              exact aL 0x1110231231039230 (by assumption) this)
            generalize out3 ++ (a.extract p i3).reverse = out4 at *
            obtain ⟨i4, hi4⟩ : ∃ q, q = p := ⟨p, rfl⟩
            rw [← hi4] at hm' hp1 ⊢
            by_cases r1 : i4 = 0
            · rw [if_pos (by simpa using r1)]
              exact wpS_pure (hD1 _ _ ⟨hg5, .inr ⟨_, rfl, hm'.done ua ub (by exact aL 0x1011000b02102 r1) (by exact aL 0x11100100102 hjb3) (.inl r1)⟩⟩)
            rw [if_neg (by simpa using r1)]
            exact hk i4 out4 _ ⟨hg5, hm', by exact aL 0x1101101b00b029101 r1, by exact aL 0x1101120022100203 hp hi4, hp1⟩
          · rw [if_neg hp0]
            refine hk i3 out3 _ ⟨hg5, hm3, hi3, Nat.le_refl _, fun n h1 => ?_⟩
            exact hp1 n (by exact aL 0x101011124114130b19302210c405 (aS _ _) hkk hp0 h1)
        clear hg5 hm3 hi3 hp1 hp2 hg4 hkk hp
        intro i4 out4 st6 H0
        obtain ⟨hg6, hm4, hi4, hle4, hlow⟩ := H0
        refine wpS_bind (elem_ (i := j3 - 1) (by exact oI (aL 0x10101011011211b02b10002b0303 hj3 hjb3 (aS _ _))) ?_)
        have hm5 := (hm4.sym.push1A ub (by exact aL 0x1101b002b0101 hj3) hjb3 (fun n h1 _ => hlow n h1)).sym
        generalize out4.push (b[j3 - 1]'(by exact oI (aL 0x10101011011211b02b10002b0303 hj3 hjb3 (aS _ _)))) = out5 at *
        have hj5 : 1 ≤ j3 - 1 := by exact aL 0x101101b012b01b10c202 (aS _ _) hj3
        have hjb5 : j3 - 1 ≤ b.size := by exact aL 0x11012002101b10c203 (aS _ _) hjb3
        have hp5 : i4 + (j3 - 1) + (x + 1) + 1 ≤ a.size + b.size := by exact aL 0x1101154c3f06ccf026054c3f12ccf01b10c307 (aS _ _) hp3 hle4
        generalize j3 - 1 = j5 at *
        by_cases r1 : j5 = 1
        · rw [if_pos (by simpa using r1)]
          exact wpS_pure (hD1 _ _ ⟨hg6, .inr ⟨_, rfl, hm5.first ua ub (by exact aL 0x111120020100203 hia3 hle4) r1 nb hb0⟩⟩)
        rw [if_neg (by simpa using r1)]
        refine wpS_bind (elem_ (i := i4 - 1) (by exact oI (aL 0x11110111011011311b23b02021b0100404 hia3 hi4 hle4 (aS _ _))) ?_)
        refine wpS_bind (wpS_gal (hg6.1.trans k) (intK_at ia (by exact oI (aL 0x11110111011011311b23b02021b0100404 hia3 hi4 hle4 (aS _ _)))) ib (by exact aL 0x11100bc0100102 hjb5) (by exact aL 0x1101101010111b01b01b0202 hj5 (aS _ _)) (by rw [Nat.zero_add]; exact fun p q _ h1 h2 => ub p q (Nat.zero_le _) h1 (by exact oI (aL 0x111121021100203 hjb5 h2))) fun t ht ht1 ht2 => ?_)
        dsimp only
        simp only [bey, if_true, ky_at, Nat.zero_add] at ht1 ht2
        have hll0 : 0 + (j5 - t) = j5 - t := by exact aL 0x111000bc2001
        generalize hll : j5 - t = ll at *
        clear hll0
        apply use_dup2 (C := fun (j : Nat) (out : Array Keyed) st' => Gs st st' ∧ Mh a b out.toList.reverse i4 j ∧ 2 ≤ j ∧ j ≤ j5 ∧ ∀ n, n < j → K b n ≤ K a (i4 - 1))
        · intro hk
          by_cases ht0 : ll > 0
          · rw [if_pos ht0]
            have hm' := (hm5.sym.pushNA (p := t) ub ht hjb5 (fun m n h1 h2 h3 h4 => by
              have := ht2 m h1 h2
              have := ua n (i4 - 1) (Nat.zero_le _) (by exact aL 0x10110201211b10c203 (aS _ _) h3) (by exact oI (aL 0x11110111011011311b23b02021b0100404 hia3 hi4 hle4 (aS _ _)))
              exact aL 0x1110231231049230 (by assumption) this)).sym
            generalize out5 ++ (b.extract t j5).reverse = out6 at *
            obtain ⟨j6, hj6⟩ : ∃ q, q = t := ⟨t, rfl⟩
            rw [← hj6] at hm' ht1 ⊢
            by_cases r1 : j6 = 1
            · rw [if_pos (by simpa using r1)]
              exact wpS_pure (hD1 _ _ ⟨hg6, .inr ⟨_, rfl, hm'.first ua ub (by exact aL 0x111120020100203 hia3 hle4) r1 nb hb0⟩⟩)
            rw [if_neg (by simpa using r1)]
            by_cases r2 : j6 = 0
            · rw [if_pos (by simpa using r2)]
              exact wpS_pure (hD1 _ _ ⟨hg6, .inr ⟨_, rfl, hm'.done ua ub (by exact aL 0x111120020100203 hia3 hle4) (by exact aL 0x1011000b02102 r2) (.inr r2)⟩⟩)
            rw [if_neg (by simpa using r2)]
            exact hk j6 out6 _ ⟨hg6, hm', by exact aL 0x1100110011102b00b0291b029201 r1 r2, by exact aL 0x1101120022100203 ht hj6, fun n h1 => by have := ht1 n h1; exact aL 0x11103104120 this⟩
          · rw [if_neg ht0]
            exact hk j5 out5 _ ⟨hg6, hm5, by exact aL 0x101011102b01b02901b0201 hj5 r1, Nat.le_refl _, fun n h1 => by have := ht1 n (by exact aL 0x101011124114130b19302210c405 (aS _ _) hll ht0 h1); exact aL 0x11103104120 this⟩
        clear hg6 hm5 ht1 ht2 hll ht
        intro j6 out6 st7 H0
        obtain ⟨hg7, hm6, hj6, hle6, hlow6⟩ := H0
        refine wpS_bind (elem_ (i := i4 - 1) (by exact oI (aL 0x11110111011011311b23b02021b0100404 hia3 hi4 hle4 (aS _ _))) ?_)
        have hm7 := hm6.push1A ua hi4 (by exact aL 0x111120020100203 hia3 hle4) (fun n h1 _ => hlow6 n h1)
        by_cases r1 : i4 - 1 = 0
        · rw [if_pos (by simpa using r1)]
          exact wpS_pure (hD1 _ _ ⟨hg7, .inr ⟨_, rfl, hm7.done ua ub (by exact aL 0x1011000b02102 r1) (by exact aL 0x111120020100203 hjb5 hle6) (.inl r1)⟩⟩)
        rw [if_neg (by simpa using r1)]
        split
        · exact wpS_pure (hD1 _ _ ⟨hg7, .inl ⟨_, _, _, _, _, _, rfl, hm7, by exact aL 0x1101101b00b029101 r1, hj6, by exact aL 0x110113002103201b10c304 (aS _ _) hia3 hle4, by exact aL 0x111120020100203 hjb5 hle6, by exact aL 0x1101154c3f60ccf026054c3f21ccf01b10c307 (aS _ _) hp5 hle6⟩⟩)
        · exact wpS_pure (hY1 _ _ ⟨hg7, _, _, _, _, _, _, rfl, hm7, by exact aL 0x1101101b00b029101 r1, hj6, by exact aL 0x110113002103201b10c304 (aS _ _) hia3 hle4, by exact aL 0x111120020100203 hjb5 hle6, by exact aL 0x1101154c3f60ccf026054c3f21ccf01b10c307 (aS _ _) hp5 hle6⟩)
end
end Mine.Srt
end
section
open PySem PyProof.Rows
set_option maxRecDepth 100000
set_option maxHeartbeats 4000000
namespace Mine.Srt
theorem fold_set : ∀ (l : List Keyed) (n base : Nat) (xs : Array Keyed), base + n + l.length ≤ xs.size →
    ((l.zipIdx n).foldl (fun a (p, j) => a.setIfInBounds (base + j) p) xs).toList = xs.toList.take (base + n) ++ l ++ xs.toList.drop (base + n + l.length)
  | [], n, base, xs, h => by simp
  | x :: l, n, base, xs, h => by
    rw [List.zipIdx_cons, List.foldl_cons, fold_set l (n + 1) base]
    · simp only [List.length_cons] at h
      rw [Array.toList_setIfInBounds, List.drop_set_of_lt (by exact aL 0x121f0cc10c1003), show base + (n + 1) = base + n + 1 by exact aL 0x11110cf1f0c2002, List.take_add_one, List.take_set_of_le (Nat.le_refl _),
        List.getElem?_set_self (by simpa using (by exact oI (aL 0x11310c132f10cc0104 h) : base + n < xs.size))]
      simp only [Option.toList_some, List.append_assoc, List.cons_append, List.nil_append, List.length_cons]
      congr 4
      exact aL 0x1112f10cc210cfc2003
    · simp only [List.length_cons] at h
      simp only [Array.size_setIfInBounds]; exact aL 0x11321f0cc032f10cc0104 h
theorem K_list {xs : Array Keyed} {pre mid post : List Keyed} (h : xs.toList = pre ++ mid ++ post) (i : Nat) :
    K xs i = if i < pre.length then K pre.toArray i else if i < pre.length + mid.length then K mid.toArray (i - pre.length) else K post.toArray (i - (pre.length + mid.length)) := by
  have e : xs[i]? = (pre ++ mid ++ post)[i]? := by rw [← h]; simp
  unfold K
  rw [e]
  by_cases h1 : i < pre.length
  · rw [if_pos h1, List.append_assoc, List.getElem?_append_left h1]; simp
  · rw [if_neg h1]
    by_cases h2 : i < pre.length + mid.length
    · rw [if_pos h2, List.getElem?_append_left (by simpa using h2), List.getElem?_append_right (by exact aL 0x110101019102 h1)]; simp
    · rw [if_neg h2, List.getElem?_append_right (by simpa using (by exact aL 0x11021c021c019103 h2 : pre.length + mid.length ≤ i))]; simp
theorem K_ex {xs : Array Keyed} {i j m : Nat} (h1 : i + m < j) (h2 : j ≤ xs.size) : K (xs.extract i j) m = K xs (i + m) := by
  apply K_congr
  rw [Array.getElem?_extract, if_pos (by exact aL 0x10111110110110311501407540432c1210c406 (aS _ _) h1 h2 (aO _ _))]
noncomputable def mAt : Nat → StateT SortSt Sem Bool := sortPriv% PySem.Builtin.mergeAt
theorem fin_K {x y out : Array Keyed} (h : Fin x y out) {i : Nat} (hi : i < out.size) : (∃ m, m < x.size ∧ K out i = K x m) ∨ ∃ m, m < y.size ∧ K out i = K y m := by
  have hm : out[i] ∈ x.toList ++ y.toList := h.1.mem_iff.mp (by simp)
  rcases List.mem_append.mp hm with q | q
  · obtain ⟨m, hm, e⟩ := List.mem_iff_getElem.mp q
    have hm' : m < x.size := by simpa using hm
    refine .inl ⟨m, hm', ?_⟩
    rw [K_eq hi, K_eq hm', ← e]; simp
  · obtain ⟨m, hm, e⟩ := List.mem_iff_getElem.mp q
    have hm' : m < y.size := by simpa using hm
    refine .inr ⟨m, hm', ?_⟩
    rw [K_eq hi, K_eq hm', ← e]; simp
theorem fin_up {x y out : Array Keyed} (h : Fin x y out) : Up out 0 out.size := by
  intro i j _ hij hj
  by_cases e : i = j
  · subst e; exact Int.le_refl _
  have := List.pairwise_iff_getElem.mp h.2 i j (by simpa using (by exact oI (aL 0x111201211100203 hij hj) : i < out.size)) (by simpa using hj) (by exact aL 0x1110111011029100202 hij e)
  rw [K_eq (by exact oI (aL 0x111201211100203 hij hj)), K_eq hj]
  simpa using this
theorem ints_ex {xs : Array Keyed} (h : IntKeys xs) (i j : Nat) : IntKeys (xs.extract i j) := by
  intro p hp
  have : p ∈ ex xs i j := hp
  rw [ex_eq] at this
  exact h p (List.mem_of_mem_drop (List.mem_of_mem_take this))
theorem up_ex {xs : Array Keyed} {i j : Nat} (u : Up xs i j) (h2 : j ≤ xs.size) : Up (xs.extract i j) 0 (xs.extract i j).size := by
  intro p q _ h h3
  have e : (xs.extract i j).size = j - i := by simp; exact aL 0x10000010100101010100101001111000001010010101010010100111110000000111001101011000000011100101101110000000110001101011000000011000101101111532405b423b21020071200206100506 h2 (aN _ _) (aO _ _) (aS _ _) (aS _ _)
  rw [e] at h3
  rw [K_ex (by exact aL 0x101111101304c1432b211100305 h h3 (aS _ _)) h2, K_ex (by exact aL 0x10111101203c1321b101204 h3 (aS _ _)) h2]
  exact u _ _ (by exact aL 0x110c00002) (by exact aL 0x1112c02c0100103 h) (by exact aL 0x10111101203c1321b101204 h3 (aS _ _))
theorem splice {xs ys out : Array Keyed} {s k e t f : Nat} (h1 : s ≤ k) (h2 : k ≤ e) (h3 : e + t ≤ f) (h4 : f ≤ xs.size)
    (hf : Fin (xs.extract k e) (xs.extract e (e + t)) out) (hy : ys.toList = xs.toList.take k ++ out.toList ++ xs.toList.drop (k + out.toList.length))
    (ua : Up xs s e) (ub : Up xs e f) (a1 : ∀ m, s ≤ m → m < k → K xs m ≤ K xs e) (a2 : ∀ m, k ≤ m → m < e → K xs e ≤ K xs m)
    (b2 : ∀ m, e + t ≤ m → m < f → K xs (e - 1) ≤ K xs m) (he : s < e) (ht : e < f) : ys.Perm xs ∧ Off xs ys s f ∧ Up ys s f := by
  have hl : out.toList.length = (e - k) + t := by
    rw [hf.1.length_eq]; simp; exact aL 0x100000000101010100111000001101000101100000011100000000000001111101000110000101010001011000000111000000000000011111158c97c293095077007807248b39059060708706160654c0420413c210c1a01a (aS _ _) (aS _ _) h2 h3 h4 (aN _ _) (aN _ _) (aS _ _) (aO _ _) (aO _ _)
  have hk : k + out.toList.length = e + t := by exact aL 0x11010110011011010101010011141c20c2013b43c22100305 h2 hl (aS _ _)
  rw [hk] at hy
  have q1 : xs.toList.take k = ex xs 0 k := by rw [ex_eq]; simp
  have q2 : xs.toList.drop (e + t) = ex xs (e + t) xs.size := by
    rw [ex_eq, List.take_of_length_le]; simp
  have l1 : (xs.toList.take k).length = k := by simp; exact aL 0x100000101110100110000001114626306407360460610c54c2320210c0507 h3 h4 hk (aN _ _) (aO _ _)
  have out_sz : out.size = (e - k) + t := by rw [← hl]; simp
  have kk : ∀ i, K ys i = if i < k then K xs i else if i < e + t then K out (i - k) else K xs i := by
    intro i
    rw [K_list hy, l1, hl, show k + (e - k + t) = e + t by exact aL 0x1100110110124c21c3c224c03c221c02205 hl hk]
    by_cases c1 : i < k
    · rw [if_pos c1, if_pos c1]
      apply K_congr
      simp [c1]
    · rw [if_neg c1, if_neg c1]
      by_cases c2 : i < e + t
      · rw [if_pos c2, if_pos c2]
      · rw [if_neg c2, if_neg c2]
        apply K_congr
        simp only [List.getElem?_toArray, List.getElem?_drop, Array.getElem?_toList]
        congr 1; exact aL 0x10010110001011010011032cc232c10b32c11932c10c304 (aS _ _) c2 (aS _ _)
  have mid : ∀ i, k ≤ i → i < e + t → (∃ m, k ≤ m ∧ m < e ∧ K ys i = K xs m) ∨ ∃ m, e ≤ m ∧ m < e + t ∧ K ys i = K xs m := by
    intro i c1 c2
    rw [kk, if_neg (by exact aL 0x110119100102 c1), if_pos c2]
    rcases fin_K hf (i := i - k) (by exact oI (aL 0x10110101101101101001101571367b24c6163021c5224c03c221c026018 hl hk out_sz c1 c2 (aS _ _))) with ⟨m, hm, q⟩ | ⟨m, hm, q⟩
    · have hm' : m < e - k := by simpa using (by simp at hm; exact aL 0x1000110110101101151376b870470665124c03c221c025019 hl hk hm (aN _ _) (aS _ _) : m < e - k)
      exact .inl ⟨k + m, by exact aL 0x110c00002, by exact aL 0x110011453c115124c03c221c02306 hl hk hm', by rw [q, K_ex (by exact aL 0x110011453c115124c03c221c02306 hl hk hm') (by exact aL 0x111120021100203 h4 ht)]⟩
    · have hm' : m < t := by simp at hm; exact aL 0x100011101101401321b52043c206101306 hm (aN (e + t) (xs.size)) (aS (min (e + t) xs.size) (e))
      exact .inr ⟨e + m, by exact aL 0x110c00002, by exact aL 0x1112c02c1101103 hm', by rw [q, K_ex (by exact aL 0x1112c02c1101103 hm') (by exact aL 0x111310c0320210c0204 h3 h4)]⟩
  refine ⟨?_, ?_, ?_⟩
  · rw [Array.perm_iff_toList_perm, hy, q1, q2]
    have q3 : xs.toList = ex xs 0 k ++ (ex xs k e ++ ex xs e (e + t)) ++ ex xs (e + t) xs.size := by
      rw [ex_app xs h2 (by exact aL 0x110c00002), ex_app xs (Nat.zero_le _) (by exact aL 0x10132c0032c10c2104 hk), ex_app xs (Nat.zero_le _) (by exact aL 0x111310c0320210c0204 h3 h4), ex_all xs (Nat.le_refl _)]
    conv => rhs; rw [q3]
    exact (hf.1.append_left _).append_right _
  · intro i hi
    rw [kk]
    by_cases c1 : i < k
    · rw [if_pos c1]
    · rw [if_neg c1, if_neg (by exact aL 0x1010101011132c51954005171519432c0100406 h1 h3 c1 hi)]
  · intro i j c1 c2 c3
    by_cases i1 : i < k
    · have ei : K ys i = K xs i := by rw [kk, if_pos i1]
      rw [ei]
      have le := a1 i c1 i1
      by_cases j1 : j < k
      · rw [kk, if_pos j1]; exact ua i j c1 c2 (by exact aL 0x11001145135124c03c221c02306 hl hk j1)
      · by_cases j2 : j < e + t
        · rcases mid j (by exact aL 0x110101019102 j1) j2 with ⟨m, m1, m2, q⟩ | ⟨m, m1, m2, q⟩
          · rw [q]; exact ua i m c1 (by exact aL 0x111200210101203 i1 m1) m2
          · rw [q]; exact Int.le_trans le (ub e m (Nat.le_refl _) m1 (by exact aL 0x11123110c31210c0204 h3 m2))
        · rw [kk, if_neg j1, if_neg j2]
          exact Int.le_trans le (ub e j (Nat.le_refl _) (by exact aL 0x1101021c019103 j2) c3)
    · by_cases j2 : j < e + t
      · have u := fin_up hf (i - k) (j - k) (Nat.zero_le _) (by exact aL 0x1000011011101040234b130210c305 (aS _ _) c2 (aS _ _)) (by exact oI (aL 0x1011010111011011010001101581378b24c71361976021c5224c03c221c027019 hl hk out_sz c2 i1 j2 (aS _ _)))
        have ei : K ys i = K out (i - k) := by rw [kk, if_neg i1, if_pos (show i < e + t by exact aL 0x11132c0132c11100204 c2 j2)]
        have ej : K ys j = K out (j - k) := by rw [kk, if_neg (show ¬ j < k by exact aL 0x11121192019100203 c2 i1), if_pos j2]
        rw [ei, ej]
        exact u
      · have ej : K ys j = K xs j := by rw [kk, if_neg (by exact aL 0x1011041932c41932c10c2205 hk j2), if_neg j2]
        rw [ej]
        by_cases i2 : i < e + t
        · rcases mid i (by exact aL 0x110101019102 i1) i2 with ⟨m, m1, m2, q⟩ | ⟨m, m1, m2, q⟩
          · rw [q]; exact Int.le_trans (ua m (e - 1) (by exact aL 0x111200210100203 h1 m1) (by exact aL 0x10110201211b10c203 (aS _ _) m2) (by exact aL 0x1101101011211b12b101203 m2 (aS _ _))) (b2 j (by exact aL 0x11021c021c019103 j2) c3)
          · rw [q]; exact ub m j m1 (by exact aL 0x11103021c3121c019204 j2 m2) c3
        · rw [kk, if_neg i1, if_neg i2]
          exact ub i j (by exact aL 0x1101021c019103 i2) c2 c3
section
variable {prog : Program} {w : World} {A : Around} {E : Value → Shared → Prop} {s : Shared}
theorem wpS_mAt {st : SortSt} {i sa na pa sb nb pb : Nat} {Q : Bool → SortSt → Prop} (o : Ok st) (h1 : (pendingOf st)[i]? = some (sa, na, pa)) (h2 : (pendingOf st)[i + 1]? = some (sb, nb, pb))
    (e : sb = sa + na) (ha : 1 ≤ na) (hb : 1 ≤ nb) (hz : sb + nb ≤ (arrOf st).size) (ua : Up (arrOf st) sa sb) (ub : Up (arrOf st) sb (sb + nb))
    (h : ∀ st', Ok st' → pendingOf st' = ((pendingOf st).setIfInBounds i (sa, na + nb, pa)).eraseIdxIfInBounds (i + 1) → (arrOf st').Perm (arrOf st) → Off (arrOf st) (arrOf st') sa (sb + nb) → Up (arrOf st') sa (sb + nb) → Q true st') :
    wpS (model prog w) A E s (mAt i) Q st := by
  subst e
  refine wpS_bind (wpS_get ?_)
  rw [h1, h2]
  dsimp only
  refine wpS_bind (wpS_modify ?_)
  generalize hpp : ((pendingOf st).setIfInBounds i (sa, na + nb, pa)).eraseIdxIfInBounds (i + 1) = P at *
  have z1 : sa + na < (arrOf st).size := by exact oI (aL 0x111321c13021cc001b0204 hb hz)
  refine wpS_bind (elem_ (xs := arrOf st) (i := sa + na) z1 ?_)
  refine wpS_bind (wpS_gal (xs := arrOf st) o.k (intK_at o.i z1) o.i (by exact aL 0x11210c0210c1103 z1) (by exact aL 0x1100b101b0101 ha) ua fun k hk hk1 hk2 => ?_)
  dsimp only
  simp only [bey, Bool.false_eq_true, if_false, ky_at] at hk1 hk2
  replace hk1 : ∀ i, i < k → K (arrOf st) (sa + i) ≤ K (arrOf st) (sa + na) := hk1
  replace hk2 : ∀ i, k ≤ i → i < na → ¬ K (arrOf st) (sa + i) ≤ K (arrOf st) (sa + na) := hk2
  by_cases r1 : na - k = 0
  · rw [if_pos (by simpa using r1)]
    refine wpS_pure (h _ ⟨o.k, o.f, o.i⟩ rfl (.refl _) (fun _ _ => rfl) fun p q a b c => ?_)
    by_cases q1 : q < sa + na
    · exact ua p q a b q1
    · by_cases q2 : p < sa + na
      · have t1 := hk1 (p - sa) (by exact aL 0x1010111011010101101251345b13c414300b02210c506 (aS _ _) r1 a q2 (aS _ _))
        rw [show sa + (p - sa) = p by exact aL 0x1101101011010100111120c2012b100203 a (aS _ _)] at t1
        exact Int.le_trans t1 (ub _ _ (Nat.le_refl _) (by exact aL 0x11021c021c019103 q1) c)
      · exact ub p q (by exact aL 0x11021c021c019103 q2) b c
  rw [if_neg (by simpa using r1)]
  have z2 : sa + k + (na - k) - 1 < (arrOf st).size := by exact oI (aL 0x110110111010101501243b420541c11b321cc0c406 (aS _ _) z1 hk (aS _ _))
  refine wpS_bind (elem_ (xs := arrOf st) (i := sa + k + (na - k) - 1) z2 ?_)
  refine wpS_bind (wpS_gal (xs := arrOf st) o.k (intK_at o.i z2) o.i (by exact aL 0x113210cc03210cc0104 hz) (by exact aL 0x1101101010111b01b01b0202 hb (aS _ _)) ub fun t ht ht1 ht2 => ?_)
  dsimp only
  simp only [bey, if_true, ky_at] at ht1 ht2
  rw [show sa + k + (na - k) - 1 = sa + na - 1 by exact aL 0x1000010110110101101100111100001010101010101010011111000000110101010110000001101001101110000001100110101100000011001011011115321b14c5b1b204cc3b012b100406 hk (aS _ _) (aS _ _) (aS _ _)] at ht1 ht2
  replace ht1 : ∀ i, i < t → K (arrOf st) (sa + na + i) < K (arrOf st) (sa + na - 1) := ht1
  replace ht2 : ∀ i, t ≤ i → i < nb → ¬ K (arrOf st) (sa + na + i) < K (arrOf st) (sa + na - 1) := ht2
  by_cases r2 : t = 0
  · rw [if_pos (by simpa using r2)]
    refine wpS_pure (h _ ⟨o.k, o.f, o.i⟩ rfl (.refl _) (fun _ _ => rfl) fun p q a b c => ?_)
    by_cases q1 : q < sa + na
    · exact ua p q a b q1
    · by_cases q2 : p < sa + na
      · have t1 := ht2 (q - (sa + na)) (by exact aL 0x1011000b02102 r2) (by exact aL 0x1110111010134121c04b21c019321cc01305 c q1 (aS _ _))
        rw [show sa + na + (q - (sa + na)) = q by exact aL 0x11011010110101001110321cc221c03b21c019204 q1 (aS _ _)] at t1
        have t2 := ua p (sa + na - 1) a (by exact aL 0x101103021c311b21c0c204 (aS _ _) q2) (by exact aL 0x11011010121c311b21c3b21c01204 q2 (aS _ _))
        show K (arrOf st) p ≤ K (arrOf st) q
        exact aL 0x1110231231049230 t1 t2
      · exact ub p q (by exact aL 0x11021c021c019103 q2) b c
  rw [if_neg (by simpa using r2)]
  have xz : ((arrOf st).extract (sa + k) (sa + na)).size = na - k := by simp; exact aL 0x100000010100110100110000001010010110011100001001010000110001010110101000011000100111111462320310c0750c36b514b23010c306210c1507 z1 (aN (sa + na) ((arrOf st).size)) (aS (na) (k)) (aS (min (sa + na) (arrOf st).size) (sa + k)) (aO (sa + na) ((arrOf st).size))
  have yz : ((arrOf st).extract (sa + na) (sa + na + t)).size = t := by simp; exact aL 0x10000000011000001010110000000011000001010111011100101010000101160232c10b1501632cc07510632cc1064605432cc032c10c607 (aS _ _) hz ht (aN _ _) (aO _ _) (aS _ _)
  have xk : ∀ m, m < na - k → K ((arrOf st).extract (sa + k) (sa + na)) m = K (arrOf st) (sa + k + m) := fun m hm => K_ex (by exact aL 0x1011110124c034cc1321b101205 hm (aS _ _)) (by exact aL 0x11210c0210c1103 z1)
  have yk : ∀ m, m < t → K ((arrOf st).extract (sa + na) (sa + na + t)) m = K (arrOf st) (sa + na + m) := fun m hm => K_ex (by exact aL 0x11132cc032cc1101104 hm) (by exact aL 0x1113410cc02403210cc0205 hz ht)
  have ux := up_ex (xs := arrOf st) (i := sa + k) (j := sa + na) (fun p q a b c => ua p q (by exact aL 0x11200210c0103 a) b c) (by exact aL 0x11210c0210c1103 z1)
  have uy := up_ex (xs := arrOf st) (i := sa + na) (j := sa + na + t) (fun p q a b c => ub p q a b (by exact aL 0x111143cc21043cc21100205 ht c)) (by exact aL 0x1113410cc02403210cc0205 hz ht)
  have hb0 : ∀ m, m < ((arrOf st).extract (sa + k) (sa + na)).size → K ((arrOf st).extract (sa + na) (sa + na + t)) 0 ≤ K ((arrOf st).extract (sa + k) (sa + na)) m := by
    intro m hm
    rw [xz] at hm
    rw [xk m hm, yk 0 (by exact aL 0x1101100b10b029101 r2)]
    have := hk2 (k + m) (by exact aL 0x110c00002) (by exact aL 0x10111101203c1321b101204 hm (aS _ _))
    rw [show sa + (k + m) = sa + k + m by exact aL 0x111210cc21c0c2003] at this
    rw [Nat.add_zero]; exact aL 0x110131039120 this
  have hal : ∀ n, n < ((arrOf st).extract (sa + na) (sa + na + t)).size → K ((arrOf st).extract (sa + na) (sa + na + t)) n ≤ K ((arrOf st).extract (sa + k) (sa + na)) (((arrOf st).extract (sa + k) (sa + na)).size - 1) := by
    intro n hn
    rw [yz] at hn
    rw [xz, yk n hn, xk (na - k - 1) (by exact aL 0x101100011110011010b1291b10b202 (aS _ _) r1), show sa + k + (na - k - 1) = sa + na - 1 by exact aL 0x100001000000000000000000101000000000000100001000000000000000000101100000000000011001100000100001001001000000000000000000101100000000001001011000000000000000000101110000010000101001110000100000100100000000000000010100010000000100100110000000000000001010000000000010110011114325cc20b7290b0291b15c4b1b03b210b76212011b01b15c4c1b03c210c1b018 (aS _ _) (aS _ _) (aS _ _) ha hk yz (aS _ _) (aS _ _) (aS _ _) r1 r2]
    exact Int.le_of_lt (ht1 n hn)
  have nx : 1 ≤ ((arrOf st).extract (sa + k) (sa + na)).size := by rw [xz]; exact aL 0x1101101b00b029101 r1
  have ny : 1 ≤ ((arrOf st).extract (sa + na) (sa + na + t)).size := by rw [yz]; exact aL 0x1101101b00b029101 r2
  apply use_dup1 (C := fun (out : Array Keyed) st' => Gs (setPending st P) st' ∧ Fin ((arrOf st).extract (sa + k) (sa + na)) ((arrOf st).extract (sa + na) (sa + na + t)) out)
  · intro hk
    split
    · refine wpS_bind (wpS_mLo (a := (arrOf st).extract (sa + k) (sa + na)) (b := (arrOf st).extract (sa + na) (sa + na + t)) o.k (ints_ex o.i _ _) (ints_ex o.i _ _) ux uy nx ny hb0 hal fun out st' hg hf => ?_)
      exact hk out st' ⟨hg, hf⟩
    · refine wpS_bind (wpS_mHi (a := (arrOf st).extract (sa + k) (sa + na)) (b := (arrOf st).extract (sa + na) (sa + na + t)) o.k (ints_ex o.i _ _) (ints_ex o.i _ _) ux uy nx ny hb0 hal fun out st' hg hf => ?_)
      exact hk out st' ⟨hg, hf⟩
  intro out st2 H0
  obtain ⟨⟨g1, g2, g3, g4⟩, hf⟩ := H0
  refine wpS_bind (wpS_modify ?_)
  refine wpS_bind (wpS_get ?_)
  have hol : out.toList.length = na - k + t := by rw [hf.1.length_eq]; simp; exact aL 0x100000000000101000101000001000001010010011000000000001010001010000010000010100100111000000000001010001010000010000010100100110000000000010100010100000100000101001001110000100011000010101000001000100000101100110100001001000010000110100001001000010101011010000100100001000011010000100100001101101110000100011000010101000001000100000101100110000000000000010000110000000000000010101011000000000000001000011000000000000001101101111186c91aac2536b52c32c1bab1aa401aa1ba07900980741aa01ba1aa060908906780350132c11732cc0536c52c14c32c10c1d01c (aS ((arrOf st).size) (sa + na)) (aS ((arrOf st).size) (sa + k)) (aS (na) (k)) hz z1 hk ht (aN (t) ((arrOf st).size - (sa + na))) (aN (sa + na - (sa + k)) ((arrOf st).size - (sa + k))) (aO (t) ((arrOf st).size - (sa + na))) (aO (sa + na - (sa + k)) ((arrOf st).size - (sa + k))) (aS (sa + na) (sa + k)) (aS (na) (k))
  have g2' : arrOf st2 = arrOf st := g2
  have hfold := fold_set out.toList 0 (sa + k) (arrOf st2) (by rw [g2', hol]; exact aL 0x1111011101101356c0b40ccc0416b2501403210cc0407 hz hk ht (aS _ _))
  rw [g2', Nat.add_zero] at hfold
  obtain ⟨s1, s2, s3⟩ := splice (s := sa) (k := sa + k) (e := sa + na) (t := t) (f := sa + na + nb) (by exact aL 0x110c00002) (by exact aL 0x1112c02c0100103 hk) (by exact aL 0x11132cc032cc0100104 ht) hz hf hfold ua ub
    (fun m m1 m2 => by have := hk1 (m - sa) (by exact aL 0x11101101101231013b20c11100304 m1 m2 (aS _ _)); rwa [show sa + (m - sa) = m by exact aL 0x1101101011010100111120c2012b100203 m1 (aS _ _)] at this)
    (fun m m1 m2 => by have := hk2 (m - sa) (by exact aL 0x1011030132c0210c204 (aS _ _) m1) (by exact aL 0x11101101101341024b30c21210c0305 m1 m2 (aS _ _)); rw [show sa + (m - sa) = m by exact aL 0x1101101011010100111230c2023b210c0204 m1 (aS _ _)] at this; exact aL 0x110131039120 this)
    (fun m m1 m2 => by have := ht2 (m - (sa + na)) (by exact aL 0x10110401432cc032c10c205 (aS _ _) m1) (by exact aL 0x1110110110145110c35b410cc313210cc0306 m1 m2 (aS _ _)); rw [show sa + na + (m - (sa + na)) = m by exact aL 0x11011010110101001113410cc210c34b3210cc0205 m1 (aS _ _)] at this; exact aL 0x110131049120 this) (by exact aL 0x1101c1101b0102 ha) (by exact aL 0x11021cc21c101b0103 hb)
  have g4' : failedOf st2 = none := g4.trans o.f
  have hfin : (failedOf st2).isNone = true := by rw [g4']; rfl
  refine wpS_pure ?_
  show Q (failedOf st2).isNone _
  rw [hfin]
  rw [← g2'] at s1 s2 s3
  refine h _ ⟨g1.trans o.k, g4', fun p hp => ?_⟩ g3 (g2' ▸ s1) (g2' ▸ s2) s3
  have : p ∈ (arrOf st2).toList := (Array.perm_iff_toList_perm.mp s1).mem_iff.mp hp
  rw [g2'] at this
  exact o.i p this
end
end Mine.Srt
end
section
open PySem PyProof.Rows
set_option maxRecDepth 100000
set_option maxHeartbeats 4000000
namespace Mine.Srt
noncomputable def Cov (xs : Array Keyed) : List (Nat × Nat) → Nat → Nat → Prop
  | [], b, e => b = e
  | (st, n) :: r, b, e => st = b ∧ 1 ≤ n ∧ Up xs b (b + n) ∧ Cov xs r (b + n) e
noncomputable abbrev pr (l : Array (Nat × Nat × Nat)) : List (Nat × Nat) := l.toList.map fun x => (x.1, x.2.1)
theorem Cov.app {xs : Array Keyed} : ∀ {p q : List (Nat × Nat)} {b e : Nat}, Cov xs (p ++ q) b e ↔ ∃ m, Cov xs p b m ∧ Cov xs q m e
  | [], q, b, e => by simp [Cov]
  | (st, n) :: p, q, b, e => by
    simp only [List.cons_append, Cov, Cov.app (p := p)]
    constructor
    · rintro ⟨h1, h2, h3, m, h4, h5⟩; exact ⟨m, ⟨h1, h2, h3, h4⟩, h5⟩
    · rintro ⟨m, ⟨h1, h2, h3, h4⟩, h5⟩; exact ⟨h1, h2, h3, m, h4, h5⟩
theorem Cov.len {xs : Array Keyed} : ∀ {p : List (Nat × Nat)} {b e : Nat}, Cov xs p b e → b + p.length ≤ e
  | [], b, e, h => by simp only [Cov] at h; simp; exact aL 0x101100102102 h
  | (st, n) :: p, b, e, h => by
    have := Cov.len h.2.2.2
    have := h.2.1
    simp only [List.length_cons]; exact aL 0x11132f0c011b03210cc0204 (by assumption) this
theorem Up.congr {xs ys : Array Keyed} {lo hi : Nat} (h : Up xs lo hi) (e : ∀ i, lo ≤ i → i < hi → K ys i = K xs i) : Up ys lo hi := fun i j a b c => by
  rw [e i a (by exact aL 0x111201211100203 b c), e j (by exact aL 0x111200210100203 a b) c]; exact h i j a b c
theorem Cov.congr {xs ys : Array Keyed} : ∀ {p : List (Nat × Nat)} {b e : Nat}, Cov xs p b e → (∀ i, b ≤ i → i < e → K ys i = K xs i) → Cov ys p b e
  | [], b, e, h, _ => h
  | (st, n) :: p, b, e, h, he => by
    have l := Cov.len h.2.2.2
    exact ⟨h.1, h.2.1, h.2.2.1.congr fun i h1 h2 => he i h1 (by exact aL 0x11134110c413210cc0205 l h2), h.2.2.2.congr fun i h1 h2 => he i (by exact aL 0x11200210c0103 h1) h2⟩
/-- merging two neighbours -/
theorem Cov.merge {xs ys : Array Keyed} {p : Array (Nat × Nat × Nat)} {i e sa na pa sb nb pb : Nat} (h : Cov xs (pr p) 0 e) (h1 : p[i]? = some (sa, na, pa)) (h2 : p[i + 1]? = some (sb, nb, pb)) :
    (sb = sa + na ∧ 1 ≤ na ∧ 1 ≤ nb ∧ sb + nb ≤ e ∧ Up xs sa sb ∧ Up xs sb (sb + nb)) ∧
    (Off xs ys sa (sb + nb) → Up ys sa (sb + nb) → Cov ys (pr ((p.setIfInBounds i (sa, na + nb, pa)).eraseIdxIfInBounds (i + 1))) 0 e) := by
  have hi : i + 1 < p.size := (Array.getElem?_eq_some_iff.mp h2).1
  have e1 : p[i] = (sa, na, pa) := (Array.getElem?_eq_some_iff.mp h1).2
  have e2 : p[i + 1] = (sb, nb, pb) := (Array.getElem?_eq_some_iff.mp h2).2
  have hs : p.toList = p.toList.take i ++ (sa, na, pa) :: (sb, nb, pb) :: p.toList.drop (i + 2) := by
    conv => lhs; rw [← List.take_append_drop i p.toList]
    congr 1
    rw [List.drop_eq_getElem_cons (by simpa using (by exact oI (aL 0x1110110f1102 hi) : i < p.size)), List.drop_eq_getElem_cons (by simpa using hi)]
    simp [e1, e2]
  have hlen : (p.toList.take i).length = i := by simp; exact aL 0x100100101110001110222102007120020610f1303 hi (aN _ _) (aO _ _)
  have hp' : pr ((p.setIfInBounds i (sa, na + nb, pa)).eraseIdxIfInBounds (i + 1)) = (p.toList.take i).map (fun x => (x.1, x.2.1)) ++ (sa, na + nb) :: (p.toList.drop (i + 2)).map (fun x => (x.1, x.2.1)) := by
    unfold pr
    have : ((p.setIfInBounds i (sa, na + nb, pa)).eraseIdxIfInBounds (i + 1)).toList = p.toList.take i ++ (sa, na + nb, pa) :: p.toList.drop (i + 2) := by
      rw [Array.eraseIdxIfInBounds]
      rw [dif_pos (by simpa using hi), Array.toList_eraseIdx, Array.toList_setIfInBounds]
      conv => lhs; rw [hs]
      rw [List.set_append_right _ _ (by exact aL 0x101100102102 hlen), hlen, Nat.sub_self, List.set_cons_zero, List.eraseIdx_append_of_length_le (by exact aL 0x1011f00102102 hlen), hlen, show i + 1 - i = 1 by exact aL 0x101101010101111b0211f0b102 (aS _ _)]
      rfl
    rw [this]; simp
  unfold pr at h
  rw [hs] at h
  simp only [List.map_append, List.map_cons] at h
  obtain ⟨m, c1, rfl, n1, u1, rfl, n2, u2, c2⟩ := Cov.app.mp h
  have l2 := c2.len
  refine ⟨⟨rfl, n1, n2, by exact aL 0x114210cc043210ccc0105 l2, u1, u2⟩, fun ho hu => ?_⟩
  rw [hp']
  refine Cov.app.mpr ⟨sa, c1.congr fun i _ h => ho i (.inl h), rfl, by exact aL 0x1101c1b001b0102 n2, ?_, ?_⟩
  · rw [← Nat.add_assoc]; exact hu
  · rw [← Nat.add_assoc]
    exact c2.congr fun i h1 _ => ho i (.inr h1)
section
variable {prog : Program} {w : World} {A : Around} {E : Value → Shared → Prop} {s : Shared}
structure RI (a₀ : Array Keyed) (st : SortSt) (e : Nat) : Prop where
  o : Ok st
  p : (arrOf st).Perm a₀
  c : Cov (arrOf st) (pr (pendingOf st)) 0 e
theorem RI.size {a₀ : Array Keyed} {st : SortSt} {e : Nat} (h : RI a₀ st e) : (arrOf st).size = a₀.size := h.p.size_eq
theorem wpS_mI {a₀ : Array Keyed} {st : SortSt} {i e : Nat} {Q : Bool → SortSt → Prop} (h : RI a₀ st e) (he : e ≤ a₀.size) (hi : i + 1 < (pendingOf st).size)
    (hq : ∀ st', RI a₀ st' e → (pendingOf st').size + 1 = (pendingOf st).size → Off (arrOf st) (arrOf st') 0 e → Q true st') : wpS (model prog w) A E s (mAt i) Q st := by
  obtain ⟨⟨sa, na, pa⟩, h1⟩ : ∃ x, (pendingOf st)[i]? = some x := ⟨_, getElem?_pos _ i (by exact oI (aL 0x1110110f1102 hi))⟩
  obtain ⟨⟨sb, nb, pb⟩, h2⟩ : ∃ x, (pendingOf st)[i + 1]? = some x := ⟨_, getElem?_pos _ (i + 1) hi⟩
  obtain ⟨q1, q2, q3, q4, q5, q6⟩ := (h.c.merge (ys := arrOf st) h1 h2).1
  refine wpS_mAt h.o h1 h2 q1 q2 q3 (by rw [h.size]; exact aL 0x111132c0032c0100204 he q4) q5 q6 fun st' o' pe pm of up => ?_
  refine hq st' ⟨o', pm.trans h.p, ?_⟩ ?_ fun j hj => of j (by exact aL 0x101100011310c043173200b317210c0205 q4 hj)
  · rw [pe]
    exact (h.c.merge h1 h2).2 of up
  · rw [pe, Array.eraseIdxIfInBounds, dif_pos (by simpa using hi), Array.size_eraseIdx, Array.size_setIfInBounds]; exact aL 0x11010101011010011112f21b12b10f1203 hi (aS _ _)
theorem wpS_runs {a₀ : Array Keyed} {st : SortSt} {Q : Unit → SortSt → Prop} (o : Ok st) (hp : (arrOf st).Perm a₀) (hn : pendingOf st = #[])
    (h : ∀ st', (arrOf st').Perm a₀ → failedOf st' = none → SortedTo (arrOf st') a₀.size → Q () st') : wpS (model prog w) A E s sortRuns' Q st := by
  rw [sortRuns'_eq]
  refine wpS_bind (wpS_get ?_)
  dsimp only
  rw [hp.size_eq]
  refine wpS_bind (wpS_mono (wpS_forRange
    (I := fun x c st' => ∃ lo, c = (none, lo) ∧ RI a₀ st' lo ∧ x ≤ lo ∧ lo ≤ a₀.size)
    (Q := fun c st' => c = (none, a₀.size) ∧ RI a₀ st' a₀.size) ?step ?fin ⟨0, rfl, ⟨o, hp, by rw [hn]; rfl⟩, by exact aL 0x10b0b0000, by exact aL 0x100b0001⟩) ?post)
  case fin =>
    intro c st' H0
    obtain ⟨lo, rfl, h1, h2, h3⟩ := H0
    have : lo = a₀.size := by exact aL 0x1010011010121202000b06210100303 h2 h3 (aX _ _)
    subst this
    exact ⟨rfl, h1⟩
  case step =>
    intro x c st1 _ hx H0
    obtain ⟨lo, rfl, h1, h2, h3⟩ := H0
    dsimp only
    by_cases hge : lo ≥ a₀.size
    · rw [if_pos hge]
      have : lo = a₀.size := by exact aL 0x1101011102010100202 h3 hge
      subst this
      exact wpS_pure ⟨rfl, h1⟩
    rw [if_neg hge]
    refine wpS_bind (wpS_count h1.o (by rw [h1.size]; exact aL 0x11010101021c0102b1009203 hge (aS _ _)) (by exact aL 0x101101b02109210c203 (aS _ _) hge) fun m st2 c2 m1 m2 u2 => ?_)
    dsimp only
    have ri2 : RI a₀ st2 lo := ⟨c2.ok h1.o, c2.perm.trans h1.p, by
      rw [c2.pend]; exact h1.c.congr fun i _ hi => c2.off i (.inl hi)⟩
    apply use_dup1 (C := fun (n : Nat) st' => RI a₀ st' lo ∧ 1 ≤ n ∧ lo + n ≤ a₀.size ∧ Up (arrOf st') lo (lo + n))
    · intro hk
      by_cases hlt : m < minRun' a₀.size a₀.size 0
      · rw [if_pos hlt]
        refine wpS_bind (wpS_lift (wpAny_rule ⟨rfl, ?_⟩))
        have hz := ri2.size
        have hmin : m ≤ min (a₀.size - lo) (minRun' a₀.size a₀.size 0) := by exact aL 0x1011110113003203107201100304 m2 hlt (aO _ _)
        have hmin2 : lo + min (a₀.size - lo) (minRun' a₀.size a₀.size 0) ≤ a₀.size := by exact aL 0x100101001101021c0103b42032061009305 hge (aN _ _) (aS _ _)
        generalize min (a₀.size - lo) (minRun' a₀.size a₀.size 0) = force at *
        refine wpS_bind (wpS_bins ri2.o (by exact aL 0x1101032c0132c0102204 hz hmin2) hmin u2 fun st3 c3 u3 => ?_)
        rw [if_neg (by decide)]
        exact hk force _ ⟨⟨c3.ok ri2.o, c3.perm.trans ri2.p, by
          rw [c3.pend]; exact ri2.c.congr fun i _ hi => c3.off i (.inl hi)⟩, by exact aL 0x11111b010001b0202 m1 hmin, hmin2, u3⟩
      · rw [if_neg hlt]
        obtain ⟨m', e⟩ : ∃ q, q = m := ⟨m, rfl⟩
        rw [← e] at m1 m2 u2 ⊢
        exact hk m' _ ⟨ri2, m1, by exact aL 0x1010101101021c0103b3201009304 hge m2 (aS _ _), u2⟩
    clear ri2 u2 m1 m2 c2 h1
    intro n st3 H0
    obtain ⟨ri3, n1, n2, u3⟩ := H0
    refine wpS_bind (wpS_get ?_)
    apply use_dup (C := fun st' => RI a₀ st' lo ∧ Up (arrOf st') lo (lo + n))
    · intro hk
      split
      · rename_i s1 n1' p1 hback
        refine wpS_bind (wpS_mono (wpS_forRange (I := fun _ c st' => c = (none, ()) ∧ RI a₀ st' lo ∧ Up (arrOf st') lo (lo + n)) (Q := fun c st' => c = (none, ()) ∧ RI a₀ st' lo ∧ Up (arrOf st') lo (lo + n))
          ?istep (fun _ _ hh => hh) ⟨rfl, ri3, u3⟩) ?ipost)
        case istep =>
          intro y c st4 _ hy H0
          obtain ⟨rfl, ri4, u4⟩ := H0
          refine wpS_bind (wpS_get ?_)

          split
          · rename_i a1 a2 older heq
            split
            · exact wpS_pure ⟨rfl, ri4, u4⟩
            · have hsz : (pendingOf st4).size > 1 := by
                by_cases q : (pendingOf st4).size > 1
                · exact q
                · rw [if_neg q] at heq; cases heq
              refine wpS_bind (wpS_mI ri4 (by exact aL 0x110101009102 hge) (by exact oI (aL 0x11011010101f12b01b01b1202 hsz (aS _ _))) fun st5 ri5 _ of5 => ?_)
              simp only [Bool.not_true, Bool.false_eq_true, if_false]
              exact wpS_pure ⟨rfl, ri5, u4.congr fun i h1 _ => of5 i (.inr h1)⟩
          · exact wpS_pure ⟨rfl, ri4, u4⟩
        case ipost =>
          intro c st4 H0
          obtain ⟨rfl, ri4, u4⟩ := H0
          dsimp only
          refine wpS_bind (wpS_modify ?_)
          refine hk _ ⟨⟨⟨ri4.o.k, ri4.o.f, ri4.o.i⟩, ri4.p, ?_⟩, u4⟩
          have : pr ((pendingOf st4).modify ((pendingOf st4).size - 1) fun (st, len, _) => (st, len, power' a₀.size (2 * s1 + n1') (2 * s1 + n1' + n1' + n) a₀.size)) = pr (pendingOf st4) := by
            unfold pr
            apply List.ext_getElem?
            intro i
            simp only [List.getElem?_map, Array.getElem?_toList, Array.getElem?_modify]
            split
            · cases (pendingOf st4)[i]? <;> rfl
            · rfl
          show Cov _ (pr _) 0 lo
          rw [this]
          exact ri4.c
      · exact hk _ ⟨ri3, u3⟩
    clear ri3 u3
    rintro st4 ⟨ri4, u4⟩
    refine wpS_bind (wpS_modify ?_)
    refine wpS_pure ⟨lo + n, rfl, ⟨⟨ri4.o.k, ri4.o.f, ri4.o.i⟩, ri4.p, ?_⟩, by exact aL 0x11121c0f021b0100203 h2 n1, by exact aL 0x11210c0210c0103 n2⟩
    show Cov (arrOf st4) (pr ((pendingOf st4).push (lo, n, 0))) 0 (lo + n)
    unfold pr
    rw [Array.toList_push, List.map_append]
    exact Cov.app.mpr ⟨lo, ri4.c, rfl, n1, u4, rfl⟩
  case post =>
    rintro c st1 ⟨rfl, h1⟩
    dsimp only
    have hl := h1.c.len
    simp only [pr, List.length_map, Array.length_toList] at hl
    refine wpS_bind (wpS_mono (wpS_forRange (I := fun x c st' => c = (none, ()) ∧ RI a₀ st' a₀.size ∧ (pendingOf st').size + x ≤ a₀.size)
      (Q := fun c st' => c = (none, ()) ∧ RI a₀ st' a₀.size ∧ (pendingOf st').size ≤ 1) ?fstep ?ffin ⟨rfl, h1, by exact aL 0x1110b0c0100bc0102 hl⟩) ?fpost)
    case ffin =>
      intro c st' H0
      obtain ⟨rfl, ri, hh⟩ := H0
      exact ⟨rfl, ri, by exact aL 0x11101b0012010b06210c0203 hh (aX _ _)⟩
    case fstep =>
      intro x c st2 _ hx H0
      obtain ⟨rfl, ri, hh⟩ := H0
      refine wpS_bind (wpS_get ?_)

      split
      · exact wpS_pure ⟨rfl, ri, by assumption⟩
      · rename_i hgt
        have key : ∀ i, i + 1 < (pendingOf st2).size → wpS (model prog w) A E s (mAt i) (fun b st' => b = true ∧ RI a₀ st' a₀.size ∧ (pendingOf st').size + (x + 1) ≤ a₀.size) st2 := by
          intro i hi
          exact wpS_mI ri (Nat.le_refl _) hi fun st3 ri3 e3 _ => ⟨rfl, ri3, by exact aL 0x110121f3c003f2210c0204 hh e3⟩
        refine wpS_bind (wpS_mono (key _ ?_) ?_)
        · repeat' split
          all_goals (first | exact oI (aL 0x110101110010120f12b21b1b2091b10c303 (aS _ _) hgt (aS _ _)) | exact oI (aL 0x11011010101f12b01b1b009202 hgt (aS _ _)) | exact oI (aL 0x11101f110b191b009202 hgt (by assumption)))
        · rintro b st3 ⟨rfl, ri3, e3⟩
          simp only [Bool.not_true, Bool.false_eq_true, if_false]
          exact wpS_pure ⟨rfl, ri3, e3⟩
    case fpost =>
      intro c st2 H0
      obtain ⟨rfl, ri, hh⟩ := H0
      refine wpS_pure (h _ ri.p ri.o.f ?_)
      have hc := ri.c
      unfold pr at hc
      have hlen : (pendingOf st2).toList.length ≤ 1 := by simpa using hh
      rcases hL : (pendingOf st2).toList with _ | ⟨⟨s1, n1, p1⟩, _ | ⟨y, r⟩⟩
      · rw [hL] at hc
        simp only [List.map_nil, Cov] at hc
        intro i j a b; exact aL 0x10110301100b2222 hc b
      · rw [hL] at hc
        simp only [List.map_cons, List.map_nil, Cov] at hc
        obtain ⟨rfl, h1, h2, h3⟩ := hc
        intro i j a b
        exact h2 i j (Nat.zero_le _) a (by exact aL 0x110100bc21121100bc2203 h3 b)
      · rw [hL] at hlen; simp at hlen
end
end Mine.Srt
end
section
open PySem PyProof.Rows
set_option maxRecDepth 100000
set_option maxHeartbeats 4000000
namespace Mine.Srt
section
variable {prog : Program} {w : World} {A : Around} {E : Value → Shared → Prop} {s : Shared}
theorem list_sort_any {a : Addr} {vs : List Value} {ns : List Int} {n : Nat} {P : PySem.Fin → Shared → Prop} (ho : s.heap.get? a = some (seqObj "list" vs.toArray n))
    (hI : IntsAre vs ns) (hm : vs.length < 4096)
    (h : ∀ (out : Array Value) (ns' : List Int), IntsAre out.toList ns' → ns'.Perm ns → ns'.Pairwise (· ≤ ·) → P (.done (.ret .none)) { s with heap := sortedHeap s.heap a vs out }) :
    wpAny (model prog w) A (Builtin.«list.sort» ⟨[.ref a], []⟩) P E s := by
  rw [list_sort_plain]
  have ha : a < s.heap.objs.size := Heap.lt_size ho
  have hsz : vs.toArray.size = vs.length := by simp
  refine wpAny_bind (listItems_at ho rfl ?_)
  refine wpAny_bind (listUpdate_at ho rfl ?_ (by rw [hsz, sizeLine_eq]; exact aL 0x11188888888b0018888b01101 hm) (by simp))
  obtain ⟨e1, ho1⟩ : ∃ e1, (s.heap.update a (Obj.mapSeq fun _ => #[])).get? a = some (seqObj "list" #[] e1) := ⟨_, get?_update_seq ho (fun _ => #[])⟩
  refine wpAny_bind (seqEpoch_at ho1 rfl ?_)
  refine wpAny_bind (wpAny_newTuple ?_)
  refine wpAny_bind (wpAny_newList ?_)
  refine wpAny_holding ?_
  have ho6 : (((s.heap.update a (Obj.mapSeq fun _ => #[])).push (seqObj "tuple" vs.toArray 0)).push (seqObj "list" #[] 0)).get? a = some (seqObj "list" #[] e1) := by
    rw [Heap.get?_push_ne _ _ _ (by rw [size_push', Heap.size_update]; exact Nat.ne_of_lt (Nat.lt_succ_of_lt ha)), Heap.get?_push_ne _ _ _ (by rw [Heap.size_update]; exact Nat.ne_of_lt ha)]
    exact ho1
  show wpAny (model prog w) A _ P E { s with heap := ((s.heap.update a (Obj.mapSeq fun _ => #[])).push (seqObj "tuple" vs.toArray 0)).push (seqObj "list" #[] 0) }
  dsimp only
  have fin : ∀ st' : SortSt, (arrOf st').Perm (pairsOf vs) → SortedTo (arrOf st') (pairsOf vs).size →
      P (.done (.ret .none)) { s with heap := sortedHeap s.heap a vs ((arrOf st').map (·.2)) } := by
    intro st' hp hs
    obtain ⟨ns', h1, h2, h3⟩ := sorted_out hI hp hs
    exact h _ ns' h1 h2 h3
  by_cases h2 : vs.toArray.size < 2
  · rw [if_pos h2, if_pos h2]
    refine wpAny_bind (wpAny_pure ?_)
    rw [StateT.run_pure]
    refine wpAny_bind (wpAny_pure ?_)
    dsimp only
    refine wpAny_bind (seqEpoch_at ho6 rfl ?_)
    refine wpAny_bind (listUpdate_at ho6 rfl ?_ (hsz2 := by rw [Array.size_map]; show (pairsOf vs).size ≤ _; rw [pairsOf_size, sizeLine_eq]; exact aL 0x1101188888888bf102b01102202 hsz h2))
    simp only [bne_self_eq_false, Bool.false_eq_true, if_false]
    refine wpAny_pure (fin (SortSt.mk' general' (vs.toArray.zip vs.toArray) #[] 7 none) (Array.Perm.refl _) ?_)
    intro i j hij hj
    have : i = j := by rw [pairsOf_size] at hj; exact aL 0x10001011010113221313202b01102404 hsz h2 hij hj
    subst this; exact Int.le_refl _
  · rw [if_neg h2, if_neg h2]
    obtain ⟨v₁, v₂, rest, rfl⟩ : ∃ v₁ v₂ rest, vs = v₁ :: v₂ :: rest := by
      match vs, hsz, h2 with
      | [], _, h2 => simp at h2
      | [_], _, h2 => simp at h2
      | v₁ :: v₂ :: rest, _, _ => exact ⟨v₁, v₂, rest, rfl⟩
    rw [keyKind_ints hI]
    refine wpAny_bind (wpAny_pure ?_)
    refine wpAny_bind (wpAny_mono (wpS_runs (a₀ := pairsOf (v₁ :: v₂ :: rest)) (st := SortSt.mk' oneType' ((v₁ :: v₂ :: rest).toArray.zip (v₁ :: v₂ :: rest).toArray) #[] 7 none)
      (Q := fun _ st' => (arrOf st').Perm (pairsOf (v₁ :: v₂ :: rest)) ∧ failedOf st' = none ∧ SortedTo (arrOf st') (pairsOf (v₁ :: v₂ :: rest)).size)
      ⟨rfl, rfl, hI.intKeys⟩ (Array.Perm.refl _) rfl fun st' a1 a2 a3 => ⟨a1, a2, a3⟩) ?_ fun _ _ e => e)
    rintro ⟨⟨⟩, st'⟩ s' ⟨rfl, hp, hf, hs⟩
    dsimp only
    refine wpAny_bind (seqEpoch_at ho6 rfl ?_)
    refine wpAny_bind (listUpdate_at ho6 rfl ?_ (hsz2 := by refine Nat.le_trans (Nat.le_of_eq ((Array.size_map ..).trans (hp.size_eq.trans (pairsOf_size _)))) ?_; rw [sizeLine_eq]; exact aL 0x11188888888bf0018888b01101 hm))
    rw [hf]
    simp only [bne_self_eq_false, Bool.false_eq_true, if_false]
    exact wpAny_pure (fin st' hp hs)
end
end Mine.Srt
end
section
open PySem
set_option maxRecDepth 100000
set_option maxHeartbeats 4000000
namespace Mine.Srt
noncomputable def Rise (p : Array Nat) : Prop := p.toList.Pairwise (· < ·)
theorem below_go {xs : Array Nat} {j : Nat} (hr : Rise xs) : ∀ (fuel lo hi : Nat), lo ≤ hi → hi ≤ xs.size → hi - lo ≤ fuel → (∀ i, i < lo → xs.getD i 0 < j) → (∀ i, hi ≤ i → i < xs.size → j ≤ xs.getD i 0) →
    (∀ i, i < SetTable.below.go xs j fuel lo hi → xs.getD i 0 < j) ∧ (∀ i, SetTable.below.go xs j fuel lo hi ≤ i → i < xs.size → j ≤ xs.getD i 0) ∧ SetTable.below.go xs j fuel lo hi ≤ xs.size
  | 0, lo, hi, h1, h2, h3, h4, h5 => by
    have e : lo = hi := by exact aL 0x100101010111220b00120210c303 (aS _ _) h1 h3
    subst e
    exact ⟨h4, h5, h2⟩
  | fuel + 1, lo, hi, h1, h2, h3, h4, h5 => by
    unfold SetTable.below.go
    by_cases q : lo < hi
    · rw [if_pos q]
      dsimp only
      have mono : ∀ a b, a < b → b < xs.size → xs.getD a 0 < xs.getD b 0 := fun a b hab hb => by
        have := List.pairwise_iff_getElem.mp hr a b (by simpa using (by exact oI (aL 0x111201211101203 hab hb) : a < xs.size)) (by simpa using hb) hab
        simpa [Array.getD, hb, (by exact oI (aL 0x111201211101203 hab hb) : a < xs.size)] using this
      have ej : xs.getD ((lo + hi) / 2) j = xs.getD ((lo + hi) / 2) 0 := by simp [Array.getD, (by exact oI (aL 0x2210113132df02c002c32d06021100304 h2 q (aD 2 _ oY)) : (lo + hi) / 2 < xs.size)]
      rw [ej]
      by_cases r : xs.getD ((lo + hi) / 2) 0 < j
      · rw [if_pos r]
        refine below_go hr fuel _ _ (by exact aL 0x210112f022df10c010c22d06101203 q (aD 2 _ oY)) h2 (by exact aL 0x100000011011102013504f15b42df12c012c42d063f00210c406 (aS (hi) (lo)) h3 (aD 2 (lo + hi) oY) (aS (hi) ((lo + hi) / 2 + 1))) (fun i hi' => ?_) h5
        by_cases e : i = (lo + hi) / 2
        · subst e; exact r
        · have := mono i ((lo + hi) / 2) (by exact aL 0x11101110110291f01202 hi' e) (by exact oI (aL 0x2210113132df02c002c32d06021100304 h2 q (aD 2 _ oY))); exact aL 0x111121021101203 r this
      · rw [if_neg r]
        refine below_go hr fuel _ _ (by exact aL 0x211020022df10c010c22d06101203 q (aD 2 _ oY)) (by exact aL 0x2210113032df02c002c32d06021100304 h2 q (aD 2 _ oY)) (by exact aL 0x10000001201101201350245b42df12c012c42d063f00210c406 (aS (hi) (lo)) h3 (aD 2 (lo + hi) oY) (aS ((lo + hi) / 2) (lo))) h4 (fun i hi1 hi2 => ?_)
        by_cases e : i = (lo + hi) / 2
        · subst e; exact aL 0x110101019102 r
        · have := mono ((lo + hi) / 2) i (by exact aL 0x10101111010129100202 hi1 e) hi2; exact aL 0x1112102011019203 r this
    · rw [if_neg q]
      have e : lo = hi := by exact aL 0x11010111021019100202 h1 q
      subst e
      exact ⟨h4, h5, h2⟩
theorem below_ok {xs : Array Nat} (hr : Rise xs) (j : Nat) :
    (∀ i, i < SetTable.below xs j → xs.getD i 0 < j) ∧ (∀ i, SetTable.below xs j ≤ i → i < xs.size → j ≤ xs.getD i 0) ∧ SetTable.below xs j ≤ xs.size :=
  below_go hr _ _ _ (Nat.zero_le _) (Nat.le_refl _) (by exact aL 0x1101000b10c102 (aS _ _)) (fun i h => by exact aL 0x12110b01103 h) (fun i h1 h2 => by exact aL 0x11320011100204 h1 h2)
theorem getD_eq {xs : Array Nat} {i : Nat} (h : i < xs.size) : xs.getD i 0 = xs[i] := by simp [Array.getD, h]
theorem rise_insert {xs : Array Nat} (hr : Rise xs) {j : Nat} (hj : xs[SetTable.below xs j]? ≠ some j) : Rise (SetTable.insertAt xs (SetTable.below xs j) j) := by
  obtain ⟨b1, b2, b3⟩ := below_ok hr j
  unfold Rise
  rw [SetTable.toList_insertAt]
  generalize hb : SetTable.below xs j = b at *
  refine List.pairwise_append.mpr ⟨hr.sublist (List.take_sublist _ _), List.pairwise_cons.mpr ⟨fun y hy => ?_, hr.sublist (List.drop_sublist _ _)⟩, fun x hx y hy => ?_⟩
  · obtain ⟨i, hi, e⟩ := List.mem_iff_getElem.mp hy
    rw [List.getElem_drop] at e
    have hi' : b + i < xs.size := by simp at hi; exact oI (aL 0x10111101203c1321b101204 hi (aS _ _))
    have h1 := b2 (b + i) (by exact aL 0x110c00002) hi'
    rw [getD_eq hi'] at h1
    have e' : xs[b + i] = y := by simpa using e
    rw [e'] at h1
    rcases Nat.eq_or_lt_of_le h1 with q | q
    · exfalso
      by_cases i0 : i = 0
      · subst i0
        apply hj
        simp only [Nat.add_zero] at e' hi'
        rw [getElem?_pos xs b hi', e', q]
      · have h0 := b2 b (Nat.le_refl _) (by exact oI (aL 0x11201210c1103 hi'))
        have := List.pairwise_iff_getElem.mp hr b (b + i) (by simpa using (by exact oI (aL 0x11201210c1103 hi') : b < xs.size)) (by simpa using hi') (by exact aL 0x1101101c110b029102 i0)
        rw [getD_eq (by exact oI (aL 0x11201210c1103 hi'))] at h0
        simp only [Array.getElem_toList] at this
        rw [e'] at this
        exact aL 0x1011d121200102303 q h0 this
    · exact q
  · obtain ⟨i, hi, e⟩ := List.mem_take_iff_getElem.mp hx
    have hi' : i < xs.size := by simp at hi; exact oI (aL 0x11103013102106101204 hi (aN _ _))
    have hib : i < b := by exact aL 0x11012013102106101204 hi (aN _ _)
    have h1 := b1 i hib
    rw [getD_eq hi'] at h1
    have e' : xs[i] = x := by simpa using e
    rw [e'] at h1
    rcases List.mem_cons.mp hy with rfl | hy
    · exact h1
    · obtain ⟨k, hk, e2⟩ := List.mem_iff_getElem.mp hy
      rw [List.getElem_drop] at e2
      have hk' : b + k < xs.size := by simp at hk; exact oI (aL 0x10111101203c1321b101204 hk (aS _ _))
      have h2 := b2 (b + k) (by exact aL 0x110c00002) hk'
      rw [getD_eq hk'] at h2
      have e2' : xs[b + k] = y := by simpa using e2
      rw [e2'] at h2
      exact aL 0x111201210101203 h1 h2
theorem rise_range (n : Nat) : Rise (Array.range n) := by
  unfold Rise
  rw [Array.toList_range]
  exact List.pairwise_lt_range
noncomputable def NotAt (t : SetTable) (j : Nat) : Prop := t.place[SetTable.below t.place j]? ≠ some j
theorem probe_free {t : SetTable} {hashAt : Nat → Int} {h : Int} : ∀ (fuel : Nat) (p : SetTable.Probe) {j : Nat} {d : Option Nat}, (∀ x, p.dummy = some x → NotAt t x) →
    SetTable.probe.go t hashAt h fuel p = some (.empty j d) → NotAt t (d.getD j)
  | 0, p, j, d, hd, e => by simp [SetTable.probe.go] at e
  | fuel + 1, p, j, d, hd, e => by
    unfold SetTable.probe.go at e
    have adv : ∀ q : SetTable.Probe, (t.advance q).dummy = q.dummy := fun q => by
      unfold SetTable.advance; split <;> rfl
    have na : ∀ x, (∀ i, t.slot x ≠ .live i) → NotAt t x := fun x hx q => by
      refine hx (SetTable.below t.place x) ?_
      unfold SetTable.slot
      dsimp only
      rw [q]; simp
    cases hs : t.slot p.j with
    | empty =>
      rw [hs] at e
      simp only [Option.some.injEq, SetTable.Met.empty.injEq] at e
      obtain ⟨rfl, rfl⟩ := e
      cases hp : p.dummy with
      | none => exact na p.j (fun i q => by rw [hs] at q; cases q)
      | some x => exact hd x hp
    | dummy =>
      rw [hs] at e
      refine probe_free fuel _ (fun x hx => ?_) e
      rw [adv] at hx
      cases hx
      exact na _ (fun i q => by rw [hs] at q; cases q)
    | live i =>
      rw [hs] at e
      dsimp only at e
      split at e
      · cases e
      · exact probe_free fuel _ (fun x hx => hd x (by rwa [adv] at hx)) e
theorem layNew_rise {t : SetTable} (hr : Rise t.place) (es : Array (Int × Value)) (h : Int) (x : Value) : Rise (layNew t es h x).2.1.place ∧ (layNew t es h x).2.1.led = t.led := by
  unfold layNew
  split
  · rename_i slot wd hf
    have hna : NotAt t slot := by
      unfold SetTable.freeSlot at hf
      split at hf
      · rename_i j d hp
        cases hf
        exact probe_free _ _ (fun x hx => by simp [SetTable.probeStart] at hx) hp
      · cases hf
    have os : ∀ (u : SetTable) (n : Nat), Rise u.place → Rise (u.orStandIn n).place ∧ (u.orStandIn n).led = u.led := fun u n hu => by
      unfold SetTable.orStandIn
      split
      · exact ⟨hu, rfl⟩
      · exact ⟨rise_range _, rfl⟩
    exact os _ _ (rise_insert hr hna)
  · exact ⟨rise_range _, rfl⟩
theorem relayAll_rise {t : SetTable} (es : Array (Int × Value)) (wanted : Nat) : Rise (relayAll t es wanted).2.1.place ∧ (relayAll t es wanted).2.1.led = t.led := by
  unfold relayAll
  split
  · rename_i t' order hl
    dsimp only
    split
    · unfold SetTable.relaid SetTable.laid at hl
      cases hc : SetTable.layClean (SetTable.sizeAbove wanted - 1) (es.map (·.1)) with
      | none => rw [hc] at hl; cases hl
      | some owner =>
        rw [hc] at hl
        cases hl
        refine ⟨?_, rfl⟩
        unfold Rise
        dsimp only
        refine List.Pairwise.sublist (l₂ := List.range (SetTable.sizeAbove wanted - 1 + 1)) ?_ List.pairwise_lt_range
        generalize List.range (SetTable.sizeAbove wanted - 1 + 1) = l
        induction l with
        | nil => exact .slnil
        | cons a l ih =>
          rw [List.filterMap_cons]
          cases ha : Option.map (fun x => (a, x)) (owner.getD a none) with
          | none => exact .cons _ ih
          | some y =>
            have : y.1 = a := by
              cases hw : owner.getD a none with
              | none => rw [hw] at ha; cases ha
              | some z => rw [hw] at ha; cases ha; rfl
            rw [List.map_cons, this]
            exact .cons₂ _ ih
    · exact ⟨rise_range _, rfl⟩
  · exact ⟨rise_range _, rfl⟩
end Mine.Srt
end
section
open PySem PyProof.Rows
set_option maxRecDepth 100000
set_option maxHeartbeats 4000000
namespace Mine.Srt
noncomputable abbrev setObj (es : Array (Int × Value)) (ep : Nat) (t : SetTable) : Obj := { cls := .type "set", data := .set es ep t }
section
variable {prog : Program} {w : World} {A : Around} {E : Value → Shared → Prop} {s : Shared}
theorem set_put {h : Heap} {a : Addr} {es es' : Array (Int × Value)} {ep : Nat} {t t' : SetTable} (ho : h.get? a = some (setObj es ep t)) :
    (h.update a (Obj.putSet es' t')).get? a = some (setObj es' (ep + 1) t') := by
  have := Heap.get?_update_self (Obj.putSet es' t') ho (by rw [putSet_of es' t' rfl]; rfl)
  rw [putSet_of es' t' rfl] at this; exact this
theorem add_tail {g : Bool → Sem Unit} (hg : ∀ (b : Bool) (s₁ : Shared) (Q' : Unit → Shared → Prop), Q' () s₁ → wpAny (model prog w) A (g b) Q' E s₁)
    {a : Addr} {es : Array (Int × Value)} {ep : Nat} {t : SetTable} (ho : s.heap.get? a = some (setObj es ep t))
    {es1 : Array (Int × Value)} {t2 : SetTable} (hb1 : es1.size < scanBound) (hf2 : t2.fits es1.size = true) (hr : Rise t2.place) {wasDummy : Bool} {R : Option Bool → Shared → Prop}
    (h : ∀ h' es' ep' t', Heap.SameBut a s.heap h' → h'.get? a = some (setObj es' ep' t') → es'.toList.Perm es1.toList → t'.fits es'.size = true → Rise t'.place → t'.led = t2.led → R (some true) { s with heap := h' }) :
    wpAny (model prog w) A (do
        storeSet a es1 t2
        if (!wasDummy && t2.tooFull) = true then do
            g (relayAll t2 es1 (SetTable.grown es1.size)).2.2
            storeSet a (relayAll t2 es1 (SetTable.grown es1.size)).1 (relayAll t2 es1 (SetTable.grown es1.size)).2.1
            pure (some true)
          else pure (some true)) R E s := by
  refine wpAny_bind (wpAny_storeSet_of ho rfl ?_ (fits_of_scanBound hb1))
  have ho1 := set_put (es' := es1) (t' := t2) ho
  have hsb1 := Heap.SameBut.update s.heap a (Obj.putSet es1 t2)
  split
  · have hp := relayAll_perm t2 es1 (SetTable.grown es1.size)
    have hfr := relayAll_fits t2 es1 (SetTable.grown es1.size)
    have hrr := relayAll_rise (t := t2) es1 (SetTable.grown es1.size)
    generalize hRl : relayAll t2 es1 (SetTable.grown es1.size) = Rl at hp hfr hrr ⊢
    obtain ⟨es2, t3, gave2⟩ := Rl
    dsimp only at hp hfr hrr ⊢
    have hsz : es2.size = es1.size := by rw [← Array.length_toList, hp.length_eq, Array.length_toList]
    have hb2 : es2.size < scanBound := by rw [hsz]; exact hb1
    refine wpAny_bind (hg _ _ _ ?_)
    refine wpAny_bind (wpAny_storeSet_of ho1 rfl ?_ (fits_of_scanBound hb2))
    exact wpAny_pure (h _ es2 _ t3 (hsb1.trans (Heap.SameBut.update _ a _)) (set_put ho1) hp hfr hrr.1 hrr.2)
  · exact wpAny_pure (h _ es1 _ t2 hsb1 ho1 (.refl _) hf2 hr rfl)
theorem call_add {a : Addr} {es : Array (Int × Value)} {ep : Nat} {t : SetTable} {i : Int} {tk : Tok} {Q : Value → Shared → Prop} (ho : s.heap.get? a = some (setObj es ep t))
    (hel : ∀ e ∈ es.toList, ∃ i tk, e = (hashInt i, .int i tk)) (hb : es.size + 1 < scanBound) (hf : t.fits es.size = true) (hr : Rise t.place)
    (h1 : (∃ tk', (hashInt i, Value.int i tk') ∈ es.toList) → Q .none { s with toks := s.toks + 1 })
    (h2 : (∀ tk', (hashInt i, Value.int i tk') ∉ es.toList) → ∀ h' es' ep' t', Heap.SameBut a s.heap h' → h'.get? a = some (setObj es' ep' t') → es'.toList.Perm (es.toList ++ [(hashInt i, .int i tk)]) →
      t'.fits es'.size = true → Rise t'.place → t'.led = t.led → Q .none { s with heap := h', toks := s.toks + 1 }) :
    wpAny (model prog w) A (call (.builtin "set.add") [.ref a, .int i tk]) Q E s := by
  have hkey := intKind_is prog w i tk
  have hsc : (Value.int i tk).scannable = true := rfl
  have hE : ElemsOf (intKind prog w) es.toList := fun e he => by
    obtain ⟨j, u, rfl⟩ := hel e he
    exact ⟨⟨j, intKind_is prog w j u, rfl⟩, rfl⟩
  have hex : (setObj es ep t).ExactSet := ⟨rfl, rfl, rfl⟩
  refine wpAny_call_entry F.slot_set_add ⟨_, ho, rfl⟩ F.entry_set_add ?_ (F.args_set_add_2 _ _)
  unfold Builtin.«set.add» Builtin.Frozenset.oneOther
  simp only [List.isEmpty_nil, bind_assoc]
  unfold Builtin.Frozenset.addrOf setAdd
  refine wpAny_bind (wpAny_pure ?_)
  try dsimp only
  refine wpAny_bind (wpAny_pure ?_)
  try dsimp only
  refine wpAny_bind ?_
  refine wpAny_holding ?_
  refine wpAny_bind ((intKind prog w).pyHash hkey ?_)
  have hb1 : es.size < scanBound := by exact aL 0x1110110f1102 hb
  unfold setAddHashed setAddHashedIn
  refine wpAny_holding (wpAny_bind (wpAny_setState_of (s := { s with toks := s.toks + 1 }) ho rfl hf ?_))
  dsimp only
  rw [byScan_of hsc hb1 hE]
  simp only [↓reduceIte]
  unfold setAddByScan
  refine wpAny_bind ?_
  refine wpAny_bind (wpAny_rule ?_)
  refine wpAny_bind (wpAny_setScan_of (s := { s with toks := s.toks + 1 }) hkey ho rfl hf hE ?_)
  cases hq : List.findIdx? (fun e => (intKind prog w).is i e.2) es.toList with
  | some j =>
    dsimp only
    obtain ⟨hj, hpj, _⟩ := List.findIdx?_eq_some_iff_getElem.mp hq
    refine wpAny_pure (wpAny_pure ?_)
    refine wpAny_pure ⟨_, rfl, h1 ?_⟩
    obtain ⟨k, u, e⟩ := hel _ (List.getElem_mem hj)
    rw [e] at hpj
    have ek := (intKind prog w).inj _ _ _ hpj (intKind_is prog w k u)
    subst ek
    exact ⟨u, by rw [← e]; exact List.getElem_mem hj⟩
  | none =>
    dsimp only
    have hno : ∀ tk', (hashInt i, Value.int i tk') ∉ es.toList := fun tk' hm => by
      have := List.findIdx?_eq_none_iff.mp hq _ hm
      rw [intKind_is] at this; cases this
    have hgw : ∀ {B : Around} (b : Bool) {s₁ : Shared} {Q' : Unit → Shared → Prop}, Q' () s₁ → wpAny (model prog w) B (match b with | true => rule "set.scan.the-table-gave-way" | false => pure ()) Q' E s₁ :=
      fun {B} b s₁ Q' hq => by cases b <;> first | exact wpAny_pure hq | exact wpAny_rule hq
    have hperm := layNew_perm t es ((intKind prog w).hash i) (.int i tk)
    have hfits := layNew_fits t es ((intKind prog w).hash i) (.int i tk)
    have hrise := layNew_rise hr es ((intKind prog w).hash i) (.int i tk)
    generalize hL : layNew t es ((intKind prog w).hash i) (.int i tk) = L at hperm hfits hrise ⊢
    obtain ⟨es1, t1, wasDummy, gave⟩ := L
    dsimp only at hperm hfits hrise ⊢
    rw [Array.toList_push] at hperm
    have hb1' : es1.size < scanBound := by rw [← Array.length_toList, hperm.length_eq, List.length_append, Array.length_toList]; simpa using hb
    refine wpAny_bind (hgw _ ?_)
    split
    · refine wpAny_bind ?_
      rw [hashByValue_scannable 8 hsc]
      refine wpAny_pure ?_
      refine add_tail (s := { s with toks := s.toks + 1 }) (t2 := if plainKind (.int i tk) = true then t1 else { t1 with plain := false }) ?_ ho hb1' ?_ ?_ ?_
      · intro b s₁ Q' hq; cases b <;> first | exact wpAny_pure hq | exact wpAny_rule hq
      · exact hfits
      · exact hrise.1
      · intro h' es' ep' t' a1 a2 a3 a4 a5 a6
        exact wpAny_pure (wpAny_pure ⟨_, rfl, h2 hno h' es' ep' t' a1 a2 (a3.trans hperm) a4 a5 (a6.trans hrise.2)⟩)
    · refine wpAny_bind (wpAny_pure ?_)
      rw [if_pos rfl]
      refine add_tail (s := { s with toks := s.toks + 1 }) ?_ ho hb1' hfits hrise.1 ?_
      · intro b s₁ Q' hq; cases b <;> first | exact wpAny_pure hq | exact wpAny_rule hq
      · intro h' es' ep' t' a1 a2 a3 a4 a5 a6
        exact wpAny_pure (wpAny_pure ⟨_, rfl, h2 hno h' es' ep' t' a1 a2 (a3.trans hperm) a4 a5 (a6.trans hrise.2)⟩)
end
end Mine.Srt
end
section
open PySem PyProof.Rows
set_option maxRecDepth 100000
set_option maxHeartbeats 4000000
namespace Mine.Srt
theorem entry_set_iter : entryFor table "set.__iter__" = some Builtin.«frozenset.__iter__» := entryFor_alias (id' := "frozenset.__iter__") (by kernel_rfl) rfl (by decide +kernel) (by kernel_rfl)
theorem slot_setiter_next : Slot "set_iterator" "__next__" "set_iterator.__next__" :=
  .of (owner := "set_iterator") (n := "__next__") (by rw [typeLookup_type, builtinLookup_eq_fast]; kernel_rfl) (by decide +kernel) (by decide +kernel) (by decide +kernel)
    (by first | exact .inl (by decide +kernel) | exact .inr (by decide +kernel)) (by rw [isSubtype_type]; kernel_rfl)
theorem entry_setiter_next : entryFor table "set_iterator.__next__" = some Builtin.«set_iterator.__next__» := entryFor_of_fast (by kernel_rfl)
theorem args_setiter_next (a : Value) : argsOk "set_iterator.__next__" ⟨[a], []⟩ := by unfold argsOk; kernel_rfl
theorem erase_perm {α : Type} {xs : List α} {i : Nat} (h : i < xs.length) : (xs[i] :: xs.eraseIdx i).Perm xs := by
  rw [List.eraseIdx_eq_take_drop_succ]
  have e : xs = xs.take i ++ xs[i] :: xs.drop (i + 1) := by
    rw [← List.drop_eq_getElem_cons h, List.take_append_drop]
  conv => rhs; rw [e]
  exact List.perm_middle.symm
theorem pick_perm {α : Type} {next : Nat → Nat} : ∀ (fuel k : Nat) (left : List α) (out : Array α), fuel = left.length → (pickOrder.go next fuel k left out).toList.Perm (out.toList ++ left)
  | 0, k, left, out, h => by
    have : left = [] := List.length_eq_zero_iff.mp h.symm
    subst this
    simp [pickOrder.go]
  | fuel + 1, k, left, out, h => by
    unfold pickOrder.go
    have hlt : next k % left.length < left.length := Nat.mod_lt _ (by exact aL 0x10110b110f2102 h)
    rw [List.getElem?_eq_getElem hlt]
    dsimp only
    refine (pick_perm fuel (k + 1) _ _ (by rw [List.length_eraseIdx_of_lt hlt]; exact aL 0x101101010111000111010112021b12b10f2203 h (aS _ _))).trans ?_
    rw [Array.toList_push, List.append_assoc]
    refine List.Perm.append_left _ ?_
    exact (erase_perm hlt)
theorem pickOrder_perm {α : Type} (next : Nat → Nat) (xs : Array α) : (pickOrder next xs).toList.Perm xs.toList := by
  have := pick_perm (next := next) xs.size 0 xs.toList #[] (by simp)
  rw [show (#[] : Array α).toList ++ xs.toList = xs.toList from rfl] at this
  exact this
section
variable {prog : Program} {w : World} {A : Around} {E : Value → Shared → Prop} {s : Shared}
theorem wpAny_choose {src : Source} {n : Nat} {Q : Nat → Shared → Prop} (hn : n ≠ 0) (h : ∀ i d, i < n → Q i { s with drawn := d }) : wpAny (model prog w) A (choose src n) Q E s :=
  fun _ _ _ => ⟨hn, h _ _ (Nat.mod_lt _ (Nat.pos_of_ne_zero hn))⟩
theorem wpAny_drawOrder {α : Type} : ∀ {n : Nat} {xs : List α} {s : Shared} {Q : List α → Shared → Prop}, xs.length = n → (∀ ys d, ys.Perm xs → Q ys { s with drawn := d }) → wpAny (model prog w) A (drawOrder n xs) Q E s
  | 0, xs, s, Q, hl, h => by
    have : xs = [] := List.length_eq_zero_iff.mp hl
    subst this
    exact wpAny_pure (h [] s.drawn (.refl _))
  | n + 1, [], s, Q, hl, h => by simp at hl
  | n + 1, x :: xs, s, Q, hl, h => by
    unfold drawOrder
    refine wpAny_bind (wpAny_choose (by simp) fun i d hi => ?_)
    rw [List.getElem?_eq_getElem hi]
    dsimp only
    refine wpAny_bind (wpAny_drawOrder (by rw [List.length_eraseIdx_of_lt hi]; simp at hl ⊢; exact aL 0x1011101102102102 hl) fun ys d' hp => wpAny_pure ?_)
    exact h _ d' ((List.Perm.cons _ hp).trans (erase_perm hi))
noncomputable def Mode (P : Params) (h : Heap) (a : Addr) (es : Array (Int × Value)) (ep : Nat) (t : SetTable) (k : Nat) (first : Value) (ord : List Value) (own : List Addr) : Prop :=
  (P.followText "set-order" = true ∧ first = .int 0 0 ∧ ord = (pickOrder (P.setOrder a ep) es).toList.map (·.2) ∧ own = []) ∨
  (P.followText "set-order" = false ∧ (!t.plain && decide (es.size > 1)) = false ∧ first = .int (((if k = 0 then 0 else t.place.getD (k - 1) 0 + 1 : Nat)) : Int) 0 ∧ ord = es.toList.map (·.2) ∧ own = []) ∨
  (P.followText "set-order" = false ∧ ∃ (tp : Addr) (places : List Nat), first = .ref tp ∧ own = [tp] ∧ h.IsTuple tp ((places.map fun i : Nat => Value.int i 0).toArray) ∧ ord = places.map (fun i => (es.getD i (0, .none)).2) ∧ places.Perm (List.range es.size))
structure SetIt (P : Params) (h : Heap) (it a : Addr) (es : Array (Int × Value)) (ep : Nat) (t : SetTable) (k : Nat) (ord : List Value) (own : List Addr) : Prop where
  ob : ∃ first, h.get? it = some { cls := .type "set_iterator", data := .fields #[first, .int k 0, .ref a, .int es.size 0, .int ep 0] } ∧ Mode P h a es ep t k first ord own
theorem wpAny_setsByText {Q : Bool → Shared → Prop} (h : Q (w.params.followText "set-order") s) : wpAny (model prog w) A setsByText Q E s := by
  unfold setsByText
  exact wpAny_bind (wpAny_askSetting (wpAny_pure h))
theorem iter_set {a : Addr} {es : Array (Int × Value)} {ep : Nat} {t : SetTable} {Q : Value → Shared → Prop} (ho : s.heap.get? a = some (setObj es ep t)) (hf : t.fits es.size = true) (hb : es.size < scanBound)
    (h : ∀ it h' d ord own, (∀ b o, s.heap.get? b = some o → h'.get? b = some o) → (∀ b ∈ it :: own, s.heap.objs.size ≤ b) → it ∉ own → SetIt w.params h' it a es ep t 0 ord own → ord.Perm (es.toList.map (·.2)) → Q (.ref it) { s with heap := h', drawn := d }) :
    wpAny (model prog w) A (pyIter (.ref a)) Q E s := by
  have hT : s.TypeIs (.ref a) "set" := ⟨_, ho, rfl⟩
  refine wpAny_pyIter_slot hT F.slot_set_iter (wpAny_call_entry F.slot_set_iter hT entry_set_iter ?_ (F.args_set_iter_1 _))
  unfold Builtin.«frozenset.__iter__» Builtin.Frozenset.slot0 slotArgs
  simp only [List.isEmpty_nil, Bool.not_true, Bool.false_eq_true, ↓reduceIte, bind_assoc, List.length_nil, bne_self_eq_false]
  unfold Builtin.Frozenset.addrOf Builtin.Frozenset.sizeOf
  refine wpAny_bind (wpAny_pure ?_)
  try dsimp only
  refine wpAny_bind (wpAny_pure ?_)
  refine wpAny_bind (wpAny_bind (wpAny_setEntries_of ho rfl hf (wpAny_pure ?_)))
  unfold setDrawn
  refine wpAny_bind (wpAny_bind (wpAny_setState_of ho rfl hf ?_))
  dsimp only
  refine wpAny_bind (wpAny_setsByText ?_)
  refine wpAny_pure ?_
  have plainCase : (w.params.followText "set-order" = true ∨ (w.params.followText "set-order" = false ∧ (!t.plain && decide (es.size > 1)) = false)) →
      wpAny (model prog w) A.in1 (do
        let first ← pure (rawInt 0)
        let n ← setEpoch a
        let r ← newFields "set_iterator" [first, rawInt 0, Value.ref a, rawInt ↑es.size, rawInt ↑n]
        ret r) (fun fin s' => ∃ v, fin = Fin.done (Flow.ret v) ∧ ∃ T' r, s'.TypeIs v T' ∧ typeLookup (Value.type T') (Str.ofString "__next__") = pure (some r) ∧ Q v s') E s := by
    intro hm
    refine wpAny_bind (wpAny_pure ?_)
    refine wpAny_bind (wpAny_setEpoch_of ho rfl hf ?_)
    refine wpAny_bind (wpAny_newObj_type (wpAny_pure ⟨_, rfl, "set_iterator", _, ⟨_, Heap.get?_push_size _ rfl, rfl⟩, slot_setiter_next.lookup, ?_⟩))
    have key : ∀ ord, Mode w.params (s.heap.push { cls := .type "set_iterator", data := .fields #[.int 0 0, .int 0 0, .ref a, .int es.size 0, .int ep 0] }) a es ep t 0 (.int 0 0) ord [] → ord.Perm (es.toList.map (·.2)) →
        Q (.ref s.heap.objs.size) { s with heap := s.heap.push { cls := .type "set_iterator", data := .fields #[.int 0 0, .int 0 0, .ref a, .int es.size 0, .int ep 0] } } := fun ord hm hp =>
      h s.heap.objs.size _ s.drawn ord [] (fun b o g => Heap.get?_push_of_some _ g) (fun b hb => by rw [List.mem_singleton.mp hb]; exact Nat.le_refl _) (by simp) ⟨_, Heap.get?_push_size _ rfl, hm⟩ hp
    rcases hm with hm | ⟨hm, hm2⟩
    · exact key _ (.inl ⟨hm, rfl, rfl, rfl⟩) ((pickOrder_perm _ es).map _)
    · exact key _ (.inr (.inl ⟨hm, hm2, rfl, rfl, rfl⟩)) (.refl _)
  split
  · rename_i hc
    rw [Bool.and_eq_true, Bool.not_eq_true'] at hc
    refine wpAny_bind (wpAny_drawOrder (by simp) fun ys d hp => ?_)
    have e4 : scanBound = 4096 := rfl
    refine wpAny_bind (wpAny_newTuple ?_ (by rw [List.length_map, hp.length_eq, List.length_range, sizeLine_eq]; exact aL 0x1101188888888b0018888b12101202 hb e4))
    have ho2 : (s.heap.push { cls := .type "tuple", data := .seq (ys.map fun i : Nat => rawInt i).toArray }).get? a = some (setObj es ep t) := Heap.get?_push_of_some _ ho
    refine wpAny_bind (wpAny_setEpoch_of ho2 rfl hf ?_)
    refine wpAny_bind (wpAny_newObj_type (wpAny_pure ⟨_, rfl, "set_iterator", _, ⟨_, Heap.get?_push_size _ rfl, rfl⟩, slot_setiter_next.lookup, ?_⟩))
    have sz : (s.heap.push { cls := .type "tuple", data := .seq (ys.map fun i : Nat => rawInt i).toArray }).objs.size = s.heap.objs.size + 1 := size_push' _ _
    refine h _ _ d _ [s.heap.objs.size] (fun b o g => Heap.get?_push_of_some _ (Heap.get?_push_of_some _ g)) (fun b hb => ?_) ?_ ⟨_, Heap.get?_push_size _ rfl, .inr (.inr ⟨hc.1, s.heap.objs.size, ys, rfl, rfl, ?_, rfl, hp⟩)⟩ ?_
    · rcases List.mem_cons.mp hb with rfl | hb
      · rw [sz]; exact aL 0x10f00001
      · rw [List.mem_singleton.mp hb]; exact Nat.le_refl _
    · rw [sz]; simp
    · exact ⟨_, Heap.get?_push_of_some _ (Heap.get?_push_size _ rfl), rfl, 0, rfl⟩
    · refine (hp.map _).trans ?_
      rw [show (es.toList.map (·.2)) = (List.range es.size).map fun i => (es.getD i (0, Value.none)).2 from ?_]
      apply List.ext_getElem
      · simp
      · intro i h1 h2
        simp at h1
        simp [Array.getD, h1]
  · rename_i hc
    refine plainCase ?_
    cases hq : w.params.followText "set-order" with
    | true => exact .inl rfl
    | false =>
      refine .inr ⟨rfl, ?_⟩
      rw [hq] at hc
      replace hc : ¬ ((!false && (!t.plain && decide (es.size > 1))) = true) := hc
      simpa using hc
end
end Mine.Srt
end
section
open PySem PyProof.Rows
set_option maxRecDepth 100000
set_option maxHeartbeats 4000000
namespace Mine.Srt
section
variable {prog : Program} {w : World} {A : Around} {E : Value → Shared → Prop} {s : Shared}
theorem set_field {it : Addr} {i : Nat} {x : Value} {xs : Array Value} {Q : Unit → Shared → Prop} (hg : s.heap.get? it = some { cls := .type "set_iterator", data := .fields xs }) (hi : i < xs.size)
    (h : ∀ h', Heap.SameBut it s.heap h' → h'.get? it = some { cls := .type "set_iterator", data := .fields (xs.setIfInBounds i x) } → Q () { s with heap := h' }) : wpAny (model prog w) A (setField (.ref it) i x) Q E s := by
  refine wpAny_setField hg rfl hi (h _ (Heap.SameBut.update ..) ?_)
  have := Heap.get?_update_self (Obj.mapFields fun xs => xs.setIfInBounds i x) hg (Obj.isFreed_of_fields (Obj.data_mapFields rfl _))
  rw [this]
  rfl
theorem next_set {it a : Addr} {es : Array (Int × Value)} {ep : Nat} {t : SetTable} {k : Nat} {ord : List Value} {own : List Addr} {Q : Option Value → Shared → Prop} (hi : SetIt w.params s.heap it a es ep t k ord own)
    (ho : s.heap.get? a = some (setObj es ep t)) (hf : t.fits es.size = true) (hr : Rise t.place) (hl : t.led = true ∨ w.params.followText "set-order" = true) (hk : k < es.size) (hn : it ∉ own)
    (h : ∀ h' v, ord[k]? = some v → Heap.SameBut it s.heap h' → SetIt w.params h' it a es ep t (k + 1) ord own → Q (some v) { s with heap := h' }) :
    wpAny (model prog w) A (pyNext (.ref it)) Q E s := by
  obtain ⟨first, hg, hm⟩ := hi
  have hT : s.TypeIs (.ref it) "set_iterator" := ⟨_, hg, rfl⟩
  unfold pyNext
  refine wpAny_bind (wpAny_attempt (wpAny_callSpecial?_slot (name := Str.ofString "__next__") hT slot_setiter_next
    (wpAny_call_entry slot_setiter_next hT entry_setiter_next ?_ (args_setiter_next _))))
  unfold Builtin.«set_iterator.__next__»
  refine wpAny_bind (wpAny_of_eq (a := (Value.ref it, [])) rfl ?_)
  dsimp only
  unfold fieldsOf
  refine wpAny_bind (wpAny_bind (wpAny_load hg (wpAny_pure ?_)))
  dsimp only
  refine wpAny_bind (wpAny_setEntries_of ho rfl hf ?_)
  rw [if_neg (by simp)]
  have tail : ∀ (y : Int) (v : Value), ord[k]? = some v → (∀ h', Heap.SameBut it s.heap h' → Mode w.params h' a es ep t (k + 1) (.int y 0) ord own) →
      wpAny (model prog w) A.in1 (do
        setField (Value.ref it) 0 (rawInt y)
        setField (Value.ref it) 1 (rawInt (↑k + 1))
        ret v) (fun fin s' => ∃ v, fin = Fin.done (Flow.ret v) ∧ wpAny (model prog w) A (pure (some v)) Q E s')
        (fun e s' => wpAny (model prog w) A (do
          let b ← isInstance e (Value.type "StopIteration")
          if b = true then pure none else throw e) Q E s') s := by
    intro y v hv hm'
    refine wpAny_bind (set_field hg (by simp) fun h1 hs1 g1 => ?_)
    refine wpAny_bind (set_field (s := { s with heap := h1 }) g1 (by simp) fun h2 hs2 g2 => ?_)
    refine wpAny_pure ⟨v, rfl, wpAny_pure (h h2 v hv (hs1.trans hs2) ⟨.int y 0, ?_, hm' h2 (hs1.trans hs2)⟩)⟩
    rw [g2]
    simp [rawInt]
  rcases hm with ⟨m1, rfl, m3, rfl⟩ | ⟨m1, m2, rfl, m4, rfl⟩ | ⟨m1, tp, places, rfl, rfl, m2, m3, m4⟩
  · dsimp only
    have hz : (pickOrder (w.params.setOrder a ep) es).size = es.size := by rw [← Array.length_toList, (pickOrder_perm _ es).length_eq, Array.length_toList]
    have e1 : (pickOrder ((model prog w).w.params.setOrder a ep) es)[k]? = some (pickOrder (w.params.setOrder a ep) es)[k] := getElem?_pos _ k (by show k < (pickOrder (w.params.setOrder a ep) es).size; exact oI (aL 0x1110201122101203 hk hz))
    unfold setNext
    refine wpAny_bind (wpAny_bind (wpAny_setState_of ho rfl hf ?_))
    dsimp only
    refine wpAny_bind (wpAny_setsByText ?_)
    rw [m1]
    rw [if_pos rfl]
    rw [if_neg (by simp)]
    unfold setWalk
    refine wpAny_bind (wpAny_bind (wpAny_setState_of ho rfl hf ?_))
    dsimp only
    refine wpAny_bind (wpAny_setsByText ?_)
    rw [m1]
    rw [if_pos rfl]
    refine wpAny_bind (wpAny_askSetting (wpAny_pure ?_))
    simp only [Int.toNat_natCast]
    refine wpAny_pure ?_
    rw [e1]
    simp only [Option.map_some]
    refine tail 0 _ ?_ (fun h' _ => .inl ⟨m1, rfl, m3, rfl⟩)
    subst m3
    rw [List.getElem?_map, Array.getElem?_toList]
    rw [show (pickOrder (w.params.setOrder a ep) es)[k]? = some (pickOrder (w.params.setOrder a ep) es)[k] from e1]
    rfl
  · dsimp only
    have hps : t.place.size = es.size := by simp [SetTable.fits] at hf; exact hf.1
    have hbl : SetTable.below t.place (if k = 0 then 0 else t.place.getD (k - 1) 0 + 1) = k := by
      by_cases k0 : k = 0
      · rw [if_pos k0]
        obtain ⟨b1, b2, b3⟩ := below_ok hr 0
        by_cases q : SetTable.below t.place 0 = 0
        · rw [q, k0]
        · have := b1 0 (by exact aL 0x1101100b10b029101 q); exact aL 0x10112120b01103 this
      · rw [if_neg k0]
        obtain ⟨b1, b2, b3⟩ := below_ok hr (t.place.getD (k - 1) 0 + 1)
        have mono : t.place.getD (k - 1) 0 < t.place.getD k 0 := by
          have := List.pairwise_iff_getElem.mp hr (k - 1) k (by simp; exact oI (aL 0x1101103012322111b10c304 (aS _ _) hk hps)) (by simp; exact oI (aL 0x1110201122101203 hk hps)) (by exact aL 0x101100011110011010b1291b10b202 (aS _ _) k0)
          rw [getD_eq (by exact oI (aL 0x1101103012322111b10c304 (aS _ _) hk hps)), getD_eq (by exact oI (aL 0x1110201122101203 hk hps))]
          simpa using this
        by_cases q : SetTable.below t.place (t.place.getD (k - 1) 0 + 1) < k
        · have := b2 (k - 1) (by exact aL 0x10110201211b10c203 (aS _ _) q) (by exact oI (aL 0x1101103012322111b10c304 (aS _ _) hk hps)); exact aL 0x101121200f0103 this
        · by_cases q2 : k < SetTable.below t.place (t.place.getD (k - 1) 0 + 1)
          · have := b1 k q2; exact aL 0x1101113220f11101204 mono this
          · exact aL 0x101110110201191019202 q q2
    generalize hslot : (if k = 0 then 0 else t.place.getD (k - 1) 0 + 1) = slot at *
    have hled : t.led = true := hl.resolve_right (by rw [m1]; simp)
    unfold setNext
    refine wpAny_bind (wpAny_bind (wpAny_setState_of ho rfl hf ?_))
    dsimp only
    refine wpAny_bind (wpAny_setsByText ?_)
    rw [m1]
    rw [if_neg (by decide)]
    split
    · rename_i hc
      replace hc : (!t.plain && decide (es.size > 1)) = true := hc
      rw [m2] at hc; cases hc
    refine wpAny_bind (m := if (!t.led && !es.isEmpty) = true then unsupported _ else pure ()) ?_
    rw [hled]
    rw [if_neg (by simp)]
    refine wpAny_pure ?_
    refine wpAny_pure ?_
    dsimp only [Int.toNat_natCast]
    rw [hbl]
    have e1 : es[k]? = some es[k] := getElem?_pos _ k hk
    have e2 : t.place[k]? = some t.place[k] := getElem?_pos _ k (by exact oI (aL 0x1110201122101203 hk hps))
    rw [e1, e2]
    dsimp only
    refine tail _ _ ?_ (fun h' _ => .inr (.inl ⟨m1, m2, ?_, m4, rfl⟩))
    · subst m4
      rw [List.getElem?_map, Array.getElem?_toList, e1]; rfl
    · rw [if_neg (by exact aL 0x10b0f29001), Nat.add_sub_cancel, getD_eq (by exact oI (aL 0x1110201122101203 hk hps))]
  · dsimp only
    obtain ⟨o, hot, hc, n, hd⟩ := m2
    have hlen : places.length = es.size := by rw [m4.length_eq, List.length_range]
    have hk' : k < places.length := by exact aL 0x1110201122101203 hk hlen
    refine wpAny_bind (wpAny_seqItems hot hd ?_)
    dsimp only
    rw [Int.toNat_natCast, List.getElem?_toArray, List.getElem?_map]
    rw [List.getElem?_eq_getElem hk']
    simp only [Option.map_some]
    have hp : places[k] < es.size := List.mem_range.mp (m4.mem_iff.mp (List.getElem_mem hk'))
    unfold setNextDrawn
    refine wpAny_bind (wpAny_bind (wpAny_setState_of ho rfl hf ?_))
    dsimp only
    rw [if_neg (by simp)]
    dsimp only [Int.toNat_natCast]
    rw [getElem?_pos es places[k] hp]
    refine wpAny_pure ?_
    refine wpAny_bind (set_field hg (by simp) fun h1 hs1 g1 => ?_)
    have hne : tp ≠ it := fun e => hn (by rw [e]; exact .head _)
    refine wpAny_pure ⟨_, rfl, wpAny_pure (h h1 _ ?_ hs1 ⟨.ref tp, ?_, .inr (.inr ⟨m1, tp, places, rfl, rfl, ⟨o, by rw [hs1.2 tp hne]; exact hot, hc, n, hd⟩, m3, m4⟩)⟩)⟩
    · subst m3
      rw [List.getElem?_map, List.getElem?_eq_getElem hk']
      simp [Array.getD, hp]
    · rw [g1]
      simp [rawInt]
end
end Mine.Srt
end
section
open PySem PyProof.Rows
set_option maxRecDepth 100000
set_option maxHeartbeats 4000000
namespace Mine.Srt
section
variable {prog : Program} {w : World} {A : Around} {E : Value → Shared → Prop} {s : Shared}
theorem stop_tail {Q : Option Value → Shared → Prop} {it : Addr} (hh : A.handled = none) (h : ∀ h', (∀ b o, b ≠ it → s.heap.get? b = some o → h'.get? b = some o) → Q none { s with heap := h' }) :
    wpAny (model prog w) A.in1 (do
        let e ← newExc (Value.type "StopIteration") []
        raiseNew e) (fun fin s' => ∃ v, fin = Fin.done (Flow.ret v) ∧ wpAny (model prog w) A (pure (some v)) Q E s')
        (fun e s' => wpAny (model prog w) A (do
          let b ← isInstance e (Value.type "StopIteration")
          if b = true then pure none else throw e) Q E s') s := by
  refine wpAny_bind ?_
  simp only [newExc, newTuple]
  refine wpAny_bind (wpAny_newObj_type ?_ (by size_fits))
  refine wpAny_bind (m := firstArgMember _ _) (wpAny_of_eq (a := Value.none) (by first | rfl | (simp only [firstArgMember]; rfl)) ?_)
  refine wpAny_newObj_type ?_ (by size_fits)
  dsimp only [raiseNew]
  refine wpAny_bind (wpAny_handled ?_)
  rw [show A.in1.handled = none from hh]
  refine wpAny_bind (wpAny_pure (wpAny_throw ?_))
  refine wpAny_bind (wpAny_isInstance (T := "StopIteration") (b := true) ⟨_, Heap.get?_push_size _ rfl, rfl⟩ isSubtype_stop ?_)
  exact wpAny_pure (h _ fun b o _ g => Heap.get?_push_of_some _ (Heap.get?_push_of_some _ g))
theorem stop_set {it a : Addr} {es : Array (Int × Value)} {ep : Nat} {t : SetTable} {ord : List Value} {own : List Addr} {Q : Option Value → Shared → Prop} (hh : A.handled = none) (hi : SetIt w.params s.heap it a es ep t es.size ord own)
    (ho : s.heap.get? a = some (setObj es ep t)) (hf : t.fits es.size = true) (hr : Rise t.place) (hl : t.led = true ∨ w.params.followText "set-order" = true)
    (h : ∀ h', (∀ b o, b ≠ it → s.heap.get? b = some o → h'.get? b = some o) → Q none { s with heap := h' }) :
    wpAny (model prog w) A (pyNext (.ref it)) Q E s := by
  obtain ⟨first, hg, hm⟩ := hi
  have hT : s.TypeIs (.ref it) "set_iterator" := ⟨_, hg, rfl⟩
  unfold pyNext
  refine wpAny_bind (wpAny_attempt (wpAny_callSpecial?_slot (name := Str.ofString "__next__") hT slot_setiter_next
    (wpAny_call_entry slot_setiter_next hT entry_setiter_next ?_ (args_setiter_next _))))
  unfold Builtin.«set_iterator.__next__»
  refine wpAny_bind (wpAny_of_eq (a := (Value.ref it, [])) rfl ?_)
  dsimp only
  unfold fieldsOf
  refine wpAny_bind (wpAny_bind (wpAny_load hg (wpAny_pure ?_)))
  dsimp only
  refine wpAny_bind (wpAny_setEntries_of ho rfl hf ?_)
  rw [if_neg (by simp)]
  have tail : wpAny (model prog w) A.in1 (do
        setField (Value.ref it) 2 Value.none
        let e ← newExc (Value.type "StopIteration") []
        raiseNew e) (fun fin s' => ∃ v, fin = Fin.done (Flow.ret v) ∧ wpAny (model prog w) A (pure (some v)) Q E s')
        (fun e s' => wpAny (model prog w) A (do
          let b ← isInstance e (Value.type "StopIteration")
          if b = true then pure none else throw e) Q E s') s := by
    refine wpAny_bind (set_field hg (by simp) fun h1 hs1 g1 => ?_)
    exact stop_tail (s := { s with heap := h1 }) (it := it) hh fun h' hk => h h' fun b o hb g => hk b o hb (by show h1.get? b = _; rw [hs1.2 b hb]; exact g)
  rcases hm with ⟨m1, rfl, m3, rfl⟩ | ⟨m1, m2, rfl, m4, rfl⟩ | ⟨m1, tp, places, rfl, rfl, m2, m3, m4⟩
  · dsimp only
    have hz : (pickOrder (w.params.setOrder a ep) es).size = es.size := by rw [← Array.length_toList, (pickOrder_perm _ es).length_eq, Array.length_toList]
    have e1 : (pickOrder ((model prog w).w.params.setOrder a ep) es)[es.size]? = none := getElem?_neg _ _ (by show ¬ es.size < (pickOrder (w.params.setOrder a ep) es).size; exact aL 0x1010119102102 hz)
    unfold setNext
    refine wpAny_bind (wpAny_bind (wpAny_setState_of ho rfl hf ?_))
    dsimp only
    refine wpAny_bind (wpAny_setsByText ?_)
    rw [m1]
    rw [if_pos rfl]
    rw [if_neg (by simp)]
    unfold setWalk
    refine wpAny_bind (wpAny_bind (wpAny_setState_of ho rfl hf ?_))
    dsimp only
    refine wpAny_bind (wpAny_setsByText ?_)
    rw [m1]
    rw [if_pos rfl]
    refine wpAny_bind (wpAny_askSetting (wpAny_pure ?_))
    simp only [Int.toNat_natCast]
    refine wpAny_pure ?_
    rw [e1]
    exact tail
  · dsimp only
    have hps : t.place.size = es.size := by simp [SetTable.fits] at hf; exact hf.1
    generalize hslot : (if es.size = 0 then 0 else t.place.getD (es.size - 1) 0 + 1) = slot at *
    have hbl : es.size ≤ SetTable.below t.place slot := by
      obtain ⟨b1, b2, b3⟩ := below_ok hr slot
      by_cases k0 : es.size = 0
      · exact aL 0x1011000b02102 k0
      · rw [if_neg k0] at hslot
        by_cases q : SetTable.below t.place slot < es.size
        · have := b2 (es.size - 1) (by exact aL 0x10110201211b10c203 (aS _ _) q) (by exact oI (aL 0x11010111001010311b13b121102304 hps q (aS _ _))); exact aL 0x1132001010f2204 hslot this
        · exact aL 0x110101019102 q
    unfold setNext
    refine wpAny_bind (wpAny_bind (wpAny_setState_of ho rfl hf ?_))
    dsimp only
    refine wpAny_bind (wpAny_setsByText ?_)
    rw [m1]
    rw [if_neg (by decide)]
    split
    · rename_i hc
      replace hc : (!t.plain && decide (es.size > 1)) = true := hc
      rw [m2] at hc; cases hc
    have hled : t.led = true := hl.resolve_right (by rw [m1]; simp)
    refine wpAny_bind (m := if (!t.led && !es.isEmpty) = true then unsupported _ else pure ()) ?_
    rw [hled]
    rw [if_neg (by simp)]
    refine wpAny_pure ?_
    refine wpAny_pure ?_
    dsimp only [Int.toNat_natCast]
    have e1 : es[SetTable.below t.place slot]? = none := getElem?_neg _ _ (by exact aL 0x110119100102 hbl)
    rw [e1]
    exact tail
  · dsimp only
    obtain ⟨o, hot, hc, n, hd⟩ := m2
    have hlen : places.length = es.size := by rw [m4.length_eq, List.length_range]
    refine wpAny_bind (wpAny_seqItems hot hd ?_)
    dsimp only
    rw [Int.toNat_natCast, List.getElem?_toArray, List.getElem?_map]
    rw [List.getElem?_eq_none (by exact aL 0x101100102102 hlen)]
    simp only [Option.map_none]
    refine wpAny_bind (set_field hg (by simp) fun h1 hs1 g1 => ?_)
    refine wpAny_bind (set_field (s := { s with heap := h1 }) g1 (by simp) fun h2 hs2 g2 => ?_)
    exact stop_tail (s := { s with heap := h2 }) (it := it) hh fun h' hk => h h' fun b o hb g => hk b o hb (by show h2.get? b = _; rw [(hs1.trans hs2).2 b hb]; exact g)
end
end Mine.Srt
end
section
open PySem PyProof.Rows
set_option maxRecDepth 100000
set_option maxHeartbeats 4000000
namespace Mine.Srt
section
variable {prog : Program} {w : World} {A : Around} {E : Value → Shared → Prop} {s : Shared}
/-- a new set, its table led unless the order is given by text -/
noncomputable abbrev bornSet (w : World) : Obj := { cls := .type "set", dict := none, data := .set #[] 0 (.fresh 0 0 (!w.params.followText "set-order")) }
theorem set_made {Q₁ : Value → Shared → Prop} (h : Q₁ (.ref s.heap.objs.size) { s with heap := s.heap.push (bornSet w) }) :
    codeAny (model prog w) A (.call (.builtin "set.__new__") ⟨[.type "set"], []⟩) (wants Q₁ E) s := by
  refine codeAny_of_tree ?_
  show wpAny _ A.in1 (do checkBuiltinCall "set.__new__" ⟨[.type "set"], []⟩; again (.builtin "set.__new__" ⟨[.type "set"], []⟩)) _ _ s
  refine wpAny_bind (wpAny_of_eq F.newCall_set_0 (wpAny_pure ⟨plainId_quiet F.plain_set_new _, codeAny_builtin F.entry_set_new ?_⟩))
  rw [Around.under_plainId F.plain_set_new _]
  unfold Builtin.«set.__new__» Builtin.Frozenset.newClass
  have hsub := sub_set_self
  obtain ⟨hp, g, d, tk, os⟩ := s
  dsimp only
  wp_walk
  refine wpAny_askSetting (wpAny_pure ?_)
  dsimp only
  simp only [newObj]
  exact wpAny_bind (wpAny_alloc (wpAny_pure (wpAny_pure h)))
theorem call_born {Q : Value → Shared → Prop} (h : Q (.ref s.heap.objs.size) { s with heap := s.heap.push (bornSet w) }) : wpAny (model prog w) A (call (.type "set") []) Q E s := by
  obtain ⟨c, tl, hmro⟩ := F.called_set.mro
  have hmade := F.called_set.made
  have hsub := F.called_set.sub
  refine wpAny_call (codeAny_of_tree ?_)
  show wpAny _ _ (callAny (.type "set") _) _ _ _
  refine wpAny_pure ⟨Code.quiet_builtin _ (by decide +kernel), codeAny_builtin F.entry_type_call ?_⟩
  rw [Around.under_plain (weight_type_call_type "set" [] []) rfl]
  have h1 := F.called_set.notType
  have h2 := F.called_set.canCreate
  have hct := F.typeCall_set_0
  repeat (any_goals (first | assumption | wp_step))
  refine codeAny_mono (set_made (E := E) (Q₁ := fun obj s₁ => obj = .ref s.heap.objs.size ∧ s₁ = { s with heap := s.heap.push (bornSet w) }) ⟨rfl, rfl⟩) fun r s₁ hr => ?_
  cases r with
  | error e => exact hr
  | ok fl =>
    cases fl with
    | ret obj =>
      obtain ⟨rfl, rfl⟩ := hr
      have hT : Shared.TypeIs { s with heap := s.heap.push (bornSet w) } (.ref s.heap.objs.size) "set" := ⟨_, Heap.get?_push_size _ rfl, rfl⟩
      have hli := F.called_set.init.lookup
      have hbi := F.called_set.init.bind (.ref s.heap.objs.size)
      repeat (any_goals (first | assumption | wp_step))
      refine codeAny_mono (codeAny_call_builtin (R := wants (fun r s₂ => r = .none ∧ Q (.ref s.heap.objs.size) s₂) E) F.called_set.init.plain F.entry_set_init (check_set_init hT ?_)) fun r₂ s₂ hr₂ => ?_
      · unfold Builtin.«set.__init__» noKeywords
        wp_walk
        exact ⟨rfl, h⟩
      · cases r₂ with
        | error e => exact hr₂
        | ok fl₂ =>
          cases fl₂ with
          | ret r =>
            obtain ⟨rfl, hq⟩ := hr₂
            repeat (any_goals (first | assumption | wp_step))
          | _ => exact hr₂.elim
    | _ => exact hr.elim
end
end Mine.Srt
end
section
open PySem PyProof.Rows
set_option maxRecDepth 100000
set_option maxHeartbeats 4000000
namespace Mine.Srt
section
variable {prog : Program} {w : World} {A : Around} {E : Value → Shared → Prop} {s : Shared}
noncomputable abbrev lstObj (xs : Array Value) (n : Nat) : Obj := { cls := .type "list", data := .seq xs n }
/-- the loop that puts a set's elements into a list -/
theorem loop_set {it a L : Addr} {es : Array (Int × Value)} {ep : Nat} {t : SetTable} {ord : List Value} {own : List Addr} {R : Result → Shared → Prop} (hh : A.handled = none)
    (hf : t.fits es.size = true) (hr : Rise t.place) (hl : t.led = true ∨ w.params.followText "set-order" = true) (hn : it ∉ own) (hLi : L ≠ it) (hLo : L ∉ own) (hLa : L ≠ a) (hia : it ≠ a)
    (hord : ord.length = es.size) (hz : es.size < 4096) (res : Value) : ∀ (j k : Nat) (s : Shared) (n : Nat), j + k = es.size → s.heap.get? a = some (setObj es ep t) → SetIt w.params s.heap it a es ep t k ord own →
    s.heap.get? L = some (lstObj (ord.take k).toArray n) →
    (∀ h' n', (∀ b o, b ≠ L → b ≠ it → s.heap.get? b = some o → h'.get? b = some o) → h'.get? L = some (lstObj ord.toArray n') → R (.ok (.ret res)) { s with heap := h' }) →
    codeAny (model prog w) A (.builtin "list.extend.loop" ⟨[.ref L, .ref it, res], []⟩) R s
  | 0, k, s, n, hj, ho, hi, hg, h => by
    have e : k = es.size := by exact aL 0x1011101102100bc2102 hj
    subst e
    refine codeAny_builtin F.entry_extend_loop ?_
    rw [Around.under_plainId F.plain_extend_loop _]
    show wpAny _ A.in1 (pyNext (.ref it) >>= _) _ _ s
    refine wpAny_bind (stop_set (A := A.in1) hh hi ho hf hr hl fun h' hk => ?_)
    refine wpAny_pure (h h' n (fun b o _ hb g => hk b o hb g) ?_)
    rw [hk L _ hLi hg, List.take_of_length_le (by exact aL 0x101100102102 hord)]
  | j + 1, k, s, n, hj, ho, hi, hg, h => by
    refine codeAny_builtin F.entry_extend_loop ?_
    rw [Around.under_plainId F.plain_extend_loop _]
    show wpAny _ A.in1 (pyNext (.ref it) >>= _) _ _ s
    refine wpAny_bind (next_set (A := A.in1) hi ho hf hr hl (by exact oI (aL 0x101211210fc2103 hj)) hn fun h1 v hv hs1 hi1 => ?_)
    have g1 : h1.get? L = some (lstObj (ord.take k).toArray n) := by rw [hs1.2 L hLi]; exact hg
    have o1 : h1.get? a = some (setObj es ep t) := by rw [hs1.2 a (Ne.symm hia)]; exact ho
    show wpAny _ A.in1 (updateSeq L (·.push v) >>= _) _ _ _
    refine wpAny_bind ?_
    have hk : k < ord.length := by exact aL 0x11001031132fc2102204 hord hj
    have szk : (ord.take k).toArray.size = k := by simp; exact aL 0x1001001011100011102221020071200206101303 hk (aN _ _) (aO _ _)
    refine wpAny_updateSeq (s := { s with heap := h1 }) g1 rfl (wpAny_pure ⟨plainId_quiet F.plain_extend_loop _, ?_⟩) (by rw [szk, sizeLine_eq]; exact aL 0x1101188888888b20021fc218888b01203 hz hj) (by show ((ord.take k).toArray.push v).size ≤ _; rw [Array.size_push, szk, sizeLine_eq]; exact aL 0x1101188888888bf2f0021fc218888b01203 hz hj)
    have oth : ∀ b o, b ≠ L → h1.get? b = some o → (h1.update L (Obj.mapSeq (·.push v))).get? b = some o := fun b o hb e => (Heap.get?_update_other _ _ (Ne.symm hb)).trans e
    have g2 := get?_update_seq (c := "list") g1 (·.push v)
    have ev : ord[k] = v := by rw [List.getElem?_eq_getElem hk] at hv; exact Option.some.inj hv
    have e2 : (ord.take k).toArray.push v = (ord.take (k + 1)).toArray := by
      rw [List.take_add_one, List.getElem?_eq_getElem hk, ev]; simp
    rw [e2] at g2
    refine loop_set hh hf hr hl hn hLi hLo hLa hia hord hz res j (k + 1) { s with heap := h1.update L (Obj.mapSeq (·.push v)) } _ (by exact aL 0x101110121f0c2210fc2103 hj) (oth _ _ (Ne.symm hLa) o1) ?_ g2 (fun h' n' hk' gL => ?_)
    · obtain ⟨first, q1, q2⟩ := hi1
      refine ⟨first, oth _ _ (Ne.symm hLi) q1, ?_⟩
      rcases q2 with q2 | q2 | ⟨m1, tp, places, e1, e3, ⟨o, z1, z2⟩, m3, m4⟩
      · exact .inl q2
      · exact .inr (.inl q2)
      · exact .inr (.inr ⟨m1, tp, places, e1, e3, ⟨o, oth _ _ (fun e => hLo (by rw [e3, e]; exact .head _)) z1, z2⟩, m3, m4⟩)
    · exact h h' n' (fun b o n1 n2 g => hk' b o n1 n2 (oth b o n1 (by rw [hs1.2 b n2]; exact g))) gL
end
end Mine.Srt
end
section
open PySem PyProof.Rows
set_option maxRecDepth 100000
set_option maxHeartbeats 4000000
namespace Mine.Srt
section
variable {prog : Program} {w : World} {A : Around} {E : Value → Shared → Prop} {s : Shared}
theorem collect_set {a : Addr} {es : Array (Int × Value)} {ep : Nat} {t : SetTable} {Q : List Value → Shared → Prop} (hh : A.handled = none) (ho : s.heap.get? a = some (setObj es ep t))
    (hf : t.fits es.size = true) (hr : Rise t.place) (hl : t.led = true ∨ w.params.followText "set-order" = true) (hz : es.size < 4096)
    (h : ∀ ord h' d, (∀ b o, s.heap.get? b = some o → h'.get? b = some o) → ord.Perm (es.toList.map (·.2)) → Q ord { s with heap := h', drawn := d }) : wpAny (model prog w) A (collect (.ref a)) Q E s := by
  unfold collect
  refine wpAny_bind (wpAny_runValue (codeAny_builtin F.entry_proto_collect ?_))
  rw [Around.under_plainId F.plain_proto_collect _]
  show wpAny _ A.in1 (newList [] >>= fun l => again (.builtin "list.__iadd__" ⟨[l, .ref a], []⟩)) _ _ s
  refine wpAny_bind (wpAny_newObj_type ?_)
  refine wpAny_pure ⟨plainId_quiet F.plain_list_iadd _, codeAny_builtin F.entry_list_iadd ?_⟩
  rw [Around.under_plainId F.plain_list_iadd _]
  have hS₁ : (s.heap.push (lstObj #[] 0)).get? s.heap.objs.size = some (lstObj #[] 0) := Heap.get?_push_size _ rfl
  have ho₁ : (s.heap.push (lstObj #[] 0)).get? a = some (setObj es ep t) := Heap.get?_push_of_some _ ho
  have hT : Shared.TypeIs { s with heap := s.heap.push (lstObj #[] 0) } (.ref a) "set" := ⟨_, ho₁, rfl⟩
  have hSa : s.heap.objs.size ≠ a := Ne.symm (Nat.ne_of_lt (Heap.lt_size ho))
  have sz1 : (s.heap.push (lstObj #[] 0)).objs.size = s.heap.objs.size + 1 := size_push' _ _
  show wpAny _ A.in1 (Builtin.List.listExtendWith (.ref s.heap.objs.size) (.ref a) (.ref s.heap.objs.size)) _ _ { s with heap := s.heap.push (lstObj #[] 0) }
  unfold Builtin.List.listExtendWith
  refine wpAny_bind (wpAny_typeOf hT ?_)
  have h1 : Builtin.List.listSameRef (.ref s.heap.objs.size) (.ref a) = false := by simp [Builtin.List.listSameRef, hSa]
  have h2 : (Value.type "set" == Value.type "list") = false := by decide
  have h3 : (Value.type "set" == Value.type "tuple") = false := by decide
  rw [if_neg (by rw [h1, h2, h3]; decide)]
  refine wpAny_bind (iter_set (s := { s with heap := s.heap.push (lstObj #[] 0) }) ho₁ hf hz fun it h₂ d ord own kp fr hn hi hp => ?_)
  have hT₂ : Shared.TypeIs { s with heap := h₂, drawn := d } (.ref a) "set" := ⟨_, kp _ _ ho₁, rfl⟩
  refine wpAny_bind (wpAny_holding ?_)
  unfold Builtin.List.listLengthHint
  refine wpAny_bind (wpAny_specialOf hT₂ F.slot_set_len.lookup ?_)
  have hsp : splitId "set.__len__" = some ("set", "__len__") := by kernel_rfl
  dsimp only
  rw [hsp]
  dsimp only
  refine wpAny_bind (wpAny_isInstance hT₂ sub_set_self ?_)
  rw [if_neg (by decide)]
  rw [if_pos (by kernel_rfl)]
  refine wpAny_bind (wpAny_typeOf hT₂ (wpAny_pure ?_))
  rw [if_pos (by kernel_rfl)]
  refine wpAny_bind (wpAny_rule ?_)
  have g2 : h₂.get? s.heap.objs.size = some (lstObj #[] 0) := kp _ _ hS₁
  refine wpAny_bind ?_
  show wpAny _ A.in1 (updateSeq s.heap.objs.size (·.push .none) >>= fun _ => updateSeq s.heap.objs.size (·.pop)) _ _ _
  refine wpAny_bind (wpAny_updateSeq (s := { s with heap := h₂, drawn := d }) g2 rfl ?_)
  have g3 := get?_update_seq (c := "list") g2 (·.push Value.none)
  refine wpAny_updateSeq g3 rfl ?_
  have g4 := get?_update_seq (c := "list") g3 (·.pop)
  have oth : ∀ b o, b ≠ s.heap.objs.size → h₂.get? b = some o →
      ((h₂.update s.heap.objs.size (Obj.mapSeq (·.push Value.none))).update s.heap.objs.size (Obj.mapSeq (·.pop))).get? b = some o :=
    fun b o hb e => (Heap.get?_update_other _ _ (Ne.symm hb)).trans ((Heap.get?_update_other _ _ (Ne.symm hb)).trans e)
  have frb : ∀ b ∈ it :: own, s.heap.objs.size + 1 ≤ b := fun b hb => by have := fr b hb; rwa [sz1] at this
  have n1 : s.heap.objs.size ≠ it := fun e => by have := frb it (.head _); exact aL 0x101d10f0102202 e this
  have n2 : s.heap.objs.size ∉ own := fun hm => by have := frb _ (.tail _ hm); exact aL 0x1d00f0101 this
  have n3 : it ≠ a := fun e => by have h5 := frb it (.head _); have h6 := Heap.lt_size ho; rw [e] at h5; exact Nat.lt_irrefl _ (Nat.lt_of_lt_of_le h6 (Nat.le_of_succ_le h5))
  have hlen : ord.length = es.size := by rw [hp.length_eq]; simp
  refine wpAny_pure ⟨plainId_quiet F.plain_extend_loop _, loop_set (A := A) hh hf hr hl hn n1 n2 hSa n3 hlen hz _ es.size 0 _ _ (by exact aL 0x11100b0c2001) (oth _ _ (Ne.symm hSa) (kp _ _ ho₁)) ?_ g4 (fun h' n' hk gL => ?_)⟩
  · obtain ⟨first, q1, q2⟩ := hi
    refine ⟨first, oth _ _ (Ne.symm n1) q1, ?_⟩
    rcases q2 with q2 | q2 | ⟨m1, tp, places, e1, e3, ⟨o, z1, z2⟩, m3, m4⟩
    · exact .inl q2
    · exact .inr (.inl q2)
    · exact .inr (.inr ⟨m1, tp, places, e1, e3, ⟨o, oth _ _ (fun e => n2 (by rw [e3, e]; exact .head _)) z1, z2⟩, m3, m4⟩)
  · show wpAny _ A (load s.heap.objs.size >>= _) _ _ _
    refine wpAny_bind (wpAny_load gL ?_)
    refine wpAny_pure ?_
    exact h ord h' d (fun b o g => hk b o (Nat.ne_of_lt (Heap.lt_size g)) (fun e => by have h5 := frb it (.head _); have h6 := Heap.lt_size g; rw [e] at h6; exact Nat.lt_irrefl _ (Nat.lt_of_lt_of_le h6 (Nat.le_of_succ_le h5))) (oth _ _ (Nat.ne_of_lt (Heap.lt_size g)) (kp _ _ (Heap.get?_push_of_some _ g)))) hp
end
end Mine.Srt
end
section
open PySem PyProof.Rows
set_option maxRecDepth 100000
set_option maxHeartbeats 4000000
namespace Mine.Srt
section
variable {prog : Program} {w : World} {A : Around} {E : Value → Shared → Prop} {s : Shared}
theorem sorted_set {a : Addr} {es : Array (Int × Value)} {ep : Nat} {t : SetTable} {Q : Value → Shared → Prop} (hh : A.handled = none) (ho : s.heap.get? a = some (setObj es ep t))
    (hel : ∀ e ∈ es.toList, ∃ i tk, e = (hashInt i, .int i tk)) (hf : t.fits es.size = true) (hr : Rise t.place) (hl : t.led = true ∨ w.params.followText "set-order" = true) (hz : es.size < 4096)
    (h : ∀ r (out : Array Value) ns n h' d, (∀ b o, s.heap.get? b = some o → h'.get? b = some o) → s.heap.get? r = none → h'.get? r = some (lstObj out n) → IntsAre out.toList ns → ns.Perm (es.toList.map fun e => numOf e.2) → ns.Pairwise (· ≤ ·) →
      Q (.ref r) { s with heap := h', drawn := d }) :
    wpAny (model prog w) A (call (.builtin "sorted") [.ref a]) Q E s := by
  refine Calls.call_function_entry kind_sorted plain_sorted entry_sorted (args_sorted1 _) ?_
  unfold Builtin.«sorted»
  refine wpAny_bind (m := checkCount "sorted" 1 1 _) (wpAny_pure ?_)
  refine wpAny_bind (collect_set (A := A.in1) hh ho hf hr hl hz fun ord h₁ d kp hp => ?_)
  have hlen : ord.length = es.size := by rw [hp.length_eq]; simp
  refine wpAny_bind (wpAny_newList ?_ (by rw [hlen, sizeLine_eq]; exact aL 0x11188888888b0018888b01101 hz))
  have hI : IntsAre ord (ord.map numOf) := intsAre_map ord fun v hv => by
    obtain ⟨e, he, rfl⟩ := List.mem_map.mp (hp.mem_iff.mp hv)
    obtain ⟨i, tk, rfl⟩ := hel e he
    exact ⟨i, tk, rfl⟩
  have hg : (h₁.push (seqObj "list" ord.toArray 0)).get? h₁.objs.size = some (seqObj "list" ord.toArray 0) := Heap.get?_push_size _ rfl
  refine wpAny_bind (wpAny_holding (wpAny_call_entry (s := { s with heap := h₁.push (seqObj "list" ord.toArray 0), drawn := d }) slot_list_sort ⟨_, hg, rfl⟩ entry_list_sort (list_sort_any hg hI (by exact aL 0x110118888b1101218888b01202 hz hlen) fun out ns' a1 a2 a3 => ⟨_, rfl, ?_⟩) (args_list_sort _)))
  have hnone : s.heap.get? h₁.objs.size = none := by
    cases q : s.heap.get? h₁.objs.size with
    | none => rfl
    | some o => exact absurd (Heap.lt_size (kp _ _ q)) (Nat.lt_irrefl _)
  have g1 := get?_update_seq (c := "list") hg (fun _ => #[])
  have keep : ∀ b o, b ≠ h₁.objs.size → (h₁.push (seqObj "list" ord.toArray 0)).get? b = some o → (sortedHeap (h₁.push (seqObj "list" ord.toArray 0)) h₁.objs.size ord out).get? b = some o := fun b o hb e =>
    (Heap.get?_update_other _ _ (Ne.symm hb)).trans (Heap.get?_push_of_some _ (Heap.get?_push_of_some _ ((Heap.get?_update_other _ _ (Ne.symm hb)).trans e)))
  have gL := get?_update_seq (c := "list") (Heap.get?_push_of_some (seqObj "list" #[] 0) (Heap.get?_push_of_some (seqObj "tuple" ord.toArray 0) g1)) (fun _ => out)
  refine wpAny_pure ⟨_, rfl, h h₁.objs.size out ns' _ _ d (fun b o g => keep b o (fun e => by rw [e, hnone] at g; cases g) (Heap.get?_push_of_some _ (kp b o g))) hnone gL a1 (a2.trans ?_) a3⟩
  have := hp.map numOf
  rwa [List.map_map] at this
end
end Mine.Srt
end
section
open PySem PySem.W PyProof.Rows PySem.Calls
set_option maxRecDepth 100000
set_option maxHeartbeats 8000000
namespace Mine
noncomputable section
/-! contexts whose stack holds no codec at work (a bytearray's making asks for that) -/
noncomputable def codecCode : Code → Bool
  | .builtin id _ => Builtin.Bytes.decodersThatHold.contains id
  | _ => false
noncomputable def Cln (l : List (Code × Pos)) : Prop := ∀ x ∈ l, codecCode x.1 = false
noncomputable def wC {α : Type} (M : Model) (A : Around) (t : Sem α) (Q : α → Shared → Prop) (s : Shared) : Prop :=
  ∀ Γ p, Γ.In A → codecCode Γ.code = false → Cln Γ.below → Sem.wp M Γ t (fun a _ s' => Q a s') (fun _ _ _ => False) p s
noncomputable def kC (M : Model) (A : Around) (c : Code) (R : Result → Shared → Prop) (s : Shared) : Prop :=
  ∀ Γ p, Γ.code = c → Γ.Below A → Cln Γ.below → wpCode M Γ R p s

section
variable {α β : Type} {M : Model} {A : Around} {s : Shared} {env : Env}
theorem wC_of {t : Sem α} {Q : α → Shared → Prop} (h : wpAny M A t Q (fun _ _ => False) s) : wC M A t Q s := fun Γ p hΓ _ _ => h Γ p hΓ
theorem wC_mono {t : Sem α} {Q Q' : α → Shared → Prop} (h : wC M A t Q s) (q : ∀ a s, Q a s → Q' a s) : wC M A t Q' s :=
  fun Γ p hΓ h1 h2 => Sem.wp_mono M Γ t (fun a _ s => q a s) (fun _ _ _ x => x) p s (h Γ p hΓ h1 h2)
theorem wC_bind {m : Sem α} {f : α → Sem β} {Q : β → Shared → Prop} (h : wC M A m (fun a s' => wC M A (f a) Q s') s) : wC M A (m >>= f) Q s := fun Γ p hΓ h1 h2 => by
  rw [Sem.wp_bind']
  exact Sem.wp_mono M Γ m (fun a p' s' h' => h' Γ p' hΓ h1 h2) (fun _ _ _ h' => h') p s (h Γ p hΓ h1 h2)
theorem wC_pure {a : α} {Q : α → Shared → Prop} (h : Q a s) : wC M A (pure a) Q s := wC_of (wpAny_pure h)
theorem wC_holding {vs : List Value} {m : Sem α} {Q : α → Shared → Prop} (h : wC M A m Q s) : wC M A (holding vs m) Q s := fun Γ p hΓ h1 h2 => by rw [Sem.wp_holding]; exact h Γ p hΓ h1 h2
theorem wC_standAt {pos : Pos} {Q : Unit → Shared → Prop} (h : Q () s) : wC M A (standAt pos) Q s := wC_of (wpAny_standAt h)
theorem wC_onRaise {m : Sem α} {k : Value → Sem Unit} {Q : α → Shared → Prop} (h : wC M A m Q s) : wC M A (m.onRaise k) Q s := fun Γ p hΓ h1 h2 => by
  rw [Sem.wp_onRaise]
  exact Sem.wp_mono M Γ m (fun _ _ _ h' => h') (fun _ _ _ h' => h'.elim) p s (h Γ p hΓ h1 h2)
theorem wC_keep {vs : List Value} {m : Sem α} {Q : α → Shared → Prop} (h : wC M A m Q s) : wC M A (m.keep vs) Q s := fun Γ p hΓ h1 h2 => by rw [Sem.wp_keep]; exact h Γ p hΓ h1 h2
theorem wC_point {l : List Value} {Q : Unit → Shared → Prop} (h : Q () s) : wC M A (.point l .pure) Q s := fun Γ p hΓ h1 h2 => by rw [Sem.wp_point]; exact h
theorem wC_runValue {c : Code} {Q : Value → Shared → Prop} (hc : kC M A c (fun r s' => ∃ v, r = .ok (.ret v) ∧ Q v s') s) : wC M A (runValue c) Q s := fun Γ p hΓ h1 h2 => by
  rw [Sem.wp_runValue]
  have hcl : Cln ((Γ.code, p) :: Γ.below) := fun x hx => by
    rcases List.mem_cons.mp hx with rfl | hx
    · exact h1
    · exact h2 x hx
  exact wpCode_mono (fun r s' ⟨v, e, q⟩ => by subst e; exact q) (hc _ p rfl (hΓ.enter c none p (by intro x; cases x)) hcl)
theorem wC_call {f : Value} {pos : List Value} {kw : List (Str × Value)} {Q : Value → Shared → Prop} (hc : kC M A (.call f ⟨pos, kw⟩) (fun r s' => ∃ v, r = .ok (.ret v) ∧ Q v s') s) : wC M A (call f pos kw) Q s := wC_runValue hc
theorem wC_run {c : Code} {Q : Flow → Shared → Prop} (hc : kC M A c (fun r s' => ∃ f, r = .ok f ∧ Q f s') s) : wC M A (run c) Q s := fun Γ p hΓ h1 h2 => by
  rw [Sem.wp_run]
  have hcl : Cln ((Γ.code, p) :: Γ.below) := fun x hx => by
    rcases List.mem_cons.mp hx with rfl | hx
    · exact h1
    · exact h2 x hx
  exact wpCode_mono (fun r s' ⟨v, e, q⟩ => by subst e; exact q) (hc _ p rfl (hΓ.enter c none p (by intro x; cases x)) hcl)
theorem wC_runOwn {c : Code} {Q : Flow → Shared → Prop} (hc : kC M A c (fun r s' => ∃ f, r = .ok f ∧ Q f s') s) : wC M A (runOwn c env) Q s := by
  unfold runOwn
  exact wC_onRaise (wC_run hc)
theorem kC_of {c : Code} {R : Result → Shared → Prop} (h : codeAny M A c R s) : kC M A c R s := fun Γ p hc hΓ _ => h Γ p hc hΓ
theorem kC_mono {c : Code} {R R' : Result → Shared → Prop} (h : kC M A c R s) (q : ∀ r s, R r s → R' r s) : kC M A c R' s := fun Γ p hc hΓ h2 => wpCode_mono q (h Γ p hc hΓ h2)
theorem kC_tree {c : Code} {R : Result → Shared → Prop} (hd : codecCode c = false)
    (h : wC M (A.under c) (M.den c) (fun fin s' => match fin with | .done f => R (.ok f) s' | .again c' => c'.quiet = true ∧ kC M A c' R s') s) : kC M A c R s := fun Γ p hc hΓ h2 => by
  rw [wpCode_iff_wp, hc]
  refine Sem.wp_mono M Γ _ (fun fin p' s' h' => ?_) (fun _ _ _ h' => h'.elim) p s (h Γ p (hc ▸ hΓ.in) (hc ▸ hd) h2)
  cases fin with
  | done f => exact h'
  | again c' => exact ⟨h'.1, h'.2 (Γ.goto c') p' rfl (hΓ.goto c') h2⟩
theorem kC_loop {c : Code} {R : Result → Shared → Prop} (hd : codecCode c = false) (hq : c.quiet = true) (I : Nat → Shared → Prop)
    (turn : ∀ n s, I n s → wC M (A.under c) (M.den c) (fun fin s' => match fin with
        | .done f => R (.ok f) s'
        | .again c' => (c' = c ∧ ∃ m, m < n ∧ I m s') ∨ (c'.quiet = true ∧ kC M A c' R s')) s) (n : Nat) (h : I n s) : kC M A c R s := by
  induction n using Nat.strongRecOn generalizing s with
  | ind n ih =>
    refine kC_tree hd (wC_mono (turn n s h) fun fin s' hf => ?_)
    cases fin with
    | done f => exact hf
    | again c' =>
      rcases hf with ⟨rfl, m, hm, hI⟩ | hf
      · exact ⟨hq, ih m hm hI⟩
      · exact hf
theorem wC_looks {t : Sem α} {r : α} {Q : α → Shared → Prop} (L : Looks M s.heap t r) (q : Q r s) : wC M A t Q s := wC_of (L.here q)
theorem wC_stackAny {f : Code × Pos → Bool} {Q : Bool → Shared → Prop} (hg : A.guards = some []) (hf : ∀ c p, c.isGuard = false → codecCode c = false → f (c, p) = false) (h : Q false s) : wC M A (do return (← stack).any f) Q s := fun Γ p hΓ h1 h2 => by
  show Q (((Γ.code, p) :: Γ.below).any f) s
  have hall : ∀ x ∈ (Γ.code, p) :: Γ.below, f x = false := by
    have hn : guardsOf ((Γ.code, p) :: Γ.below) = [] := by rw [guardsOf_cons]; exact hΓ.2.2.2.1 _ hg
    intro x hx
    have hxg : x.1.isGuard = false := by
      cases q : x.1.isGuard with
      | false => rfl
      | true =>
        have : x.1 ∈ guardsOf ((Γ.code, p) :: Γ.below) := List.mem_filter.mpr ⟨List.mem_map_of_mem hx, q⟩
        rw [hn] at this; cases this
    refine hf x.1 x.2 hxg ?_
    rcases List.mem_cons.mp hx with rfl | hx
    · exact h1
    · exact h2 x hx
  rw [List.any_eq_false.mpr fun x hx => by rw [hall x hx]; exact Bool.false_ne_true]
  exact h
end


/-! the head of a law, for contexts whose stack is clean -/
theorem ends_clean {prog : Program} {w : World} {t : Sem PySem.Fin} {s : Shared} {R : Result → Shared → Prop} (hreg : s.asleep)
    (h : wC (model prog w) callerA t (fun fin s' => ∃ f, fin = .done f ∧ (R (.ok f) s' ∧ leftWithCleanup s'.gens = false)) s) :
    ∃ n r s' s'', runN (denote table) prog w n s ⟨t, .builtin "claim.caller" {}, default, []⟩ = .halted (outcomeOf r) s' ∧
      schedN (denote table) prog w n (.single s ⟨t, .builtin "claim.caller" {}, default, []⟩) = .halted (outcomeOf r) s' ∧ s'.forget = s''.forget ∧ R r s'' := by
  have key := h ⟨.builtin "claim.caller" {}, none, none, [], none⟩ default caller_in rfl (fun _ hx => nomatch hx)
  obtain ⟨n, r, s₁, s₂, hs, hn, hfo, hR⟩ := wp_halts_full (M := model prog w) (R := R) hreg (p := default)
    (Sem.wp_mono _ _ t (fun fin p' s' ⟨f, e, q⟩ => by subst e; exact q) (fun _ _ _ x => x.elim) default s key)
  exact ⟨n, r, s₂, s₁, hn, hs, hfo, hR⟩
theorem from_clean {c : ClaimW} {tree : List Value → Sem PySem.Fin} {w : World} {s : Shared} {free : Addr → Prop} {gens : Prop} {kept : Heap → Prop} (hz : s.asleep) (hgens : s.gens = #[])
    (hspec : ∀ args, c.pre args = true → WData.layableAll args = true → ∀ ord : List DictEntry → List DictEntry, (∀ l, (ord l).Perm l) →
      ∃ vs s₁, layAllW c.records (classAt s.heap) w.params ord args s = some (vs, s₁) ∧
        wC (model c.prog w) callerA (tree vs) (fun fin s' => ∃ f, fin = .done f ∧ (c.Ends s args vs s₁ (.ok f) s' ∧ s'.os = s.os ∧ AllBare s'.gens ∧ kept s'.heap)) s₁) :
    c.CallFrom (fun vs => ⟨tree vs, .builtin "claim.caller" {}, default, []⟩) w free gens kept s := by
  intro args hpre hlay ord hord
  obtain ⟨vs, s₁, laid, run⟩ := hspec args hpre hlay ord hord
  have rest := layAllW_rest _ _ _ laid
  obtain ⟨k, r, s', s'', e1, e2, e3, q1, q2, q3⟩ := ends_clean (R := fun r s' => c.Ends s args vs s₁ r s' ∧ s'.os = s.os ∧ kept s'.heap) (Shared.asleep_of_life rest.2.2.2 hz)
    (wC_mono run fun fin s' ⟨f, e, h1, h2, h3, h4⟩ => ⟨f, e, ⟨h1, h2, h4⟩, leftWithCleanup_false_of_bare h3⟩)
  obtain ⟨eh, _, _, eo, _⟩ := Shared.forget_eq e3
  have q1 := q1.congr eh
  rw [← eo] at q2
  rw [← eh] at q3
  refine ⟨vs, s₁, laid, k, _, s', e2, ?_, (fun _ i x hx => by rw [hgens] at hx; simp at hx), q3, by rw [(runN_life _ _ _ e1).trans rest.2.2.2], Shared.rest_eq q2⟩
  rcases q1 with ⟨v, rfl, d1, d2, d3, d4, d5⟩ | ⟨e, ob, cls, rfl, d1, d2, d3, d4, d5⟩
  · exact .inl ⟨v, rfl, d1, d2, d3, fun b o y _ => d4 b o y, d5⟩
  · exact .inr ⟨e, ob, cls, rfl, d1, d2, d3, d4, fun b o y _ => d5 b o y⟩
noncomputable abbrev WalkC (q : Program) (loose : List Str) (XP : (Str → Option Value) → Heap → Prop) (YP : World → Heap → Prop) (r : RowW) (d : DefRec) (kwd : List (Str × Expr)) : Prop :=
  ∀ (w : World) (s₀ s₁ : Shared) (mg mb : Str → Option Value), Ground q loose r.records XP w s₀ mg mb s₁.heap → YP w s₁.heap → ∀ (a : Addr) (o : Obj) (pm cd doc dV kV : Value), s₁.heap.get? a = some o →
    o.data = .func { docDef d.name d.params d.body d.scope pm cd doc with defaults := dV, kwdefaults := kV } → s₁.heap.CodeRec cd d.name → Dflts mg s₁.heap d.params kwd dV kV → mg d.name = some (.ref a) → s₁.gens = #[] →
    ∀ (args : List WData) (vals : List Value) (as : List Addr), r.claim.pre args = true → WData.layableAll args = true → ReadsAllW r.records (classAt s₀.heap) s₁.heap vals args as → WellAll w.params s₁.heap vals args → (∀ a ∈ as, (a == sysModules) = false) →
      wC (model r.prog w) callerA (PySem.call (.ref a) vals) (fun v s' => GoodWG r.claim (classAt s₀.heap) (ExcName.means s₀.heap) args s₁ (.ok (.ret v)) s') s₁
theorem PySem.W.holds_open {r : OpenRow} {q : Program} {loose : List Str} {Xt : Shared → Bool} {XP : (Str → Option Value) → Heap → Prop} {α : Type} {Yf : Shared → α} {Ya : World → α} {YP : World → Heap → Prop} {d : DefRec} {kwd : List (Str × Expr)} {N : Nat}
    (left : LeftO r.prog q loose Xt Yf Ya N) (hY : ∀ w s, Yf s = Ya w → YP w s.heap) (hYk : ∀ w h h', YP w h → (∀ b o, h.get? b = some o → h'.get? b = some o) → YP w h')
    (hX : ∀ s, Xt s = true → XP (s.heap.nsMap mainGlobals) s.heap) (hXk : ∀ mg h h', XP mg h → (∀ b o, h.get? b = some o → h'.get? b = some o) → XP mg h')
    (hdef : defOf q r.name = some (d, kwd)) (hp : r.prog.theDef r.name = some (d.params, d.body, d.scope)) (hk : kwWritten? d.params.kwonlyargs d.params.kw_defaults = some kwd) (hRf : ∀ s, Xt s = true → RecFacts r.records s.heap) (hwr : (!r.writes || r.records.isEmpty) = true)
    (k1 : r.wellSaid = true) (ok : (chainsOk q && opensWell r.prog && (frees r.toRowW && r.within.isEmpty)) = true) (hb : r.prog.bare) (hw : r.toRowW.promised)
    (call : WalkC q loose XP YP r.toRowW d kwd) : r.Holds := by
  obtain ⟨ok, k5⟩ := Bool.and_eq_true_iff.mp ok
  obtain ⟨hch, o1⟩ := Bool.and_eq_true_iff.mp ok
  obtain ⟨k5, k6⟩ := Bool.and_eq_true_iff.mp k5
  obtain ⟨hsame, hu, ha, hap, hm⟩ := frees_parts k5
  refine ⟨k1, hw, ⟨hb, o1, by show r.makers.map _ = []; rw [hm]; rfl⟩, hw.witness, fun w => ⟨(left.behind hX hch w).1, fun s' hs' => ?_⟩⟩
  obtain ⟨s₀, hf, hg0, s, hT, hz, hgens, hg, G00, y⟩ := (left.behind (XP := fun mg h => XP mg h ∧ RecFacts r.records h) (fun s hs => ⟨hX s hs, hRf s hs⟩) hch w).2 s' hs'
  have G0 : Ground q loose [] XP w s (s.heap.nsMap mainGlobals) (s.heap.nsMap builtinsNs) s.heap := ⟨G00.T, G00.B, G00.D, G00.TE, G00.TD, G00.W, G00.X.1, G00.cls, G00.has, G00.apart, G00.once, G00.K⟩
  have RF := G00.X.2
  refine ⟨s₀, hf, hg0, s, hT, fun n hn => ?_, RF.1, RF.2.1, ?_⟩
  · obtain rfl : n = r.name := by split at hn <;> simp_all
    exact pinned_of_view hg G0 hdef hp hk
  have hgens : s.gens = #[] := Array.eq_empty_of_size_eq_zero (beq_iff_eq.mp hgens)
  have G : Ground q loose r.records XP w s _ _ s.heap := RF.ground G0
  refine from_clean (c := r.toRowW.claim) hz hgens fun args hpre hlay ord hord => ?_
  obtain ⟨⟨vs, s₁⟩, laid⟩ := Option.isSome_iff_exists.mp (layAllW_isSome (P := w.params) (ord := ord) G.has args r.args s (pre_splitW hpre).1)
  have keeps := layAllW_keeps _ _ _ laid
  have rest := layAllW_rest _ _ _ laid
  obtain ⟨as, hrd, hin, hold⟩ := reads_layAllW hord _ _ _ laid hlay s₁.heap (fun _ _ e => e)
  have L : Laid r.records w s s₁ args vs as := ⟨⟨ord, hord, laid⟩, hrd, hin, hold, keeps, rest.1.trans hgens, rest.2.2.1⟩
  have G₁ := G.keeps hXk keeps
  obtain ⟨a, o, pm, cd, doc, dV, kV, h1, h2, h3, h4, h5⟩ := G₁.fn hdef
  have run := call w s s₁ _ _ G₁ (hYk _ _ _ (hY w s y) keeps) a o pm cd doc dV kV h2 h3 h4 h5 (defOf_name hdef ▸ h1) L.gens args vs as hpre hlay L.reads L.well (L.low G.low)
  have hi := ident_freeW hu ha hap
  have hwi : r.toRowW.claim.within = [] := List.isEmpty_iff.mp k6
  refine ⟨vs, s₁, laid, wC_bind (wC_of (wpAny_nsGet G₁.T.g ?_))⟩
  rw [h1]
  refine wC_bind (wC_mono run fun v s' g => wC_pure ⟨_, rfl, ?_⟩)
  have z := g.laid (c := r.toRowW.claim) hsame hwi hi L
  exact ⟨z.1, z.2.1, z.2.2, fun q => ⟨namesKept_of hT hg _ keeps g.2.1.old, noTable hwr q⟩⟩
end
end Mine
end
section
open PySem PySem.W PyProof.Rows PySem.Calls
set_option maxRecDepth 100000
set_option maxHeartbeats 8000000
namespace Mine
noncomputable section
/-! what the head writes out of the heap, kept under a name of its own -/
section
local macro_rules | `(tactic| o_head ($_ $k $_ $_)) => `(tactic| (rename_i kept; exact kept $k rfl))
noncomputable def hk : (K : Params → Frag) ×' ((∀ K' : Params → Frag, K' = K → PySem.Challenge.rw_ix0008_01.row.Holds) → PySem.Challenge.rw_ix0008_01.row.Holds) := ⟨_, fun _ => by k_head⟩
end
end
end Mine
end
section
open PySem PySem.W PyProof.Rows PySem.Calls
set_option maxRecDepth 100000
set_option maxHeartbeats 4000000
namespace Mine
noncomputable section

noncomputable abbrev PG : Program := PySem.Challenge.rw_ix0008_01.row.prog
noncomputable def KK (w : World) : Frag := hk.1 w.params

inductive TV where
  | none | bool (b : Bool) | int (i : Int) | str (s : Str) | bytes (b : List UInt8) | ref (a : Addr) | type (n : String) | bt (id : String) | oth (v : Value)
noncomputable def er : Value → TV
  | .none => .none | .bool b => .bool b | .int i _ => .int i | .str s _ => .str s | .bytes b _ => .bytes b.toList
  | .ref a => .ref a | .type n => .type n | .builtin id => .bt id | v => .oth v
inductive TF where
  | next | brk | cont | ret (v : TV)
noncomputable def ef : Flow → TF
  | .next => .next | .brk => .brk | .cont => .cont | .ret v => .ret (er v)

theorem er_none {v : Value} (h : er v = .none) : v = .none := by cases v <;> first | rfl | exact TV.noConfusion h | exact TV.noConfusion h fun e => e ▸ rfl
theorem er_bool {v : Value} {b : Bool} (h : er v = .bool b) : v = .bool b := by cases v <;> first | rfl | exact TV.noConfusion h | exact TV.noConfusion h fun e => e ▸ rfl
theorem er_int {v : Value} {i : Int} (h : er v = .int i) : ∃ t, v = .int i t := by cases v <;> first | exact TV.noConfusion h | exact TV.noConfusion h fun e => ⟨_, congrArg (Value.int · _) e⟩
theorem er_str {v : Value} {x : Str} (h : er v = .str x) : ∃ t, v = .str x t := by cases v <;> first | exact TV.noConfusion h | exact TV.noConfusion h fun e => ⟨_, congrArg (Value.str · _) e⟩
theorem er_bytes {v : Value} {b : List UInt8} (h : er v = .bytes b) : ∃ t, v = .bytes b.toArray t := by
  cases v <;> first | exact TV.noConfusion h | exact TV.noConfusion h fun e => (by subst e; exact ⟨_, rfl⟩)
theorem er_ref {v : Value} {a : Addr} (h : er v = .ref a) : v = .ref a := by cases v <;> first | rfl | exact TV.noConfusion h | exact TV.noConfusion h fun e => e ▸ rfl
theorem er_type {v : Value} {a : String} (h : er v = .type a) : v = .type a := by cases v <;> first | rfl | exact TV.noConfusion h | exact TV.noConfusion h fun e => e ▸ rfl
theorem er_bt {v : Value} {a : String} (h : er v = .bt a) : v = .builtin a := by cases v <;> first | rfl | exact TV.noConfusion h | exact TV.noConfusion h fun e => e ▸ rfl

noncomputable def EsAre (P : Params) : List DictEntry → List (Str × TV) → Prop
  | [], [] => True
  | e :: es, (k, v) :: l => e.hash = PyData.keyHash P k ∧ (∃ t, e.key = .str k t) ∧ er e.val = v ∧ EsAre P es l
  | _, _ => False

inductive AO where
  | inst (C d : Addr) | dict (l : List (Str × TV)) | list (xs : List TV) | tup (xs : List TV) | iset (xs : List Int) | barr (b : List UInt8) | range (a b c : Int) | raw (o : Obj)

noncomputable def SetVals (es : Array (Int × Value)) (xs : List Int) : Prop :=
  xs.Nodup ∧ (∀ e ∈ es.toList, ∃ i tk, e = (hashInt i, .int i tk)) ∧ (∀ i, i ∈ xs ↔ ∃ e ∈ es.toList, er e.2 = .int i) ∧ es.size = xs.length ∧ es.size < scanBound

noncomputable def AO.is (P : Params) : AO → Obj → Prop
  | .inst C d, o => o = instObj C d
  | .dict l, o => ∃ es n, o = dictOf es n ∧ EsAre P es l
  | .list xs, o => ∃ vs n, o = W.listOf vs n ∧ vs.toList.map er = xs
  | .tup xs, o => ∃ vs : List Value, o = { cls := .type "tuple", data := .seq vs.toArray } ∧ vs.map er = xs
  | .iset xs, o => ∃ es n t, o = { cls := .type "set", data := .set es n t } ∧ SetVals es xs ∧ t.fits es.size = true ∧ Srt.Rise t.place ∧ (t.led = true ∨ P.followText "set-order" = true)
  | .barr b, o => o = { cls := .type "bytearray", data := .bytearray b.toArray }
  | .range a b c, o => ∃ t u v, o = { cls := .type "range", data := .fields #[.int a t, .int b u, .int c v] }
  | .raw x, o => o = x

noncomputable abbrev HM := Addr → Option AO
structure St where
  m : List (Str × TV)
  H : HM
  g : Unit := ()

structure Bs extends Heap where
  gb : Array GenState
set_option genInjectivity false in
structure Cx where
  w : World
  A : Around
  h₁ : Heap
  base : Bs
  os : OsState
  env : Env
noncomputable abbrev Cx.L (c : Cx) : Addr := c.env.locals

structure Room (A : Around) (k : Nat) : Prop where
  depth : A.depth + 3 * k < recursionLimit
  units : A.units + 40 * k < cLine
  handled : A.handled = none
  guards : A.guards = some []

structure Well (c : Cx) : Prop where
  K : (KK c.w).In c.h₁
  T : ∃ p loose mg mb, TopRead p loose mg mb c.h₁
  fn : c.env.scope.kind = .function
  gl : c.env.globals = mainGlobals
  bn : c.env.builtins = builtinsNs

structure Sat (c : Cx) (S : St) (s : Shared) : Prop where
  fr : ∃ mm, Fr c.h₁ c.L s.heap mm ∧ ∀ x, (mm x).map er = S.m.lookup x
  base : ∀ b o, c.base.get? b = some o → s.heap.get? b = some o
  baseL : c.base.get? c.L = none
  H : ∀ a o, S.H a = some o → (∃ ob, s.heap.get? a = some ob ∧ o.is c.w.params ob) ∧ c.h₁.get? a = none ∧ c.base.get? a = none ∧ a ≠ c.L
  g : (∀ (i : Nat) (x : GenState), c.base.gb[i]? = some x → s.gens[i]? = some x) ∧ AllBare s.gens
  os : s.os = c.os

noncomputable def PW {α : Type} (c : Cx) (t : Sem α) (Q : α → St → Prop) (S : St) : Prop :=
  ∀ s, Sat c S s → wpAny (model PG c.w) c.A t (fun v s' => ∃ S', Sat c S' s' ∧ Q v S') (fun _ _ => False) s
noncomputable def PV (c : Cx) (t : Sem Value) (Q : TV → St → Prop) (S : St) : Prop := PW c t (fun v S' => Q (er v) S') S
noncomputable def PX (c : Cx) (t : Sem Flow) (Q : TF → St → Prop) (S : St) : Prop := PW c t (fun f S' => Q (ef f) S') S

section
variable {c : Cx} {S : St} {α β : Type}

theorem Sat.tok {s : Shared} (h : Sat c S s) (n : Nat) : Sat c S { s with toks := n } := ⟨h.fr, h.base, h.baseL, h.H, h.g, h.os⟩
theorem Sat.fr' {s : Shared} (h : Sat c S s) : ∃ mm, Fr c.h₁ c.L s.heap mm := let ⟨mm, F, _⟩ := h.fr; ⟨mm, F⟩

theorem pw_mono {t : Sem α} {Q Q' : α → St → Prop} (h : PW c t Q S) (q : ∀ v S', Q v S' → Q' v S') : PW c t Q' S :=
  fun s hs => wpAny_mono (h s hs) (fun _ _ ⟨S', a, b⟩ => ⟨S', a, q _ _ b⟩) fun _ _ x => x
theorem pw_bind {m : Sem α} {f : α → Sem β} {Q : β → St → Prop} (h : PW c m (fun v S' => PW c (f v) Q S') S) : PW c (m >>= f) Q S :=
  fun s hs => wpAny_bind (wpAny_mono (h s hs) (fun _ _ ⟨_, a, b⟩ => b _ a) fun _ _ x => x)
theorem pw_pure {a : α} {Q : α → St → Prop} (h : Q a S) : PW c (pure a) Q S := fun _ hs => wpAny_pure ⟨S, hs, h⟩
/-! the two-step devices: a library rule in continuation form -/
theorem k1 {t : Sem α} {s : Shared} {S : St} {Q : α → St → Prop} {R : α → Shared → Prop} (h : PW c t Q S) (hs : Sat c S s) (k : ∀ v S' s', Sat c S' s' → Q v S' → R v s') :
    wpAny (model PG c.w) c.A t R (fun _ _ => False) s := wpAny_mono (h s hs) (fun v s' ⟨S', a, b⟩ => k v S' s' a b) fun _ _ x => x

noncomputable def BINOP (c : Cx) (op : Operator) (a b : TV) (Q : TV → St → Prop) (S : St) : Prop := ∀ va vb, er va = a → er vb = b → PV c (binaryOp op va vb) Q S
noncomputable def INOP (c : Cx) (op : Operator) (a b : TV) (Q : TV → St → Prop) (S : St) : Prop := ∀ va vb, er va = a → er vb = b → PV c (inplaceOp op va vb) Q S
noncomputable def CMP (c : Cx) (op : CmpOp) (a b : TV) (Q : TV → St → Prop) (S : St) : Prop := ∀ va vb, er va = a → er vb = b → PV c (compareOp op va vb) Q S
noncomputable def UNOP (c : Cx) (op : UnaryOp) (a : TV) (Q : TV → St → Prop) (S : St) : Prop := ∀ va, er va = a → PV c (unaryOp op va) Q S
noncomputable def TRUTHY (c : Cx) (a : TV) (Q : Bool → St → Prop) (S : St) : Prop := ∀ va, er va = a → PW c (truthy va) Q S
noncomputable def GETATTR (c : Cx) (a : TV) (name : Str) (Q : TV → St → Prop) (S : St) : Prop := ∀ va, er va = a → PV c (getAttr va name true) Q S
noncomputable def SETATTR (c : Cx) (a : TV) (name : Str) (v : TV) (Q : St → Prop) (S : St) : Prop := ∀ va vv, er va = a → er vv = v → PW c (setAttr va name vv) (fun _ S' => Q S') S
noncomputable def SETITEM (c : Cx) (a i v : TV) (Q : St → Prop) (S : St) : Prop := ∀ va vi vv, er va = a → er vi = i → er vv = v → PW c (setItem va vi vv) (fun _ S' => Q S') S
noncomputable def SUBSCR (c : Cx) (value slice : Expr) (a i : TV) (Q : TV → St → Prop) (S : St) : Prop := ∀ va vi, er va = a → er vi = i → PV c (subscriptTail value slice va vi) Q S
noncomputable def STORE (c : Cx) (x : Str) (v : TV) (Q : St → Prop) (S : St) : Prop := ∀ vv, er vv = v → PW c (storeName c.env x vv) (fun _ S' => Q S') S
/-! statements -/
theorem px_nil {Q : TF → St → Prop} (h : Q .next S) : PX c (execs [] c.env) Q S := fun _ hs => wpAny_execs_nil ⟨S, hs, h⟩
noncomputable abbrev kNext (c : Cx) (rest : List Stmt) (Q : TF → St → Prop) : TF → St → Prop := fun f S' => match f with | .next => PX c (execs rest c.env) Q S' | f => Q f S'
noncomputable abbrev kIf (c : Cx) (body orelse : List Stmt) (Q : TF → St → Prop) : Bool → St → Prop := fun b S' => if b = true then PX c (execs body c.env) Q S' else PX c (execs orelse c.env) Q S'
noncomputable abbrev kRet (Q : TF → St → Prop) : TV → St → Prop := fun v S' => Q (.ret v) S'
noncomputable abbrev kAsn (c : Cx) (x : Str) (Q : TF → St → Prop) : TV → St → Prop := fun v S' => STORE c x v (Q .next) S'
noncomputable abbrev kAa2 (c : Cx) (attr : Str) (v : TV) (Q : TF → St → Prop) : TV → St → Prop := fun ov S₂ => SETATTR c ov attr v (Q .next) S₂
noncomputable abbrev kAa (c : Cx) (o : Expr) (attr : Str) (Q : TF → St → Prop) : TV → St → Prop := fun v S₁ => PV c (eval o c.env) (kAa2 c attr v Q) S₁
noncomputable abbrev kAs3 (c : Cx) (v ov : TV) (Q : TF → St → Prop) : TV → St → Prop := fun iv S₃ => SETITEM c ov iv v (Q .next) S₃
noncomputable abbrev kAs2 (c : Cx) (i : Expr) (v : TV) (Q : TF → St → Prop) : TV → St → Prop := fun ov S₂ => PV c (eval i c.env) (kAs3 c v ov Q) S₂
noncomputable abbrev kAs (c : Cx) (o i : Expr) (Q : TF → St → Prop) : TV → St → Prop := fun v S₁ => PV c (eval o c.env) (kAs2 c i v Q) S₁
noncomputable abbrev kBin2 (c : Cx) (op : Operator) (a : TV) (Q : TV → St → Prop) : TV → St → Prop := fun b S₂ => BINOP c op a b Q S₂
noncomputable abbrev kBin (c : Cx) (op : Operator) (r : Expr) (Q : TV → St → Prop) : TV → St → Prop := fun a S₁ => PV c (eval r c.env) (kBin2 c op a Q) S₁
noncomputable abbrev kUn (c : Cx) (op : UnaryOp) (Q : TV → St → Prop) : TV → St → Prop := fun a S₁ => UNOP c op a Q S₁
noncomputable abbrev kCmp2 (c : Cx) (op : CmpOp) (a : TV) (Q : TV → St → Prop) : TV → St → Prop := fun b S₂ => CMP c op a b Q S₂
noncomputable abbrev kCmp (c : Cx) (op : CmpOp) (r : Expr) (Q : TV → St → Prop) : TV → St → Prop := fun a S₁ => PV c (eval r c.env) (kCmp2 c op a Q) S₁
noncomputable abbrev kTr (c : Cx) (Q : Bool → St → Prop) : TV → St → Prop := fun x S₃ => TRUTHY c x Q S₃
noncomputable abbrev kNot (Q : Bool → St → Prop) : Bool → St → Prop := fun b S₁ => Q (!b) S₁
noncomputable abbrev kAnd (c : Cx) (rest : List Expr) (pos : Pos) (whole : Sem Value) (Q : Bool → St → Prop) : Bool → St → Prop := fun b S₁ => if b = true then PW c (isTrue (.BoolOp .And rest pos) c.env whole) Q S₁ else Q false S₁
noncomputable abbrev kIfe (c : Cx) (body orelse : Expr) (Q : TV → St → Prop) : Bool → St → Prop := fun b S₁ => if b = true then PV c (eval body c.env) Q S₁ else PV c (eval orelse c.env) Q S₁
noncomputable abbrev kAt (c : Cx) (attr : Str) (Q : TV → St → Prop) : TV → St → Prop := fun o S₁ => GETATTR c o attr Q S₁
noncomputable abbrev kSub2 (c : Cx) (value slice : Expr) (o : TV) (Q : TV → St → Prop) : TV → St → Prop := fun i S₂ => SUBSCR c value slice o i Q S₂
noncomputable abbrev kSub (c : Cx) (value slice : Expr) (Q : TV → St → Prop) : TV → St → Prop := fun o S₁ => PV c (eval slice c.env) (kSub2 c value slice o Q) S₁
theorem px_cons {st : Stmt} {rest : List Stmt} {Q : TF → St → Prop}
    (h : PX c (exec st c.env) (kNext c rest Q) S) : PX c (execs (st :: rest) c.env) Q S := fun s hs => by
  refine wpAny_execs_cons (k1 h hs fun f S' s' hs' q => ?_)
  cases f with
  | next => exact q s' hs'
  | brk => exact ⟨S', hs', q⟩
  | cont => exact ⟨S', hs', q⟩
  | ret v => exact ⟨S', hs', q⟩
theorem px_if {test : Expr} {body orelse : List Stmt} {pos : Pos} {Q : TF → St → Prop}
    (h : PW c (isTrue test c.env (eval test c.env)) (kIf c body orelse Q) S) :
    PX c (exec (.If test body orelse pos) c.env) Q S := fun s hs => by
  refine wpAny_If (k1 h hs fun b S' s' hs' q => ?_)
  cases b with
  | true => exact q s' hs'
  | false => exact q s' hs'
theorem px_return {e : Expr} {pos : Pos} {Q : TF → St → Prop} (h : PV c (eval e c.env) (kRet Q) S) : PX c (exec (.Return (some e) pos) c.env) Q S :=
  fun s hs => wpAny_Return_some (k1 h hs fun _ S' _ hs' q => ⟨S', hs', q⟩)
theorem px_return_none {pos : Pos} {Q : TF → St → Prop} (h : Q (.ret .none) S) : PX c (exec (.Return none pos) c.env) Q S :=
  fun _ hs => wpAny_Return_none ⟨S, hs, h⟩
theorem px_continue {pos : Pos} {Q : TF → St → Prop} (h : Q .cont S) : PX c (exec (.Continue pos) c.env) Q S := fun _ hs _ _ _ => ⟨S, hs, h⟩
theorem px_assign_name {x : Str} {p' pos : Pos} {value : Expr} {Q : TF → St → Prop}
    (h : PV c (eval value c.env) (kAsn c x Q) S)
    (hw : swapsWith value (some (.Name x p')) pos.line c.env = pure false := by rfl) : PX c (exec (.Assign [.Name x p'] value pos) c.env) Q S :=
  fun _ hs => wpAny_Assign_Name (k1 h hs fun v _ _ hs' q => k1 (q v rfl) hs' fun _ S'' _ hs'' q' => ⟨S'', hs'', q'⟩) hw
theorem px_assign_attr {o : Expr} {attr : Str} {p' pos : Pos} {value : Expr} {Q : TF → St → Prop}
    (h : PV c (eval value c.env) (kAa c o attr Q) S)
    (hw : swapsWith value (some (.Attribute o attr p')) pos.line c.env = pure false := by rfl) : PX c (exec (.Assign [.Attribute o attr p'] value pos) c.env) Q S :=
  fun _ hs => plainObj_wpAny_Assign_Attribute (k1 h hs fun v _ _ hs' q => k1 q hs' fun ov _ _ hs'' q' => k1 (q' ov v rfl rfl) hs'' fun _ S₃ _ hs₃ q₃ => ⟨S₃, hs₃, q₃⟩) hw
theorem px_assign_sub {o i : Expr} {p' pos : Pos} {value : Expr} {Q : TF → St → Prop}
    (h : PV c (eval value c.env) (kAs c o i Q) S)
    (hw : swapsWith value (some (.Subscript o i p')) pos.line c.env = pure false := by rfl) : PX c (exec (.Assign [.Subscript o i p'] value pos) c.env) Q S :=
  fun _ hs => wpAny_Assign_Subscript (k1 h hs fun v _ _ hs' q => k1 q hs' fun ov _ _ hs'' q' => k1 q' hs'' fun iv _ _ hs₃ q₃ =>
    k1 (q₃ ov iv v rfl rfl rfl) hs₃ fun _ S₄ _ hs₄ q₄ => ⟨S₄, hs₄, q₄⟩) hw
theorem px_aug_name {x : Str} {p' pos : Pos} {op : Operator} {value : Expr} {Q : TF → St → Prop}
    (h : PV c (loadName c.env x) (fun old S₁ => PV c (eval value c.env) (fun v S₂ => INOP c op old v (fun r S₃ => STORE c x r (Q .next) S₃) S₂) S₁) S) :
    PX c (exec (.AugAssign (.Name x p') op value pos) c.env) Q S :=
  fun _ hs => wpAny_AugAssign_Name (k1 h hs fun old _ _ hs' q => k1 q hs' fun v _ _ hs'' q' => k1 (q' old v rfl rfl) hs'' fun r _ _ hs₃ q₃ =>
    k1 (q₃ r rfl) hs₃ fun _ S₄ _ hs₄ q₄ => ⟨S₄, hs₄, q₄⟩)
theorem px_aug_attr {o : Expr} {attr : Str} {p' pos : Pos} {op : Operator} {value : Expr} {Q : TF → St → Prop}
    (h : PV c (eval o c.env) (fun ov S₀ => GETATTR c ov attr (fun old S₁ => PV c (eval value c.env) (fun v S₂ => INOP c op old v (fun r S₃ => SETATTR c ov attr r (Q .next) S₃) S₂) S₁) S₀) S) :
    PX c (exec (.AugAssign (.Attribute o attr p') op value pos) c.env) Q S :=
  fun _ hs => wpAny_AugAssign_AttributeAny (k1 h hs fun ov _ _ hs₀ q₀ => k1 (q₀ ov rfl) hs₀ fun old _ _ hs' q => k1 q hs' fun v _ _ hs'' q' => k1 (q' old v rfl rfl) hs'' fun r _ _ hs₃ q₃ =>
    k1 (q₃ ov r rfl rfl) hs₃ fun _ S₄ _ hs₄ q₄ => ⟨S₄, hs₄, q₄⟩)

/-! expressions -/
theorem pv_bin {l r : Expr} {op : Operator} {pos : Pos} {Q : TV → St → Prop}
    (h : PV c (eval l c.env) (kBin c op r Q) S) : PV c (eval (.BinOp l op r pos) c.env) Q S :=
  fun _ hs => wpAny_BinOp (k1 h hs fun a _ _ hs' q => k1 q hs' fun b _ _ hs'' q' => q' a b rfl rfl _ hs'')
theorem pv_un {x : Expr} {op : UnaryOp} {pos : Pos} {Q : TV → St → Prop}
    (h : PV c (eval x c.env) (kUn c op Q) S) : PV c (eval (.UnaryOp op x pos) c.env) Q S :=
  fun _ hs => UnaryOp_ (k1 h hs fun a _ _ hs' q => q a rfl _ hs')
theorem pv_cmp {l r : Expr} {op : CmpOp} {pos : Pos} {Q : TV → St → Prop}
    (h : PV c (eval l c.env) (kCmp c op r Q) S) (hb : behindInMarks op r = false := by rfl) : PV c (eval (.Compare l [op] [r] pos) c.env) Q S :=
  fun _ hs => wpAny_Compare1 (k1 h hs fun a _ _ hs' q => k1 q hs' fun b _ _ hs'' q' => q' a b rfl rfl _ hs'') hb
theorem pt_cmp {l r : Expr} {op : CmpOp} {pos : Pos} {whole : Sem Value} {Q : Bool → St → Prop}
    (h : PV c (eval l c.env) (kCmp c op r (kTr c Q)) S) (hb : behindInMarks op r = false := by rfl) :
    PW c (isTrue (.Compare l [op] [r] pos) c.env whole) Q S :=
  fun _ hs => wpAny_isTrue_Compare1 (k1 h hs fun a _ _ hs' q => k1 q hs' fun b _ _ hs'' q' => k1 (q' a b rfl rfl) hs'' fun x _ _ hs₃ q₃ => q₃ x rfl _ hs₃) hb
theorem pt_plain {e : Expr} {whole : Sem Value} {Q : Bool → St → Prop} (h : PV c whole (kTr c Q) S)
    (hp : PySem.isTrue e c.env whole = (do let v ← whole; standAt e.pos; holding [v] (truthy v)) := by rfl) : PW c (isTrue e c.env whole) Q S :=
  fun _ hs => isTrue_plain (k1 h hs fun a _ _ hs' q => q a rfl _ hs') hp
theorem pt_not {x : Expr} {pos : Pos} {whole : Sem Value} {Q : Bool → St → Prop} (h : PW c (isTrue x c.env (eval x c.env)) (kNot Q) S) :
    PW c (isTrue (.UnaryOp .Not x pos) c.env whole) Q S := by
  show PW c (do return !(← isTrue x c.env (eval x c.env))) Q S
  exact pw_bind (pw_mono h fun b S' q => pw_pure q)
theorem pt_and {x : Expr} {rest : List Expr} {pos : Pos} {whole : Sem Value} {Q : Bool → St → Prop}
    (h : PW c (isTrue x c.env (eval x c.env)) (kAnd c rest pos whole Q) S) :
    PW c (isTrue (.BoolOp .And (x :: rest) pos) c.env whole) Q S := fun _ hs => by
  refine isTrue_and (k1 h hs fun b S' s' hs' q => ?_)
  cases b with
  | true => exact q s' hs'
  | false => exact ⟨S', hs', q⟩
theorem pt_and_nil {pos : Pos} {whole : Sem Value} {Q : Bool → St → Prop} (h : Q true S) : PW c (isTrue (.BoolOp .And [] pos) c.env whole) Q S :=
  fun _ hs => isTrue_and_nil ⟨S, hs, h⟩
theorem pt_or {x : Expr} {rest : List Expr} {pos : Pos} {whole : Sem Value} {Q : Bool → St → Prop}
    (h : PW c (isTrue x c.env (eval x c.env)) (fun b S₁ => if b = true then Q true S₁ else PW c (isTrue (.BoolOp .Or rest pos) c.env whole) Q S₁) S) :
    PW c (isTrue (.BoolOp .Or (x :: rest) pos) c.env whole) Q S := fun _ hs => by
  refine isTrue_or (k1 h hs fun b S' s' hs' q => ?_)
  cases b with
  | true => exact ⟨S', hs', q⟩
  | false => exact q s' hs'
theorem pt_or_nil {pos : Pos} {whole : Sem Value} {Q : Bool → St → Prop} (h : Q false S) : PW c (isTrue (.BoolOp .Or [] pos) c.env whole) Q S :=
  fun _ hs => isTrue_or_nil ⟨S, hs, h⟩
theorem pv_and {e₁ e₂ : Expr} {rest : List Expr} {pos : Pos} {Q : TV → St → Prop}
    (h : PV c (eval e₁ c.env) (fun v S₁ => TRUTHY c v (fun b S₂ => if b = true then PV c (eval (.BoolOp .And (e₂ :: rest) pos) c.env) Q S₂ else Q v S₂) S₁) S) :
    PV c (eval (.BoolOp .And (e₁ :: e₂ :: rest) pos) c.env) Q S := fun _ hs => by
  refine BoolOp_and (k1 h hs fun v _ _ hs' q => k1 (q v rfl) hs' fun b S'' s'' hs'' q' => ?_)
  cases b with
  | true => exact q' s'' hs''
  | false => exact ⟨S'', hs'', q'⟩
theorem pv_or {e₁ e₂ : Expr} {rest : List Expr} {pos : Pos} {Q : TV → St → Prop}
    (h : PV c (eval e₁ c.env) (fun v S₁ => TRUTHY c v (fun b S₂ => if b = true then Q v S₂ else PV c (eval (.BoolOp .Or (e₂ :: rest) pos) c.env) Q S₂) S₁) S) :
    PV c (eval (.BoolOp .Or (e₁ :: e₂ :: rest) pos) c.env) Q S := fun _ hs => by
  refine BoolOp_or (k1 h hs fun v _ _ hs' q => k1 (q v rfl) hs' fun b S'' s'' hs'' q' => ?_)
  cases b with
  | true => exact ⟨S'', hs'', q'⟩
  | false => exact q' s'' hs''
theorem pv_bool1 {e : Expr} {op : BoolOp} {pos : Pos} {Q : TV → St → Prop} (h : PV c (eval e c.env) Q S) : PV c (eval (.BoolOp op [e] pos) c.env) Q S :=
  fun s hs => BoolOp_one (h s hs)
theorem pv_ifexp {test body orelse : Expr} {pos : Pos} {Q : TV → St → Prop}
    (h : PW c (isTrue test c.env (eval test c.env)) (kIfe c body orelse Q) S) :
    PV c (eval (.IfExp test body orelse pos) c.env) Q S := fun _ hs => by
  refine IfExp_ (k1 h hs fun b S' s' hs' q => ?_)
  cases b with
  | true => exact q s' hs'
  | false => exact q s' hs'
theorem pv_attr {value : Expr} {attr : Str} {pos : Pos} {Q : TV → St → Prop}
    (h : PV c (eval value c.env) (kAt c attr Q) S)
    (hp : eval (.Attribute value attr pos) c.env = (do let o ← eval value c.env; standAt pos.atName; let r ← holding [o] (getAttr o attr true); letTemporaryGo value o r; pure r) := by rfl) :
    PV c (eval (.Attribute value attr pos) c.env) Q S := fun _ hs => Attribute_any_ (k1 h hs fun o _ _ hs' q => q o rfl _ hs') hp
theorem pv_sub {value slice : Expr} {pos : Pos} {Q : TV → St → Prop}
    (h : PV c (eval value c.env) (kSub c value slice Q) S) : PV c (eval (.Subscript value slice pos) c.env) Q S :=
  fun _ hs => Subscript_ (k1 h hs fun o _ _ hs' q => k1 q hs' fun i _ _ hs'' q' => q' o i rfl rfl _ hs'')
theorem pv_int {i : Int} {k : Nat} {pos : Pos} {Q : TV → St → Prop} (h : Q (.int i) S) : PV c (eval (.Constant (.int i) k pos) c.env) Q S :=
  fun _ hs => wpAny_Constant_int ⟨S, hs.tok _, h⟩
theorem pv_str {x : Str} {k : Nat} {pos : Pos} {Q : TV → St → Prop} (h : Q (.str x) S) : PV c (eval (.Constant (.str x) k pos) c.env) Q S :=
  fun _ hs => Constant_str ⟨S, hs.tok _, h⟩
theorem pv_none {k : Nat} {pos : Pos} {Q : TV → St → Prop} (h : Q .none S) : PV c (eval (.Constant .none k pos) c.env) Q S :=
  fun _ hs => wpAny_Constant_none ⟨S, hs, h⟩
theorem pv_bool {b : Bool} {k : Nat} {pos : Pos} {Q : TV → St → Prop} (h : Q (.bool b) S) : PV c (eval (.Constant (.bool b) k pos) c.env) Q S :=
  fun _ hs => Constant_bool ⟨S, hs, h⟩

theorem ldn' {x : Str} {Q : TV → St → Prop} {v : TV} (hw : Well c) (hv : S.m.lookup x = some v) (h : Q v S)
    (hl : c.env.kindOf x = some .local := by rfl) : PV c (loadName c.env x) Q S := fun s hs => by
  obtain ⟨mm, F, e⟩ := hs.fr
  have := e x
  rw [hv] at this
  obtain ⟨vv, h1, h2⟩ := Option.map_eq_some_iff.mp this
  exact wpAny_loadName_local hw.fn hl F.ns h1 ⟨S, hs, by show Q (er vv) S; rw [h2]; exact h⟩
theorem pv_local {x : Str} {pos : Pos} {Q : TV → St → Prop} {v : TV} (hw : Well c) (hv : S.m.lookup x = some v) (h : Q v S)
    (hl : c.env.kindOf x = some .local := by rfl) (hd : (x == ("__debug__" : Str)) = false := by decide) : PV c (eval (.Name x pos) c.env) Q S :=
  fun s hs => wpAny_Name (ldn' hw hv h hl s hs) hd
theorem pv_global {x : Str} {pos : Pos} {Q : TV → St → Prop} {v : Value} (hw : Well c) (hv : nsIn (KK c.w) mainGlobals x = some (some v)) (h : Q (er v) S)
    (hl : c.env.kindOf x = some .globalImplicit := by rfl) (hd : (x == ("__debug__" : Str)) = false := by decide) : PV c (eval (.Name x pos) c.env) Q S := fun s hs => by
  obtain ⟨mm, F, _⟩ := hs.fr
  obtain ⟨_, _, mg, mb, T⟩ := hw.T
  exact Name_function_global hw.fn hl (loadGlobal_global (by rw [hw.gl]; exact T.g.keeps F.keep) (mg_of hw.K T.g hv) ⟨S, hs, h⟩) hd
theorem pv_builtin {x : Str} {pos : Pos} {Q : TV → St → Prop} {v : Value} (hw : Well c) (hv : nsIn (KK c.w) mainGlobals x = some none) (hb : bootBuiltins x = some v) (hn : x ≠ "__name__") (h : Q (er v) S)
    (hl : c.env.kindOf x = some .globalImplicit := by rfl) (hd : (x == ("__debug__" : Str)) = false := by decide) : PV c (eval (.Name x pos) c.env) Q S := fun s hs => by
  obtain ⟨mm, F, _⟩ := hs.fr
  obtain ⟨_, _, mg, mb, T⟩ := hw.T
  exact Name_function_global hw.fn hl (loadGlobal_builtin (by rw [hw.gl]; exact T.g.keeps F.keep) (mg_none_of hw.K T.g hv) (by rw [hw.bn]; exact T.b.keeps F.keep) ((T.builtins x hn).trans hb) ⟨S, hs, h⟩) hd
end

end
end Mine
end
section
open PySem PySem.W PyProof.Rows PySem.Calls
set_option maxRecDepth 100000
set_option maxHeartbeats 4000000
namespace Mine
noncomputable section

noncomputable def upd (H : HM) (a : Addr) (o : AO) : HM := fun b => if b = a then some o else H b
@[simp] theorem upd_self (H : HM) (a : Addr) (o : AO) : upd H a o a = some o := by simp [upd]
theorem upd_ne {H : HM} {a b : Addr} {o : AO} (h : b ≠ a) : upd H a o b = H b := by simp [upd, h]
/-- what a state knows is kept, but for the places of F -/
noncomputable def Keep (F : List Addr) (H H' : HM) : Prop := ∀ a o, a ∉ F → H a = some o → H' a = some o
theorem Keep.refl {F : List Addr} {H : HM} : Keep F H H := fun _ _ _ h => h
theorem Keep.trans {F : List Addr} {H H' H'' : HM} (x : Keep F H H') (y : Keep F H' H'') : Keep F H H'' := fun a o n h => y a o n (x a o n h)
theorem Keep.weaken {F F' : List Addr} {H H' : HM} (x : Keep F H H') (s : ∀ a ∈ F, a ∈ F') : Keep F' H H' := fun a o n h => x a o (fun q => n (s a q)) h
section
variable {c : Cx} {S : St} {s : Shared}

theorem Sat.noL (h : Sat c S s) : S.H c.L = none := by
  cases q : S.H c.L with
  | none => rfl
  | some o => exact absurd rfl (h.H _ _ q).2.2.2
theorem Sat.lt (h : Sat c S s) {a : Addr} {o : AO} (e : S.H a = some o) : a < s.heap.objs.size := let ⟨⟨_, g, _⟩, _⟩ := h.H a o e; Heap.lt_size g
theorem Sat.freshN (h : Sat c S s) : S.H s.heap.objs.size = none := by
  cases q : S.H s.heap.objs.size with
  | none => rfl
  | some o => exact absurd (h.lt q) (Nat.lt_irrefl _)
theorem Sat.Llt (h : Sat c S s) : c.L < s.heap.objs.size := by
  obtain ⟨mm, F, _⟩ := h.fr
  obtain ⟨o, _, _, g, _⟩ := F.ns
  exact Heap.lt_size g
theorem Fr.ofKeep {h₀ h h' : Heap} {L : Addr} {m : Str → Option Value} (F : Fr h₀ L h m) (hL : ∀ o, h.get? L = some o → h'.get? L = some o) (hk : ∀ b o, h₀.get? b = some o → h'.get? b = some o) : Fr h₀ L h' m := by
  obtain ⟨o, es, ep, g, r⟩ := F.ns
  exact ⟨⟨o, es, ep, hL _ g, r⟩, hk, F.above⟩

/-- the heap grew: all that stood stands -/
theorem Sat.ext (h : Sat c S s) {s' : Shared} (hk : ∀ b o, s.heap.get? b = some o → s'.heap.get? b = some o) (hg : s'.gens = s.gens) (ho : s'.os = s.os) : Sat c S s' := by
  obtain ⟨mm, F, e⟩ := h.fr
  refine ⟨⟨mm, Fr.ofKeep F (fun o q => hk _ _ q) (fun b o q => hk _ _ (F.keep b o q)), e⟩, fun b o q => hk _ _ (h.base b o q), h.baseL, fun a o q => ?_, by rw [hg]; exact h.g, ho.trans h.os⟩
  obtain ⟨⟨ob, q1, q2⟩, r⟩ := h.H a o q
  exact ⟨⟨ob, hk _ _ q1, q2⟩, r⟩

theorem Fr.noSize {h₀ h : Heap} {L : Addr} {m : Str → Option Value} (F : Fr h₀ L h m) {a : Addr} (ha : h.objs.size ≤ a) : h₀.get? a = none := by
  cases q : h₀.get? a with
  | none => rfl
  | some o => exact absurd (Heap.lt_size (F.keep _ _ q)) (Nat.not_lt.mpr ha)

/-- one more object is known: it stands in the heap, at a place of which nothing was known -/
theorem Sat.know (h : Sat c S s) {a : Addr} {ao : AO} {ob : Obj} (hg : s.heap.get? a = some ob) (hi : ao.is c.w.params ob) (h1 : c.h₁.get? a = none) (hb : c.base.get? a = none) (hL : a ≠ c.L) :
    Sat c { S with H := upd S.H a ao } s := by
  refine ⟨h.fr, h.base, h.baseL, fun b o q => ?_, h.g, h.os⟩
  by_cases e : b = a
  · subst e
    simp only [upd_self, Option.some.injEq] at q
    subst q
    exact ⟨⟨ob, hg, hi⟩, h1, hb, hL⟩
  · exact h.H b o ((upd_ne e).symm.trans q)

theorem Sat.baseFresh (h : Sat c S s) {a : Addr} (ha : s.heap.objs.size ≤ a) : c.base.get? a = none := by
  cases q : c.base.get? a with
  | none => rfl
  | some o => exact absurd (Heap.lt_size (h.base _ _ q)) (Nat.not_lt.mpr ha)
theorem Sat.h1Fresh (h : Sat c S s) {a : Addr} (ha : s.heap.objs.size ≤ a) : c.h₁.get? a = none := let ⟨_, F, _⟩ := h.fr; Fr.noSize F ha
theorem Sat.HFresh (h : Sat c S s) {a : Addr} (ha : s.heap.objs.size ≤ a) : S.H a = none := by
  cases q : S.H a with
  | none => rfl
  | some o => exact absurd (h.lt q) (Nat.not_lt.mpr ha)

theorem Sat.push (h : Sat c S s) {ao : AO} {ob : Obj} (hf : ob.isFreed = false) (hi : ao.is c.w.params ob) :
    Sat c { S with H := upd S.H s.heap.objs.size ao } { s with heap := s.heap.push ob } :=
  (h.ext (s' := { s with heap := s.heap.push ob }) (fun b o q => Heap.get?_push_of_some _ q) rfl rfl).know (Heap.get?_push_size _ hf) hi (h.h1Fresh (Nat.le_refl _)) (h.baseFresh (Nat.le_refl _)) (Nat.ne_of_gt h.Llt)

/-- one known object has turned -/
theorem Sat.turn (h : Sat c S s) {s' : Shared} {d : Addr} {x ao : AO} {ob : Obj} (hd : S.H d = some x) (hk : ∀ b o, b ≠ d → s.heap.get? b = some o → s'.heap.get? b = some o)
    (hg : s'.heap.get? d = some ob) (hi : ao.is c.w.params ob) (hgen : s'.gens = s.gens) (hos : s'.os = s.os) : Sat c { S with H := upd S.H d ao } s' := by
  obtain ⟨_, h1, hb, hL⟩ := h.H d x hd
  obtain ⟨mm, F, e⟩ := h.fr
  refine ⟨⟨mm, Fr.ofKeep F (fun o q => hk _ _ (Ne.symm hL) q) (fun b o q => hk _ _ (by rintro rfl; rw [h1] at q; cases q) (F.keep b o q)), e⟩,
    fun b o q => hk _ _ (by rintro rfl; rw [hb] at q; cases q) (h.base b o q), h.baseL, fun a o q => ?_, by rw [hgen]; exact h.g, hos.trans h.os⟩
  by_cases ea : a = d
  · subst ea
    simp only [upd_self, Option.some.injEq] at q
    subst q
    exact ⟨⟨ob, hg, hi⟩, h1, hb, hL⟩
  · obtain ⟨⟨ob', q1, q2⟩, r⟩ := h.H a o ((upd_ne ea).symm.trans q)
    exact ⟨⟨ob', hk _ _ ea q1, q2⟩, r⟩

theorem lookup_cons_eq {x y : Str} {v : TV} {m : List (Str × TV)} : List.lookup y ((x, v) :: m) = if y = x then some v else m.lookup y := by
  rw [List.lookup_cons]
  by_cases h : y = x
  · subst h; simp
  · have : (y == x) = false := by simpa using h
    rw [this, if_neg h]

theorem pw_store {x : Str} {v : TV} {Q : St → Prop} (hw : Well c) (h : Q { S with m := (x, v) :: S.m }) (hl : c.env.kindOf x = some .local := by rfl) : STORE c x v Q S := by
  intro vv hv s hs
  obtain ⟨mm, F, e⟩ := hs.fr
  refine wpAny_storeName_local hl F.ns (fun h' hn hsb => ⟨{ S with m := (x, v) :: S.m }, ⟨⟨_, F.set hn hsb, fun y => ?_⟩, fun b o q => ?_, hs.baseL, fun a o q => ?_, hs.g, hs.os⟩, h⟩)
    (by show (c.env.scope.kind == .class || (c.env.scope.kind == .module && c.env.locals != c.env.globals)) = false; rw [hw.fn]; rfl)
  · rw [lookup_cons_eq]
    by_cases hy : y = x
    · simp [hy, hv]
    · simp [hy, e y]
  · have : b ≠ c.L := by rintro rfl; rw [hs.baseL] at q; cases q
    show h'.get? b = some o
    rw [hsb.2 b this]; exact hs.base b o q
  · obtain ⟨⟨ob, q1, q2⟩, r1, r2, r3⟩ := hs.H a o q
    exact ⟨⟨ob, by show h'.get? a = some ob; rw [hsb.2 a r3]; exact q1, q2⟩, r1, r2, r3⟩

/-! new lists and tuples; calls' arguments -/
noncomputable def ARGS (c : Cx) (es : List Expr) (Q : List TV → St → Prop) (S : St) : Prop := ∀ pos, PW c (spliced (backTo pos (starEach es c.env))) (fun vs S' => Q (vs.map er) S') S
noncomputable abbrev kArg2 (v : TV) (Q : List TV → St → Prop) : List TV → St → Prop := fun vs S₂ => Q (v :: vs) S₂
noncomputable abbrev kArg (c : Cx) (rest : List Expr) (Q : List TV → St → Prop) : TV → St → Prop := fun v S₁ => ARGS c rest (kArg2 v Q) S₁
theorem args_nil {Q : List TV → St → Prop} (h : Q [] S) : ARGS c [] Q S := fun _ _ hs => spliced_none ⟨S, hs, h⟩
theorem args_cons {e : Expr} {rest : List Expr} {Q : List TV → St → Prop} (h : PV c (eval e c.env) (kArg c rest Q) S)
    (hn : starEach (e :: rest) c.env = (false, eval e c.env) :: starEach rest c.env := by rfl) : ARGS c (e :: rest) Q S :=
  fun pos _ hs => spliced_more (k1 h hs fun _ _ _ hs' q => k1 (q pos) hs' fun _ S₂ _ hs₂ q₂ => ⟨S₂, hs₂, q₂⟩) hn
noncomputable def KWS (c : Cx) (es : List Keyword) (Q : List TV → St → Prop) (S : St) : Prop := ∀ pos, PW c (evalAll (List.map (fun x => x.2) (backToKw pos (keywordEach es c.env)))) (fun vs S' => Q (vs.map er) S') S
theorem kws_nil' {Q : List TV → St → Prop} (h : Q [] S) : KWS c [] Q S := fun _ _ hs => kwAll_nil ⟨S, hs, h⟩
theorem kws_cons' {name : Str} {value : Expr} {p : Pos} {rest : List Keyword} {Q : List TV → St → Prop} (h : PV c (eval value c.env) (fun v S₁ => KWS c rest (fun vs S₂ => Q (v :: vs) S₂) S₁) S) :
    KWS c (⟨some name, value, p⟩ :: rest) Q S :=
  fun pos _ hs => kwAll_cons (k1 h hs fun _ _ _ hs' q => k1 (q pos) hs' fun _ S₂ _ hs₂ q₂ => ⟨S₂, hs₂, q₂⟩)

noncomputable def NEWLIST (c : Cx) (xs : List TV) (Q : TV → St → Prop) (S : St) : Prop := ∀ vs, vs.map er = xs → PV c (newList vs) Q S
noncomputable def NEWTUP (c : Cx) (xs : List TV) (Q : TV → St → Prop) (S : St) : Prop := ∀ vs, vs.map er = xs → PV c (newTuple vs) Q S
noncomputable abbrev kNl (c : Cx) (Q : TV → St → Prop) : List TV → St → Prop := fun xs S₁ => NEWLIST c xs Q S₁
noncomputable abbrev kNt (c : Cx) (Q : TV → St → Prop) : List TV → St → Prop := fun xs S₁ => NEWTUP c xs Q S₁
theorem pv_list {es : List Expr} {pos : Pos} {Q : TV → St → Prop} (h : ARGS c es (kNl c Q) S) : PV c (eval (.List es pos) c.env) Q S :=
  fun _ hs => List_ (k1 (h pos) hs fun vs _ _ hs' q => q vs rfl _ hs')
theorem pv_tuple {es : List Expr} {k : Nat} {pos : Pos} {Q : TV → St → Prop} (h : ARGS c es (kNt c Q) S) : PV c (eval (.Tuple es k pos) c.env) Q S :=
  fun _ hs => Tuple_ (k1 (h pos) hs fun vs _ _ hs' q => q vs rfl _ hs')
theorem new_list {xs : List TV} {Q : TV → St → Prop} (hz : xs.length ≤ sizeLine) (h : ∀ a, S.H a = none → Q (.ref a) { S with H := upd S.H a (.list xs) }) : NEWLIST c xs Q S := by
  intro vs hv s hs
  have hl : vs.length ≤ sizeLine := by rw [← hv, List.length_map] at hz; exact hz
  refine wpAny_newObj_type (data := .seq vs.toArray) ?_ (by show vs.toArray.size ≤ sizeLine; rw [List.size_toArray]; exact hl)
  exact ⟨_, hs.push (ao := .list xs) rfl ⟨vs.toArray, 0, rfl, by simpa using hv⟩, h _ hs.freshN⟩
theorem new_tup {xs : List TV} {Q : TV → St → Prop} (hz : xs.length ≤ sizeLine) (h : ∀ a, S.H a = none → Q (.ref a) { S with H := upd S.H a (.tup xs) }) : NEWTUP c xs Q S := by
  intro vs hv s hs
  have hl : vs.length ≤ sizeLine := by rw [← hv, List.length_map] at hz; exact hz
  refine wpAny_newObj_type (data := .seq vs.toArray) ?_ (by show vs.toArray.size ≤ sizeLine; rw [List.size_toArray]; exact hl)
  exact ⟨_, hs.push (ao := .tup xs) rfl ⟨vs, rfl, hv⟩, h _ hs.freshN⟩

noncomputable def CODE (c : Cx) (code : Code) (Q : TV → St → Prop) (S : St) : Prop :=
  ∀ s, Sat c S s → codeAny (model PG c.w) c.A code (fun r s' => ∃ v, r = .ok (.ret v) ∧ ∃ S', Sat c S' s' ∧ Q (er v) S') s
noncomputable def CALL (c : Cx) (f : TV) (args : List TV) (kws : List (Str × TV)) (Q : TV → St → Prop) (S : St) : Prop :=
  ∀ vf vs ks, er vf = f → vs.map er = args → ks.map (fun x => (x.1, er x.2)) = kws → CODE c (.call vf ⟨vs, ks⟩) Q S
theorem code_call {f : Value} {vs : List Value} {ks : List (Str × Value)} {Q : TV → St → Prop} (h : CODE c (.call f ⟨vs, ks⟩) Q S) : PV c (call f vs ks) Q S :=
  fun s hs => wpAny_call (codeAny_mono (h s hs) fun r s' ⟨v, e, S', a, b⟩ => by subst e; exact ⟨S', a, b⟩)
noncomputable def CALLX (c : Cx) (f : TV) (args : List TV) (Q : TV → St → Prop) (S : St) : Prop :=
  ∀ vf vs s, er vf = f → vs.map er = args → Sat c S s → wpAny (model PG c.w) c.A (call vf vs []) (fun v s' => ∃ S', Sat c S' s' ∧ Q (er v) S') (fun _ _ => False) s
noncomputable def CALLW (c : Cx) (f : TV) (first : List TV) (args : List Expr) (kws : List Keyword) (Q : TV → St → Prop) (S : St) : Prop :=
  ∀ pos vf vfirst, er vf = f → vfirst.map er = first → PV c (callWith pos vf vfirst (backTo pos (starEach args c.env)) (backToKw pos (keywordEach kws c.env))) Q S
noncomputable def GETM (c : Cx) (ov : TV) (name : Str) (Q : TV → List TV → St → Prop) (S : St) : Prop :=
  ∀ pl vo, er vo = ov → PW c (getMethod vo name pl) (fun fx S' => Q (er fx.1) (fx.2.map er) S') S

noncomputable abbrev kCw (c : Cx) (args : List Expr) (kws : List Keyword) (Q : TV → St → Prop) : TV → St → Prop := fun f S₁ => CALLW c f [] args kws Q S₁
noncomputable abbrev kMc2 (c : Cx) (args : List Expr) (Q : TV → St → Prop) : TV → List TV → St → Prop := fun f first S₂ => CALLW c f first args [] Q S₂
noncomputable abbrev kMc (c : Cx) (name : Str) (args : List Expr) (Q : TV → St → Prop) : TV → St → Prop := fun ov S₁ => GETM c ov name (kMc2 c args Q) S₁
noncomputable abbrev kCk (c : Cx) (a : Addr) (first : List TV) (Q : TV → St → Prop) : List TV → St → Prop := fun vs S₁ => CALL c (.ref a) (first ++ vs) [] Q S₁
noncomputable abbrev kCb (c : Cx) (id : String) (first : List TV) (Q : TV → St → Prop) : List TV → St → Prop := fun vs S₁ => CALLX c (.bt id) (first ++ vs) Q S₁
noncomputable abbrev kCt (c : Cx) (T : String) (Q : TV → St → Prop) : List TV → St → Prop := fun vs S₁ => CALLX c (.type T) vs Q S₁
theorem pv_call {func : Expr} {args : List Expr} {pos : Pos} {Q : TV → St → Prop} (h : PV c (eval func c.env) (kCw c args [] Q) S)
    (hp : eval (func.Call args [] pos) c.env = (do callWith pos (← eval func c.env) [] (backTo pos (starEach args c.env)) (backToKw pos (keywordEach [] c.env))) := by rfl) :
    PV c (eval (.Call func args [] pos) c.env) Q S := fun _ hs => Call_ (k1 h hs fun f _ _ hs' q => q pos f [] rfl rfl _ hs') hp
theorem pv_mcall {o : Expr} {name : Str} {args : List Expr} {apos pos : Pos} {Q : TV → St → Prop} {pl : Sem Bool} (h : PV c (eval o c.env) (kMc c name args Q) S)
    (hp : eval (.Call (.Attribute o name apos) args [] pos) c.env = (do
      let ov ← eval o c.env
      standAt apos.atName
      let (f, first) ← holding [ov] (getMethod ov name pl)
      callWith pos f first (backTo pos (starEach args c.env)) []) := by rfl) : PV c (eval (.Call (.Attribute o name apos) args [] pos) c.env) Q S :=
  fun _ hs => MethodCall_ (k1 h hs fun ov _ _ hs' q => k1 (q pl ov rfl) hs' fun fx _ _ hs'' q' => q' pos fx.1 fx.2 rfl rfl _ hs'') hp

theorem Well.Kin (hw : Well c) (hs : Sat c S s) : (KK c.w).In s.heap := let ⟨_, F, _⟩ := hs.fr; hw.K.keeps F.keep
theorem callw_K {a : Addr} {first : List TV} {e : Expr} {rest : List Expr} {Q : TV → St → Prop} (hw : Well c) (hk : keepIn (KK c.w) (.ref a) = true)
    (h : ARGS c (e :: rest) (kCk c a first Q) S)
    (hn : starEach (e :: rest) c.env = (false, eval e c.env) :: starEach rest c.env := by rfl) (hm : ∀ pos, (backTo pos (starEach rest c.env)).any (fun x => x.1) = false := by intro _; rfl) :
    CALLW c (.ref a) first (e :: rest) [] Q S := by
  intro pos vf vfirst hf hfi s hs
  cases er_ref hf
  exact callWith_K hw.K hk (k1 (h pos) hs fun vs S₁ s₁ hs₁ q => ⟨hw.Kin hs₁, code_call (q _ _ [] rfl (by rw [List.map_append, hfi]) rfl) s₁ hs₁⟩) hn (hm pos)
theorem callw_K0 {a : Addr} {first : List TV} {Q : TV → St → Prop} (hw : Well c) (hk : keepIn (KK c.w) (.ref a) = true) (h : CALL c (.ref a) first [] Q S) : CALLW c (.ref a) first [] [] Q S := by
  intro pos vf vfirst hf hfi s hs
  cases er_ref hf
  exact callWith_K0 (hw.Kin hs) hk (code_call (h _ _ [] rfl (by rw [List.append_nil, hfi]) rfl) s hs)
theorem callw_bt {id : String} {first : List TV} {e : Expr} {rest : List Expr} {Q : TV → St → Prop} (h : ARGS c (e :: rest) (kCb c id first Q) S)
    (hn : starEach (e :: rest) c.env = (false, eval e c.env) :: starEach rest c.env := by rfl) (hm : ∀ pos, (backTo pos (starEach rest c.env)).any (fun x => x.1) = false := by intro _; rfl) :
    CALLW c (.bt id) first (e :: rest) [] Q S := by
  intro pos vf vfirst hf hfi s hs
  cases er_bt hf
  exact PyProof.Rows.callWith_method1 (k1 (h pos) hs fun vs S₁ s₁ hs₁ q => q _ _ s₁ rfl (by rw [List.map_append, hfi]) hs₁) hn (hm pos)
theorem callw_ty {T : String} {e : Expr} {rest : List Expr} {Q : TV → St → Prop} (h : ARGS c (e :: rest) (kCt c T Q) S)
    (hn : starEach (e :: rest) c.env = (false, eval e c.env) :: starEach rest c.env := by rfl) (hm : ∀ pos, (backTo pos (starEach rest c.env)).any (fun x => x.1) = false := by intro _; rfl) :
    CALLW c (.type T) [] (e :: rest) [] Q S := by
  intro pos vf vfirst hf hfi s hs
  cases er_type hf
  cases (List.map_eq_nil_iff.mp hfi)
  exact PyProof.Rows.callWith_type1 (k1 (h pos) hs fun vs S₁ s₁ hs₁ q => q _ _ s₁ rfl rfl hs₁) hn (hm pos)
theorem callw_ty0 {T : String} {Q : TV → St → Prop} (h : CALLX c (.type T) [] Q S) : CALLW c (.type T) [] [] [] Q S := by
  intro pos vf vfirst hf hfi s hs
  cases er_type hf
  cases (List.map_eq_nil_iff.mp hfi)
  exact callWith_type0 (h _ _ s rfl rfl hs)
end
end
end Mine
end
section
open PySem PySem.W PyProof.Rows PySem.Calls
set_option maxRecDepth 100000
set_option maxHeartbeats 4000000
namespace Mine
noncomputable section

noncomputable def retv : TF → TV
  | .ret v => v
  | _ => .none
theorem lookup_er (x : Str) : ∀ l : List (Str × Value), (l.lookup x).map er = (l.map fun p => (p.1, er p.2)).lookup x
  | [] => rfl
  | (y, v) :: l => by
    simp only [List.map_cons, List.lookup_cons]
    cases x == y with
    | true => rfl
    | false => exact lookup_er x l
theorem zip_er : ∀ (ns : List Str) (vs : List Value), (ns.zip vs).map (fun p => (p.1, er p.2)) = ns.zip (vs.map er)
  | [], _ => by simp
  | _ :: _, [] => by simp
  | n :: ns, v :: vs => by simp [zip_er ns vs]

theorem Room.under {A : Around} {k : Nat} (h : Room A (k + 1)) (env : Env) : Room (A.deeper env) k :=
  ⟨by have := h.depth; show A.depth + 1 + 3 * k < _; exact aL 0x11213d0fc121f3d0c1103 this, by have := h.units; show A.units + 3 + 40 * k < _; exact aL 0x112158d3b0cc121f58d0c1103 this, h.handled, h.guards⟩
theorem Room.le {A : Around} {k j : Nat} (h : Room A k) (l : j ≤ k) : Room A j :=
  ⟨by have := h.depth; exact aL 0x131303d2c1313d2c1100204 l this, by have := h.units; exact aL 0x15813058d2c13158d2c1100204 l this, h.handled, h.guards⟩
theorem Room.in1 {A : Around} {k : Nat} (h : Room A (k + 1)) : Room A.in1 k :=
  ⟨by have := h.depth; show A.depth + 3 * k < _; exact aL 0x11213d0c121f3d0c1103 this, by have := h.units; show A.units + 1 + 40 * k < _; exact aL 0x112158d0fc121f58d0c1103 this, h.handled, h.guards⟩

noncomputable def baseOf (h : Heap) (H : HM) : Heap := ⟨h.objs.mapIdx fun i o => if (H i).isSome then { o with data := .freed } else o, h.life⟩
noncomputable abbrev bsOf (s : Shared) (H : HM) : Bs := ⟨baseOf s.heap H, s.gens⟩
theorem baseOf_get {h : Heap} {H : HM} {b : Addr} {o : Obj} : (baseOf h H).get? b = some o ↔ h.get? b = some o ∧ H b = none := by
  unfold Heap.get? baseOf
  simp only [Array.getElem?_mapIdx]
  cases e : h.objs[b]? with
  | none => simp
  | some x =>
    obtain ⟨c, d, dt, sl⟩ := x
    cases q : H b with
    | none => simp
    | some a => simp

section
variable {c : Cx} {S : St} {k : Nat}

theorem call_fn {f : Addr} {args : List TV} {kws : List (Str × TV)} {name qual : Str} {params : Arguments} {body : List Stmt} {scope : Scope} {dV kV doc pm cdv ct oc : Value} {an od : Option Addr} {osl : Array (Option Value)}
    {m₀ : List (Str × TV)} {Q : TV → St → Prop} (hw : Well c) (hr : Room c.A (k + 1))
    (ho : (KK c.w).lookup f = some ⟨oc, od, .func (fnOf name qual params body scope dV kV doc pm an cdv ct), osl⟩) (hcd : codeIn (KK c.w) cdv qual = true)
    (hbind : ∀ (vs : List Value) (ks : List (Str × Value)), vs.map er = args → ks.map (fun x => (x.1, er x.2)) = kws → ∀ s, (KK c.w).In s.heap → ∃ binds : List (Str × Value), BindsTo s (fnOf name qual params body scope dV kV doc pm an cdv ct) ⟨vs, ks⟩ binds ∧
      (∀ x ∈ binds, scope.names.lookup x.1 = some .local) ∧ ∀ x, (binds.reverse.lookup x).map er = m₀.lookup x)
    (hk : scope.kind = .function) (hco : scope.isCoroutine = false) (hgen : scope.isGenerator = false) (hcell : ∀ x ∈ scope.names, x.2 ≠ .cell)
    (h : ∀ A' base' L', Room A' k → Well ⟨c.w, A', c.h₁, base', c.os, envOf qual scope L' f cdv⟩ →
      PX ⟨c.w, A', c.h₁, base', c.os, envOf qual scope L' f cdv⟩ (execs body (Cx.env ⟨c.w, A', c.h₁, base', c.os, envOf qual scope L' f cdv⟩)) (fun fl S' => Q (retv fl) { S' with m := S.m }) ⟨m₀, S.H, S.g⟩) :
    CALL c (.ref f) args kws Q S := by
  intro vf vs ks hf hvs hks s hs
  cases er_ref hf
  obtain ⟨mm, F, e⟩ := hs.fr
  have X := hw.Kin hs
  obtain ⟨_, _, mg, mb, T⟩ := hw.T
  obtain ⟨binds, b1, b2, b3⟩ := hbind vs ks hvs hks s X
  refine codeAny_call_def (fd := fnOf name qual params body scope dV kV doc pm an cdv ct) (body := body) (binds := binds) (by have := hr.depth; exact aL 0x1120121f3d0c1103 this) (X _ _ ho) rfl (T.nolimit.keeps F.keep) (codeRec_of X hcd) rfl b1 hcell b2
    (fun h₁ hns hk₁ => ?_) hco hgen hk
  have hL : s.heap.get? c.L ≠ none := by obtain ⟨o, _, _, g, _⟩ := F.ns; rw [g]; exact fun z => by cases z
  let c' : Cx := ⟨c.w, c.A.deeper (envOf qual scope s.heap.objs.size f cdv), c.h₁, bsOf s S.H, c.os, envOf qual scope s.heap.objs.size f cdv⟩
  have W' : Well c' := ⟨hw.K, hw.T, hk, rfl, rfl⟩
  have sat : Sat c' ⟨m₀, S.H, S.g⟩ { s with heap := h₁, toks := s.toks + binds.length } := by
    refine ⟨⟨_, ⟨hns, fun b o q => hk₁ _ _ (F.keep b o q), Nat.le_trans F.above (Nat.le_of_lt hs.Llt)⟩, b3⟩, fun b o q => hk₁ _ _ (baseOf_get.mp q).1, ?_, fun a o q => ?_, ⟨fun _ _ h => h, hs.g.2⟩, hs.os⟩
    · show (bsOf s S.H).get? s.heap.objs.size = none
      cases q : (bsOf s S.H).get? s.heap.objs.size with
      | none => rfl
      | some o => exact absurd (Heap.lt_size (baseOf_get.mp q).1) (Nat.lt_irrefl _)
    · obtain ⟨⟨ob, q1, q2⟩, r1, r2, r3⟩ := hs.H a o q
      refine ⟨⟨ob, hk₁ _ _ q1, q2⟩, r1, ?_, Nat.ne_of_lt (Heap.lt_size q1)⟩
      cases z : (bsOf s S.H).get? a with
      | none => rfl
      | some o' => have := (baseOf_get.mp z).2; rw [q] at this; cases this
  refine wpAny_mono (h c'.A c'.base c'.L (hr.under _) W' _ sat) (fun fl s' ⟨S', hs', q⟩ => ⟨_, rfl, { S' with m := S.m }, ?_, by cases fl <;> exact q⟩) fun _ _ x => x.elim
  obtain ⟨mm', F', e'⟩ := hs'.fr
  have kp : ∀ b o, s.heap.get? b = some o → S.H b = none → s'.heap.get? b = some o := fun b o g z => hs'.base b o (baseOf_get.mpr ⟨g, z⟩)
  refine ⟨⟨mm, Fr.ofKeep F (fun o g => kp _ _ g hs.noL) (fun b o g => F'.keep b o g), e⟩, fun b o g => kp _ _ (hs.base b o g) ?_, hs.baseL, fun a o g => ?_, ⟨fun i x h => hs'.g.1 i x (hs.g.1 i x h), hs'.g.2⟩, hs'.os⟩
  · cases z : S.H b with
    | none => rfl
    | some x => have := (hs.H b x z).2.2.1; rw [g] at this; cases this
  · obtain ⟨r0, r1, r2, r3⟩ := hs'.H a o g
    refine ⟨r0, r1, ?_, ?_⟩
    · cases z : c.base.get? a with
      | none => rfl
      | some x =>
        have z1 : S.H a = none := by
          cases z2 : S.H a with
          | none => rfl
          | some y => have := (hs.H a y z2).2.2.1; rw [z] at this; cases this
        have : c'.base.get? a = some x := baseOf_get.mpr ⟨hs.base _ _ z, z1⟩
        rw [r2] at this; cases this
    · rintro rfl
      obtain ⟨o', _, _, g', _⟩ := F.ns
      have : c'.base.get? c.L = some o' := baseOf_get.mpr ⟨g', hs.noL⟩
      rw [r2] at this; cases this

theorem call_pos' {f : Addr} {args : List TV} {name qual : Str} {params : Arguments} {body : List Stmt} {scope : Scope} {dV kV doc pm cdv ct oc : Value} {an od : Option Addr} {osl : Array (Option Value)}
    {names : List Str} {Q : TV → St → Prop} (hw : Well c) (hr : Room c.A (k + 1))
    (ho : (KK c.w).lookup f = some ⟨oc, od, .func (fnOf name qual params body scope dV kV doc pm an cdv ct), osl⟩) (hcd : codeIn (KK c.w) cdv qual = true)
    (hlen : args.length = names.length)
    (hbind : ∀ vs : List Value, vs.length = names.length → bindArgs (fnOf name qual params body scope dV kV doc pm an cdv ct) ⟨vs, []⟩ = pure (names.zip vs))
    (hloc : (names.all fun x => decide (scope.names.lookup x = some .local)) = true)
    (hk : scope.kind = .function) (hco : scope.isCoroutine = false) (hgen : scope.isGenerator = false) (hcell : ∀ x ∈ scope.names, x.2 ≠ .cell)
    (h : ∀ A' base' L', Room A' k → Well ⟨c.w, A', c.h₁, base', c.os, envOf qual scope L' f cdv⟩ →
      PX ⟨c.w, A', c.h₁, base', c.os, envOf qual scope L' f cdv⟩ (execs body (Cx.env ⟨c.w, A', c.h₁, base', c.os, envOf qual scope L' f cdv⟩)) (fun fl S' => Q (retv fl) { S' with m := S.m }) ⟨(names.zip args).reverse, S.H, S.g⟩) :
    CALL c (.ref f) args [] Q S := by
  refine call_fn hw hr ho hcd (fun vs ks hvs hks s X => ?_) hk hco hgen hcell h
  cases (List.map_eq_nil_iff.mp hks)
  have hl : vs.length = names.length := by rw [← hlen, ← hvs, List.length_map]
  refine ⟨names.zip vs, BindsTo.of_eq (hbind vs hl), fun x hx => ?_, fun x => ?_⟩
  · have := List.all_eq_true.mp hloc x.1 (List.of_mem_zip hx).1
    simpa using this
  · rw [lookup_er, List.map_reverse, zip_er, hvs]
end
end
end Mine
end
section
open PySem PySem.W PyProof.Rows PySem.Calls
set_option maxRecDepth 100000
set_option maxHeartbeats 4000000
namespace Mine
noncomputable section

/-! every object that is not of the base and not the frame's: a ledger that misses nothing -/
noncomputable def allNews (h₀ : Heap) (L : Addr) (h : Heap) : List (Addr × Obj) :=
  (List.range h.objs.size).filterMap fun b => if b = L ∨ (h₀.get? b).isSome then none else (h.get? b).map fun o => (b, o)
theorem mem_allNews {h₀ h : Heap} {L : Addr} {p : Addr × Obj} : p ∈ allNews h₀ L h ↔ h.get? p.1 = some p.2 ∧ p.1 ≠ L ∧ h₀.get? p.1 = none := by
  unfold allNews
  rw [List.mem_filterMap]
  constructor
  · rintro ⟨b, _, e⟩
    by_cases q : b = L ∨ (h₀.get? b).isSome = true
    · rw [if_pos q] at e; cases e
    · rw [if_neg q] at e
      obtain ⟨o, h1, rfl⟩ := Option.map_eq_some_iff.mp e
      have q' := not_or.mp q
      exact ⟨h1, q'.1, by simpa using q'.2⟩
  · rintro ⟨h1, h2, h3⟩
    refine ⟨p.1, List.mem_range.mpr (Heap.lt_size h1), ?_⟩
    rw [if_neg (by rw [h3]; simp [h2]), h1]; rfl
theorem allNews_news {h₀ h : Heap} {L : Addr} : News h₀ L h (allNews h₀ L h) := fun p hp => mem_allNews.mp hp
theorem allNews_nodup {h₀ h : Heap} {L : Addr} : ((allNews h₀ L h).map (·.1)).Nodup := by
  have : (allNews h₀ L h).map (·.1) = (List.range h.objs.size).filter fun b => !(decide (b = L) || (h₀.get? b).isSome) && (h.get? b).isSome := by
    unfold allNews
    induction List.range h.objs.size with
    | nil => rfl
    | cons b r ih =>
      by_cases q : b = L ∨ (h₀.get? b).isSome = true
      · rw [List.filterMap_cons_none (by rw [if_pos q]), ih, List.filter_cons_of_neg (by rcases q with q | q <;> simp [q])]
      · have q' := not_or.mp q
        cases e : h.get? b with
        | none => rw [List.filterMap_cons_none (by rw [if_neg q, e]; rfl), ih, List.filter_cons_of_neg (by simp [e])]
        | some o =>
          rw [List.filterMap_cons_some (b := (b, o)) (by rw [if_neg q, e]; rfl), List.map_cons, ih, List.filter_cons_of_pos (by simpa [e, q'.1] using q'.2)]
  rw [this]
  exact List.nodup_range.filter _
theorem upd_map {d : Addr} {o o' : Obj} : ∀ {l : List (Addr × Obj)}, (l.map (·.1)).Nodup → (d, o) ∈ l → Upd d o o' l (l.map fun p => if p.1 = d then (d, o') else p)
  | [], _, h => nomatch h
  | p :: r, hn, h => by
    rw [List.map_cons, List.nodup_cons] at hn
    rw [List.map_cons]
    by_cases e : p.1 = d
    · have : p = (d, o) := by
        rcases List.mem_cons.mp h with q | q
        · exact q.symm
        · exact absurd (List.mem_map_of_mem (f := (·.1)) q) (by simpa [e] using hn.1)
      subst this
      have hr : ∀ q ∈ r, q.1 ≠ d := fun q hq z => hn.1 (List.mem_map.mpr ⟨q, hq, z⟩)
      have e2 : r.map (fun p => if p.1 = d then (d, o') else p) = r := by
        have e3 : r.map (fun p => if p.1 = d then (d, o') else p) = r.map id := List.map_congr_left fun q hq => by rw [if_neg (hr q hq)]; rfl
        rw [e3, List.map_id]
      rw [if_pos rfl, e2]
      exact Upd.head hr
    · rw [if_neg e]
      refine Upd.tail e (upd_map hn.2 ?_)
      rcases List.mem_cons.mp h with q | q
      · exact absurd (by rw [← q]) e
      · exact q

section
variable {c : Cx} {S : St} {s : Shared}

/-- the heap behind a rule of the library that turns one object of the ledger -/
theorem Sat.viaUpd (h : Sat c S s) {d : Addr} {x : AO} {o : Obj} (hd : S.H d = some x) (ho : s.heap.get? d = some o) :
    ∃ mm news, Fr c.h₁ c.L s.heap mm ∧ News c.h₁ c.L s.heap news ∧ ∀ o', ∃ news', Upd d o o' news news' ∧
      ∀ s' : Shared, Fr c.h₁ c.L s'.heap mm → News c.h₁ c.L s'.heap news' → s'.gens = s.gens → s'.os = s.os → ∀ ao : AO, ao.is c.w.params o' → Sat c { S with H := upd S.H d ao } s' := by
  obtain ⟨_, h1, hb, hL⟩ := h.H d x hd
  obtain ⟨mm, F, e⟩ := h.fr
  refine ⟨mm, allNews c.h₁ c.L s.heap, F, allNews_news, fun o' => ⟨_, upd_map allNews_nodup (mem_allNews.mpr ⟨ho, hL, h1⟩), fun s' F' N' hg hos ao hi => ?_⟩⟩
  have kp : ∀ b ob, b ≠ d → b ≠ c.L → s.heap.get? b = some ob → s'.heap.get? b = some ob := fun b ob n1 n2 g => by
    cases z : c.h₁.get? b with
    | some o₁ => have := F.keep b o₁ z; rw [g] at this; cases this; exact F'.keep b ob z
    | none => exact (N' (b, ob) (List.mem_map.mpr ⟨(b, ob), mem_allNews.mpr ⟨g, n2, z⟩, if_neg n1⟩)).1
  have kd : s'.heap.get? d = some o' := (N' (d, o') (List.mem_map.mpr ⟨(d, o), mem_allNews.mpr ⟨ho, hL, h1⟩, if_pos rfl⟩)).1
  refine ⟨⟨mm, F', e⟩, fun b ob q => kp _ _ ?_ ?_ (h.base b ob q), h.baseL, fun a ao' q => ?_, by rw [hg]; exact h.g, hos.trans h.os⟩
  · rintro rfl; rw [hb] at q; cases q
  · rintro rfl; rw [h.baseL] at q; cases q
  · by_cases ea : a = d
    · subst ea
      simp only [upd_self, Option.some.injEq] at q
      subst q
      exact ⟨⟨o', kd, hi⟩, h1, hb, hL⟩
    · obtain ⟨⟨ob', q1, q2⟩, r1, r2, r3⟩ := h.H a ao' ((upd_ne ea).symm.trans q)
      exact ⟨⟨ob', kp _ _ ea r3 q1, q2⟩, r1, r2, r3⟩

/-- the heap behind a rule that lays new objects onto the ledger -/
theorem Sat.viaNew (h : Sat c S s) :
    ∃ mm, Fr c.h₁ c.L s.heap mm ∧ News c.h₁ c.L s.heap (allNews c.h₁ c.L s.heap) ∧
      ∀ (s' : Shared) more, Fr c.h₁ c.L s'.heap mm → News c.h₁ c.L s'.heap (more ++ allNews c.h₁ c.L s.heap) → s'.gens = s.gens → s'.os = s.os → Sat c S s' := by
  obtain ⟨mm, F, e⟩ := h.fr
  refine ⟨mm, F, allNews_news, fun s' more F' N' hg hos => ?_⟩
  have kp : ∀ b ob, b ≠ c.L → s.heap.get? b = some ob → s'.heap.get? b = some ob := fun b ob n2 g => by
    cases z : c.h₁.get? b with
    | some o₁ => have := F.keep b o₁ z; rw [g] at this; cases this; exact F'.keep b ob z
    | none => exact (N' (b, ob) (List.mem_append_right _ (mem_allNews.mpr ⟨g, n2, z⟩))).1
  refine ⟨⟨mm, F', e⟩, fun b ob q => kp _ _ ?_ (h.base b ob q), h.baseL, fun a ao' q => ?_, by rw [hg]; exact h.g, hos.trans h.os⟩
  · rintro rfl; rw [h.baseL] at q; cases q
  · obtain ⟨⟨ob', q1, q2⟩, r1, r2, r3⟩ := h.H a ao' q
    exact ⟨⟨ob', kp _ _ r3 q1, q2⟩, r1, r2, r3⟩

/-! the dicts of str keys -/
noncomputable def setA (k : Str) (v : TV) : List (Str × TV) → List (Str × TV)
  | [] => [(k, v)]
  | (x, y) :: r => if x = k then (x, v) :: r else (x, y) :: setA k v r
theorem isStr_iff {v : Value} {x : Str} {t : Tok} {k : Str} (e : v = .str x t) : v.isStr k = decide (x = k) := by
  subst e
  show (x == k) = _
  by_cases h : x = k
  · simp [h]
  · have : (x == k) = false := by simpa using h
    simp [this, h]
theorem esAre_refKey {P : Params} : ∀ {es : List DictEntry} {l : List (Str × TV)}, EsAre P es l → es.any (·.refKey) = false
  | [], [], _ => rfl
  | e :: es, (k, v) :: l, ⟨_, ⟨t, h2⟩, _, h4⟩ => by
    rw [List.any_cons, esAre_refKey h4, Bool.or_false]
    unfold DictEntry.refKey
    rw [h2]
  | [], _ :: _, h => h.elim
  | _ :: _, [], h => h.elim
theorem esAre_get {P : Params} {k : Str} : ∀ {es : List DictEntry} {l : List (Str × TV)}, EsAre P es l →
    match l.lookup k with
    | some tv => ∃ e, es.find? (·.key.isStr k) = some e ∧ er e.val = tv
    | none => es.find? (·.key.isStr k) = none
  | [], [], _ => rfl
  | e :: es, (x, v) :: l, ⟨_, ⟨t, h2⟩, h3, h4⟩ => by
    rw [List.lookup_cons, List.find?_cons, isStr_iff h2]
    by_cases q : x = k
    · subst q; simp [h3]
    · have : (k == x) = false := by simpa using fun z => q z.symm
      rw [this]
      simp only [q, decide_false]
      exact esAre_get h4
  | [], _ :: _, h => h.elim
  | _ :: _, [], h => h.elim
theorem esAre_getL {P : Params} {k : Str} {tv : TV} {es : List DictEntry} {l : List (Str × TV)} (h : EsAre P es l) (hk : l.lookup k = some tv) : ∃ v, getL k es = some (some v) ∧ er v = tv := by
  have := esAre_get (k := k) h
  rw [hk] at this
  obtain ⟨e, h1, h2⟩ := this
  exact ⟨e.val, by unfold getL; rw [h1], h2⟩
theorem esAre_getN {P : Params} {k : Str} {es : List DictEntry} {l : List (Str × TV)} (h : EsAre P es l) (hk : l.lookup k = none) : getL k es = some none := by
  have := esAre_get (k := k) h
  rw [hk] at this
  unfold getL
  rw [this]
  simp [esAre_refKey h]
theorem esAre_getS {P : Params} {k : Str} {es : List DictEntry} {l : List (Str × TV)} (h : EsAre P es l) : (getL k es).isSome = true := by
  cases q : l.lookup k with
  | none => rw [esAre_getN h q]; rfl
  | some v => obtain ⟨_, e, _⟩ := esAre_getL h q; rw [e]; rfl
theorem esAre_put {P : Params} {k : Str} {t : Tok} {v : Value} : ∀ {es : List DictEntry} {l : List (Str × TV)}, EsAre P es l → EsAre P (putL k (PyData.keyHash P k) (.str k t) v es) (setA k (er v) l)
  | [], [], _ => ⟨rfl, ⟨t, rfl⟩, rfl, trivial⟩
  | e :: es, (x, y) :: l, ⟨h1, ⟨u, h2⟩, h3, h4⟩ => by
    show EsAre P (if e.key.isStr k then _ else _) (if x = k then _ else _)
    rw [isStr_iff h2]
    by_cases q : x = k
    · subst q; simp only [decide_true, if_true]; exact ⟨h1, ⟨u, h2⟩, rfl, h4⟩
    · simp only [q, decide_false, if_false]; exact ⟨h1, ⟨u, h2⟩, h3, esAre_put h4⟩
  | [], _ :: _, h => h.elim
  | _ :: _, [], h => h.elim
theorem esAre_len {P : Params} : ∀ {es : List DictEntry} {l : List (Str × TV)}, EsAre P es l → es.length = l.length
  | [], [], _ => rfl
  | _ :: es, (_, _) :: l, ⟨_, _, _, h4⟩ => by simp [esAre_len h4]
  | [], _ :: _, h => h.elim
  | _ :: _, [], h => h.elim

/-! attributes of instances -/
noncomputable def attrB (K : Frag) (C : Addr) (name : Str) : Bool := plainGet K C name && hasDictIn K C && (match findIn K (.ref C) name with | some attr => noGet K attr | none => false)
noncomputable def setB (K : Frag) (C : Addr) (name : Str) : Bool :=
  findIn K (.ref C) "__setattr__" == some (some (.builtin "object.__setattr__")) && plainOver K C && takerIn K C name == some none && hasDictIn K C
noncomputable def methB (K : Frag) (C : Addr) (name : Str) (f : Addr) : Bool := plainGet K C name && findIn K (.ref C) name == some (some (.ref f)) && isFn K (.ref f)

theorem Sat.inst (h : Sat c S s) {x C d : Addr} {l : List (Str × TV)} (hx : S.H x = some (.inst C d)) (hd : S.H d = some (.dict l)) :
    ∃ es n, W.InstAt s.heap x (instObj C d) C (some (dictOf es n)) ∧ s.heap.get? d = some (dictOf es n) ∧ EsAre c.w.params es l := by
  obtain ⟨⟨ob, g1, i1⟩, _⟩ := h.H x _ hx
  obtain ⟨⟨od, g2, es, n, rfl, i2⟩, _⟩ := h.H d _ hd
  cases i1
  exact ⟨es, n, ⟨g1, rfl, rfl, g2⟩, g2, i2⟩

theorem ga_own {x C d : Addr} {l : List (Str × TV)} {name : Str} {v : TV} {Q : TV → St → Prop} (hw : Well c) (hx : S.H x = some (.inst C d)) (hd : S.H d = some (.dict l)) (hB : attrB (KK c.w) C name = true)
    (hv : l.lookup name = some v) (hh : ∀ i, v ≠ .bt i) (h : Q v S) : GETATTR c (.ref x) name Q S := by
  intro va ha s hs
  cases er_ref ha
  obtain ⟨es, n, I, _, E⟩ := hs.inst hx hd
  obtain ⟨v', g, e⟩ := esAre_getL E hv
  simp only [attrB, Bool.and_eq_true] at hB
  obtain ⟨⟨b1, b2⟩, b3⟩ := hB
  obtain ⟨mm, F, _⟩ := hs.fr
  cases q : findIn (KK c.w) (.ref C) name with
  | none => rw [q] at b3; cases b3
  | some attr =>
    rw [q] at b3
    refine get_own F hw.K I b1 b2 q b3 g ?_ ⟨S, hs.tok _, by show Q (er v') S; rw [e]; exact h⟩
    cases v' <;> first | rfl | exact absurd e.symm (hh _)
theorem sa_own {x C d : Addr} {l l' : List (Str × TV)} {name : Str} {v : TV} {Q : St → Prop} (hw : Well c) (hx : S.H x = some (.inst C d)) (hd : S.H d = some (.dict l)) (hB : setB (KK c.w) C name = true)
    (hl : setA name v l = l') (hz : l.length ≤ 900) (h : Q { S with H := upd S.H d (.dict l') }) : SETATTR c (.ref x) name v Q S := by
  intro va vv ha hv s hs
  cases er_ref ha
  obtain ⟨es, n, I, g, E⟩ := hs.inst hx hd
  simp only [setB, Bool.and_eq_true, beq_iff_eq] at hB
  obtain ⟨⟨⟨b1, b2⟩, b3⟩, b4⟩ := hB
  obtain ⟨mm, news, F, N, U⟩ := hs.viaUpd hd g
  obtain ⟨news', U', k⟩ := U (dictOf (putL name (PyData.keyHash c.w.params name) (.str name (s.toks + 1)) vv es) (putN name es n))
  have E' := esAre_put (k := name) (t := s.toks + 1) (v := vv) E
  rw [hv, hl] at E'
  have lz : l'.length ≤ l.length + 1 := by
    rw [← hl]
    clear E g I U k news' U' E' hl h hz hd hx
    induction l with
    | nil => simp [setA]
    | cons p r ih =>
      obtain ⟨y, z⟩ := p
      unfold setA
      split <;> simp <;> exact aL 0x111f001f00102 ih
  refine set_dict F hw.K N I rfl b1 b2 b3 b4 (esAre_getS E) rfl U' (by rw [esAre_len E']; exact aL 0x1111fd8b100f101e8cb00202 hz lz) fun h' F' N' => ⟨_, k { s with heap := h', toks := s.toks + 2 } F' N' rfl rfl (.dict l') ⟨_, _, rfl, E'⟩, h⟩
theorem gm_inst {x C d : Addr} {l : List (Str × TV)} {name : Str} {f : Addr} {Q : TV → List TV → St → Prop} (hw : Well c) (hx : S.H x = some (.inst C d)) (hd : S.H d = some (.dict l)) (hB : methB (KK c.w) C name f = true)
    (hv : l.lookup name = none) (h : Q (.ref f) [.ref x] S) : GETM c (.ref x) name Q S := by
  intro pl vo ho s hs
  cases er_ref ho
  obtain ⟨es, n, I, _, E⟩ := hs.inst hx hd
  simp only [methB, Bool.and_eq_true, beq_iff_eq] at hB
  obtain ⟨⟨b1, b2⟩, b3⟩ := hB
  obtain ⟨mm, F, _⟩ := hs.fr
  exact method_inst F hw.K I b1 b2 b3 (esAre_getN E hv) ⟨S, hs, h⟩

/-! a class called -/
theorem Room.cls {A : Around} {k : Nat} (h : Room A (k + 1)) (C : Addr) (pos : List Value) (kw : List (Str × Value)) : Room (A.under (.builtin "type.__call__" ⟨.ref C :: pos, kw⟩)) k :=
  ⟨by
    have := h.depth
    rw [depth_under_kw]
    exact aL 0x11213d0fc121f3d0c1103 this, by
    have e : (Code.builtin "type.__call__" ⟨.ref C :: pos, kw⟩).cUnits ≤ 10 := by
      show 1 + 3 * 0 ≤ 10
      exact aL 0x11ab0b3d1bc0000
    have := h.units
    show A.units + _ + 40 * k < _
    exact aL 0x1113258d01cc132f58d1c11ab00204 e this, h.handled, by
    have e : (Code.builtin "type.__call__" ⟨.ref C :: pos, kw⟩).guards = [] := by
      have : (Code.builtin "type.__call__" ⟨.ref C :: pos, kw⟩).isGuard = false := by show guardIds.contains "type.__call__" = false; decide +kernel
      unfold Code.guards; rw [this]; rfl
    unfold Around.under; simp only [e]; exact h.guards⟩

noncomputable def makeB (K : Frag) (C fI : Addr) : Bool := makesIn K C && findIn K (.ref C) "__init__" == some (some (.ref fI)) && isFn K (.ref fI)
theorem call_inst {k : Nat} {C fI : Addr} {args : List TV} {kws : List (Str × TV)} {Q : TV → St → Prop} (hw : Well c) (hr : Room c.A (k + 1)) (hB : makeB (KK c.w) C fI = true)
    (h : ∀ A' x d, Room A' k → S.H x = none → S.H d = none → x ≠ d →
      CALL { c with A := A' } (.ref fI) (.ref x :: args) kws (fun v S' => v = .none ∧ Q (.ref x) S') { S with H := upd (upd S.H d (.dict [])) x (.inst C d) }) :
    CALL c (.ref C) args kws Q S := by
  intro vf vs ks hf hvs hks s hs
  cases er_ref hf
  simp only [makeB, Bool.and_eq_true, beq_iff_eq] at hB
  obtain ⟨⟨b1, b2⟩, b3⟩ := hB
  obtain ⟨mm, F, N, V⟩ := hs.viaNew
  refine W.make_K F N (hw.Kin hs) b1 b2 (by simpa [isFn] using b3) fun x dx h' F' N' l1 l2 => ?_
  have nx := N' (x, instObj C dx) (.head _)
  have nd := N' (dx, emptyDict) (.tail _ (.head _))
  have small : ∀ a ob, s.heap.get? a = some ob → a ≠ c.L → c.h₁.get? a = none → a < dx := fun a ob g n1 n2 => l1 (a, ob) (mem_allNews.mpr ⟨g, n1, n2⟩)
  have freshH : ∀ a, dx ≤ a → S.H a = none := fun a l => by
    cases z : S.H a with
    | none => rfl
    | some o =>
      obtain ⟨⟨ob, g, _⟩, r1, _, r3⟩ := hs.H a o z
      exact absurd (small a ob g r3 r1) (Nat.not_lt.mpr l)
  have freshB : ∀ a, dx ≤ a → a ≠ c.L → c.h₁.get? a = none → c.base.get? a = none := fun a l n1 n2 => by
    cases z : c.base.get? a with
    | none => rfl
    | some o => exact absurd (small a o (hs.base _ _ z) n1 n2) (Nat.not_lt.mpr l)
  have V1 := V { s with heap := h' } [(x, instObj C dx), (dx, emptyDict)] F' N' rfl rfl
  have V2 := V1.know (ao := .dict []) nd.1 ⟨[], 0, rfl, trivial⟩ nd.2.2 (freshB _ (Nat.le_refl _) nd.2.1 nd.2.2) nd.2.1
  have V3 := V2.know (ao := .inst C dx) nx.1 rfl nx.2.2 (freshB _ (Nat.le_of_lt l2) nx.2.1 nx.2.2) nx.2.1
  have key := h _ x dx (hr.cls C vs ks) (freshH _ (Nat.le_of_lt l2)) (freshH _ (Nat.le_refl _)) (Nat.ne_of_gt l2) (.ref fI) (.ref x :: vs) ks rfl (by rw [List.map_cons, hvs]; rfl) hks _ (show Sat { c with A := _ } _ _ from ⟨V3.fr, V3.base, V3.baseL, V3.H, V3.g, V3.os⟩)
  refine codeAny_mono key fun r s' H0 => ?_
  obtain ⟨v, e, S', q1, q2, q3⟩ := H0
  subst e
  exact ⟨er_none q2, .ref x, rfl, S', ⟨q1.fr, q1.base, q1.baseL, q1.H, q1.g, q1.os⟩, q3⟩
end
end
end Mine
end
section
open PySem PySem.W PyProof.Rows PySem.Calls
set_option maxRecDepth 100000
set_option maxHeartbeats 4000000
namespace Mine
noncomputable section
section
variable {c : Cx} {S : St} {a b : Int} {x y : Bool} {Q : TV → St → Prop}

theorem i_add (h : Q (.int (a + b)) S) : BINOP c .Add (.int a) (.int b) Q S := by
  intro va vb ha hb s hs
  obtain ⟨t, rfl⟩ := er_int ha; obtain ⟨u, rfl⟩ := er_int hb
  exact add_int ⟨S, hs.tok _, h⟩
theorem i_sub (h : Q (.int (a - b)) S) : BINOP c .Sub (.int a) (.int b) Q S := by
  intro va vb ha hb s hs
  obtain ⟨t, rfl⟩ := er_int ha; obtain ⟨u, rfl⟩ := er_int hb
  exact sub_int ⟨S, hs.tok _, h⟩
theorem i_mul (hz : IntMulOk a b) (h : Q (.int (a * b)) S) : BINOP c .Mult (.int a) (.int b) Q S := by
  intro va vb ha hb s hs
  obtain ⟨t, rfl⟩ := er_int ha; obtain ⟨u, rfl⟩ := er_int hb
  exact mul_int ⟨S, hs.tok _, h⟩ hz
theorem i_mod (h0 : b ≠ 0) (h : Q (.int (a.fmod b)) S) : BINOP c .Mod (.int a) (.int b) Q S := by
  intro va vb ha hb s hs
  obtain ⟨t, rfl⟩ := er_int ha; obtain ⟨u, rfl⟩ := er_int hb
  exact mod_int' h0 ⟨S, hs.tok _, h⟩
theorem i_div (h0 : b ≠ 0) (hp : Builtin.divisionGoesByPylong a b = false) (h : Q (.int (a.fdiv b)) S) : BINOP c .FloorDiv (.int a) (.int b) Q S := by
  intro va vb ha hb s hs
  obtain ⟨t, rfl⟩ := er_int ha; obtain ⟨u, rfl⟩ := er_int hb
  exact floordiv_int h0 ⟨S, hs.tok _, h⟩ (.inl hp)
theorem i_shl (h0 : 0 ≤ b) (h1 : b ≤ 1000000) (h2 : a.natAbs < 2 ^ 64) (h : Q (.int (a * 2 ^ b.toNat)) S) : BINOP c .LShift (.int a) (.int b) Q S := by
  intro va vb ha hb s hs
  obtain ⟨t, rfl⟩ := er_int ha; obtain ⟨u, rfl⟩ := er_int hb
  exact lshift_int_small h0 h1 h2 ⟨S, hs.tok _, h⟩
theorem i_shr (h0 : 0 ≤ b) (h : Q (.int (a.fdiv (2 ^ b.toNat))) S) : BINOP c .RShift (.int a) (.int b) Q S := by
  intro va vb ha hb s hs
  obtain ⟨t, rfl⟩ := er_int ha; obtain ⟨u, rfl⟩ := er_int hb
  exact rshift_int h0 ⟨S, hs.tok _, h⟩
theorem i_and (h : Q (.int (Builtin.bitAnd a b)) S) : BINOP c .BitAnd (.int a) (.int b) Q S := by
  intro va vb ha hb s hs
  obtain ⟨t, rfl⟩ := er_int ha; obtain ⟨u, rfl⟩ := er_int hb
  exact and_int ⟨S, hs.tok _, h⟩
theorem i_or (h : Q (.int (Builtin.bitOr a b)) S) : BINOP c .BitOr (.int a) (.int b) Q S := by
  intro va vb ha hb s hs
  obtain ⟨t, rfl⟩ := er_int ha; obtain ⟨u, rfl⟩ := er_int hb
  exact or_int ⟨S, hs.tok _, h⟩
theorem i_iadd (h : Q (.int (a + b)) S) : INOP c .Add (.int a) (.int b) Q S := by
  intro va vb ha hb s hs
  obtain ⟨t, rfl⟩ := er_int ha; obtain ⟨u, rfl⟩ := er_int hb
  exact iadd_int ⟨S, hs.tok _, h⟩
theorem i_isub (h : Q (.int (a - b)) S) : INOP c .Sub (.int a) (.int b) Q S := by
  intro va vb ha hb s hs
  obtain ⟨t, rfl⟩ := er_int ha; obtain ⟨u, rfl⟩ := er_int hb
  exact isub_int ⟨S, hs.tok _, h⟩
theorem i_inv (h : Q (.int (-a - 1)) S) : UNOP c .Invert (.int a) Q S := by
  intro va ha s hs
  obtain ⟨t, rfl⟩ := er_int ha
  exact invert_int ⟨S, hs.tok _, h⟩
theorem i_neg (h : Q (.int (-a)) S) : UNOP c .USub (.int a) Q S := by
  intro va ha s hs
  obtain ⟨t, rfl⟩ := er_int ha
  exact neg_int ⟨S, hs.tok _, h⟩
theorem i_lt (h : Q (.bool (decide (a < b))) S) : CMP c .Lt (.int a) (.int b) Q S := by
  intro va vb ha hb s hs
  obtain ⟨t, rfl⟩ := er_int ha; obtain ⟨u, rfl⟩ := er_int hb
  exact lt_int ⟨S, hs, h⟩
theorem i_le (h : Q (.bool (decide (a ≤ b))) S) : CMP c .LtE (.int a) (.int b) Q S := by
  intro va vb ha hb s hs
  obtain ⟨t, rfl⟩ := er_int ha; obtain ⟨u, rfl⟩ := er_int hb
  exact le_int ⟨S, hs, h⟩
theorem i_gt (h : Q (.bool (decide (b < a))) S) : CMP c .Gt (.int a) (.int b) Q S := by
  intro va vb ha hb s hs
  obtain ⟨t, rfl⟩ := er_int ha; obtain ⟨u, rfl⟩ := er_int hb
  exact gt_int ⟨S, hs, h⟩
theorem i_ge (h : Q (.bool (decide (b ≤ a))) S) : CMP c .GtE (.int a) (.int b) Q S := by
  intro va vb ha hb s hs
  obtain ⟨t, rfl⟩ := er_int ha; obtain ⟨u, rfl⟩ := er_int hb
  exact ge_int ⟨S, hs, h⟩
theorem i_eq (h : Q (.bool (decide (a = b))) S) : CMP c .Eq (.int a) (.int b) Q S := by
  intro va vb ha hb s hs
  obtain ⟨t, rfl⟩ := er_int ha; obtain ⟨u, rfl⟩ := er_int hb
  refine eq_int ⟨S, hs, ?_⟩
  have e : (a == b) = decide (a = b) := rfl
  show Q (.bool (a == b)) S
  rw [e]; exact h
theorem i_ne (h : Q (.bool (decide (a ≠ b))) S) : CMP c .NotEq (.int a) (.int b) Q S := by
  intro va vb ha hb s hs
  obtain ⟨t, rfl⟩ := er_int ha; obtain ⟨u, rfl⟩ := er_int hb
  refine ne_int ⟨S, hs, ?_⟩
  have e : (a != b) = decide (a ≠ b) := by by_cases q : a = b <;> simp [q]
  show Q (.bool (a != b)) S
  rw [e]; exact h
theorem b_ne (h : Q (.bool (decide (x ≠ y))) S) : CMP c .NotEq (.bool x) (.bool y) Q S := by
  intro va vb ha hb s hs
  cases er_bool ha; cases er_bool hb
  refine ne_bool ⟨S, hs, ?_⟩
  have e : (x != y) = decide (x ≠ y) := by cases x <;> cases y <;> rfl
  show Q (.bool (x != y)) S
  rw [e]; exact h
theorem n_is_none (h : Q (.bool true) S) : CMP c .Is .none .none Q S := by
  intro va vb ha hb s hs
  cases er_none ha; cases er_none hb
  exact wpAny_is_self rfl ⟨S, hs, h⟩
theorem i_is_none (h : Q (.bool false) S) : CMP c .Is (.int a) .none Q S := by
  intro va vb ha hb s hs
  obtain ⟨t, rfl⟩ := er_int ha; cases er_none hb
  exact wpAny_is_other rfl (by intro z; cases z) ⟨S, hs, h⟩
theorem by_is_none {l : List UInt8} (h : Q (.bool false) S) : CMP c .Is (.bytes l) .none Q S := by
  intro va vb ha hb s hs
  obtain ⟨t, rfl⟩ := er_bytes ha; cases er_none hb
  exact wpAny_is_other rfl (by intro z; cases z) ⟨S, hs, h⟩
theorem t_bool {Q : Bool → St → Prop} (h : Q x S) : TRUTHY c (.bool x) Q S := by
  intro va ha s hs
  cases er_bool ha
  exact wpAny_truthy_bool ⟨S, hs, h⟩
theorem px_ifj {test : Expr} {body orelse : List Stmt} {pos : Pos} {Q : TF → St → Prop} (p : Bool)
    (h1 : PW c (isTrue test c.env (eval test c.env)) (fun b S' => b = p ∧ S' = S) S) (h2 : if p = true then PX c (execs body c.env) Q S else PX c (execs orelse c.env) Q S) :
    PX c (exec (.If test body orelse pos) c.env) Q S := px_if (pw_mono h1 fun b S' ⟨e1, e2⟩ => by subst e1 e2; exact h2)
theorem ite_t {p : Bool} {α β : Prop} (hp : p = true) (h : α) : if p = true then α else β := by rw [if_pos hp]; exact h
theorem ite_f {p : Bool} {α β : Prop} (hp : p = false) (h : β) : if p = true then α else β := by rw [hp]; exact h
theorem dec_2 {p : Prop} [Decidable p] {α β : Prop} (h1 : p → α) (h2 : ¬p → β) : if decide p = true then α else β := by
  by_cases q : p
  · rw [if_pos (by simpa using q)]; exact h1 q
  · rw [if_neg (by simpa using q)]; exact h2 q
end
end
end Mine
end
section
open PySem PySem.W PyProof.Rows PySem.Calls
set_option maxRecDepth 100000
set_option maxHeartbeats 4000000
namespace Mine
noncomputable section
theorem g_Range (w : World) : nsIn (KK w) mainGlobals "Range" = some (some (.ref 52)) := by kernel_rfl
theorem g_RangeSet (w : World) : nsIn (KK w) mainGlobals "RangeSet" = some (some (.ref 146)) := by kernel_rfl
theorem g_QuicPacketNumberWindow (w : World) : nsIn (KK w) mainGlobals "QuicPacketNumberWindow" = some (some (.ref 179)) := by kernel_rfl
theorem g_QuicPacketSpace (w : World) : nsIn (KK w) mainGlobals "QuicPacketSpace" = some (some (.ref 201)) := by kernel_rfl
theorem g_Buffer (w : World) : nsIn (KK w) mainGlobals "Buffer" = some (some (.ref 377)) := by kernel_rfl
theorem g_size_uint_var (w : World) : nsIn (KK w) mainGlobals "size_uint_var" = some (some (.ref 388)) := by kernel_rfl
theorem g_decode_packet_number (w : World) : nsIn (KK w) mainGlobals "decode_packet_number" = some (some (.ref 395)) := by kernel_rfl
theorem g_pull_ack_frame (w : World) : nsIn (KK w) mainGlobals "pull_ack_frame" = some (some (.ref 402)) := by kernel_rfl
theorem g_push_ack_frame (w : World) : nsIn (KK w) mainGlobals "push_ack_frame" = some (some (.ref 409)) := by kernel_rfl
theorem g_L_runs (w : World) : nsIn (KK w) mainGlobals "_law_runs" = some (some (.ref 416)) := by kernel_rfl
theorem g_L_seen (w : World) : nsIn (KK w) mainGlobals "_law_seen" = some (some (.ref 423)) := by kernel_rfl
theorem g_L_window (w : World) : nsIn (KK w) mainGlobals "_law_window" = some (some (.ref 430)) := by kernel_rfl
theorem g_L_send (w : World) : nsIn (KK w) mainGlobals "_law_send" = some (some (.ref 437)) := by kernel_rfl
theorem g_L_take (w : World) : nsIn (KK w) mainGlobals "_law_take" = some (some (.ref 444)) := by kernel_rfl
theorem g_L_get (w : World) : nsIn (KK w) mainGlobals "_law_get" = some (some (.ref 451)) := by kernel_rfl
theorem g_L_write (w : World) : nsIn (KK w) mainGlobals "_law_write" = some (some (.ref 456)) := by kernel_rfl
theorem g_L_read (w : World) : nsIn (KK w) mainGlobals "_law_read" = some (some (.ref 461)) := by kernel_rfl
theorem g_MAX_ACK_RANGES (w : World) : ∃ t, nsIn (KK w) mainGlobals "MAX_ACK_RANGES" = some (some (.int 64 t)) := ⟨_, by with_unfolding_all rfl⟩
theorem g_UINT_VAR_MAX (w : World) : ∃ t, nsIn (KK w) mainGlobals "UINT_VAR_MAX" = some (some (.int 4611686018427387903 t)) := ⟨_, by with_unfolding_all rfl⟩
theorem g_UINT_VAR_MAX_SIZE (w : World) : ∃ t, nsIn (KK w) mainGlobals "UINT_VAR_MAX_SIZE" = some (some (.int 8 t)) := ⟨_, by with_unfolding_all rfl⟩
theorem n_set (w : World) : nsIn (KK w) mainGlobals "set" = some none := by kernel_rfl
theorem b_set : bootBuiltins "set" = some (.type "set") := by boot_by_name
theorem n_len (w : World) : nsIn (KK w) mainGlobals "len" = some none := by kernel_rfl
theorem b_len : bootBuiltins "len" = some (.builtin "len") := by boot_by_name
theorem n_range (w : World) : nsIn (KK w) mainGlobals "range" = some none := by kernel_rfl
theorem b_range : bootBuiltins "range" = some (.type "range") := by boot_by_name
theorem n_sorted (w : World) : nsIn (KK w) mainGlobals "sorted" = some none := by kernel_rfl
theorem b_sorted : bootBuiltins "sorted" = some (.builtin "sorted") := by boot_by_name
theorem n_max (w : World) : nsIn (KK w) mainGlobals "max" = some none := by kernel_rfl
theorem b_max : bootBuiltins "max" = some (.builtin "max") := by boot_by_name
theorem n_min (w : World) : nsIn (KK w) mainGlobals "min" = some none := by kernel_rfl
theorem b_min : bootBuiltins "min" = some (.builtin "min") := by boot_by_name
theorem n_enumerate (w : World) : nsIn (KK w) mainGlobals "enumerate" = some none := by kernel_rfl
theorem b_enumerate : bootBuiltins "enumerate" = some (.type "enumerate") := by boot_by_name
theorem n_bytearray (w : World) : nsIn (KK w) mainGlobals "bytearray" = some none := by kernel_rfl
theorem b_bytearray : bootBuiltins "bytearray" = some (.type "bytearray") := by boot_by_name
theorem n_bytes (w : World) : nsIn (KK w) mainGlobals "bytes" = some none := by kernel_rfl
theorem b_bytes : bootBuiltins "bytes" = some (.type "bytes") := by boot_by_name
theorem n_int (w : World) : nsIn (KK w) mainGlobals "int" = some none := by kernel_rfl
theorem b_int : bootBuiltins "int" = some (.type "int") := by boot_by_name
theorem a_52_start (w : World) : attrB (KK w) 52 "start" = true := by kernel_rfl
theorem a_52_stop (w : World) : attrB (KK w) 52 "stop" = true := by kernel_rfl
theorem a_146_ranges (w : World) : attrB (KK w) 146 "_ranges" = true := by kernel_rfl
theorem a_179_lower (w : World) : attrB (KK w) 179 "_lower" = true := by kernel_rfl
theorem a_179_received (w : World) : attrB (KK w) 179 "_received" = true := by kernel_rfl
theorem a_179_size (w : World) : attrB (KK w) 179 "_size" = true := by kernel_rfl
theorem a_201_ack_queue (w : World) : attrB (KK w) 201 "ack_queue" = true := by kernel_rfl
theorem a_201_expected_packet_number (w : World) : attrB (KK w) 201 "expected_packet_number" = true := by kernel_rfl
theorem a_201_received_packets (w : World) : attrB (KK w) 201 "received_packets" = true := by kernel_rfl
theorem a_377_octets (w : World) : attrB (KK w) 377 "_octets" = true := by kernel_rfl
theorem a_377_place (w : World) : attrB (KK w) 377 "_place" = true := by kernel_rfl
theorem s_52_start (w : World) : setB (KK w) 52 "start" = true := by kernel_rfl
theorem s_52_stop (w : World) : setB (KK w) 52 "stop" = true := by kernel_rfl
theorem s_146_ranges (w : World) : setB (KK w) 146 "_ranges" = true := by kernel_rfl
theorem s_179_lower (w : World) : setB (KK w) 179 "_lower" = true := by kernel_rfl
theorem s_179_received (w : World) : setB (KK w) 179 "_received" = true := by kernel_rfl
theorem s_179_size (w : World) : setB (KK w) 179 "_size" = true := by kernel_rfl
theorem s_201_ack_at (w : World) : setB (KK w) 201 "ack_at" = true := by kernel_rfl
theorem s_201_ack_queue (w : World) : setB (KK w) 201 "ack_queue" = true := by kernel_rfl
theorem s_201_discarded (w : World) : setB (KK w) 201 "discarded" = true := by kernel_rfl
theorem s_201_expected_packet_number (w : World) : setB (KK w) 201 "expected_packet_number" = true := by kernel_rfl
theorem s_201_is_application_data (w : World) : setB (KK w) 201 "is_application_data" = true := by kernel_rfl
theorem s_201_largest_received_packet (w : World) : setB (KK w) 201 "largest_received_packet" = true := by kernel_rfl
theorem s_201_largest_received_time (w : World) : setB (KK w) 201 "largest_received_time" = true := by kernel_rfl
theorem s_201_received_packets (w : World) : setB (KK w) 201 "received_packets" = true := by kernel_rfl
theorem s_201_ack_eliciting_in_flight (w : World) : setB (KK w) 201 "ack_eliciting_in_flight" = true := by kernel_rfl
theorem s_201_largest_acked_packet (w : World) : setB (KK w) 201 "largest_acked_packet" = true := by kernel_rfl
theorem s_201_loss_time (w : World) : setB (KK w) 201 "loss_time" = true := by kernel_rfl
theorem s_201_sent_packets (w : World) : setB (KK w) 201 "sent_packets" = true := by kernel_rfl
theorem s_377_octets (w : World) : setB (KK w) 377 "_octets" = true := by kernel_rfl
theorem s_377_place (w : World) : setB (KK w) 377 "_place" = true := by kernel_rfl
theorem m_146_add (w : World) : methB (KK w) 146 "add" 80 = true := by kernel_rfl
theorem m_179_add (w : World) : methB (KK w) 179 "add" 169 = true := by kernel_rfl
theorem m_377_pull_bytes (w : World) : methB (KK w) 377 "pull_bytes" 297 = true := by kernel_rfl
theorem m_377_pull_uint_var (w : World) : methB (KK w) 377 "pull_uint_var" 332 = true := by kernel_rfl
theorem m_377_push_bytes (w : World) : methB (KK w) 377 "push_bytes" 339 = true := by kernel_rfl
theorem m_377_push_uint_var (w : World) : methB (KK w) 377 "push_uint_var" 374 = true := by kernel_rfl
theorem mk_52 (w : World) : makeB (KK w) 52 35 = true := by kernel_rfl
theorem mk_146 (w : World) : makeB (KK w) 146 72 = true := by kernel_rfl
theorem mk_179 (w : World) : makeB (KK w) 179 164 = true := by kernel_rfl
theorem mk_201 (w : World) : makeB (KK w) 201 198 = true := by kernel_rfl
theorem mk_377 (w : World) : makeB (KK w) 377 246 = true := by kernel_rfl
theorem kf_80 (w : World) : keepIn (KK w) (.ref 80) = true := by kernel_rfl
theorem kf_169 (w : World) : keepIn (KK w) (.ref 169) = true := by kernel_rfl
theorem kf_297 (w : World) : keepIn (KK w) (.ref 297) = true := by kernel_rfl
theorem kf_332 (w : World) : keepIn (KK w) (.ref 332) = true := by kernel_rfl
theorem kf_339 (w : World) : keepIn (KK w) (.ref 339) = true := by kernel_rfl
theorem kf_374 (w : World) : keepIn (KK w) (.ref 374) = true := by kernel_rfl
theorem kf_388 (w : World) : keepIn (KK w) (.ref 388) = true := by kernel_rfl
theorem kf_395 (w : World) : keepIn (KK w) (.ref 395) = true := by kernel_rfl
theorem kf_402 (w : World) : keepIn (KK w) (.ref 402) = true := by kernel_rfl
theorem kf_409 (w : World) : keepIn (KK w) (.ref 409) = true := by kernel_rfl
theorem kf_416 (w : World) : keepIn (KK w) (.ref 416) = true := by kernel_rfl
theorem kf_423 (w : World) : keepIn (KK w) (.ref 423) = true := by kernel_rfl
theorem kf_430 (w : World) : keepIn (KK w) (.ref 430) = true := by kernel_rfl
theorem kf_437 (w : World) : keepIn (KK w) (.ref 437) = true := by kernel_rfl
theorem kf_444 (w : World) : keepIn (KK w) (.ref 444) = true := by kernel_rfl
theorem kf_451 (w : World) : keepIn (KK w) (.ref 451) = true := by kernel_rfl
theorem kf_456 (w : World) : keepIn (KK w) (.ref 456) = true := by kernel_rfl
theorem kf_461 (w : World) : keepIn (KK w) (.ref 461) = true := by kernel_rfl
theorem kc_52 (w : World) : keepIn (KK w) (.ref 52) = true := by kernel_rfl
theorem kc_146 (w : World) : keepIn (KK w) (.ref 146) = true := by kernel_rfl
theorem kc_179 (w : World) : keepIn (KK w) (.ref 179) = true := by kernel_rfl
theorem kc_201 (w : World) : keepIn (KK w) (.ref 201) = true := by kernel_rfl
theorem kc_377 (w : World) : keepIn (KK w) (.ref 377) = true := by kernel_rfl
end
end Mine
end
section
open PySem PySem.W PyProof.Rows PySem.Calls
set_option maxRecDepth 100000
set_option maxHeartbeats 4000000
namespace Mine
noncomputable section

noncomputable abbrev Cx.on (c : Cx) (b : Bs) : Cx := { c with base := b }
noncomputable def hideL (H : HM) (L : Addr) : HM := fun b => if b = L then some (.list []) else H b

section
variable {c : Cx} {S : St} {s : Shared}
theorem Well.on (hw : Well c) (b : Bs) : Well (c.on b) := ⟨hw.K, hw.T, hw.fn, hw.gl, hw.bn⟩

/-- inside: all that stands and is not the state's own is kept too -/
theorem Sat.inner (h : Sat c S s) : Sat (c.on (bsOf s (hideL S.H c.L))) S s := by
  refine ⟨h.fr, fun b o q => (baseOf_get.mp q).1, ?_, fun a o q => ?_, ⟨fun _ _ h => h, h.g.2⟩, h.os⟩
  · cases z : (baseOf s.heap (hideL S.H c.L)).get? c.L with
    | none => rfl
    | some o => have := (baseOf_get.mp z).2; simp [hideL] at this
  · obtain ⟨r0, r1, r2, r3⟩ := h.H a o q
    refine ⟨r0, r1, ?_, r3⟩
    cases z : (baseOf s.heap (hideL S.H c.L)).get? a with
    | none => rfl
    | some o' => have := (baseOf_get.mp z).2; rw [hideL, if_neg r3, q] at this; cases this
theorem Sat.outer {S' : St} {s' : Shared} (h : Sat c S s) (h' : Sat (c.on (bsOf s (hideL S.H c.L))) S' s') :
    Sat c S' s' ∧ (∀ b o, b ≠ c.L → S.H b = none → s.heap.get? b = some o → s'.heap.get? b = some o) ∧ ∀ (i : Nat) (x : GenState), s.gens[i]? = some x → s'.gens[i]? = some x := by
  have kp : ∀ b o, b ≠ c.L → S.H b = none → s.heap.get? b = some o → (baseOf s.heap (hideL S.H c.L)).get? b = some o := fun b o n1 n2 g =>
    baseOf_get.mpr ⟨g, by rw [hideL, if_neg n1, n2]⟩
  have kb : ∀ b o, c.base.get? b = some o → (baseOf s.heap (hideL S.H c.L)).get? b = some o := fun b o g => by
    refine kp b o (by rintro rfl; rw [h.baseL] at g; cases g) ?_ (h.base b o g)
    cases z : S.H b with
    | none => rfl
    | some x => have := (h.H b x z).2.2.1; rw [g] at this; cases this
  refine ⟨⟨h'.fr, fun b o g => h'.base b o (kb b o g), h.baseL, fun a o q => ?_, ⟨fun i x q => h'.g.1 i x (h.g.1 i x q), h'.g.2⟩, h'.os⟩, fun b o n1 n2 g => h'.base b o (kp b o n1 n2 g), h'.g.1⟩
  obtain ⟨r0, r1, r2, r3⟩ := h'.H a o q
  refine ⟨r0, r1, ?_, r3⟩
  cases z : c.base.get? a with
  | none => rfl
  | some x => have := kb a x z; rw [show (baseOf s.heap (hideL S.H c.L)).get? a = none from r2] at this; cases this

noncomputable def ASSIGN (c : Cx) (e : Expr) (v : TV) (Q : St → Prop) (S : St) : Prop := ∀ vv, er vv = v → PW c (assign e c.env vv) (fun _ S' => Q S') S
theorem assign_name {x : Str} {pos : Pos} {v : TV} {Q : St → Prop} (h : STORE c x v Q S) : ASSIGN c (.Name x pos) v Q S :=
  fun vv hv s hs => wpAny_assign_Name (h vv hv s hs)

/-! tuples taken apart -/
noncomputable def ORDER (c : Cx) (ts : List Expr) (vs : List TV) (Q : St → Prop) (S : St) : Prop := match ts, vs with
  | t :: ts, v :: vs => ASSIGN c t v (fun S' => ORDER c ts vs Q S') S
  | _, _ => Q S
theorem order_ok {Q : St → Prop} : ∀ {ts : List Expr} {vs : List Value} {S : St}, (∀ t ∈ ts, ∀ r, assignEach (t :: r) c.env = (false, assign t c.env) :: assignEach r c.env) → ORDER c ts (vs.map er) Q S →
    PW c (assignInOrder ((assignEach ts c.env).map (·.2)) vs) (fun _ S' => Q S') S
  | [], vs, S, _, h => by
    have e : assignInOrder ((assignEach [] c.env).map (·.2)) vs = pure () := by cases vs <;> rfl
    rw [e]
    refine pw_pure ?_
    cases vs <;> exact h
  | t :: ts, [], S, hs, h => by
    have e : assignInOrder ((assignEach (t :: ts) c.env).map (·.2)) [] = pure () := by rw [hs t (.head _)]; rfl
    rw [e]
    exact pw_pure h
  | t :: ts, v :: vs, S, hs, h => by
    have e : assignInOrder ((assignEach (t :: ts) c.env).map (·.2)) (v :: vs) = (do holding vs (assign t c.env v); assignInOrder ((assignEach ts c.env).map (·.2)) vs) := by rw [hs t (.head _)]; rfl
    rw [e]
    intro s hs'
    refine wpAny_bind (wpAny_holding (k1 (h v rfl) hs' fun _ S₁ s₁ hs₁ q => ?_))
    exact order_ok (fun t' ht => hs t' (.tail _ ht)) q s₁ hs₁
theorem each_len {env : Env} : ∀ l : List Expr, (∀ t ∈ l, ∀ r, assignEach (t :: r) env = (false, assign t env) :: assignEach r env) → (assignEach l env).length = l.length ∧ (assignEach l env).findIdx? (·.1) = none
  | [], _ => ⟨rfl, rfl⟩
  | t :: r, hn => by
    obtain ⟨i1, i2⟩ := each_len r fun t' ht => hn t' (.tail _ ht)
    rw [hn t (.head _)]
    exact ⟨by simp [i1], by simp [List.findIdx?_cons, i2]⟩

inductive Item where
  | one (v : TV) | tup (vs : List TV)
noncomputable def ASGI (c : Cx) (target : Expr) (i : Item) (Q : St → Prop) (S : St) : Prop := match i, target with
  | .one v, t => ASSIGN c t v Q S
  | .tup vs, .Tuple elts _ _ => vs.length = elts.length ∧ (∀ t ∈ elts, ∀ r, assignEach (t :: r) c.env = (false, assign t c.env) :: assignEach r c.env) ∧ ORDER c elts vs Q S
  | _, _ => False
noncomputable def DEL (s : Shared) (x : Value) (i : Item) : Prop := match i with
  | .one v => er x = v
  | .tup vs => ∃ a items, x = .ref a ∧ s.heap.IsTuple a items ∧ items.toList.map er = vs
theorem asgi_ok {target : Expr} {i : Item} {x : Value} {Q : St → Prop} (hA : c.A.handled = none) (h : ASGI c target i Q S) (d : DEL s x i) (hs : Sat c S s) :
    wpAny (model PG c.w) c.A (assign target c.env x) (fun _ s' => ∃ S', Sat c S' s' ∧ Q S') (fun _ _ => False) s := by
  cases i with
  | one v => exact h x d s hs
  | tup vs =>
    cases target <;> try exact h.elim
    rename_i elts k pos
    obtain ⟨a, items, rfl, it, e⟩ := d
    obtain ⟨hl, hn, o⟩ := h
    obtain ⟨l1, l2⟩ := each_len elts hn
    refine assign_Tuple_tuple hA it (by rw [l1, ← hl, ← e]; simp) l2 fun h' hx' => ?_
    have hs₂ : Sat c S { s with heap := h' } := hs.ext (s' := { s with heap := h' }) (fun b o q => hx' b o (Nat.ne_of_lt (Heap.lt_size q)) q) rfl rfl
    exact k1 (order_ok hn (by rw [e]; exact o)) hs₂ fun _ S₃ _ hs₃ q₃ => ⟨S₃, hs₃, q₃⟩

/-- nothing is known of the place, and no base holds it -/
structure Free (c : Cx) (S : St) (b : Addr) : Prop where
  H : S.H b = none
  base : c.base.get? b = none
  h₁ : c.h₁.get? b = none
  L : b ≠ c.L
theorem Sat.free (h : Sat c S s) {b : Addr} (hb : s.heap.objs.size ≤ b) : Free c S b := ⟨h.HFresh hb, h.baseFresh hb, h.h1Fresh hb, Nat.ne_of_gt (Nat.lt_of_lt_of_le h.Llt hb)⟩

theorem Sat.but (h : Sat c S s) {s' : Shared} {own : List Addr} (fr : ∀ b ∈ own, Free c S b) (hk : ∀ b o, b ∉ own → s.heap.get? b = some o → s'.heap.get? b = some o)
    (hg : (∀ (i : Nat) (x : GenState), c.base.gb[i]? = some x → s'.gens[i]? = some x) ∧ AllBare s'.gens) (ho : s'.os = s.os) : Sat c S s' := by
  obtain ⟨mm, F, e⟩ := h.fr
  refine ⟨⟨mm, Fr.ofKeep F (fun o q => hk _ _ (fun z => (fr _ z).L rfl) q) (fun b o q => hk _ _ (fun z => by rw [(fr _ z).h₁] at q; cases q) (F.keep b o q)), e⟩, fun b o q => hk _ _ (fun z => by have := (fr _ z).base; rw [q] at this; cases this) (h.base b o q), h.baseL, fun a o q => ?_, hg, ho.trans h.os⟩
  obtain ⟨⟨ob, q1, q2⟩, r⟩ := h.H a o q
  exact ⟨⟨ob, hk _ _ (fun z => by rw [(fr _ z).H] at q; cases q) q1, q2⟩, r⟩

/-- the context with another environment and another base heap -/
noncomputable abbrev Cx.alt (c : Cx) (e : Env) (hb : Heap) : Cx := { c with env := e, base := ⟨hb, c.base.gb⟩ }
/-- what a value offers to a for: places of its own (an iterator), step by step -/
structure StepsIS (c : Cx) (target : Expr) (v : TV) (N : Nat) (item : Nat → Item) (J : Nat → St → Prop) (S₀ S₁ : St) (IS : List Addr → Addr → Nat → Heap → Array GenState → Prop) : Prop where
  ex : ∀ own it k h g, IS own it k h g → ∀ b ∈ own, ∃ o, h.get? b = some o
  st : ∀ own it k h g h' g', IS own it k h g → (∀ b ∈ own, ∀ o, h.get? b = some o → h'.get? b = some o) → (∀ (i : Nat) (x : GenState), g[i]? = some x → g'[i]? = some x) → IS own it k h' g'
  it : ∀ vv s (Q' : Value → Shared → Prop), er vv = v → Sat c S₀ s → (∀ own it s', Sat c S₁ s' → (∀ b ∈ own, Free c S₁ b) → IS own it 0 s'.heap s'.gens → Q' (.ref it) s') →
      wpAny (model PG c.w) c.A (pyIter vv) Q' (fun _ _ => False) s
  nx : ∀ (e : Env) (hb : Heap) k S s own it (Q' : Option Value → Shared → Prop), k < N → Sat (c.alt e hb) S s → J k S → (∀ b ∈ own, Free (c.alt e hb) S b) → IS own it k s.heap s.gens →
      (∀ x s₁, wpAny (model PG c.w) c.A (letOwnedTupleGo target (.ref it) x) (fun _ s₂ => Sat (c.alt e hb) S s₂ ∧ (∃ own', (∀ b ∈ own', Free (c.alt e hb) S b) ∧ IS own' it (k + 1) s₂.heap s₂.gens) ∧ DEL s₂ x (item k)) (fun _ _ => False) s₁ → Q' (some x) s₁) → wpAny (model PG c.w) c.A (pyNext (.ref it)) Q' (fun _ _ => False) s
  sp : ∀ (e : Env) (hb : Heap) S s own it (Q' : Option Value → Shared → Prop), Sat (c.alt e hb) S s → J N S → (∀ b ∈ own, Free (c.alt e hb) S b) → IS own it N s.heap s.gens →
      (∀ s', Sat (c.alt e hb) S s' → Q' none s') → wpAny (model PG c.w) c.A (pyNext (.ref it)) Q' (fun _ _ => False) s
noncomputable def Steps (c : Cx) (target : Expr) (v : TV) (N : Nat) (item : Nat → Item) (J : Nat → St → Prop) (S₀ S₁ : St) : Prop := ∃ IS, StepsIS c target v N item J S₀ S₁ IS
/-- and the iterator is its own iterator (a comprehension asks twice) -/
noncomputable def StepsC (c : Cx) (target : Expr) (v : TV) (N : Nat) (item : Nat → Item) (J : Nat → St → Prop) (S₀ S₁ : St) : Prop := ∃ IS, StepsIS c target v N item J S₀ S₁ IS ∧
  ∀ s own it k (Q' : Value → Shared → Prop), IS own it k s.heap s.gens → Q' (.ref it) s → wpAny (model PG c.w) c.A (pyIter (.ref it)) Q' (fun _ _ => False) s
theorem StepsC.steps {target : Expr} {v : TV} {N : Nat} {item : Nat → Item} {J : Nat → St → Prop} {S₀ S₁ : St} (h : StepsC c target v N item J S₀ S₁) : Steps c target v N item J S₀ S₁ := let ⟨IS, a, _⟩ := h; ⟨IS, a⟩

noncomputable abbrev kLoop (J : Nat → St → Prop) (k : Nat) (Q : TF → St → Prop) : TF → St → Prop := fun f S₄ => match f with | .next | .cont => J (k + 1) S₄ | .brk => Q .next S₄ | .ret r => Q (.ret r) S₄
theorem px_forT {target : Expr} {pos : Pos} {iter : Expr} {body : List Stmt} {Q : TF → St → Prop} (hA : c.A.handled = none)
    (h : PV c (eval iter c.env) (fun v S₀ => ∃ (N : Nat) (item : Nat → Item) (J : Nat → St → Prop) (S₁ : St), Steps c target v N item J S₀ S₁ ∧ J 0 S₁ ∧
      (∀ k S₂ b, k < N → J k S₂ → Well (c.on b) → ASGI (c.on b) target (item k) (fun S₃ => PX (c.on b) (execs body (c.on b).env) (kLoop J k Q) S₃) S₂) ∧
      (∀ S₂, J N S₂ → Q .next S₂)) S) (hw : Well c)
    (hs : ∀ x, foldedSetIterable iter c.env x = pure x := by intro _; rfl) :
    PX c (exec (.For target iter body [] pos) c.env) Q S := by
  intro s hs₀
  refine wpAny_For (k1 h hs₀ fun v₀ S₀ s₁ hs₁ H0 => ?_) hs
  obtain ⟨N, item, J, S₁, ⟨IS, i1, i2, i3, i4, i5⟩, j0, turn, done⟩ := H0
  generalize hv₀ : er v₀ = v at *
  refine i3 v₀ s₁ _ hv₀ hs₁ fun own it s₂ hs₂ fr is0 => ?_
  refine codeAny_forLoop_any (R := _) (fun n s => ∃ k S₂ own, n + k = N ∧ Sat c S₂ s ∧ (∀ b ∈ own, Free c S₂ b) ∧ J k S₂ ∧ IS own it k s.heap s.gens) ?_ N ⟨0, S₁, own, rfl, hs₂, fr, j0, is0⟩
  intro n s₂ H0
  obtain ⟨k, S₂, own, hn, hs₂, hi, hJ, hIS⟩ := H0
  have off : ∀ {α : Type} {t : Sem α} {R : α → Shared → Prop} {E : Value → Shared → Prop} {s : Shared}, wpAny (model PG c.w) c.A t R (fun _ _ => False) s → wpAny (model PG c.w) c.A t R E s :=
    fun h => wpAny_mono h (fun _ _ x => x) fun _ _ x => x.elim
  by_cases hk : k < N
  · refine off (i4 c.env c.base.toHeap k S₂ s₂ own it _ hk hs₂ hJ hi hIS fun xv s₁' hgo => ?_)
    refine off (wpAny_mono hgo (fun _ s₃ H0 => ?_) fun _ _ x => x)
    obtain ⟨hs₃, ⟨own', hi', hIS'⟩, hdel⟩ := H0
    have key := turn k S₂ (bsOf s₃ (hideL S₂.H c.L)) hk hJ (hw.on _)
    have T := hs₃.inner
    refine off (wpAny_mono (asgi_ok (c := c.on (bsOf s₃ (hideL S₂.H c.L))) hA key hdel T) (fun _ s₄ ⟨S₄, hs₄, q₄⟩ => off (wpAny_mono (q₄ s₄ hs₄) (fun f s₅ H0 => ?_) fun _ _ x => x)) fun _ _ x => x)
    obtain ⟨S₅, hs₅, q₅⟩ := H0
    obtain ⟨o1, o2, o3⟩ := hs₃.outer hs₅
    have fresh5 : ∀ b ∈ own', Free c S₅ b := fun b hb => by
      refine ⟨?_, (hi' b hb).base, (hi' b hb).h₁, (hi' b hb).L⟩
      obtain ⟨o, g⟩ := i1 own' it _ _ _ hIS' b hb
      cases z : S₅.H b with
      | none => rfl
      | some y =>
        have r := (hs₅.H b y z).2.2.1
        have : (bsOf s₃ (hideL S₂.H c.L)).get? b = some o := baseOf_get.mpr ⟨g, by rw [hideL, if_neg (hi' b hb).L, (hi' b hb).H]⟩
        rw [show (bsOf s₃ (hideL S₂.H c.L)).get? b = none from r] at this; cases this
    have is5 : IS own' it (k + 1) s₅.heap s₅.gens := i2 own' it _ _ _ _ _ hIS' (fun b hb o g => o2 b o (hi' b hb).L (hi' b hb).H g) o3
    cases f with
    | next => exact ⟨n - 1, by exact aL 0x11010110001010311b03b211210c2304 hn hk (aS _ _), k + 1, S₅, own', by exact aL 0x10010110101011100101100011121f3c21b03b211210c2304 hn hk (aS _ _), o1, fresh5, q₅, is5⟩
    | cont => exact ⟨n - 1, by exact aL 0x11010110001010311b03b211210c2304 hn hk (aS _ _), k + 1, S₅, own', by exact aL 0x10010110101011100101100011121f3c21b03b211210c2304 hn hk (aS _ _), o1, fresh5, q₅, is5⟩
    | brk => exact ⟨S₅, o1, q₅⟩
    | ret r => exact ⟨S₅, o1, q₅⟩
  · have e : k = N := by exact aL 0x1010100112122119210c2203 hn hk
    subst e
    refine off (i5 c.env c.base.toHeap S₂ s₂ own it _ hs₂ hJ hi hIS fun s₃ hs₃ => ?_)
    exact wpAny_execs_nil ⟨S₂, hs₃, done S₂ hJ⟩
theorem px_for {x : Str} {px pos : Pos} {iter : Expr} {body : List Stmt} {Q : TF → St → Prop} (hA : c.A.handled = none)
    (h : PV c (eval iter c.env) (fun v S₀ => ∃ (N : Nat) (item : Nat → TV) (J : Nat → St → Prop) (S₁ : St), Steps c (.Name x px) v N (fun k => .one (item k)) J S₀ S₁ ∧ J 0 S₁ ∧
      (∀ k S₂ b, k < N → J k S₂ → Well (c.on b) → STORE (c.on b) x (item k) (fun S₃ => PX (c.on b) (execs body (c.on b).env) (kLoop J k Q) S₃) S₂) ∧
      (∀ S₂, J N S₂ → Q .next S₂)) S) (hw : Well c)
    (hs : ∀ x, foldedSetIterable iter c.env x = pure x := by intro _; rfl) :
    PX c (exec (.For (.Name x px) iter body [] pos) c.env) Q S :=
  px_forT hA (pw_mono h fun v S' H0 => by obtain ⟨N, item, J, S₁, a, b, d, e⟩ := H0; exact ⟨N, fun k => .one (item k), J, S₁, a, b, fun k S₂ b' hk hJ hW => assign_name (d k S₂ b' hk hJ hW), e⟩) hw hs

theorem px_while {test : Expr} {body : List Stmt} {pos : Pos} {Q : TF → St → Prop} (I : Nat → St → Prop) (n : Nat) (h0 : I n S)
    (turn : ∀ n S, I n S → PW c (isTrue test c.env (eval test c.env)) (fun b S₁ => if b = true then PX c (execs body c.env) (fun f S₂ => match f with | .next | .cont => ∃ m, m < n ∧ I m S₂ | .brk => Q .next S₂ | .ret r => Q (.ret r) S₂) S₁ else Q .next S₁) S) :
    PX c (exec (.While test body [] pos) c.env) Q S := by
  intro s hs
  have off : ∀ {α : Type} {t : Sem α} {R : α → Shared → Prop} {E : Value → Shared → Prop} {s : Shared}, wpAny (model PG c.w) c.A t R (fun _ _ => False) s → wpAny (model PG c.w) c.A t R E s :=
    fun h => wpAny_mono h (fun _ _ x => x) fun _ _ x => x.elim
  refine wpAny_While (codeAny_whileLoop (fun n s => ∃ S, Sat c S s ∧ I n S) ?_ n ⟨S, hs, h0⟩)
  rintro n s ⟨S, hs, hI⟩
  refine off (k1 (turn n S hI) hs fun b S₁ s₁ hs₁ q => ?_)
  cases b with
  | true =>
    rw [if_pos rfl] at q
    refine off (k1 (show PX c _ _ _ from q) hs₁ fun f S₂ s₂ hs₂ q₂ => ?_)
    cases f with
    | next => obtain ⟨m, l, hm⟩ := q₂; exact ⟨m, l, S₂, hs₂, hm⟩
    | cont => obtain ⟨m, l, hm⟩ := q₂; exact ⟨m, l, S₂, hs₂, hm⟩
    | brk => exact ⟨S₂, hs₂, q₂⟩
    | ret r => exact ⟨S₂, hs₂, q₂⟩
  | false => exact wpAny_execs_nil ⟨S₁, hs₁, q⟩

/-! what can be walked -/
theorem wgo_name {x : Str} {px : Pos} {it v : Value} {A : Around} {Q : Unit → Shared → Prop} {E : Value → Shared → Prop} {s : Shared} (h : Q () s) {p : Program} {w : World} : wpAny (model p w) A (letOwnedTupleGo (.Name x px) it v) Q E s := wpAny_pure h
theorem Sat.isList (h : Sat c S s) {l : Addr} {xs : List TV} (hl : S.H l = some (.list xs)) : ∃ vs : Array Value, s.heap.IsList l vs ∧ vs.toList.map er = xs := by
  obtain ⟨⟨ob, g, vs, n, rfl, e⟩, _⟩ := h.H l _ hl
  exact ⟨vs, ⟨_, g, rfl, n, rfl⟩, e⟩
theorem Sat.isTup (h : Sat c S s) {l : Addr} {xs : List TV} (hl : S.H l = some (.tup xs)) : ∃ vs : Array Value, s.heap.IsTuple l vs ∧ vs.toList.map er = xs := by
  obtain ⟨⟨ob, g, vs, rfl, e⟩, _⟩ := h.H l _ hl
  exact ⟨vs.toArray, ⟨_, g, rfl, 0, rfl⟩, by simpa using e⟩
theorem getItem_er {vs : Array Value} {xs : List TV} (e : vs.toList.map er = xs) {k : Nat} (hk : k < xs.length) : ∃ v, vs[k]? = some v ∧ er v = xs.getD k .none := by
  subst e
  have : k < vs.size := by simpa using hk
  refine ⟨vs[k], by simp [this], ?_⟩
  simp [List.getD, this]
theorem Sat.one (h : Sat c S s) {it : Addr} (fr : ∀ b ∈ [it], Free c S b) {h' : Heap} {tk : Nat} (hk : ∀ b o, b ≠ it → s.heap.get? b = some o → h'.get? b = some o) : Sat c S { s with heap := h', toks := tk } :=
  h.but (s' := { s with heap := h', toks := tk }) fr (fun b o n q => hk b o (fun z => n (by rw [z]; exact .head _)) q) h.g rfl
theorem steps_list {x : Str} {px : Pos} {l : Addr} {xs : List TV} {J : Nat → St → Prop} (hA : c.A.handled = none) (h0 : S.H l = some (.list xs)) (hJ : ∀ k S, J k S → S.H l = some (.list xs)) :
    Steps c (.Name x px) (.ref l) xs.length (fun k => .one (xs.getD k .none)) J S S := by
  refine ⟨fun own it k h g => own = [it] ∧ h.IsListIter it l k, ?_, ?_, fun vv s Q' hv hs q => ?_, fun e₀ hb k S s own it Q' hk hs hj fr hi q => ?_, fun e₀ hb S s own it Q' hs hj fr hi q => ?_⟩
  · rintro own it k h g ⟨rfl, o, g', _⟩ b hb; rw [List.mem_singleton.mp hb]; exact ⟨o, g'⟩
  · rintro own it k h g h' g' ⟨rfl, o, g1, r⟩ kp _; exact ⟨rfl, o, kp _ (.head _) o g1, r⟩
  · cases er_ref hv
    obtain ⟨vs, hl, e⟩ := hs.isList h0
    exact wpAny_pyIter_list hl (q [_] _ _ (hs.ext (s' := { s with heap := s.heap.push _ }) (fun b o g => Heap.get?_push_of_some _ g) rfl rfl) (by rintro b hb; rw [List.mem_singleton.mp hb]; exact hs.free (Nat.le_refl _)) ⟨rfl, _, Heap.get?_push_size _ rfl, rfl, rfl⟩)
  · obtain ⟨rfl, hi⟩ := hi
    obtain ⟨vs, hl, e⟩ := hs.isList (hJ k S hj)
    obtain ⟨v, h1, h2⟩ := getItem_er e hk
    exact wpAny_pyNext_list_item hi hl h1 fun h' hi' hsb => q v _ (wgo_name ⟨hs.one (tk := s.toks) fr fun b o n q => by rw [hsb.2 b n]; exact q, ⟨_, fr, rfl, hi'⟩, h2⟩)
  · obtain ⟨rfl, hi⟩ := hi
    obtain ⟨vs, hl, e⟩ := hs.isList (hJ _ S hj)
    refine wpAny_pyNext_list_end hA hi hl ?_ fun h' hx => q _ (hs.one (tk := s.toks) fr fun b o n q => hx b o n q)
    subst e; simp
theorem steps_tup {x : Str} {px : Pos} {l : Addr} {xs : List TV} {J : Nat → St → Prop} (hA : c.A.handled = none) (h0 : S.H l = some (.tup xs)) (hJ : ∀ k S, J k S → S.H l = some (.tup xs)) :
    Steps c (.Name x px) (.ref l) xs.length (fun k => .one (xs.getD k .none)) J S S := by
  refine ⟨fun own it k h g => own = [it] ∧ h.IsTupleIter it l k, ?_, ?_, fun vv s Q' hv hs q => ?_, fun e₀ hb k S s own it Q' hk hs hj fr hi q => ?_, fun e₀ hb S s own it Q' hs hj fr hi q => ?_⟩
  · rintro own it k h g ⟨rfl, o, g', _⟩ b hb; rw [List.mem_singleton.mp hb]; exact ⟨o, g'⟩
  · rintro own it k h g h' g' ⟨rfl, o, g1, r⟩ kp _; exact ⟨rfl, o, kp _ (.head _) o g1, r⟩
  · cases er_ref hv
    obtain ⟨vs, hl, e⟩ := hs.isTup h0
    exact wpAny_pyIter_tuple hl (q [_] _ _ (hs.ext (s' := { s with heap := s.heap.push _ }) (fun b o g => Heap.get?_push_of_some _ g) rfl rfl) (by rintro b hb; rw [List.mem_singleton.mp hb]; exact hs.free (Nat.le_refl _)) ⟨rfl, _, Heap.get?_push_size _ rfl, rfl, rfl⟩)
  · obtain ⟨rfl, hi⟩ := hi
    obtain ⟨vs, hl, e⟩ := hs.isTup (hJ k S hj)
    obtain ⟨v, h1, h2⟩ := getItem_er e hk
    exact wpAny_pyNext_tuple_item hi hl h1 fun h' hi' hsb => q v _ (wgo_name ⟨hs.one (tk := s.toks) fr fun b o n q => by rw [hsb.2 b n]; exact q, ⟨_, fr, rfl, hi'⟩, h2⟩)
  · obtain ⟨rfl, hi⟩ := hi
    obtain ⟨vs, hl, e⟩ := hs.isTup (hJ _ S hj)
    refine wpAny_pyNext_tuple_end hA hi hl ?_ fun h' hx => q _ (hs.one (tk := s.toks) fr fun b o n q => hx b o n q)
    subst e; simp
end
end
end Mine
end
section
open PySem PySem.W PyProof.Rows PySem.Calls
set_option maxRecDepth 100000
set_option maxHeartbeats 4000000
namespace Mine
noncomputable section
section
variable {c : Cx} {S : St} {s : Shared}

theorem call_range1 {n : Int} {Q : TV → St → Prop} (h : ∀ a, S.H a = none → Q (.ref a) { S with H := upd S.H a (.range 0 n 1) }) : CALLX c (.type "range") [.int n] Q S := by
  intro vf vs s hf hvs hs
  cases er_type hf
  rcases vs with _ | ⟨x, _ | _⟩ <;> simp at hvs
  obtain ⟨t, rfl⟩ := er_int hvs
  refine call_range_1 ⟨_, ?_, h _ hs.freshN⟩
  exact (hs.push (ao := .range 0 n 1) (ob := { cls := .type "range", data := .fields #[.int 0 s.toks, .int n t, .int 1 (s.toks + 1)] }) rfl ⟨_, _, _, rfl⟩).tok _
theorem call_range2 {a b : Int} {Q : TV → St → Prop} (h : ∀ x, S.H x = none → Q (.ref x) { S with H := upd S.H x (.range a b 1) }) : CALLX c (.type "range") [.int a, .int b] Q S := by
  intro vf vs s hf hvs hs
  cases er_type hf
  rcases vs with _ | ⟨x, _ | ⟨y, _ | _⟩⟩ <;> simp at hvs
  obtain ⟨t, rfl⟩ := er_int hvs.1
  obtain ⟨u, rfl⟩ := er_int hvs.2
  refine call_range_2 ⟨_, ?_, h _ hs.freshN⟩
  exact (hs.push (ao := .range a b 1) (ob := { cls := .type "range", data := .fields #[.int a t, .int b u, .int 1 s.toks] }) rfl ⟨_, _, _, rfl⟩).tok _
theorem call_range3 {a b d : Int} {Q : TV → St → Prop} (h0 : d ≠ 0) (hp : Builtin.divisionGoesByPylong (b - a) d = false) (h : ∀ x, S.H x = none → Q (.ref x) { S with H := upd S.H x (.range a b d) }) : CALLX c (.type "range") [.int a, .int b, .int d] Q S := by
  intro vf vs s hf hvs hs
  cases er_type hf
  rcases vs with _ | ⟨x, _ | ⟨y, _ | ⟨z, _ | _⟩⟩⟩ <;> simp at hvs
  obtain ⟨t, rfl⟩ := er_int hvs.1
  obtain ⟨u, rfl⟩ := er_int hvs.2.1
  obtain ⟨v, rfl⟩ := er_int hvs.2.2
  refine call_range_3 h0 ⟨_, ?_, h _ hs.freshN⟩ (.inl hp)
  exact (hs.push (ao := .range a b d) (ob := { cls := .type "range", data := .fields #[.int a t, .int b u, .int d v] }) rfl ⟨_, _, _, rfl⟩).tok _

theorem steps_range {x : Str} {px : Pos} {l : Addr} {a b d : Int} {n : Nat} {J : Nat → St → Prop} (hA : c.A.handled = none) (h0 : S.H l = some (.range a b d)) (hz : Builtin.Range.small a b d = true) (hn : Builtin.Range.rangeSize a b d = n) :
    Steps c (.Name x px) (.ref l) n (fun k => .one (.int (a + k * d))) J S S := by
  refine ⟨fun own it k h g => own = [it] ∧ IsRangeIter h it (a + k * d) (n - k) d, ?_, ?_, fun vv s Q' hv hs q => ?_, fun e₀ hb k S s own it Q' hk hs hj fr hi q => ?_, fun e₀ hb S s own it Q' hs hj fr hi q => ?_⟩
  · rintro own it k h g ⟨rfl, g'⟩ b hb; rw [List.mem_singleton.mp hb]; exact ⟨_, g'⟩
  · rintro own it k h g h' g' ⟨rfl, g1⟩ kp _; exact ⟨rfl, kp _ (.head _) _ g1⟩
  · cases er_ref hv
    obtain ⟨⟨ob, g, t, u, v, rfl⟩, _⟩ := hs.H l _ h0
    refine wpAny_pyIter_range g hz (q [_] _ _ (hs.ext (s' := { s with heap := s.heap.push _, toks := _ }) (fun b o g => Heap.get?_push_of_some _ g) rfl rfl) (by rintro b hb; rw [List.mem_singleton.mp hb]; exact hs.free (Nat.le_refl _)) ⟨rfl, ?_⟩)
    show (s.heap.push _).get? _ = _
    rw [Heap.get?_push_size _ rfl, hn]
    simp
  · obtain ⟨rfl, hi⟩ := hi
    refine wpAny_pyNext_range_item hi (by exact aL 0x110717a084101102 hk) fun h' hi' hsb => q _ _ (wgo_name ⟨hs.one (tk := _) fr fun b o n q => by rw [hsb.2 b n]; exact q, ⟨_, fr, rfl, ?_⟩, rfl⟩)
    have e1 : a + ((k + 1 : Nat) : Int) * d = a + k * d + d := by push_cast; rw [Int.add_mul, Int.one_mul, Int.add_assoc]
    have e2 : ((n : Int) - ((k + 1 : Nat) : Int)) = n - k - 1 := by push_cast; exact aL 0x111181707aa17e07a5002
    show IsRangeIter h' it (a + ((k + 1 : Nat) : Int) * d) ((n : Int) - ((k + 1 : Nat) : Int)) d
    rw [e1, e2]; exact hi'
  · obtain ⟨rfl, hi⟩ := hi
    refine wpAny_pyNext_range_end hA hi (by exact aL 0x1080707a3001) fun h' hx => q _ (hs.one (tk := s.toks) fr fun b o n q => hx b o n q)
end
end
end Mine
end
section
open PySem PySem.W PyProof.Rows PySem.Calls
set_option maxRecDepth 100000
set_option maxHeartbeats 4000000
namespace Mine
noncomputable section
section
variable {c : Cx} {S : St} {s : Shared} {prog : Program} {w : World}

theorem isInt_of {i j : Int} {tk : Tok} : (intKind prog w).is i (.int j tk) = decide (i = j) := by
  by_cases h : i = j
  · subst h; simp [intKind_is]
  · have : (intKind prog w).is i (.int j tk) = false := by
      cases q : (intKind prog w).is i (.int j tk) with
      | false => rfl
      | true => exact absurd ((intKind prog w).inj _ _ _ q (intKind_is prog w j tk)) h
    simp [this, h]
theorem setOf_of {h : Heap} {a : Addr} {xs : List Int} {ob : Obj} {P : Params} (g : h.get? a = some ob) (hi : (AO.iset xs).is P ob) :
    h.SetOf (intKind prog w) a (fun i => decide (i ∈ xs)) xs.length ∧ xs.Nodup ∧ xs.length < scanBound := by
  obtain ⟨es, ep, t, rfl, ⟨n1, n2, n3, n4, n5⟩, ft, _, _⟩ := hi
  refine ⟨⟨_, es, ep, t, g, ⟨rfl, rfl, rfl⟩, rfl, fun e he => ?_, fun k => ?_, n5, ft, n4⟩, n1, by exact aL 0x1101211201102203 n4 n5⟩
  · obtain ⟨i, tk, rfl⟩ := n2 e he
    exact ⟨⟨i, intKind_is prog w i tk, rfl⟩, rfl⟩
  · rw [decide_eq_true_eq, n3 k]
    constructor
    · rintro ⟨e, he, e2⟩
      obtain ⟨i, tk, rfl⟩ := n2 e he
      cases e2
      exact ⟨_, he, intKind_is prog w _ _⟩
    · rintro ⟨e, he, e2⟩
      obtain ⟨i, tk, rfl⟩ := n2 e he
      rw [isInt_of, decide_eq_true_eq] at e2
      subst e2
      exact ⟨_, he, rfl⟩
theorem Sat.set (h : Sat c S s) {a : Addr} {xs : List Int} (ha : S.H a = some (.iset xs)) :
    s.heap.SetOf (intKind PG c.w) a (fun i => decide (i ∈ xs)) xs.length ∧ xs.Nodup ∧ xs.length < scanBound := by
  obtain ⟨⟨ob, g, hi⟩, _⟩ := h.H a _ ha
  exact setOf_of g hi

theorem set_in {a : Addr} {xs : List Int} {i : Int} {Q : TV → St → Prop} (ha : S.H a = some (.iset xs)) (h : Q (.bool (decide (i ∈ xs))) S) : CMP c .In (.int i) (.ref a) Q S := by
  intro va vb h1 h2 s hs
  obtain ⟨t, rfl⟩ := er_int h1
  cases er_ref h2
  exact wpAny_inSet_of (intKind_is PG c.w i t) rfl (hs.set ha).1 ⟨S, hs.tok _, h⟩
theorem set_notin {a : Addr} {xs : List Int} {i : Int} {Q : TV → St → Prop} (ha : S.H a = some (.iset xs)) (h : Q (.bool (!decide (i ∈ xs))) S) : CMP c .NotIn (.int i) (.ref a) Q S := by
  intro va vb h1 h2 s hs
  obtain ⟨t, rfl⟩ := er_int h1
  cases er_ref h2
  exact wpAny_notInSet_of (intKind_is PG c.w i t) rfl (hs.set ha).1 ⟨S, hs.tok _, h⟩
theorem gm_set_add {a : Addr} {xs : List Int} {Q : TV → List TV → St → Prop} (ha : S.H a = some (.iset xs)) (h : Q (.bt "set.add") [.ref a] S) : GETM c (.ref a) "add" Q S := by
  intro pl vo ho s hs
  cases er_ref ho
  exact getMethod_set_add (hs.set ha).1 ⟨S, hs, h⟩
noncomputable def insI (i : Int) (xs : List Int) : List Int := if i ∈ xs then xs else xs ++ [i]
theorem mem_insI {i j : Int} {xs : List Int} : j ∈ insI i xs ↔ j = i ∨ j ∈ xs := by
  unfold insI
  by_cases h : i ∈ xs
  · rw [if_pos h]
    constructor
    · exact .inr
    · rintro (rfl | q)
      · exact h
      · exact q
  · rw [if_neg h]; simp [or_comm]
theorem nodup_insI {i : Int} {xs : List Int} (h : xs.Nodup) : (insI i xs).Nodup := by
  unfold insI
  by_cases q : i ∈ xs
  · rw [if_pos q]; exact h
  · rw [if_neg q]
    refine List.nodup_append.mpr ⟨h, by simp, ?_⟩
    rintro a ha b hb rfl
    rw [List.mem_singleton] at hb
    exact q (hb ▸ ha)
theorem len_insI {i : Int} {xs : List Int} : (insI i xs).length = if i ∈ xs then xs.length else xs.length + 1 := by
  unfold insI
  by_cases q : i ∈ xs
  · simp [q]
  · simp [q]
theorem SetAt.room {xs : List Int} (h : xs.length < 4000) : xs.length + 1 < scanBound := by
  show xs.length + 1 < 4096
  exact aL 0x1118888b0f17ec8b01101 h
theorem vals_perm {es es' : Array (Int × Value)} {xs xs' : List Int} (h : SetVals es xs) (p : es'.toList.Perm es.toList) (q : xs'.Perm xs) : SetVals es' xs' := by
  obtain ⟨n1, n2, n3, n4, n5⟩ := h
  have e : es'.size = es.size := by rw [← Array.length_toList, p.length_eq, Array.length_toList]
  exact ⟨q.nodup_iff.mpr n1, fun e he => n2 e (p.mem_iff.mp he), fun i => q.mem_iff.trans ((n3 i).trans ⟨fun ⟨e, he, h⟩ => ⟨e, p.mem_iff.mpr he, h⟩, fun ⟨e, he, h⟩ => ⟨e, p.mem_iff.mp he, h⟩⟩),
    by rw [e, n4, q.length_eq], by rw [e]; exact n5⟩
theorem vals_push {es : Array (Int × Value)} {xs : List Int} {i : Int} {tk : Tok} (h : SetVals es xs) (hi : i ∉ xs) (hb : es.size + 1 < scanBound) : SetVals (es.push (hashInt i, .int i tk)) (xs ++ [i]) := by
  obtain ⟨n1, n2, n3, n4, n5⟩ := h
  refine ⟨?_, fun e he => ?_, fun j => ?_, by simp [n4], by simpa using hb⟩
  · have := nodup_insI (i := i) n1
    rwa [insI, if_neg hi] at this
  · rw [Array.toList_push, List.mem_append, List.mem_singleton] at he
    rcases he with he | rfl
    · exact n2 e he
    · exact ⟨i, tk, rfl⟩
  · rw [List.mem_append, List.mem_singleton, n3 j, Array.toList_push]
    constructor
    · rintro (⟨e, he, q⟩ | rfl)
      · exact ⟨e, List.mem_append_left _ he, q⟩
      · exact ⟨_, List.mem_append_right _ (.head _), rfl⟩
    · rintro ⟨e, he, q⟩
      rcases List.mem_append.mp he with he | he
      · exact .inl ⟨e, he, q⟩
      · rw [List.mem_singleton] at he
        subst he
        replace q : TV.int _ = TV.int _ := q
        cases q
        exact .inr rfl
theorem call_setadd {a : Addr} {xs : List Int} {i : Int} {Q : TV → St → Prop} (ha : S.H a = some (.iset xs)) (hl : xs.length < 4000) (h : Q .none { S with H := upd S.H a (.iset (insI i xs)) }) : CALLX c (.bt "set.add") [.ref a, .int i] Q S := by
  intro vf vs s hf hvs hs
  cases er_bt hf
  rcases vs with _ | ⟨x, _ | ⟨y, _ | _⟩⟩ <;> simp at hvs
  cases er_ref hvs.1
  obtain ⟨t, rfl⟩ := er_int hvs.2
  obtain ⟨⟨ob, g, es, ep, tb, rfl, sv, ft, ri, le⟩, _⟩ := hs.H a _ ha
  have hz : es.size = xs.length := sv.2.2.2.1
  have hb : es.size + 1 < scanBound := by rw [hz]; exact SetAt.room hl
  refine Srt.call_add g sv.2.1 hb ft ri (fun ⟨tk', hm⟩ => ?_) (fun hno h' es' ep' t' a1 a2 a3 a4 a5 a6 => ?_)
  · have hi : i ∈ xs := (sv.2.2.1 i).mpr ⟨_, hm, rfl⟩
    refine ⟨_, ?_, h⟩
    rw [insI, if_pos hi]
    exact hs.turn (s' := { s with toks := s.toks + 1 }) ha (fun b o n q => q) g ⟨es, ep, tb, rfl, sv, ft, ri, le⟩ rfl rfl
  · have hi : i ∉ xs := fun hm => by
      obtain ⟨e, he, q⟩ := (sv.2.2.1 i).mp hm
      obtain ⟨j, u, rfl⟩ := sv.2.1 e he
      cases q
      exact hno u he
    refine ⟨_, ?_, h⟩
    rw [insI, if_neg hi]
    refine hs.turn (s' := { s with heap := h', toks := s.toks + 1 }) ha (fun b o n q => by show h'.get? b = _; rw [a1.2 b n]; exact q) a2 ⟨es', ep', t', rfl, vals_perm (vals_push sv hi hb) (by rw [Array.toList_push]; exact a3) (.refl _), a4, a5, ?_⟩ rfl rfl
    rw [a6]; exact le
theorem call_setnew {Q : TV → St → Prop} (h : ∀ a, S.H a = none → Q (.ref a) { S with H := upd S.H a (.iset []) }) : CALLX c (.type "set") [] Q S := by
  intro vf vs s hf hvs hs
  cases er_type hf
  cases (List.map_eq_nil_iff.mp hvs)
  refine Srt.call_born ⟨_, hs.push (ao := .iset []) rfl ⟨#[], 0, _, rfl, ⟨.nil, fun e he => by simp at he, fun i => by simp, rfl, by decide⟩, by rfl, .nil, ?_⟩, h _ hs.freshN⟩
  show (!c.w.params.followText "set-order") = true ∨ c.w.params.followText "set-order" = true
  cases c.w.params.followText "set-order" <;> simp
theorem len_set {a : Addr} {xs : List Int} {Q : TV → St → Prop} (ha : S.H a = some (.iset xs)) (h : Q (.int xs.length) S) : CALLX c (.bt "len") [.ref a] Q S := by
  intro vf vs s hf hvs hs
  cases er_bt hf
  rcases vs with _ | ⟨x, _ | _⟩ <;> simp at hvs
  cases er_ref hvs
  obtain ⟨⟨ob, g, es, ep, t, rfl, ⟨n1, n2, n3, n4, n5⟩, ft, _, _⟩, _⟩ := hs.H a _ ha
  refine call_len_set g ⟨rfl, rfl, rfl⟩ rfl ft (by have : es.size < 4096 := n5; exact aL 0x111888888888888888888888807418888b01101 this) ⟨S, hs.tok _, ?_⟩
  show Q (.int es.size) S
  rw [n4]; exact h
end
end
end Mine
end
section
open PySem PySem.W PyProof.Rows PySem.Calls
set_option maxRecDepth 100000
set_option maxHeartbeats 4000000
namespace Mine
noncomputable section
section
variable {c : Cx} {S : St} {s : Shared}

theorem Sat.lst (h : Sat c S s) {l : Addr} {xs : List TV} (hl : S.H l = some (.list xs)) : ∃ (vs : Array Value) (n : Nat), s.heap.get? l = some (W.listOf vs n) ∧ vs.toList.map er = xs := by
  obtain ⟨⟨ob, g, vs, n, rfl, e⟩, _⟩ := h.H l _ hl
  exact ⟨vs, n, g, e⟩
theorem er_len {vs : Array Value} {xs : List TV} (e : vs.toList.map er = xs) : vs.size = xs.length := by rw [← e, List.length_map, Array.length_toList]

theorem seqIndex_in {k : Int} {n : Nat} (h0 : 0 ≤ k) (h1 : k < n) : seqIndex? k n = some k.toNat := by
  unfold seqIndex?
  have e : ¬ (k < 0) := by exact aL 0x11080490083110 h0
  have e2 : ¬ (k ≥ n) := by exact aL 0x11007390704111 h1
  simp [e, e2]
theorem len_list {l : Addr} {xs : List TV} {Q : TV → St → Prop} (hl : S.H l = some (.list xs)) (hz : xs.length ≤ sizeLine) (h : Q (.int xs.length) S) : CALLX c (.bt "len") [.ref l] Q S := by
  intro vf vs s hf hvs hs
  cases er_bt hf
  rcases vs with _ | ⟨x, _ | _⟩ <;> simp at hvs
  cases er_ref hvs
  obtain ⟨vs, hL, e⟩ := hs.isList hl
  have z := er_len e
  rw [sizeLine_eq] at hz
  refine call_len_list hL (by rw [z]; exact aL 0x1118888888888888888888888074188888888b00101 hz) ⟨S, hs.tok _, ?_⟩
  show Q (.int vs.size) S
  rw [z]; exact h
theorem t_list {l : Addr} {xs : List TV} {Q : Bool → St → Prop} (hl : S.H l = some (.list xs)) (hz : xs.length ≤ sizeLine) (h : Q (decide (xs ≠ [])) S) : TRUTHY c (.ref l) Q S := by
  intro va ha s hs
  cases er_ref ha
  obtain ⟨vs, hL, e⟩ := hs.isList hl
  have z := er_len e
  rw [sizeLine_eq] at hz
  refine wpAny_truthy_list hL (by rw [z]; exact aL 0x1118888888888888888888888074188888888b00101 hz) ⟨S, hs.tok _, ?_⟩
  have : (!vs.isEmpty) = decide (xs ≠ []) := by
    rw [Array.isEmpty]
    cases xs with
    | nil => simp [z]
    | cons a r => simp [z]
  rw [this]; exact h
theorem sub_list {value slice : Expr} {l : Addr} {xs : List TV} {k : Int} {Q : TV → St → Prop} (hl : S.H l = some (.list xs)) (h0 : 0 ≤ k) (h1 : k < xs.length) (hz : xs.length ≤ sizeLine) (h : Q (xs.getD k.toNat .none) S)
    (hs' : ∀ t, subscripted slice false (.ref l) (.int k t) = operate [.ref l, .int k t] (getItem (.ref l) (.int k t)) := by intro _; with_unfolding_all rfl) : SUBSCR c value slice (.ref l) (.int k) Q S := by
  intro va vi h2 h3 s hs
  cases er_ref h2
  obtain ⟨t, rfl⟩ := er_int h3
  obtain ⟨vs, hL, e⟩ := hs.isList hl
  rw [sizeLine_eq] at hz
  obtain ⟨v, g1, g2⟩ := getItem_er e (show k.toNat < xs.length by exact aL 0x11100110101101108030b1260175707040083312 h0 h1 (aT _))
  exact tail_any hL.typeIs slot_list_getitem.lookup (wpAny_getItem_list hL h0 (by exact aL 0x1111888888888888888888888804188888888b000704211 h1 hz) g1 ⟨S, hs, by show Q (er v) S; rw [g2]; exact h⟩) (hs' t)
theorem sub_last {value slice : Expr} {l : Addr} {xs : List TV} {Q : TV → St → Prop} (hl : S.H l = some (.list xs)) (h1 : xs ≠ []) (hz : xs.length ≤ sizeLine) (h : Q (xs.getD (xs.length - 1) .none) S)
    (hs' : ∀ t, subscripted slice false (.ref l) (.int (-1) t) = operate [.ref l, .int (-1) t] (getItem (.ref l) (.int (-1) t)) := by intro _; with_unfolding_all rfl) : SUBSCR c value slice (.ref l) (.int (-1)) Q S := by
  intro va vi h2 h3 s hs
  cases er_ref h2
  obtain ⟨t, rfl⟩ := er_int h3
  obtain ⟨vs, hL, e⟩ := hs.isList hl
  have z := er_len e
  rw [sizeLine_eq] at hz
  have p : 0 < xs.length := List.length_pos_iff.mpr h1
  obtain ⟨v, g1, g2⟩ := getItem_er e (show xs.length - 1 < xs.length by exact aL 0x1101101010111b01b00b1202 p (aS _ _))
  refine tail_any hL.typeIs slot_list_getitem.lookup (wpAny_getItem_list_neg hL (by decide) (by exact aL 0x110118b07b310b1102202 z p) (by decide) ?_ ⟨S, hs, by show Q (er v) S; rw [g2]; exact h⟩) (hs' t)
  rw [show ((-1 : Int) + vs.size).toNat = xs.length - 1 by exact aL 0x1000010101011010101011110000001110100101100000111010101113221b13b080718b930b2260718b92757102304 z (aT _) (aS _ _)]; exact g1
theorem sub_tup {value slice : Expr} {l : Addr} {xs : List TV} {k : Int} {Q : TV → St → Prop} (hl : S.H l = some (.tup xs)) (h0 : 0 ≤ k) (h1 : k < xs.length) (hz : xs.length ≤ sizeLine) (h : Q (xs.getD k.toNat .none) S)
    (hs' : ∀ t, subscripted slice false (.ref l) (.int k t) = operate [.ref l, .int k t] (getItem (.ref l) (.int k t)) := by intro _; with_unfolding_all rfl) : SUBSCR c value slice (.ref l) (.int k) Q S := by
  intro va vi h2 h3 s hs
  cases er_ref h2
  obtain ⟨t, rfl⟩ := er_int h3
  obtain ⟨⟨ob, g, vs, rfl, e⟩, _⟩ := hs.H l _ hl
  rw [sizeLine_eq] at hz
  have z : vs.length = xs.length := by rw [← e, List.length_map]
  obtain ⟨v, g1, g2⟩ := getItem_er (vs := vs.toArray) (by simpa using e) (show k.toNat < xs.length by exact aL 0x11100110101101108030b1260175707040083312 h0 h1 (aT _))
  refine item_tupleT (l := vs) (j := k.toNat) ⟨_, g, rfl, 0, rfl⟩ (by exact aL 0x11018888888888888888888888b30083110 h0) (by exact aL 0x1111888888888888888888888804188888888b000704211 h1 hz) ?_ (by simpa using g1) ⟨S, hs, by show Q (er v) S; rw [g2]; exact h⟩ (hs' t)
  rw [z]
  exact seqIndex_in h0 h1

/-! methods of lists -/
theorem gm_list {l : Addr} {xs : List TV} {name : Str} {id : String} {Q : TV → List TV → St → Prop} (hl : S.H l = some (.list xs)) (slot : Slot "list" name id) (ty : typeOf (.builtin id) = pure (.type "method_descriptor")) (h : Q (.bt id) [.ref l] S) : GETM c (.ref l) name Q S := by
  intro pl vo ho s hs
  cases er_ref ho
  obtain ⟨vs, n, g, e⟩ := hs.lst hl
  exact getMethod_builtin ⟨_, g, rfl⟩ PySem.F.plainAttrs_list slot ty (fun a e => by cases e; exact ⟨_, g, rfl⟩) ⟨S, hs, h⟩
theorem gm_append {l : Addr} {xs : List TV} {Q : TV → List TV → St → Prop} (hl : S.H l = some (.list xs)) (h : Q (.bt "list.append") [.ref l] S) : GETM c (.ref l) "append" Q S := gm_list hl PySem.F.slot_list_append PySem.F.type_list_append h
theorem gm_insert {l : Addr} {xs : List TV} {Q : TV → List TV → St → Prop} (hl : S.H l = some (.list xs)) (h : Q (.bt "list.insert") [.ref l] S) : GETM c (.ref l) "insert" Q S := gm_list hl PySem.F.slot_list_insert PySem.F.type_list_insert h
theorem gm_pop {l : Addr} {xs : List TV} {Q : TV → List TV → St → Prop} (hl : S.H l = some (.list xs)) (h : Q (.bt "list.pop") [.ref l] S) : GETM c (.ref l) "pop" Q S := gm_list hl PySem.F.slot_list_pop PySem.F.type_list_pop h

theorem call_append' {l : Addr} {xs : List TV} {v : TV} {Q : TV → St → Prop} (hl : S.H l = some (.list xs)) (hz : xs.length ≤ sizeLine) (h : Q .none { S with H := upd S.H l (.list (xs ++ [v])) }) : CALLX c (.bt "list.append") [.ref l, v] Q S := by
  intro vf vs s hf hvs hs
  cases er_bt hf
  rcases vs with _ | ⟨x, _ | ⟨y, _ | _⟩⟩ <;> simp at hvs
  cases er_ref hvs.1
  obtain ⟨us, n, g, e⟩ := hs.lst hl
  obtain ⟨mm, news, F, N, U⟩ := hs.viaUpd hl g
  obtain ⟨news', U', k⟩ := U (W.listOf (us.push y) (n + 1))
  refine append_K F N U' (fun h' F' N' => ⟨_, k { s with heap := h' } F' N' rfl rfl (.list (xs ++ [v])) ⟨us.push y, n + 1, rfl, ?_⟩, h⟩) (by rw [er_len e]; exact hz)
  rw [Array.toList_push, List.map_append, e, List.map_cons, List.map_nil, hvs.2]
theorem call_insert' {l : Addr} {xs : List TV} {k : Int} {v : TV} {Q : TV → St → Prop} (hl : S.H l = some (.list xs)) (hz : xs.length ≤ sizeLine) (h0 : 0 ≤ k) (h1 : k ≤ xs.length)
    (h : Q .none { S with H := upd S.H l (.list (xs.take k.toNat ++ v :: xs.drop k.toNat)) }) : CALLX c (.bt "list.insert") [.ref l, .int k, v] Q S := by
  intro vf vs s hf hvs hs
  cases er_bt hf
  rcases vs with _ | ⟨x, _ | ⟨y, _ | ⟨z, _ | _⟩⟩⟩ <;> simp at hvs
  cases er_ref hvs.1
  obtain ⟨t, rfl⟩ := er_int hvs.2.1
  obtain ⟨us, n, g, e⟩ := hs.lst hl
  obtain ⟨mm, news, F, N, U⟩ := hs.viaUpd hl g
  have ez := er_len e
  obtain ⟨news', U', kk⟩ := U (W.listOf (kl_ins us.toList k z).toArray (n + 1))
  have hk : kl_ins us.toList k z = us.toList.take k.toNat ++ z :: us.toList.drop k.toNat := by
    unfold kl_ins
    have : ¬ (k < 0) := by exact aL 0x11080490083110 h0
    have e2 : min k.toNat us.toList.length = k.toNat := by rw [Array.length_toList, ez]; exact aL 0x100101000001011000111000001111212100120708030b2260275701021060703413 h1 (aN _ _) (aT _) (aO _ _)
    simp only [this, if_false, e2]
  have hz2 := hz
  rw [sizeLine_eq] at hz2
  refine kl_insert F N ?_ rfl U' (by rw [Array.length_toList, ez]; exact hz) fun h' F' N' => ⟨_, kk { s with heap := h' } F' N' rfl rfl (.list (xs.take k.toNat ++ v :: xs.drop k.toNat)) ⟨_, n + 1, rfl, ?_⟩, h⟩
  · unfold Builtin.List.listFitsIndex
    simp
    exact aL 0x1011110011888888888888888888888804018888888888888888888888b36188888888b0007030083311 h0 h1 hz2
  · rw [hk]
    simp only [List.map_append, List.map_cons, List.map_take, List.map_drop, e, hvs.2.2]
theorem kl_cut_get : ∀ (l : List Value) (k : Nat), k < l.length → ∃ y, kl_cut l k = some (l.take k, y, l.drop (k + 1)) ∧ l[k]? = some y
  | [], k, h => by simp at h
  | x :: r, 0, _ => ⟨x, by simp [kl_cut], by simp⟩
  | x :: r, k + 1, h => by
    obtain ⟨y, h1, h2⟩ := kl_cut_get r k (by simpa using h)
    exact ⟨y, by simp [kl_cut, h1], by simpa using h2⟩
theorem call_pop' {l : Addr} {xs : List TV} {k : Int} {Q : TV → St → Prop} (hl : S.H l = some (.list xs)) (hz : xs.length ≤ sizeLine) (h0 : 0 ≤ k) (h1 : k < xs.length)
    (h : Q (xs.getD k.toNat .none) { S with H := upd S.H l (.list (xs.take k.toNat ++ xs.drop (k.toNat + 1))) }) : CALLX c (.bt "list.pop") [.ref l, .int k] Q S := by
  intro vf vs s hf hvs hs
  cases er_bt hf
  rcases vs with _ | ⟨x, _ | ⟨y, _ | _⟩⟩ <;> simp at hvs
  cases er_ref hvs.1
  obtain ⟨t, rfl⟩ := er_int hvs.2
  obtain ⟨us, n, g, e⟩ := hs.lst hl
  obtain ⟨mm, news, F, N, U⟩ := hs.viaUpd hl g
  have ez := er_len e
  have hz2 := hz
  rw [sizeLine_eq] at hz2
  obtain ⟨y, c1, c2⟩ := kl_cut_get us.toList k.toNat (by rw [Array.length_toList, ez]; exact aL 0x11100110101101108030b1260175707040083312 h0 h1 (aT _))
  obtain ⟨news', U', kk⟩ := U (W.listOf (us.toList.take k.toNat ++ us.toList.drop (k.toNat + 1)).toArray (n + 1))
  refine kl_popAt F N ?_ (k := k.toNat) ?_ c1 U' (by rw [Array.length_toList, ez]; exact hz) fun h' F' N' => ⟨_, kk { s with heap := h' } F' N' rfl rfl (.list (xs.take k.toNat ++ xs.drop (k.toNat + 1))) ⟨_, n + 1, rfl, ?_⟩, ?_⟩
  · unfold Builtin.List.listFitsIndex
    simp
    exact aL 0x1011110011888888888888888888888804018888888888888888888888b36188888888b0007040083311 h0 h1 hz2
  · rw [ez]
    exact seqIndex_in h0 h1
  · simp only [List.map_append, List.map_take, List.map_drop, e]
  · have : er y = xs.getD k.toNat .none := by
      obtain ⟨v, g1, g2⟩ := getItem_er e (show k.toNat < xs.length by exact aL 0x11100110101101108030b1260175707040083312 h0 h1 (aT _))
      have : us.toList[k.toNat]? = us[k.toNat]? := by simp
      rw [this, g1] at c2
      cases c2; exact g2
    show Q (er y) _
    rw [this]; exact h
theorem Sat.seqTurn (h : Sat c S s) {l : Addr} {xs ys : List TV} {us us' : Array Value} {n : Nat} (hl : S.H l = some (.list xs)) (g : s.heap.get? l = some (W.listOf us n)) (f : Array Value → Array Value) (hf : f us = us') (e : us'.toList.map er = ys) :
    Sat c { S with H := upd S.H l (.list ys) } { s with heap := s.heap.update l (Obj.mapSeq f) } := by
  refine h.turn (s' := { s with heap := s.heap.update l (Obj.mapSeq f) }) (ob := Obj.mapSeq f (W.listOf us n)) hl (fun b o hn q => (Heap.get?_update_ne _ _ _ _ hn).trans q) (Heap.get?_update_self _ g rfl) ?_ rfl rfl
  subst hf
  exact ⟨f us, _, rfl, e⟩
theorem si_list {l : Addr} {xs : List TV} {k : Int} {v : TV} {Q : St → Prop} (hl : S.H l = some (.list xs)) (hz : xs.length ≤ sizeLine) (h0 : 0 ≤ k) (h1 : k < xs.length)
    (h : Q { S with H := upd S.H l (.list (xs.set k.toNat v)) }) : SETITEM c (.ref l) (.int k) v Q S := by
  intro va vi vv h2 h3 h4 s hs
  cases er_ref h2
  obtain ⟨t, rfl⟩ := er_int h3
  obtain ⟨us, n, g, e⟩ := hs.lst hl
  have ez := er_len e
  rw [sizeLine_eq] at hz
  refine ki_setAt g h0 (by exact aL 0x11118888888888888888888888040704188888888b00211 hz h1) (by rw [ez]; exact h1) ⟨_, hs.seqTurn hl g _ rfl (ys := xs.set k.toNat v) ?_, h⟩
  simp [List.map_set, e, h4]
theorem si_last {l : Addr} {xs : List TV} {v : TV} {Q : St → Prop} (hl : S.H l = some (.list xs)) (hz : xs.length ≤ sizeLine) (h1 : xs ≠ [])
    (h : Q { S with H := upd S.H l (.list (xs.set (xs.length - 1) v)) }) : SETITEM c (.ref l) (.int (-1)) v Q S := by
  intro va vi vv h2 h3 h4 s hs
  cases er_ref h2
  obtain ⟨t, rfl⟩ := er_int h3
  obtain ⟨us, n, g, e⟩ := hs.lst hl
  have ez := er_len e
  have p : 0 < xs.length := List.length_pos_iff.mpr h1
  refine ki_setBack g (by decide) (by rw [ez]; exact aL 0x1118b07b300b1101 p) (by decide) ⟨_, hs.seqTurn hl g _ rfl (ys := xs.set (xs.length - 1) v) ?_, h⟩
  have : ((-1 : Int) + us.size).toNat = xs.length - 1 := by rw [ez]; exact aL 0x10010101101010111100001110010110001110101112021b12b081718b930b0261718b90757203 (aT _) (aS _ _)
  simp [List.map_set, e, h4, this]

/-! slices -/
noncomputable def PART (c : Cx) (e : Option Expr) (Q : Option Int → St → Prop) (S : St) : Prop := match e with
  | none => Q none S
  | some e => PV c (eval e c.env) (fun v S' => ∃ i, v = .int i ∧ Q (some i) S') S
noncomputable def SLICE (c : Cx) (value slice : Expr) (o : TV) (lo hi : Option Int) (Q : TV → St → Prop) (S : St) : Prop :=
  ∀ vo vl vu s, er vo = o → IsPart vl lo → IsPart vu hi → Sat c S s →
    wpAny (model PG c.w) c.A (subscriptTail value slice vo (.ref s.heap.objs.size)) (fun v s' => ∃ S', Sat c S' s' ∧ Q (er v) S') (fun _ _ => False) { s with heap := s.heap.push { cls := .type "slice", data := .fields #[vl, vu, .none] } }
theorem part_of {e : Option Expr} {Q : Option Int → St → Prop} (h : PART c e Q S) : PW c (evalPart e c.env) (fun v S' => ∃ i, IsPart v i ∧ Q i S') S := by
  cases e with
  | none => exact pw_pure ⟨none, .none, h⟩
  | some e =>
    show PW c (eval e c.env) _ S
    refine pw_mono h fun v S' H0 => ?_
    obtain ⟨i, e, q⟩ := H0
    obtain ⟨t, rfl⟩ := er_int e
    exact ⟨some i, .int i t, q⟩
theorem pv_slice {value : Expr} {lower upper : Option Expr} {p pos : Pos} {Q : TV → St → Prop}
    (h : PV c (eval value c.env) (fun o S₁ => PART c lower (fun lo S₂ => PART c upper (fun hi S₃ => SLICE c value (.Slice lower upper none p) o lo hi Q S₃) S₂) S₁) S) :
    PV c (eval (.Subscript value (.Slice lower upper none p) pos) c.env) Q S := fun s hs => by
  refine Subscript_ (k1 h hs fun o S₁ s₁ hs₁ q₁ => wpAny_Slice (k1 (part_of q₁) hs₁ fun vl S₂ s₂ hs₂ ⟨lo, pl, q₂⟩ => k1 (part_of q₂) hs₂ fun vu S₃ s₃ hs₃ H0 => ?_))
  obtain ⟨hi, pu, q₃⟩ := H0
  exact wpAny_pure (q₃ o vl vu s₃ rfl pl pu hs₃)
theorem slice_list' {value slice : Expr} {l : Addr} {xs ys : List TV} {lo hi : Option Int} {a b : Nat} {Q : TV → St → Prop} (hl : S.H l = some (.list xs)) (hz : xs.length ≤ sizeLine)
    (hb : sliceBounds lo hi none xs.length = ((a : Int), (b : Int), 1)) (hy : (xs.drop a).take (b - a) = ys) (h : ∀ a', S.H a' = none → Q (.ref a') { S with H := upd S.H a' (.list ys) })
    (hs' : ∀ x, subscripted slice false (.ref l) (.ref x) = operate [.ref x, .ref l] (getItem (.ref l) (.ref x)) := by intro _; with_unfolding_all rfl) : SLICE c value slice (.ref l) lo hi Q S := by
  intro vo vl vu s ho pl pu hs
  cases er_ref ho
  obtain ⟨vs, hL, e⟩ := hs.isList hl
  have ez := er_len e
  have h1 : Sat c S { s with heap := s.heap.push { cls := .type "slice", data := .fields #[vl, vu, .none] } } := hs.ext (s' := { s with heap := s.heap.push _ }) (fun b o q => Heap.get?_push_of_some _ q) rfl rfl
  refine tail_any (Heap.IsList.typeIs (s := { s with heap := s.heap.push { cls := .type "slice", data := .fields #[vl, vu, .none] } }) (hL.push _)) list_getitem_lookup
    (wpAny_getItem_list_slice (s := { s with heap := s.heap.push { cls := .type "slice", data := .fields #[vl, vu, .none] } }) (hL.push _) (Heap.IsSliceOf.new ..) pl pu .none (by simp) ⟨_, h1.push (ao := .list ys) rfl ⟨slicePick vs lo hi none, 0, rfl, ?_⟩, ?_⟩ (by rw [ez]; exact hz)) (hs' _)
  · rw [kmk_pick_nat vs (by rw [ez]; exact hb)]
    simp only [List.map_take, List.map_drop, e, hy]
  · exact h _ h1.freshN
end
end
end Mine
end
section
open PySem PySem.W PyProof.Rows PySem.Calls
set_option maxRecDepth 100000
set_option maxHeartbeats 4000000
namespace Mine
noncomputable section
section
variable {c : Cx} {S : St} {s : Shared} {w : World}

noncomputable def kvOf : List DictEntry → List (Str × TV) → List (Str × Value)
  | e :: es, (k, _) :: l => (k, e.val) :: kvOf es l
  | _, _ => []
noncomputable abbrev erK (l : List (Str × Value)) : List (Str × TV) := l.map fun p => (p.1, er p.2)
theorem kvOf_er {P : Params} : ∀ {es : List DictEntry} {l : List (Str × TV)}, EsAre P es l → erK (kvOf es l) = l
  | [], [], _ => rfl
  | e :: es, (k, v) :: l, ⟨_, _, h3, h4⟩ => by
    show (k, er e.val) :: erK (kvOf es l) = _
    rw [kvOf_er h4, h3]
  | [], _ :: _, h => h.elim
  | _ :: _, [], h => h.elim
theorem strIs {k x : Str} {t : Tok} : (PySem.strKind PG w).is k (.str x t) = decide (x = k) := by
  show (x == k) = _
  by_cases h : x = k
  · simp [h]
  · have : (x == k) = false := by simpa using h
    simp [this, h]
theorem kvOf_pairs : ∀ {es : List DictEntry} {l : List (Str × TV)}, EsAre w.params es l → Pairs (PySem.strKind PG w) es (kvOf es l)
  | [], [], _ => .nil
  | e :: es, (k, v) :: l, ⟨_, ⟨t, h2⟩, h3, h4⟩ => .cons (by show (PySem.strKind PG w).is k e.key = true; rw [h2, strIs]; simp) rfl (kvOf_pairs h4)
  | [], _ :: _, h => h.elim
  | _ :: _, [], h => h.elim
theorem esAre_keys : ∀ {es : List DictEntry} {l : List (Str × TV)}, EsAre w.params es l → ∀ e ∈ es, ∃ k, (PySem.strKind PG w).is k e.key = true ∧ e.hash = (PySem.strKind PG w).hash k
  | [], [], _, _, h => nomatch h
  | e :: es, (k, v) :: l, ⟨h1, ⟨t, h2⟩, h3, h4⟩, x, hx => by
    rcases List.mem_cons.mp hx with rfl | hx
    · exact ⟨k, by rw [h2, strIs]; simp, h1⟩
    · exact esAre_keys h4 x hx
  | [], _ :: _, h, _, _ => h.elim
  | _ :: _, [], h, _, _ => h.elim
theorem Sat.dictOf (h : Sat c S s) {d : Addr} {l : List (Str × TV)} (hd : S.H d = some (.dict l)) (nd : (l.map (·.1)).Nodup) :
    ∃ kvs, s.heap.DictOf (PySem.strKind PG c.w) d kvs ∧ erK kvs = l := by
  obtain ⟨⟨ob, g, es, n, rfl, e⟩, _⟩ := h.H d _ hd
  have e2 := kvOf_er e
  refine ⟨kvOf es l, ⟨_, es.toArray, n, g, ⟨rfl, rfl, rfl⟩, rfl, fun x hx => esAre_keys e x (by simpa using hx), by simpa using kvOf_pairs e, ?_⟩, e2⟩
  have : (kvOf es l).map (·.1) = (erK (kvOf es l)).map (·.1) := by rw [List.map_map]; rfl
  rw [this, e2]; exact nd
theorem esAre_of_pairs {es : List DictEntry} {kvs : List (Str × Value)} (hk : ∀ e ∈ es, ∃ k, (PySem.strKind PG w).is k e.key = true ∧ e.hash = (PySem.strKind PG w).hash k) (hp : Pairs (PySem.strKind PG w) es kvs) : EsAre w.params es (erK kvs) := by
  induction hp with
  | nil => exact trivial
  | @cons e kv es kvs h1 h2 h3 ih =>
    obtain ⟨k, v⟩ := kv
    dsimp only at h1 h2
    obtain ⟨k', q1, q2⟩ := hk e (.head _)
    have ek : k' = k := (PySem.strKind PG w).inj _ _ _ q1 h1
    subst ek
    have : ∃ t, e.key = .str k' t := by
      cases ekey : e.key with
      | str x t => rw [ekey, strIs] at h1; exact ⟨t, by rw [of_decide_eq_true h1]⟩
      | _ => rw [ekey] at h1; exact absurd h1 (by simp [PySem.strKind, Value.isStrOf])
    exact ⟨q2, this, by rw [h2], ih (fun x hx => hk x (.tail _ hx))⟩
theorem dictAO_of {h : Heap} {d : Addr} {kvs : List (Str × Value)} (x : h.DictOf (PySem.strKind PG w) d kvs) : ∃ ob, h.get? d = some ob ∧ (AO.dict (erK kvs)).is w.params ob := by
  obtain ⟨o, es, ep, g, ⟨e1, e2, e3⟩, e4, hk, hp, _⟩ := x
  obtain ⟨oc, od, oo, osl⟩ := o
  simp only at e1 e2 e3 e4
  subst e1 e2 e3 e4
  exact ⟨_, g, es.toList, ep, by simp, esAre_of_pairs (fun e he => hk e (by simpa using he)) hp⟩
theorem stored_er {k : Str} {v : Value} : ∀ {kvs : List (Str × Value)}, (kvs.map (·.1)).Nodup → erK (stored kvs k v) = setA k (er v) (erK kvs)
  | [], _ => rfl
  | (x, y) :: r, hn => by
    rw [List.map_cons, List.nodup_cons] at hn
    show _ = if x = k then (x, er v) :: erK r else (x, er y) :: setA k (er v) (erK r)
    unfold stored
    by_cases q : x = k
    · subst q
      have hr : ∀ p ∈ r, p.1 ≠ x := fun p hp z => hn.1 (List.mem_map.mpr ⟨p, hp, z⟩)
      simp only [List.any_cons, decide_true, Bool.true_or, if_true, List.map_cons]
      congr 1
      rw [List.map_map]
      refine List.map_congr_left fun p hp => ?_
      simp [hr p hp]
    · have ih := stored_er (k := k) (v := v) hn.2
      unfold stored at ih
      simp only [List.any_cons, q, decide_false, Bool.false_or, if_false]
      by_cases a : r.any (fun kv => decide (kv.1 = k)) = true
      · rw [if_pos a] at ih ⊢
        simp only [List.map_cons, q, if_false]
        rw [← ih]
      · rw [if_neg a] at ih ⊢
        rw [← ih]; rfl

theorem sub_dict {value slice : Expr} {d : Addr} {l : List (Str × TV)} {k : Str} {v : TV} {Q : TV → St → Prop} (hd : S.H d = some (.dict l)) (hv : l.lookup k = some v) (h : Q v S)
    (hs' : ∀ t, subscripted slice false (.ref d) (.str k t) = operate [.ref d, .str k t] (getItem (.ref d) (.str k t)) := by intro _; with_unfolding_all rfl) : SUBSCR c value slice (.ref d) (.str k) Q S := by
  intro va vi h2 h3 s hs
  cases er_ref h2
  obtain ⟨t, rfl⟩ := er_str h3
  obtain ⟨⟨ob, g, es, n, rfl, e⟩, _⟩ := hs.H d _ hd
  have hm : s.heap.MapOf (PySem.strKind PG c.w) d (fun k => findBy Value.isStrOf es.toArray k) := ⟨_, es.toArray, n, g, ⟨rfl, rfl, rfl⟩, rfl, fun x hx => esAre_keys e x (by simpa using hx), fun _ => rfl⟩
  have ge := esAre_get (k := k) e
  rw [hv] at ge
  obtain ⟨en, q1, q2⟩ := ge
  have hf : findBy Value.isStrOf es.toArray k = some en.val := by
    unfold findBy
    rw [List.find?_toArray]
    have : (fun d : DictEntry => Value.isStrOf k d.key) = fun d => d.key.isStr k := funext fun d => (isStr_of k d.key).symm
    rw [this, q1]; rfl
  exact tail_any hm.typeIs slot_dict_getitem.lookup (wpAny_getItem_of (strKind_is PG c.w k t) hm hf ⟨S, hs.tok _, by show Q (er en.val) S; rw [q2]; exact h⟩) (hs' t)
theorem si_dict {d : Addr} {l l' : List (Str × TV)} {ks : List Str} {k : Str} {v : TV} {Q : St → Prop} (hd : S.H d = some (.dict l)) (hk : l.map (·.1) = ks) (nd : ks.Nodup) (hz : l.length ≤ 1000) (hl : setA k v l = l')
    (h : Q { S with H := upd S.H d (.dict l') }) : SETITEM c (.ref d) (.str k) v Q S := by
  intro va vi vv h2 h3 h4 s hs
  cases er_ref h2
  obtain ⟨t, rfl⟩ := er_str h3
  obtain ⟨kvs, D, e⟩ := hs.dictOf hd (by rw [hk]; exact nd)
  have lz : kvs.length = l.length := by rw [← e, List.length_map]
  have nk : (kvs.map (·.1)).Nodup := by
    have : kvs.map (·.1) = l.map (·.1) := by rw [← e, List.map_map]; rfl
    rw [this, hk]; exact nd
  refine wpAny_setItem_pairs (strKind_is PG c.w k t) D (fun h' D' hsb => ?_) (by rw [lz, sizeLine_eq]; exact aL 0x11188888888b001fd8b00101 hz)
  obtain ⟨ob, g, hi⟩ := dictAO_of D'
  rw [stored_er nk, e, h4, hl] at hi
  exact ⟨_, hs.turn (s' := { s with heap := h', toks := s.toks + 1 }) hd (fun b o n q => by show h'.get? b = _; rw [hsb.2 b n]; exact q) g hi rfl rfl, h⟩

theorem max2 {a b : Int} {Q : TV → St → Prop} (hA : c.A.handled = none) (h : Q (.int (max a b)) S) : CALLX c (.bt "max") [.int a, .int b] Q S := by
  intro vf vs s hf hvs hs
  cases er_bt hf
  rcases vs with _ | ⟨x, _ | ⟨y, _ | _⟩⟩ <;> simp at hvs
  obtain ⟨t, rfl⟩ := er_int hvs.1
  obtain ⟨u, rfl⟩ := er_int hvs.2
  refine max_two_ints hA fun h' tk hk => ⟨S, hs.ext (s' := { s with heap := h', toks := tk }) hk rfl rfl, ?_⟩
  have e : er (if b > a then Value.int b u else .int a t) = .int (max a b) := by
    by_cases q : b > a
    · rw [if_pos q, Int.max_eq_right (by exact aL 0x11103104120 q)]; rfl
    · rw [if_neg q, Int.max_eq_left (by exact aL 0x110131049120 q)]; rfl
  show Q (er _) S
  rw [e]; exact h
theorem min2 {a b : Int} {Q : TV → St → Prop} (hA : c.A.handled = none) (h : Q (.int (min a b)) S) : CALLX c (.bt "min") [.int a, .int b] Q S := by
  intro vf vs s hf hvs hs
  cases er_bt hf
  rcases vs with _ | ⟨x, _ | ⟨y, _ | _⟩⟩ <;> simp at hvs
  obtain ⟨t, rfl⟩ := er_int hvs.1
  obtain ⟨u, rfl⟩ := er_int hvs.2
  refine min_two_ints hA fun h' tk hk => ⟨S, hs.ext (s' := { s with heap := h', toks := tk }) hk rfl rfl, ?_⟩
  have e : er (if b < a then Value.int b u else .int a t) = .int (min a b) := by
    by_cases q : b < a
    · rw [if_pos q, Int.min_eq_right (by exact aL 0x11103104120 q)]; rfl
    · rw [if_neg q, Int.min_eq_left (by exact aL 0x110131049120 q)]; rfl
  show Q (er _) S
  rw [e]; exact h

theorem px_assign_tup {elts : List Expr} {k : Nat} {tpos : Pos} {value : Expr} {pos : Pos} {Q : TF → St → Prop} (hA : c.A.handled = none)
    (h : PV c (eval value c.env) (fun v S' => ∃ a xs, v = .ref a ∧ S'.H a = some (.tup xs) ∧ xs.length = elts.length ∧ ORDER c elts xs (Q .next) S') S)
    (hn : ∀ t ∈ elts, ∀ r, assignEach (t :: r) c.env = (false, assign t c.env) :: assignEach r c.env)
    (hw : swapsWithSole [Expr.Tuple elts k tpos] value pos.line c.env = pure false := by rfl) (hx : swappedStores [Expr.Tuple elts k tpos] value c.env = pure none := by rfl) :
    PX c (exec (.Assign [.Tuple elts k tpos] value pos) c.env) Q S := by
  intro s hs
  refine PyProof.Rows.Assign_Tuple (k1 h hs fun v S₁ s₁ hs₁ H0 => ?_) hw hx
  obtain ⟨a, xs, e, hH, hl, q⟩ := H0
  cases er_ref e
  obtain ⟨⟨ob, g, vs, rfl, ev⟩, _⟩ := hs₁.H a _ hH
  obtain ⟨l1, l2⟩ := each_len elts hn
  refine assign_Tuple_tuple hA (items := vs.toArray) ⟨_, g, rfl, 0, rfl⟩ (by rw [l1, ← hl, ← ev]; simp) l2 fun h' hx' => ?_
  have hs₂ : Sat c S₁ { s₁ with heap := h' } := hs₁.ext (s' := { s₁ with heap := h' }) (fun b o q => hx' b o (Nat.ne_of_lt (Heap.lt_size q)) q) rfl rfl
  refine k1 (order_ok hn (by rw [show vs.toArray.toList.map er = xs by simpa using ev]; exact q)) hs₂ fun _ S₃ _ hs₃ q₃ => ⟨S₃, hs₃, q₃⟩
theorem px_assign_swap {elts : List Expr} {k : Nat} {tpos : Pos} {value : Expr} {pos : Pos} {n1 n2 : Str} {Q : TF → St → Prop} (hA : c.A.handled = none)
    (h : PV c (eval value c.env) (fun v S' => ∃ a x y, v = .ref a ∧ S'.H a = some (.tup [x, y]) ∧ STORE c n2 y (fun S'' => STORE c n1 x (Q .next) S'') S') S)
    (hw : swapsWithSole [Expr.Tuple elts k tpos] value pos.line c.env = pure false := by rfl) (hx : swappedStores [Expr.Tuple elts k tpos] value c.env = pure (some [n1, n2]) := by rfl) :
    PX c (exec (.Assign [.Tuple elts k tpos] value pos) c.env) Q S := by
  intro s hs
  refine Assign_Tuple_swapped (names := [n1, n2]) (k1 h hs fun v S₁ s₁ hs₁ H0 => ?_) hw hx
  obtain ⟨a, x, y, e, hH, q⟩ := H0
  cases er_ref e
  obtain ⟨⟨ob, g, vs, rfl, ev⟩, _⟩ := hs₁.H a _ hH
  rcases vs with _ | ⟨vx, _ | ⟨vy, _ | _⟩⟩ <;> simp at ev
  refine unpackItems_tuple hA (items := #[vx, vy]) ⟨_, g, rfl, 0, rfl⟩ fun h' hx' => ?_
  have hs₂ : Sat c S₁ { s₁ with heap := h' } := hs₁.ext (s' := { s₁ with heap := h' }) (fun b o q => hx' b o (Nat.ne_of_lt (Heap.lt_size q)) q) rfl rfl
  show wpAny _ _ (do holding [vx] (bindName c.env n2 vy); holding [] (bindName c.env n1 vx); pure ()) _ _ _
  refine wpAny_bind (wpAny_holding (bindName_ (k1 (q vy ev.2) hs₂ fun _ S₃ s₃ hs₃ q₃ => wpAny_bind (wpAny_holding (bindName_ (k1 (q₃ vx ev.1) hs₃ fun _ S₄ s₄ hs₄ q₄ => wpAny_pure ⟨S₄, hs₄, q₄⟩))))))
end
end
end Mine
end
section
open PySem PySem.W PyProof.Rows PySem.Calls
set_option maxRecDepth 100000
set_option maxHeartbeats 4000000
namespace Mine
noncomputable section

/-! a generator that goes through a list and yields its items -/
structure GH (xs : List TV) (Lg it l : Addr) (k : Nat) (h : Heap) : Prop where
  ns : ∃ m, h.Ns Lg m
  it : h.IsListIter it l k
  ls : ∃ vs, h.IsList l vs ∧ vs.toList.map er = xs
noncomputable def Snc (own : List Addr) (s₀ s : Shared) : Prop := ∃ h' tk, s = { s₀ with heap := h', toks := tk } ∧ ∀ b o, b ∉ own → s₀.heap.get? b = some o → h'.get? b = some o
theorem Snc.refl (own : List Addr) (s : Shared) : Snc own s s := ⟨s.heap, s.toks, rfl, fun _ _ _ e => e⟩
theorem Snc.step {own : List Addr} {s₀ s : Shared} (x : Snc own s₀ s) {h' : Heap} {tk : Nat} (hk : ∀ b o, b ∉ own → s.heap.get? b = some o → h'.get? b = some o) : Snc own s₀ { s with heap := h', toks := tk } := by
  obtain ⟨h₁, tk₁, rfl, hk₁⟩ := x
  exact ⟨h', tk, rfl, fun b o hw e => hk b o hw (hk₁ b o hw e)⟩
noncomputable def GY (xs : List TV) (own : List Addr) (Lg it l : Addr) : Protocol := fun n s₀ v s' kap =>
  er v = xs.getD (xs.length - n - 1) .none ∧ Snc own s₀ s' ∧ GH xs Lg it l (xs.length - n) s'.heap ∧ ∀ s'' : Shared, GH xs Lg it l (xs.length - n) s''.heap → kap (.send .none) s''
noncomputable def GR (own : List Addr) : GenEnd := fun n s₀ r s₁ => r = .ok (.ret .none) ∧ (n = 0 ∧ Snc own s₀ s₁)

section
variable {w : World} {A : Around} {xs : List TV} {own : List Addr} {it l : Addr} {env : Env} {x : Str} {px p2 yp ep : Pos} {fs : List Frame}

theorem offE {α : Type} {M : Model} {A : Around} {t : Sem α} {R : α → Shared → Prop} {E : Value → Shared → Prop} {s : Shared} (h : wpAny M A t R (fun _ _ => False) s) : wpAny M A t R E s := wpAny_mono h (fun _ _ x => x) fun _ _ x => x.elim

theorem seg_gloop (hh : (A.over (.forLoop (.Name x px) (.ref it) [.Expr (.Yield (some (.Name x p2)) yp) ep] [] env) fs).handled = none) (hlo : env.locals ∈ own) (hio : it ∈ own) (hlL : l ≠ env.locals) (hll : l ≠ it) (hiL : it ≠ env.locals) (hf : env.kindOf x = some .local)
    (hd : (x == ("__debug__" : Str)) = false) (hk : env.scope.kind = .function) (hco : env.scope.isCoroutine = false) (hi : interactive env = false)
    (hfs : splitAtGen fs = none) (hfg : fs.any Frame.guarded = false)
    (hend : ∀ cc s₀ s, Snc own s₀ s → Seg (model PG w) A (GR own) (GY xs own env.locals it l) 0 s₀ cc (.pure (.done .next)) fs s) :
    ∀ n s₀ s, n ≤ xs.length → Snc own s₀ s → GH xs env.locals it l (xs.length - n) s.heap →
    Seg (model PG w) A (GR own) (GY xs own env.locals it l) n s₀ (.forLoop (.Name x px) (.ref it) [.Expr (.Yield (some (.Name x p2)) yp) ep] [] env)
      ((model PG w).den (.forLoop (.Name x px) (.ref it) [.Expr (.Yield (some (.Name x p2)) yp) ep] [] env)) fs s := by
  intro n
  induction n with
  | zero =>
    intro s₀ s hn hs ⟨_, hit, vs, hl, e⟩
    show Seg _ A _ _ 0 s₀ _ ((forTurn _ _ _ _ env).onRaise _) fs s
    rw [Sem.onRaise_eq_wrap]
    unfold forTurn
    refine seg_bind_wrap (wpAny_standAt ?_)
    refine seg_bind_wrap (offE (wpAny_onRaise ?_))
    refine wpAny_pyNext_list_end hh hit hl ?_ fun h' hx => ?_
    · subst e; simp
    show Seg _ A _ _ 0 s₀ _ (.pure (.again (.block [] env))) fs _
    refine seg_again rfl ?_
    show Seg _ A _ _ 0 s₀ _ (.pure (.done .next)) fs _
    exact hend _ _ _ (hs.step (tk := s.toks) fun b o hb q => hx b o (fun z => hb (z ▸ hio)) q)
  | succ m ih =>
    intro s₀ s hn hs ⟨⟨mm, hns⟩, hit, vs, hl, e⟩
    show Seg _ A _ _ (m + 1) s₀ _ ((forTurn _ _ _ _ env).onRaise _) fs s
    rw [Sem.onRaise_eq_wrap]
    unfold forTurn
    refine seg_bind_wrap (wpAny_standAt ?_)
    refine seg_bind_wrap (offE (wpAny_onRaise ?_))
    obtain ⟨v, h1, h2⟩ := getItem_er e (show xs.length - (m + 1) < xs.length by exact aL 0x1101101011210f12b10f0203 hn (aS _ _))
    refine wpAny_pyNext_list_item hit hl h1 fun h' hit' hsb => ?_
    show Seg _ A _ _ (m + 1) s₀ _ (Sem.wrap _ _ _ _ (letOwnedTupleGo _ _ v >>= _)) fs _
    refine seg_bind_wrap (offE (wgo_name ?_))
    refine seg_bind_wrap (offE (wpAny_assign_Name (wpAny_storeName_local hf (hns.sameBut hsb (Ne.symm hiL)) (fun h'' hns' hsb' => ?_) (by rw [hk]; rfl))))
    rw [Sem.bind_eq_wrap', Sem.wrap_wrap]
    refine seg_execs_cons (seg_Expr_Yield hfs rfl hfg (offE (wpAny_Name (wpAny_loadName_local hk hf hns' (if_pos rfl) ?_) hd)) hco hi)
    intro kap hkap
    have e1 : xs.length - (m + 1) + 1 = xs.length - m := by exact aL 0x10110101010100100010010100010101100000011000011011103f2210b2f13b12f0210c404 (aS _ _) hn (aS _ _) (aS _ _)
    rw [e1] at hit'
    have hl' : h''.IsList l vs := ((hl.at fun o q => (hsb.2 _ hll).trans q).at fun o q => (hsb'.2 _ hlL).trans q)
    have hit'' : h''.IsListIter it l (xs.length - m) := hit'.at fun o q => (hsb'.2 _ hiL).trans q
    refine ⟨by rw [h2]; congr 1, hs.step fun b o hb q => ?_, ⟨⟨_, hns'⟩, hit'', vs, hl', e⟩, fun s'' G => hkap .none s'' ?_⟩
    · show h''.get? b = some o
      rw [hsb'.2 b (fun z => hb (z ▸ hlo)), hsb.2 b (fun z => hb (z ▸ hio))]; exact q
    · show Seg _ A _ _ m s'' _ _ fs s''
      refine seg_again rfl (ih s'' s'' (by exact aL 0x1110010f0102 hn) (Snc.refl _ _) G)
end

section
variable {prog : Program} {w : World} {A : Around} {E : Value → Shared → Prop} {s : Shared}
/-- the next of a generator function, with what its state is behind a yield -/
theorem next_gen {a : Addr} {g n : Nat} {gs : GenState} {P : Nat → Shared → Shared → Prop} {Y : Protocol} {Q : Option Value → Shared → Prop} (hh : A.handled = none)
    (hl : s.heap.NoLimit) (hroom : A.depth < recursionLimit) (hg : s.heap.IsGen a g) (hgs : s.gens[g]? = some gs)
    (hgo : gs.Goes (model prog w) A.in1 (fun n s₀ r s₁ => r = .ok (.ret .none) ∧ P n s₀ s₁) Y n (.send .none) (s.setGen g .running))
    (hY : ∀ v s₁ gs', gs'.bare = true → Y (n - 1) (s.setGen g .running) v s₁ (fun r' s'' => match n with
        | 0 => False
        | m + 1 => gs'.Goes (model prog w) A.in1 (fun n s₀ r s₁ => r = .ok (.ret .none) ∧ P n s₀ s₁) Y m r' s'') → Q (some v) (s₁.setGen g gs'))
    (hP : ∀ s₁, P n (s.setGen g .running) s₁ → ∀ h', (∀ b o, s₁.heap.get? b = some o → h'.get? b = some o) → Q none { s₁.setGen g .finished with heap := h' }) :
    wpAny (model prog w) A (pyNext (.ref a)) Q E s := by
  have stop : ∀ (s₁ : Shared) (R : Value → Shared → Prop), (∀ e h', (∀ b o, s₁.heap.get? b = some o → h'.get? b = some o) → (∃ o, h'.get? e = some o ∧ o.cls = .type "StopIteration") → R (.ref e) { s₁ with heap := h' }) →
      wpAny (model prog w) A.in1 (do raiseNew (← newExc (.type "StopIteration") [])) (fun (_ : Unit) _ => False) R s₁ := by
    intro s₁ R h
    refine wpAny_bind ?_
    simp only [newExc, newTuple]
    refine wpAny_bind (wpAny_newObj_type ?_ (by size_fits))
    refine wpAny_bind (m := firstArgMember _ _) (wpAny_of_eq (a := Value.none) (by first | rfl | (simp only [firstArgMember]; rfl)) ?_)
    refine wpAny_newObj_type ?_ (by size_fits)
    dsimp only [raiseNew]
    refine wpAny_bind (wpAny_bind (wpAny_handled ?_))
    rw [show A.in1.handled = none from hh]
    refine wpAny_pure (wpAny_throw (h _ _ ?_ ?_))
    · exact fun b o hb => Heap.get?_push_of_some _ (Heap.get?_push_of_some _ hb)
    · exact ⟨_, Heap.get?_push_size _ rfl, rfl⟩
  unfold pyNext
  refine wpAny_bind (wpAny_attempt (wpAny_callSpecial?_slot (name := Str.ofString "__next__") hg.typeIs slot_gen_next
    (wpAny_call_entry slot_gen_next hg.typeIs entry_gen_next ?_ (args_gen_next _))))
  show wpAny _ A.in1 (Builtin.Generator.genWake (.ref a) (.send .none)) _ _ s
  unfold Builtin.Generator.genWake
  refine wpAny_bind (wpAny_holding (wpAny_genNumber hg (wpAny_bind (wpAny_genState hgs ?_))))
  cases gs with
  | running => exact hgo.elim
  | finished => exact hgo.elim
  | _ =>
    refine wpAny_bind (wpAny_roomToWake hl hroom ?_)
    show wpAny _ A.in1 (.resume g (.send .none) [] _) _ _ s
    refine wpAny_resumeQ hgs hgo (fun x s₁ ⟨hx, hp⟩ => ?_) (fun v s₁ gs' hb hv => wpAny_pure ⟨v, rfl, wpAny_pure (hY v s₁ gs' hb hv)⟩)
    subst hx
    show wpAny _ A.in1 ((do raiseNew (← newExc (.type "StopIteration") [])) >>= fun _ => _) _ _ _
    refine wpAny_bind (wpAny_mono (stop (s₁.setGen g .finished) (fun e s' => ∃ a h', e = .ref a ∧ s' = { s₁.setGen g .finished with heap := h' } ∧ (∀ b o, s₁.heap.get? b = some o → h'.get? b = some o) ∧ ∃ o, h'.get? a = some o ∧ o.cls = .type "StopIteration") fun e h' hk ht => ⟨e, h', rfl, rfl, hk, ht⟩) (fun _ _ z => False.elim z) ?_)
    intro e s' H0
    obtain ⟨a', h', rfl, rfl, hk, o, ho, hc⟩ := H0
    refine wpAny_bind (wpAny_isInstance (T := "StopIteration") (b := true) ⟨o, ho, hc⟩ isSubtype_stop ?_)
    exact wpAny_pure (hP s₁ hp _ hk)
end

section
variable {c : Cx} {S : St} {s : Shared}
theorem IsGen_keepN {h h' : Heap} {a g} (x : h.IsGen a g) (hk : ∀ o, h.get? a = some o → h'.get? a = some o) : h'.IsGen a g := let ⟨o, nm, qn, ho, r⟩ := x; ⟨o, nm, qn, hk _ ho, r⟩
noncomputable abbrev gloopBody (y sf attr : Str) (py p1 ap p2 yp ep fp : Pos) : List Stmt := [.For (.Name y py) (.Attribute (.Name sf p1) attr ap) [.Expr (.Yield (some (.Name y p2)) yp) ep] [] fp]

inductive GI (c : Cx) (xs : List TV) (l rs : Addr) (sf : Str) (body : List Stmt) (qual : Str) (scope : Scope) (f : Addr) (cdv : Value) (itv : Addr) (h : Heap) (g : Array GenState) : List Addr → Nat → Prop where
  | a {gi Lg : Addr} {m : Str → Option Value} : h.IsGen itv gi → c.base.gb[gi]? = none → itv ≠ Lg → h.Ns Lg m → m sf = some (.ref rs) → g[gi]? = some (.fresh (.func body (envOf qual scope Lg f cdv))) → GI c xs l rs sf body qual scope f cdv itv h g [itv, Lg] 0
  | b {gi Lg it : Addr} {m : Str → Option Value} {k : Nat} {gs : GenState} : h.IsGen itv gi → c.base.gb[gi]? = none → itv ≠ Lg → h.Ns Lg m → h.IsListIter it l k → itv ≠ it → g[gi]? = some gs →
      (∀ s'', GH xs Lg it l k s''.heap → gs.Goes (model PG c.w) c.A.in1 (GR [Lg, it]) (GY xs [Lg, it] Lg it l) (xs.length - k) (.send .none) s'') → GI c xs l rs sf body qual scope f cdv itv h g [itv, Lg, it] k
noncomputable def GIS (c : Cx) (xs : List TV) (l rs : Addr) (sf : Str) (body : List Stmt) (qual : Str) (scope : Scope) (f : Addr) (cdv : Value) (own : List Addr) (itv : Addr) (k : Nat) (h : Heap) (g : Array GenState) : Prop := GI c xs l rs sf body qual scope f cdv itv h g own k

theorem steps_gen {x : Str} {px : Pos} {f rs C d l : Addr} {dl : List (Str × TV)} {xs : List TV} {J : Nat → St → Prop} {name qual : Str} {params : Arguments} {scope : Scope} {dV kV doc pm cdv ct oc : Value} {an od : Option Addr} {osl : Array (Option Value)}
    {y sf attr : Str} {py p1 ap p2 yp ep fp : Pos} (hw : Well c) (hr : Room c.A 1)
    (ho : (KK c.w).lookup f = some ⟨oc, od, .func (fnOf name qual params (gloopBody y sf attr py p1 ap p2 yp ep fp) scope dV kV doc pm an cdv ct), osl⟩) (hcd : codeIn (KK c.w) cdv qual = true)
    (hbind : ∀ v, bindArgs (fnOf name qual params (gloopBody y sf attr py p1 ap p2 yp ep fp) scope dV kV doc pm an cdv ct) ⟨[v], []⟩ = pure [(sf, v)])
    (hloc : scope.names.lookup sf = some .local) (hlocy : scope.names.lookup y = some .local) (hk : scope.kind = .function) (hco : scope.isCoroutine = false) (hgen : scope.isGenerator = true) (hcell : ∀ x ∈ scope.names, x.2 ≠ .cell)
    (hkf : ∀ L, (envOf qual scope L f cdv).kindOf y = some .local) (hks : ∀ L, (envOf qual scope L f cdv).kindOf sf = some .local) (hd1 : (y == ("__debug__" : Str)) = false) (hd2 : (sf == ("__debug__" : Str)) = false)
    (hint : ∀ L, interactive (envOf qual scope L f cdv) = false)
    (hx : S.H rs = some (.inst C d)) (hs : findIn (KK c.w) (.ref C) "__iter__" = some (some (.ref f))) (hfn : isFn (KK c.w) (.ref f) = true) (hB : attrB (KK c.w) C attr = true)
    (hd : S.H d = some (.dict dl)) (hv : dl.lookup attr = some (.ref l))
    (hJ : ∀ k S, J k S → S.H rs = some (.inst C d) ∧ S.H d = some (.dict dl) ∧ S.H l = some (.list xs)) :
    StepsC c (.Name x px) (.ref rs) xs.length (fun k => .one (xs.getD k .none)) J S S := by
  have hA := hr.handled
  have goes : ∀ (e₀ : Env) (hb₀ : Heap) k S s own it, k ≤ xs.length → Sat (c.alt e₀ hb₀) S s → J k S → (∀ b ∈ own, Free (c.alt e₀ hb₀) S b) → GIS c xs l rs sf (gloopBody y sf attr py p1 ap p2 yp ep fp) qual scope f cdv own it k s.heap s.gens →
      ∃ gi Lg it2 gs, s.heap.IsGen it gi ∧ c.base.gb[gi]? = none ∧ s.gens[gi]? = some gs ∧ gs.Goes (model PG c.w) c.A.in1 (GR [Lg, it2]) (GY xs [Lg, it2] Lg it2 l) (xs.length - k) (.send .none) (s.setGen gi .running) ∧
        (∀ b ∈ [it, Lg, it2], Free (c.alt e₀ hb₀) S b) ∧ it ≠ Lg ∧ it ≠ it2 := by
    intro e₀ hb₀ k S s own it hkN hs' hj fr hG
    rcases hG with @⟨gi, Lg, m, g1, g2, g3, hL, hm, hgs⟩ | @⟨gi, Lg, it2, m, _, gs, g1, g2, g3, hL, hi, hne, hgs, hgo⟩
    · have lta : it < s.heap.objs.size := by obtain ⟨_, _, _, z, _⟩ := g1; exact Heap.lt_size z
      have ltL : Lg < s.heap.objs.size := hL.lt
      refine ⟨gi, Lg, s.heap.objs.size, _, g1, g2, hgs, ⟨rfl, ?_⟩, ?_, g3, Nat.ne_of_lt lta⟩
      · obtain ⟨hrs, hdd, hll⟩ := hJ _ _ hj
        obtain ⟨es, n, I, _, E⟩ := hs'.inst hrs hdd
        obtain ⟨mm, F, _⟩ := hs'.fr
        obtain ⟨lv, gl, el⟩ := esAre_getL E hv
        cases er_ref el
        obtain ⟨vs, hl, e⟩ := hs'.isList hll
        have hB' := hB
        simp only [attrB, Bool.and_eq_true] at hB'
        obtain ⟨⟨b1, b2⟩, b3⟩ := hB'
        refine seg_func (seg_execs_cons ?_)
        rw [exec_For]
        refine seg_bind_wrap (wpAny_standAt ?_)
        refine seg_bind_wrap (offE (Attribute_any_ (wpAny_Name (wpAny_loadName_local hk (hks _) hL hm ?_) hd2) (by rfl)))
        cases q : findIn (KK c.w) (.ref C) attr with
        | none => rw [q] at b3; cases b3
        | some at' =>
          rw [q] at b3
          refine get_own F hw.K I b1 b2 q b3 gl rfl ?_
          refine seg_bind_wrap (wpAny_of_eq (by rfl) ?_)
          refine seg_bind_wrap (wpAny_standAt ?_)
          refine seg_bind_wrap (offE (wpAny_holding (wpAny_pyIter_list hl ?_)))
          refine seg_call fun p => ?_
          have e0 : xs.length - 0 = xs.length := rfl
          have e1 : xs.length - xs.length = 0 := by exact aL 0x10111011010b02110b102 (aS _ _)
          refine seg_gloop (xs := xs) (own := [Lg, s.heap.objs.size]) (env := envOf qual scope Lg f cdv) ?hh ?hlo ?hio ?hlL ?hll ?hiL (hkf _) hd1 hk hco (hint _) ?hfs ?hfg ?hend _ _ _ (Nat.le_refl _) ?snc ?gh
          case hh => exact hA
          case hlo => exact .head _
          case hio => exact .tail _ (.head _)
          case hlL => intro (z : l = Lg); have := (fr Lg (by simp)).H; rw [← z, hll] at this; cases this
          case hll => exact Nat.ne_of_lt (hs'.lt hll)
          case hiL => exact Nat.ne_of_gt ltL
          case hfs => rfl
          case hfg => rfl
          case snc => exact ⟨_, _, rfl, fun b o _ z => Heap.get?_push_of_some _ z⟩
          case gh => rw [e0, e1]; exact ⟨⟨m, hL.push _⟩, ⟨_, Heap.get?_push_size _ rfl, rfl, rfl⟩, vs, hl.push _, e⟩
          case hend =>
            intro cc s₀ s₁ hsn
            refine seg_leaf (.ok .next) ?_
            exact seg_end (.ok (.ret .none)) ⟨rfl, rfl, hsn⟩
      · intro b hb
        simp only [List.mem_cons, List.not_mem_nil, or_false] at hb
        rcases hb with rfl | rfl | rfl
        · exact fr _ (by simp)
        · exact fr _ (by simp)
        · exact hs'.free (Nat.le_refl _)
    · obtain ⟨vs, hl, e⟩ := hs'.isList (hJ k S hj).2.2
      exact ⟨gi, Lg, it2, gs, g1, g2, hgs, hgo (s.setGen gi .running) ⟨⟨m, hL⟩, hi, vs, hl, e⟩, fr, g3, hne⟩
  refine ⟨GIS c xs l rs sf (gloopBody y sf attr py p1 ap p2 yp ep fp) qual scope f cdv, ⟨?_, ?_, fun vv s Q' hv' hs' q => ?_, fun e₀ hb₀ k S s own it Q' hk' hs' hj fr hi q => ?_, fun e₀ hb₀ S s own it Q' hs' hj fr hi q => ?_⟩, fun s own it k Q' hG q => by rcases hG with ⟨hg, _, _, _, _, _⟩ | ⟨hg, _, _, _, _, _, _, _⟩ <;> exact wpAny_pyIter_gen hg q⟩
  · intro own it k h g hG b hb
    rcases hG with @⟨gi, Lg, m, ⟨og, _, _, hg, _⟩, _, _, ⟨o, _, _, hL, _⟩, _, _⟩ | @⟨gi, Lg, it', m, _, _, ⟨og, _, _, hg, _⟩, _, _, ⟨o, _, _, hL, _⟩, ⟨oi, hi, _⟩, _, _, _⟩
    · simp only [List.mem_cons, List.not_mem_nil, or_false] at hb
      rcases hb with rfl | rfl
      · exact ⟨_, hg⟩
      · exact ⟨_, hL⟩
    · simp only [List.mem_cons, List.not_mem_nil, or_false] at hb
      rcases hb with rfl | rfl | rfl
      · exact ⟨_, hg⟩
      · exact ⟨_, hL⟩
      · exact ⟨_, hi⟩
  · intro own it k h g h' g' hG kp kg
    rcases hG with ⟨g1, h2, h3, hL, hm, hgs⟩ | ⟨g1, h2, h3, hL, hi, hne, hgs, hgo⟩
    · exact .a (IsGen_keepN g1 fun o z => kp _ (by simp) _ z) h2 h3 (hL.at (fun o q => kp _ (by simp) _ q)) hm (kg _ _ hgs)
    · exact .b (IsGen_keepN g1 fun o z => kp _ (by simp) _ z) h2 h3 (hL.at (fun o q => kp _ (by simp) _ q)) (hi.at (fun o q => kp _ (by simp) _ q)) hne (kg _ _ hgs) hgo
  · cases er_ref hv'
    obtain ⟨mm, F, e⟩ := hs'.fr
    obtain ⟨es, n, I, _, E⟩ := hs'.inst hx hd
    obtain ⟨_, _, mg, mb, T⟩ := hw.T
    have X := hw.Kin hs'
    refine owit_iter F hw.K I hs hfn (wpAny_call (codeAny_call_generator (fd := fnOf name qual params (gloopBody y sf attr py p1 ap p2 yp ep fp) scope dV kV doc pm an cdv ct) (body := gloopBody y sf attr py p1 ap p2 yp ep fp) (by have := hr.depth; exact aL 0x1110111b3d0c1102 this) (X _ _ ho) rfl hco hgen rfl (codeRec_of X hcd) ?_))
    refine wpAny_of_eq (hbind _) ?_
    refine wpAny_newFunctionEnv hcell (by rintro b hb; rw [List.mem_singleton.mp hb]; exact hloc) (fun h₁ hns hsb => ⟨?_, ?_⟩) hk
    · exact (T.nolimit.keeps F.keep).fresh _ hsb
    · have kp : ∀ b o, s.heap.get? b = some o → h₁.get? b = some o := fun b o g => hsb.extBut b o (Nat.ne_of_lt (Heap.lt_size g)) (Heap.get?_push_of_some _ g)
      have hsz : h₁.objs.size = s.heap.objs.size + 1 := by rw [hsb.1]; simp [Heap.push]
      have fr : ∀ b ∈ [h₁.objs.size, s.heap.objs.size], Free c S b := by
        intro b hb
        simp only [List.mem_cons, List.not_mem_nil, or_false] at hb
        rcases hb with rfl | rfl
        · exact hs'.free (by exact aL 0x1100101f02102 hsz)
        · exact hs'.free (Nat.le_refl _)
      have gsz : c.base.gb[s.gens.size]? = none := by
        cases z : c.base.gb[s.gens.size]? with
        | none => rfl
        | some x => have := hs'.g.1 _ _ z; simp at this
      have key := q [h₁.objs.size, s.heap.objs.size] h₁.objs.size
        { s with gens := s.gens.push (.fresh (.func (gloopBody y sf attr py p1 ap p2 yp ep fp) (envOf qual scope s.heap.objs.size f cdv))), toks := s.toks + 1 + 1 + 1,
                 heap := h₁.push { cls := .type "generator", data := .fields #[.int s.gens.size 0, .str name (s.toks + 1), .str qual (s.toks + 1 + 1)] } }
        (hs'.but (own := []) (by simp) (fun b o _ g => Heap.get?_push_of_some _ (kp b o g)) ⟨fun i x g => by
            have := hs'.g.1 i x g
            rw [Array.getElem?_push, if_neg (Nat.ne_of_lt (Array.getElem?_eq_some_iff.mp this).1)]; exact this, hs'.g.2.push rfl⟩ rfl) fr
        (.a (gi := s.gens.size) (Lg := s.heap.objs.size) ⟨_, _, _, Heap.get?_push_size _ rfl, rfl, rfl, rfl⟩ gsz (by show h₁.objs.size ≠ _; rw [hsz]; exact Nat.succ_ne_self _) (hns.push _) ?_ (by simp))
      · exact wpAny_specialOf (T := "generator") ⟨_, Heap.get?_push_size _ rfl, rfl⟩ slot_gen_next.lookup key
      · simp
  · obtain ⟨gi, Lg, it2, gs, g1, g2, g3, g4, g5, g6⟩ := goes e₀ hb₀ k S s own it (Nat.le_of_lt hk') hs' hj fr hi
    obtain ⟨mm, F, e⟩ := hs'.fr
    obtain ⟨_, _, mg, mb, T⟩ := hw.T
    refine next_gen (P := fun n s₀ s₁ => n = 0 ∧ Snc [Lg, it2] s₀ s₁) hA (T.nolimit.keeps F.keep) (by have := hr.depth; exact aL 0x1110111b3d0c1102 this) g1 g3 g4 (fun v s₁ gs' hb ⟨y1, y2, y3, y4⟩ => ?_) (fun s₁ hP h' hk => ?_)
    · obtain ⟨h₁, tk, rfl, hkeep⟩ := y2
      have e1 : xs.length - (xs.length - k - 1) = k + 1 := by exact aL 0x11001100011001000000001100001011011100011001011000101010101001113f02210b1b42b314b131210c505 (aS _ _) hk' (aS _ _) (aS _ _) (aS _ _)
      have e2 : xs.length - (xs.length - k - 1) - 1 = k := by exact aL 0x100011011011101011001111221b02b1f02203 e1 (aS _ _)
      have e3 : xs.length - k = (xs.length - (k + 1)) + 1 := by exact aL 0x100101000101101001000000010010101000010100110100000000101114f022f14b315b2f522f14c1b03c210c606 (aS _ _) (aS _ _) (aS _ _) e1 (aS _ _) (aS _ _)
      rw [e1] at y3 y4
      rw [e2] at y1
      have glt : gi < s.gens.size := (Array.getElem?_eq_some_iff.mp g3).1
      have set2 : (Shared.setGen { s.setGen gi .running with heap := h₁, toks := tk } gi gs').gens = s.gens.setIfInBounds gi gs' := by simp [Shared.setGen]
      obtain ⟨_, hns2⟩ := y3.ns
      refine q v _ (wgo_name ⟨hs'.but (own := [Lg, it2]) (fun b hb' => g5 b (.tail _ hb')) hkeep ⟨fun i x z => ?_, fun y hy => ?_⟩ rfl, ⟨[it, Lg, it2], g5, .b (gs := gs') (IsGen_keepN g1 (fun o z => hkeep _ _ (by simp [g6.1, g6.2]) z)) g2 g6.1 hns2 y3.it g6.2 ?_ fun s'' G => ?_⟩, y1⟩)
      · rw [set2, Array.getElem?_setIfInBounds_ne (by rintro rfl; rw [g2] at z; cases z)]; exact hs'.g.1 i x z
      · rw [set2] at hy
        obtain ⟨i, hlt, hy'⟩ := Array.mem_iff_getElem.mp hy
        rw [Array.getElem_setIfInBounds] at hy'
        split at hy'
        · rw [← hy']; exact hb
        · rw [← hy']; exact hs'.g.2 _ (Array.getElem_mem _)
        · simpa using hlt
      · rw [set2]; simp [glt]
      · have := y4 s'' G
        rw [e3] at this
        exact this
    · exact absurd hP.1 (by exact aL 0x10110b029121210c203 (aS _ _) hk')
  · obtain ⟨gi, Lg, it2, gs, g1, g2, g3, g4, g5, g6⟩ := goes e₀ hb₀ _ S s own it (Nat.le_refl _) hs' hj fr hi
    obtain ⟨mm, F, e⟩ := hs'.fr
    obtain ⟨_, _, mg, mb, T⟩ := hw.T
    have e0 : xs.length - xs.length = 0 := by exact aL 0x10111011010b02110b102 (aS _ _)
    rw [e0] at g4
    refine next_gen (P := fun n s₀ s₁ => n = 0 ∧ Snc [Lg, it2] s₀ s₁) hA (T.nolimit.keeps F.keep) (by have := hr.depth; exact aL 0x1110111b3d0c1102 this) g1 g3 g4 (fun v s₁ gs' hb ⟨y1, y2, y3, y4⟩ => ?_) (fun s₁ ⟨_, hP⟩ h' hk => ?_)
    · exact (y4 _ y3).elim
    · obtain ⟨h₁, tk, rfl, hkeep⟩ := hP
      have set2 : (Shared.setGen { s.setGen gi .running with heap := h₁, toks := tk } gi .finished).gens = s.gens.setIfInBounds gi .finished := by simp [Shared.setGen]
      refine q _ (hs'.but (own := [Lg, it2]) (fun b hb' => g5 b (.tail _ hb')) (fun b o n z => hk b o (hkeep b o n z)) ⟨fun i x z => ?_, fun y hy => ?_⟩ rfl)
      · show (Shared.setGen { s.setGen gi .running with heap := h₁, toks := tk } gi .finished).gens[i]? = _
        rw [set2, Array.getElem?_setIfInBounds_ne (by rintro rfl; rw [g2] at z; cases z)]; exact hs'.g.1 i x z
      · replace hy : y ∈ (Shared.setGen { s.setGen gi .running with heap := h₁, toks := tk } gi .finished).gens := hy
        rw [set2] at hy
        obtain ⟨i, hlt, hy'⟩ := Array.mem_iff_getElem.mp hy
        rw [Array.getElem_setIfInBounds] at hy'
        split at hy'
        · rw [← hy']; rfl
        · rw [← hy']; exact hs'.g.2 _ (Array.getElem_mem _)
        · simpa using hlt
end
end
end Mine
end
section
open PySem PySem.W PyProof.Rows PySem.Calls
set_option maxRecDepth 100000
set_option maxHeartbeats 4000000
namespace Mine
noncomputable section
section
variable {c : Cx} {S : St} {s : Shared}

theorem px_expr {e : Expr} {pos : Pos} {Q : TF → St → Prop} (h : PV c (eval e c.env) (fun _ S' => Q .next S') S)
    (hi : interactive c.env = false := by rfl) (hs : swapsWith e none pos.line c.env = pure false := by rfl) : PX c (exec (.Expr e pos) c.env) Q S :=
  fun _ hs' => wpAny_Expr_any (k1 h hs' fun _ S' _ hs'' q => ⟨S', hs'', q⟩) hi hs
theorem px_assert {test : Expr} {msg : Option Expr} {pos : Pos} {Q : TF → St → Prop} (h : PW c (isTrue test c.env (eval test c.env)) (fun b S' => b = true ∧ Q .next S') S) : PX c (exec (.Assert test msg pos) c.env) Q S :=
  fun _ hs => wpAny_Assert_holds (k1 h hs fun _ S' _ hs' ⟨e, q⟩ => ⟨e, S', hs', q⟩)

/-! what is known may be forgotten -/
noncomputable def dropH (H : HM) (l : List Addr) : HM := fun b => if b ∈ l then none else H b
theorem Sat.forget (h : Sat c S s) (l : List Addr) : Sat c { S with H := dropH S.H l } s :=
  ⟨h.fr, h.base, h.baseL, fun a o q => by
    by_cases e : a ∈ l
    · simp [dropH, e] at q
    · exact h.H a o (by simpa [dropH, e] using q), h.g, h.os⟩
theorem dropH_ne {H : HM} {l : List Addr} {b : Addr} (h : b ∉ l) : dropH H l b = H b := by simp [dropH, h]

/-! enumerate -/
noncomputable def enumObj (it : Addr) : Obj := { cls := .type "enumerate", dict := none, data := .fields #[.none, .bool false, .ref it, rawInt 0, .none, .none], slots := #[] }
theorem call_enum {l : Addr} {xs : List TV} {Q : TV → St → Prop} (hl : S.H l = some (.list xs))
    (h : ∀ e it oi, S.H e = none → S.H it = none → e ≠ it → oi.cls = .type "list_iterator" → oi.data = .fields #[.ref l, .int 0 0] → Q (.ref e) { S with H := upd (upd S.H it (.raw oi)) e (.raw (enumObj it)) }) : CALLX c (.type "enumerate") [.ref l] Q S := by
  intro vf vs s hf hvs hs
  cases er_type hf
  rcases vs with _ | ⟨x, _ | _⟩ <;> simp at hvs
  cases er_ref hvs
  obtain ⟨us, hL, e⟩ := hs.isList hl
  refine call_enumerate_list hL fun h' he hi hz hk => ?_
  obtain ⟨oi, gi, ci, di⟩ := hi
  have h1 : Sat c S { s with heap := h' } := hs.ext (s' := { s with heap := h' }) hk rfl rfl
  have f1 := hs.free (b := s.heap.objs.size) (Nat.le_refl _)
  have f2 := hs.free (b := s.heap.objs.size + 1) (Nat.le_succ _)
  have h2 := h1.know (ao := .raw oi) (s := { s with heap := h' }) gi rfl f1.h₁ f1.base f1.L
  have h3 := h2.know (ao := .raw (enumObj s.heap.objs.size)) (s := { s with heap := h' }) he rfl f2.h₁ f2.base f2.L
  exact ⟨_, h3, h _ _ oi f2.H f1.H (Nat.succ_ne_self _) ci di⟩
theorem steps_enum {elts : List Expr} {kk : Nat} {pos : Pos} {e it l : Addr} {oi : Obj} {xs : List TV} {J : Nat → St → Prop} (hA : c.A.handled = none) (hne : e ≠ it)
    (h1 : S.H e = some (.raw (enumObj it))) (h2 : S.H it = some (.raw oi)) (hc : oi.cls = .type "list_iterator") (hd : oi.data = .fields #[.ref l, .int 0 0])
    (hJ : ∀ k S, J k S → S.H l = some (.list xs)) :
    Steps c (.Tuple elts kk pos) (.ref e) xs.length (fun k => .tup [.int k, xs.getD k .none]) J S { S with H := dropH S.H [e, it] } := by
  refine ⟨fun own itv k h g => own = [e, it] ∧ itv = e ∧ (∃ old, IsEnum h e it k old) ∧ h.IsListIter it l k, ?_, ?_, fun vv s Q' hv hs q => ?_, fun e₀ hb k S s own itv Q' hk hs hj fr hi q => ?_, fun e₀ hb S s own itv Q' hs hj fr hi q => ?_⟩
  · rintro own itv k h g ⟨rfl, rfl, ⟨old, he⟩, o, g', _⟩ b hb
    simp only [List.mem_cons, List.not_mem_nil, or_false] at hb
    rcases hb with rfl | rfl
    · exact ⟨_, he⟩
    · exact ⟨_, g'⟩
  · rintro own itv k h g h' g' ⟨rfl, rfl, ⟨old, he⟩, o, g1, r⟩ kp _
    exact ⟨rfl, rfl, ⟨old, kp _ (by simp) _ he⟩, o, kp _ (by simp) o g1, r⟩
  · cases er_ref hv
    obtain ⟨⟨oe, ge, ie⟩, r1, r2, r3⟩ := hs.H e _ h1
    obtain ⟨⟨oi', gi, ii⟩, t1, t2, t3⟩ := hs.H it _ h2
    cases ie; cases ii
    refine wpAny_pyIter_enum (i := 0) (old := .none) ge (q [e, it] e s (hs.forget _) ?_ ⟨rfl, rfl, ⟨.none, ge⟩, oi, gi, hc, hd⟩)
    intro b hb
    refine ⟨by simp [dropH, hb], ?_, ?_, ?_⟩ <;>
    · simp only [List.mem_cons, List.not_mem_nil, or_false] at hb
      rcases hb with rfl | rfl <;> assumption
  · obtain ⟨rfl, rfl, ⟨old, he⟩, hi⟩ := hi
    obtain ⟨vs, hl, ev⟩ := hs.isList (hJ k S hj)
    obtain ⟨v, g1, g2⟩ := getItem_er ev hk
    have hn : xs.length = vs.size := by rw [← ev]; simp
    refine wpAny_pyNext_enum_item he hi hl g1 hne fun h' heo hit ht hz hkp => q _ _ ?_
    refine wpAny_letOwnedTupleGo_enum heo fun h'' he'' hsb => ?_
    have hlt : itv ≠ s.heap.objs.size := Nat.ne_of_lt (Heap.lt_size he)
    have h2 : h''.IsListIter it l (k + 1) := hit.at fun o z => (hsb.2 _ (Ne.symm hne)).trans z
    have ht' : h''.get? s.heap.objs.size = some { cls := .type "tuple", data := .seq #[.int k s.toks, v] } := (hsb.2 _ (Ne.symm hlt)).trans ht
    refine ⟨hs.but (own := [itv, it]) (s' := { s with heap := h'', toks := s.toks + 1 }) fr (fun b o n z => ?_) hs.g rfl, ⟨[itv, it], fr, rfl, rfl, ⟨_, he''⟩, h2⟩, ⟨_, #[.int k s.toks, v], rfl, ⟨_, ht', rfl, 0, rfl⟩, by show [er (.int k s.toks), er v] = _; rw [g2]; rfl⟩⟩
    simp only [List.mem_cons, List.not_mem_nil, or_false, not_or] at n
    show h''.get? b = some o
    rw [hsb.2 b n.1]
    exact hkp b o n.1 n.2 z
  · obtain ⟨rfl, rfl, ⟨old, he⟩, hi⟩ := hi
    obtain ⟨vs, hl, ev⟩ := hs.isList (hJ _ S hj)
    refine wpAny_pyNext_enum_end hA he hi hl (by subst ev; simp) fun h' hx => q _ (hs.but (own := [itv, it]) (s' := { s with heap := h' }) fr (fun b o n z => hx b o (fun y => n (by simp [y])) z) hs.g rfl)

/-! instances: in, len, item, property -/
noncomputable def specB (K : Frag) (C : Addr) (name : Str) (f : Addr) : Bool := findIn K (.ref C) name == some (some (.ref f)) && isFn K (.ref f)
theorem specB_of {K : Frag} {C f : Addr} {name : Str} (h : specB K C name f = true) : findIn K (.ref C) name = some (some (.ref f)) ∧ isFn K (.ref f) = true := by
  simpa [specB] using h
theorem inst_in {x C d f : Addr} {l : List (Str × TV)} {v : TV} {Q : TV → St → Prop} (hw : Well c) (hx : S.H x = some (.inst C d)) (hd : S.H d = some (.dict l)) (hB : specB (KK c.w) C "__contains__" f = true)
    (h : CALL c (.ref f) [.ref x, v] [] (fun r S' => TRUTHY c r (fun b S'' => Q (.bool b) S'') S') S) : CMP c .In v (.ref x) Q S := by
  intro va vb h1 h2 s hs
  cases er_ref h2
  obtain ⟨es, n, I, _, E⟩ := hs.inst hx hd
  obtain ⟨mm, F, _⟩ := hs.fr
  obtain ⟨b1, b2⟩ := specB_of hB
  refine in_K F hw.K I b1 b2 (k1 (code_call (h _ [.ref x, va] [] rfl (by show [TV.ref x, er va] = _; rw [h1]) rfl)) hs fun r S' s' hs' q => k1 (q r rfl) hs' fun b S'' s'' hs'' q' => ⟨S'', hs'', q'⟩)
theorem inst_len {x C d f : Addr} {l : List (Str × TV)} {Q : TV → St → Prop} (hw : Well c) (hx : S.H x = some (.inst C d)) (hd : S.H d = some (.dict l)) (hB : specB (KK c.w) C "__len__" f = true)
    (h : CALL { c with A := c.A.in1 } (.ref f) [.ref x] [] (fun r S' => ∃ n : Int, r = .int n ∧ 0 ≤ n ∧ n < 2 ^ 63 ∧ Q (.int n) S') S) : CALLX c (.bt "len") [.ref x] Q S := by
  intro vf vs s hf hvs hs
  cases er_bt hf
  rcases vs with _ | ⟨y, _ | _⟩ <;> simp at hvs
  cases er_ref hvs
  obtain ⟨es, n, I, _, E⟩ := hs.inst hx hd
  obtain ⟨mm, F, _⟩ := hs.fr
  obtain ⟨b1, b2⟩ := specB_of hB
  refine len_K F hw.K I b1 b2 (k1 (c := { c with A := c.A.in1 }) (code_call (h _ _ [] rfl rfl rfl)) ⟨hs.fr, hs.base, hs.baseL, hs.H, hs.g, hs.os⟩ fun r S' s' hs' H0 => ?_)
  obtain ⟨n, e, n0, n1, q⟩ := H0
  obtain ⟨t, rfl⟩ := er_int e
  refine ⟨⟨n0, n1⟩, S', ?_, q⟩
  have : Sat c S' s' := ⟨hs'.fr, hs'.base, hs'.baseL, hs'.H, hs'.g, hs'.os⟩
  exact this.tok _
theorem inst_sub {value slice : Expr} {x C d f : Addr} {l : List (Str × TV)} {i : TV} {Q : TV → St → Prop} (hw : Well c) (hx : S.H x = some (.inst C d)) (hd : S.H d = some (.dict l)) (hB : specB (KK c.w) C "__getitem__" f = true) (hf : fnIn (KK c.w) f = true)
    (h : CALL { c with A := c.A.in1 } (.ref f) [.ref x, i] [] Q S)
    (hsl : ∀ v, subscripted slice true (.ref x) v = runValue (.builtin "lifetime.subscript" ⟨[.ref x, v], []⟩) := by intro _; with_unfolding_all rfl) : SUBSCR c value slice (.ref x) i Q S := by
  intro va vi h2 h3 s hs
  cases er_ref h2
  obtain ⟨es, n, I, _, E⟩ := hs.inst hx hd
  obtain ⟨mm, F, _⟩ := hs.fr
  obtain ⟨b1, b2⟩ := specB_of hB
  refine sub_K F hw.K I b1 hf b2 (k1 (c := { c with A := c.A.in1 }) (code_call (h _ [.ref x, vi] [] rfl (by show [TV.ref x, er vi] = _; rw [h3]) rfl)) ⟨hs.fr, hs.base, hs.baseL, hs.H, hs.g, hs.os⟩ fun r S' s' hs' q => ⟨S', ⟨hs'.fr, hs'.base, hs'.baseL, hs'.H, hs'.g, hs'.os⟩, q⟩) (hsl _)
noncomputable def propB (K : Frag) (C : Addr) (name : Str) (p fget : Addr) : Bool :=
  plainGet K C name && hasDictIn K C && findIn K (.ref C) name == some (some (.ref p)) && specialIn K (.ref p) "__get__" == some (some (.builtin "property.__get__")) && takesIn K (.ref p) == some true &&
    (match recIn K p "property" with | some (a :: _) => a == .ref fget | _ => false)
theorem ga_prop {x C d p fget : Addr} {l : List (Str × TV)} {name : Str} {Q : TV → St → Prop} (hw : Well c) (hx : S.H x = some (.inst C d)) (hd : S.H d = some (.dict l)) (hB : propB (KK c.w) C name p fget = true)
    (h : CALL { c with A := c.A.in1 } (.ref fget) [.ref x] [] (fun r S' => (∀ i, r ≠ .bt i) ∧ Q r S') S) : GETATTR c (.ref x) name Q S := by
  intro va ha s hs
  cases er_ref ha
  obtain ⟨es, n, I, _, E⟩ := hs.inst hx hd
  obtain ⟨mm, F, _⟩ := hs.fr
  simp only [propB, Bool.and_eq_true, beq_iff_eq] at hB
  obtain ⟨⟨⟨⟨⟨b1, b2⟩, b3⟩, b4⟩, b5⟩, b6⟩ := hB
  have b7 : ∃ rest, recIn (KK c.w) p "property" = some (.ref fget :: rest) := by
    cases q : recIn (KK c.w) p "property" with
    | none => rw [q] at b6; cases b6
    | some l => cases l with
      | nil => rw [q] at b6; cases b6
      | cons a r => rw [q] at b6; exact ⟨r, by rw [beq_iff_eq.mp b6]⟩
  obtain ⟨rest, b7⟩ := b7
  refine get_prop F hw.K I b1 b2 b3 b4 b5 b7 (codeAny_mono (h _ _ [] rfl rfl rfl _ (show Sat { c with A := c.A.in1 } S _ from ⟨hs.fr, hs.base, hs.baseL, hs.H, hs.g, hs.os⟩)) fun r s' H0 => ?_)
  obtain ⟨v, e, S', hs', nb, q⟩ := H0
  subst e
  refine handed_on ?_ ⟨S', ⟨hs'.fr, hs'.base, hs'.baseL, hs'.H, hs'.g, hs'.os⟩, q⟩
  cases v <;> first | rfl | exact absurd rfl (nb _)

/-! calls with keywords -/
end
end
end Mine
end
section
open PySem PySem.W PyProof.Rows PySem.Calls
set_option maxRecDepth 100000
set_option maxHeartbeats 4000000
namespace Mine
noncomputable section
section
variable {c : Cx} {S : St} {s : Shared}
noncomputable def DPAIRS (c : Cx) (ps : List (Sem Value × Sem Value)) (Q : List (TV × TV) → St → Prop) (S : St) : Prop := PW c (evalPairs ps) (fun vs S' => Q (vs.map fun p => (er p.1, er p.2)) S') S
theorem dp_nil {Q : List (TV × TV) → St → Prop} (h : Q [] S) : DPAIRS c [] Q S := fun _ hs => evalPairs_nil ⟨S, hs, h⟩
noncomputable abbrev kDp3 (k x : TV) (Q : List (TV × TV) → St → Prop) : List (TV × TV) → St → Prop := fun l S₃ => Q ((k, x) :: l) S₃
noncomputable abbrev kDp2 (c : Cx) (rest : List (Sem Value × Sem Value)) (k : TV) (Q : List (TV × TV) → St → Prop) : TV → St → Prop := fun x S₂ => DPAIRS c rest (kDp3 k x Q) S₂
noncomputable abbrev kDp (c : Cx) (v : Expr) (rest : List (Sem Value × Sem Value)) (Q : List (TV × TV) → St → Prop) : TV → St → Prop := fun k S₁ => PV c (eval v c.env) (kDp2 c rest k Q) S₁
theorem dp_cons {e v : Expr} {pos : Pos} {rest : List (Sem Value × Sem Value)} {Q : List (TV × TV) → St → Prop}
    (h : PV c (eval e c.env) (kDp c v rest Q) S) :
    DPAIRS c ((eval e c.env, do let x ← eval v c.env; standAt pos; pure x) :: rest) Q S := fun s hs => by
  refine evalPairs_cons (k1 h hs fun kv S₁ s₁ hs₁ q => wpAny_bind (k1 q hs₁ fun vv S₂ s₂ hs₂ q₂ => ?_))
  refine wpAny_bind (wpAny_standAt (wpAny_pure ?_))
  exact k1 q₂ hs₂ fun _ S₃ _ hs₃ q₃ => ⟨S₃, hs₃, q₃⟩
noncomputable abbrev dpOf (keys : List (Option Expr)) (values : List Expr) (env : Env) (pos : Pos) : List (Sem Value × Sem Value) :=
  ((keys.filterMap id).map fun k => eval k env).zip (values.map fun v => do let x ← eval v env; standAt pos; pure x)
theorem merged_fresh : ∀ {kvs acc : List (Str × Value)}, ((acc ++ kvs).map (·.1)).Nodup → merged acc kvs = acc ++ kvs
  | [], acc, _ => by simp [merged]
  | (k, v) :: r, acc, h => by
    have hk : ∀ p ∈ acc, p.1 ≠ k := by
      intro p hp e
      rw [List.map_append, List.nodup_append] at h
      exact h.2.2 p.1 (List.mem_map_of_mem hp) k (by simp) e
    have e1 : stored acc k v = acc ++ [(k, v)] := by
      unfold stored
      rw [if_neg]
      simp only [List.any_eq_true, not_exists, not_and]
      intro p hp; simpa using hk p hp
    show merged (stored acc k v) r = _
    rw [e1, merged_fresh (by simpa using h)]
    simp
theorem carries_of {w : World} : ∀ {vs : List (Value × Value)} {l : List (Str × TV)}, vs.map (fun p => (er p.1, er p.2)) = l.map (fun p => (TV.str p.1, p.2)) → ∃ kvs, Carries (PySem.strKind PG w) vs kvs ∧ erK kvs = l
  | [], [], _ => ⟨[], trivial, rfl⟩
  | (kv, vv) :: vs, (k, v) :: l, h => by
    simp only [List.map_cons, List.cons.injEq, Prod.mk.injEq] at h
    obtain ⟨⟨h1, h2⟩, h3⟩ := h
    obtain ⟨kvs, c1, c2⟩ := carries_of h3
    obtain ⟨t, rfl⟩ := er_str h1
    exact ⟨(k, vv) :: kvs, ⟨strKind_is PG w k t, rfl, c1⟩, by show (k, er vv) :: erK kvs = _; rw [h2, c2]⟩
  | [], _ :: _, h => by simp at h
  | _ :: _, [], h => by simp at h
theorem pv_dict {keys : List (Option Expr)} {values : List Expr} {pos : Pos} {Q : TV → St → Prop} (l : St → List (Str × TV) → Prop)
    (h : ∀ d, S.H d = none → DPAIRS c (dpOf keys values c.env pos) (fun ps S₁ => S₁.H d = some (.dict []) ∧ ∃ l, ps = l.map (fun p => (TV.str p.1, p.2)) ∧ (l.map (·.1)).Nodup ∧ Q (.ref d) { S₁ with H := upd S₁.H d (.dict l) }) { S with H := upd S.H d (.dict []) })
    (hshape : (evalEachOpt keys c.env).zip ((evalEach values c.env).map fun v => do let x ← v; standAt pos; pure x) = (dpOf keys values c.env pos).map fun p => (some p.1, p.2) := by rfl)
    (h0 : dpOf keys values c.env pos ≠ [] := by nofun) (hlen : (dpOf keys values c.env pos).length ≤ 15 := by show _ ≤ _; decide) : PV c (eval (.Dict keys values pos) c.env) Q S := fun s hs => by
  refine wpAny_Dict_pairs (knd := PySem.strKind PG c.w) hshape h0 hlen ?_
  have hp : Sat c { S with H := upd S.H s.heap.objs.size (.dict []) } { s with heap := s.heap.push { cls := .type "dict", data := .dict #[] } } :=
    hs.push (ao := .dict []) rfl ⟨[], 0, rfl, trivial⟩
  refine k1 (h _ hs.freshN) hp fun vs S₁ s₁ hs₁ H0 => ?_
  obtain ⟨hd, l, e, nd, q⟩ := H0
  obtain ⟨kvs, cr, ek⟩ := carries_of (w := c.w) e
  obtain ⟨kvs0, D, e0⟩ := hs₁.dictOf hd (by simp)
  cases (List.map_eq_nil_iff.mp e0)
  refine ⟨kvs, cr, D, fun h' D' hsb => ?_⟩
  have nk : (kvs.map (·.1)).Nodup := by
    have : kvs.map (·.1) = l.map (·.1) := by rw [← ek, List.map_map]; rfl
    rw [this]; exact nd
  rw [merged_fresh (by simpa using nk)] at D'
  obtain ⟨ob, g, hi⟩ := dictAO_of (w := c.w) D'
  simp only [List.nil_append] at hi
  rw [ek] at hi
  exact ⟨_, hs₁.turn (s' := { s₁ with heap := h', toks := _ }) hd (fun b o n z => by show h'.get? b = _; rw [hsb.2 b n]; exact z) g hi rfl rfl, q⟩
end
end
end Mine
end
section
open PySem PySem.W PyProof.Rows PySem.Calls
set_option maxRecDepth 100000
set_option maxHeartbeats 4000000
namespace Mine
noncomputable section

/-! the judgements over such contexts -/
noncomputable def RW {α : Type} (c : Cx) (t : Sem α) (Q : α → St → Prop) (S : St) : Prop :=
  ∀ s, Sat c S s → wC (model PG c.w) c.A t (fun v s' => ∃ S', Sat c S' s' ∧ Q v S') s
noncomputable def RV (c : Cx) (t : Sem Value) (Q : TV → St → Prop) (S : St) : Prop := RW c t (fun v S' => Q (er v) S') S
noncomputable def RX (c : Cx) (t : Sem Flow) (Q : TF → St → Prop) (S : St) : Prop := RW c t (fun f S' => Q (ef f) S') S
section
variable {c : Cx} {S : St} {s : Shared} {α β : Type}
theorem rw_of {t : Sem α} {Q : α → St → Prop} (h : PW c t Q S) : RW c t Q S := fun s hs => wC_of (h s hs)
theorem rx_of {t : Sem Flow} {Q : TF → St → Prop} (h : PX c t Q S) : RX c t Q S := rw_of h
theorem rw_mono {t : Sem α} {Q Q' : α → St → Prop} (h : RW c t Q S) (q : ∀ v S', Q v S' → Q' v S') : RW c t Q' S := fun s hs => wC_mono (h s hs) fun _ _ ⟨S', a, b⟩ => ⟨S', a, q _ _ b⟩
theorem r1 {t : Sem α} {Q : α → St → Prop} {R : α → Shared → Prop} (h : RW c t Q S) (hs : Sat c S s) (k : ∀ v S' s', Sat c S' s' → Q v S' → R v s') : wC (model PG c.w) c.A t R s :=
  wC_mono (h s hs) fun v s' ⟨S', a, b⟩ => k v S' s' a b
noncomputable abbrev kNextR (c : Cx) (rest : List Stmt) (Q : TF → St → Prop) : TF → St → Prop := fun f S' => match f with | .next => RX c (execs rest c.env) Q S' | f => Q f S'
noncomputable abbrev kIfR (c : Cx) (body orelse : List Stmt) (Q : TF → St → Prop) : Bool → St → Prop := fun b S' => if b = true then RX c (execs body c.env) Q S' else RX c (execs orelse c.env) Q S'
theorem rx_cons {st : Stmt} {rest : List Stmt} {Q : TF → St → Prop}
    (h : RX c (exec st c.env) (kNextR c rest Q) S) : RX c (execs (st :: rest) c.env) Q S := fun s hs => by
  rw [execs_cons]
  refine wC_bind (r1 h hs fun f S' s' hs' q => ?_)
  cases f with
  | next => exact q s' hs'
  | brk => exact wC_pure ⟨S', hs', q⟩
  | cont => exact wC_pure ⟨S', hs', q⟩
  | ret v => exact wC_pure ⟨S', hs', q⟩
theorem rx_if {test : Expr} {body orelse : List Stmt} {pos : Pos} {Q : TF → St → Prop}
    (h : RW c (isTrue test c.env (eval test c.env)) (kIfR c body orelse Q) S) :
    RX c (exec (.If test body orelse pos) c.env) Q S := fun s hs => by
  rw [exec_If]
  refine wC_bind (wC_standAt (wC_bind (r1 h hs fun b S' s' hs' q => ?_)))
  cases b with
  | true => exact q s' hs'
  | false => exact q s' hs'
theorem rx_ifj {test : Expr} {body orelse : List Stmt} {pos : Pos} {Q : TF → St → Prop} (p : Bool)
    (h1 : PW c (isTrue test c.env (eval test c.env)) (fun b S' => b = p ∧ S' = S) S) (h2 : if p = true then RX c (execs body c.env) Q S else RX c (execs orelse c.env) Q S) :
    RX c (exec (.If test body orelse pos) c.env) Q S := rx_if (rw_of (pw_mono h1 fun b S' ⟨e1, e2⟩ => by subst e1 e2; exact h2))
theorem rx_return {e : Expr} {pos : Pos} {Q : TF → St → Prop} (h : RV c (eval e c.env) (kRet Q) S) : RX c (exec (.Return (some e) pos) c.env) Q S := fun s hs => by
  rw [exec_Return_some]
  exact wC_bind (wC_standAt (wC_bind (r1 h hs fun v S' s' hs' q => wC_pure ⟨S', hs', q⟩)))
theorem rx_assign_name {x : Str} {p' pos : Pos} {value : Expr} {Q : TF → St → Prop}
    (h : RV c (eval value c.env) (kAsn c x Q) S)
    (hw : swapsWith value (some (.Name x p')) pos.line c.env = pure false := by rfl) : RX c (exec (.Assign [.Name x p'] value pos) c.env) Q S := fun s hs => by
  rw [exec_Assign_Name c.env x p' value pos hw]
  refine wC_bind (wC_standAt (wC_bind (r1 h hs fun v S' s' hs' q => wC_bind (wC_standAt (wC_bind (wC_of (wpAny_bindName (k1 (q v rfl) hs' fun _ S'' s'' hs'' q' => wC_pure ⟨S'', hs'', q'⟩))))))))
theorem rt_plain {e : Expr} {whole : Sem Value} {Q : Bool → St → Prop} (h : RV c whole (fun a S₁ => TRUTHY c a Q S₁) S)
    (hp : PySem.isTrue e c.env whole = (do let v ← whole; standAt e.pos; holding [v] (truthy v)) := by rfl) : RW c (isTrue e c.env whole) Q S := fun s hs => by
  rw [hp]
  exact wC_bind (r1 h hs fun v S' s' hs' q => wC_bind (wC_standAt (wC_holding (wC_of (q v rfl s' hs')))))
theorem rt_not {x : Expr} {pos : Pos} {whole : Sem Value} {Q : Bool → St → Prop} (h : RW c (isTrue x c.env (eval x c.env)) (fun b S₁ => Q (!b) S₁) S) :
    RW c (isTrue (.UnaryOp .Not x pos) c.env whole) Q S := fun s hs => by
  show wC _ _ (do return !(← isTrue x c.env (eval x c.env))) _ s
  exact wC_bind (r1 h hs fun b S' s' hs' q => wC_pure ⟨S', hs', q⟩)
theorem rv_and {e₁ e₂ : Expr} {rest : List Expr} {pos : Pos} {Q : TV → St → Prop}
    (h : RV c (eval e₁ c.env) (fun v S₁ => TRUTHY c v (fun b S₂ => if b = true then PV c (eval (.BoolOp .And (e₂ :: rest) pos) c.env) Q S₂ else Q v S₂) S₁) S) :
    RV c (eval (.BoolOp .And (e₁ :: e₂ :: rest) pos) c.env) Q S := fun s hs => by
  show wC _ _ (do
    let v ← eval e₁ c.env
    standAt pos
    let t ← holding [v] (truthy v)
    match BoolOp.And, t with
    | .And, false | .Or, true => pure v
    | _, _ => boolOp pos .And (eval e₂ c.env :: evalEach rest c.env)) _ s
  refine wC_bind (r1 h hs fun v S' s' hs' q => wC_bind (wC_standAt (wC_bind (wC_holding (wC_of (k1 (q v rfl) hs' fun b S'' s'' hs'' q' => ?_))))))
  cases b with
  | true => exact wC_of (q' s'' hs'')
  | false => exact wC_pure ⟨S'', hs'', q'⟩
end
end
end Mine
end
section
open PySem PySem.W PyProof.Rows PySem.Calls
set_option maxRecDepth 100000
set_option maxHeartbeats 4000000
namespace Mine
noncomputable section
section
variable {M : Model} {A : Around} {s : Shared} {env : Env}
theorem wC_callWith {P : Heap → Prop} {pos : Pos} {f : Value} {first : List Value} {args : List (Bool × Sem Value)} {keywords : List (Option Str × Sem Value)} {Q : Value → Shared → Prop} (hplain : (args.any (·.1) || keywords.any (·.1.isNone)) = false)
    (hk : ∀ h, P h → ∃ k, (k = Keeper.frame ∨ k = Keeper.machine ∨ k = Keeper.boundFrame) ∧ Looks M h (keeperOf f) k)
    (h : wC M A (evalArgs f true args keywords) (fun a s₁ => P s₁.heap ∧ wC M A (call f (first ++ a.pos) a.kw) Q s₁) s) : wC M A (callWith pos f first args keywords) Q s := by
  unfold callWith
  refine wC_bind (wC_holding (wC_mono h fun a s₁ h₁ => wC_bind (wC_standAt ?_)))
  obtain ⟨k, hk', L⟩ := hk _ h₁.1
  rw [hplain]
  refine wC_bind (wC_looks L ?_)
  have tail : ∀ {t : Sem Value}, wC M A t Q s₁ → wC M A (t >>= fun r => holding [r] point >>= fun _ => pure r) Q s₁ :=
    fun ht => wC_bind (wC_mono ht fun r s₂ hr => wC_of (wpAny_bind (wpAny_holding (wpAny_point (wpAny_pure hr)))))
  have marked (mk : Value) : wC M A (callMarked mk f (first ++ a.pos) a.kw) Q s₁ := by unfold callMarked; exact wC_keep h₁.2
  rcases hk' with rfl | rfl | rfl <;> dsimp only <;> first | exact tail h₁.2 | (split <;> first | exact tail h₁.2 | exact tail (marked _))
theorem wC_args1 {f : Value} {x : Sem Value} {Q : Args → Shared → Prop} (h : wC M A x (fun v s' => Q ⟨[v], []⟩ s') s) : wC M A (evalArgs f true [(false, x)] []) Q s := by
  unfold evalArgs
  show wC M A (spliced [(false, x)] >>= _) Q s
  refine wC_bind ?_
  rw [spliced]
  refine wC_bind (wC_mono h fun v s₁ h₁ => ?_)
  rw [if_neg (by decide)]
  refine wC_bind (wC_pure (wC_bind (wC_holding ?_)))
  rw [spliced]
  refine wC_pure (wC_pure (wC_bind (wC_pure (wC_holding ?_))))
  exact wC_bind (wC_pure (wC_bind (wC_pure (wC_pure h₁))))
end
section
variable {c : Cx} {S : St} {s : Shared} {α β : Type} {k : Nat}
theorem rx_assign_attr {o : Expr} {attr : Str} {p' pos : Pos} {value : Expr} {Q : TF → St → Prop}
    (h : RV c (eval value c.env) (kAa c o attr Q) S)
    (hw : swapsWith value (some (.Attribute o attr p')) pos.line c.env = pure false := by rfl) : RX c (exec (.Assign [.Attribute o attr p'] value pos) c.env) Q S := fun s hs => by
  rw [plainObj_exec_Assign_Attribute o attr p' value pos hw]
  refine wC_bind (wC_standAt (wC_bind (r1 h hs fun v S₁ s₁ hs₁ q => wC_bind (wC_of ?_))))
  rw [assign_Attribute]
  refine wpAny_bind (wpAny_holding (k1 q hs₁ fun ov S₂ s₂ hs₂ q₂ => ?_))
  refine wpAny_bind (wpAny_standAt (wpAny_bind (wpAny_holding (k1 (q₂ ov v rfl rfl) hs₂ fun _ S₃ s₃ hs₃ q₃ => ?_))))
  intro Γ p hΓ
  rw [Sem.wp_release]
  exact wC_pure ⟨S₃, hs₃, q₃⟩
theorem rx_assign_tup {elts : List Expr} {k : Nat} {tpos : Pos} {value : Expr} {pos : Pos} {Q : TF → St → Prop} (hA : c.A.handled = none)
    (h : RV c (eval value c.env) (fun v S' => ∃ a xs, v = .ref a ∧ S'.H a = some (.tup xs) ∧ xs.length = elts.length ∧ ORDER c elts xs (Q .next) S') S)
    (hn : ∀ t ∈ elts, ∀ r, assignEach (t :: r) c.env = (false, assign t c.env) :: assignEach r c.env)
    (hw : swapsWithSole [Expr.Tuple elts k tpos] value pos.line c.env = pure false := by rfl) (hx : swappedStores [Expr.Tuple elts k tpos] value c.env = pure none := by rfl) :
    RX c (exec (.Assign [.Tuple elts k tpos] value pos) c.env) Q S := fun s hs => by
  rw [exec_Assign]
  refine wC_bind (wC_standAt ?_)
  rw [hw]
  refine wC_bind (wC_pure ?_)
  rw [if_neg (by decide)]
  refine wC_bind (r1 h hs fun v S₁ s₁ hs₁ H0 => ?_)
  obtain ⟨a, xs, e, hH, hl, q⟩ := H0
  rw [hx]
  refine wC_bind (wC_pure (wC_of ?_))
  show wpAny _ _ (do assignAll v [assign (.Tuple elts k tpos) c.env]; pure Flow.next) _ _ s₁
  cases er_ref e
  obtain ⟨⟨ob, g, vs, rfl, ev⟩, _⟩ := hs₁.H a _ hH
  refine wpAny_bind ?_
  exact wpAny_mono (asgi_ok (target := .Tuple elts k tpos) (i := .tup xs) hA ⟨hl, hn, q⟩ ⟨a, vs.toArray, rfl, ⟨_, g, rfl, 0, rfl⟩, by simpa using ev⟩ hs₁) (fun _ s₂ ⟨S₂, hs₂, q₂⟩ => wpAny_pure ⟨S₂, hs₂, q₂⟩) fun _ _ x => x

/-! calls -/
noncomputable def RCODE (c : Cx) (code : Code) (Q : TV → St → Prop) (S : St) : Prop :=
  ∀ s, Sat c S s → kC (model PG c.w) c.A code (fun r s' => ∃ v, r = .ok (.ret v) ∧ ∃ S', Sat c S' s' ∧ Q (er v) S') s
noncomputable def RCALL (c : Cx) (f : TV) (args : List TV) (kws : List (Str × TV)) (Q : TV → St → Prop) (S : St) : Prop :=
  ∀ vf vs ks, er vf = f → vs.map er = args → ks.map (fun x => (x.1, er x.2)) = kws → RCODE c (.call vf ⟨vs, ks⟩) Q S
theorem rcall_of {f : TV} {args : List TV} {kws : List (Str × TV)} {Q : TV → St → Prop} (h : CALL c f args kws Q S) : RCALL c f args kws Q S := fun _ _ _ a b d s hs => kC_of (h _ _ _ a b d s hs)
theorem rcode_call {f : Value} {vs : List Value} {ks : List (Str × Value)} {Q : TV → St → Prop} (h : RCODE c (.call f ⟨vs, ks⟩) Q S) : RV c (call f vs ks) Q S :=
  fun s hs => wC_call (kC_mono (h s hs) fun _ _ ⟨v, e, S', a, b⟩ => ⟨v, e, S', a, b⟩)
noncomputable def RCALLW (c : Cx) (f : TV) (first : List TV) (args : List Expr) (kws : List Keyword) (Q : TV → St → Prop) (S : St) : Prop :=
  ∀ pos vf vfirst, er vf = f → vfirst.map er = first → RV c (callWith pos vf vfirst (backTo pos (starEach args c.env)) (backToKw pos (keywordEach kws c.env))) Q S
noncomputable abbrev kCwR (c : Cx) (args : List Expr) (kws : List Keyword) (Q : TV → St → Prop) : TV → St → Prop := fun f S₁ => RCALLW c f [] args kws Q S₁
noncomputable abbrev kCkR (c : Cx) (a : Addr) (Q : TV → St → Prop) : List TV → St → Prop := fun vs S₁ => RCALL c (.ref a) vs [] Q S₁
theorem rv_call {func : Expr} {args : List Expr} {pos : Pos} {Q : TV → St → Prop} (h : PV c (eval func c.env) (kCwR c args [] Q) S)
    (hp : eval (func.Call args [] pos) c.env = (do callWith pos (← eval func c.env) [] (backTo pos (starEach args c.env)) (backToKw pos (keywordEach [] c.env))) := by rfl) :
    RV c (eval (.Call func args [] pos) c.env) Q S := fun s hs => by
  rw [hp]
  exact wC_bind (wC_of (k1 h hs fun f _ _ hs' q => q pos f [] rfl rfl _ hs'))
theorem rv_callkw {func : Expr} {args : List Expr} {kws : List Keyword} {pos : Pos} {Q : TV → St → Prop} (h : PV c (eval func c.env) (kCwR c args kws Q) S)
    (hp : eval (func.Call args kws pos) c.env = (do callWith pos (← eval func c.env) [] (backTo pos (starEach args c.env)) (backToKw pos (keywordEach kws c.env))) := by rfl) :
    RV c (eval (.Call func args kws pos) c.env) Q S := fun s hs => by
  rw [hp]
  exact wC_bind (wC_of (k1 h hs fun f _ _ hs' q => q pos f [] rfl rfl _ hs'))
theorem rcallw_K {a : Addr} {e : Expr} {rest : List Expr} {Q : TV → St → Prop} (hw : Well c) (hk : keepIn (KK c.w) (.ref a) = true)
    (h : ARGS c (e :: rest) (kCkR c a Q) S)
    (hn : starEach (e :: rest) c.env = (false, eval e c.env) :: starEach rest c.env := by rfl) (hm : ∀ pos, (backTo pos (starEach rest c.env)).any (fun x => x.1) = false := by intro _; rfl) :
    RCALLW c (.ref a) [] (e :: rest) [] Q S := by
  intro pos vf vfirst hf hfi s hs
  cases er_ref hf
  cases (List.map_eq_nil_iff.mp hfi)
  have h' := h pos
  show wC _ _ (callWith pos (.ref a) [] (backTo pos (starEach (e :: rest) c.env)) []) _ s
  rw [hn] at h' ⊢
  refine wC_callWith (P := fun h => (KK c.w).In h) (by show ((false || (backTo pos (starEach rest c.env)).any (·.1)) || false) = false; rw [hm]; rfl) (fun h X => keeps_K hk h X) ?_
  refine wC_of (evalArgs_plain (k1 h' hs fun vs S₁ s₁ hs₁ q => ⟨hw.Kin hs₁, ?_⟩))
  exact rcode_call (q _ _ [] rfl rfl rfl) s₁ hs₁
theorem rcallw_KW0 {a : Addr} {kws : List Keyword} {names : List Str} {Q : TV → St → Prop} (hw : Well c) (hk : keepIn (KK c.w) (.ref a) = true)
    (h : KWS c kws (fun vs S₁ => RCALL c (.ref a) [] (names.zip vs) Q S₁) S)
    (hall : ∀ pos, (backToKw pos (keywordEach kws c.env)).all (·.1.isSome) = true := by intro _; rfl) (hnm : ∀ pos, (backToKw pos (keywordEach kws c.env)).filterMap (·.1) = names := by intro _; rfl)
    (hplain : ∀ pos, ((backTo pos (starEach [] c.env)).any (·.1) || (backToKw pos (keywordEach kws c.env)).any (·.1.isNone)) = false := by intro _; rfl) : RCALLW c (.ref a) [] [] kws Q S := by
  intro pos vf vfirst hf hfi s hs
  cases er_ref hf
  cases (List.map_eq_nil_iff.mp hfi)
  refine wC_callWith (P := fun h => (KK c.w).In h) (hplain pos) (fun h X => keeps_K hk h X) ?_
  refine wC_of (evalArgs_kw2_nil (hall pos) (k1 (h pos) hs fun vs S₁ s₁ hs₁ q => ⟨hw.Kin hs₁, ?_⟩))
  rw [hnm]
  exact rcode_call (q _ [] _ rfl rfl (zip_er _ _)) s₁ hs₁
theorem looks_keep_type {M : Model} {h : Heap} (T : String) : ∃ k, (k = Keeper.frame ∨ k = Keeper.machine ∨ k = Keeper.boundFrame) ∧ Looks M h (keeperOf (.type T)) k :=
  ⟨.machine, .inr (.inl rfl), Looks.of_pure (by rfl)⟩
theorem rcallw_ty {T : String} {e : Expr} {rest : List Expr} {Q : TV → St → Prop} (h : ARGS c (e :: rest) (fun vs S₁ => RCALL c (.type T) vs [] Q S₁) S)
    (hn : starEach (e :: rest) c.env = (false, eval e c.env) :: starEach rest c.env := by rfl) (hm : ∀ pos, (backTo pos (starEach rest c.env)).any (fun x => x.1) = false := by intro _; rfl) :
    RCALLW c (.type T) [] (e :: rest) [] Q S := by
  intro pos vf vfirst hf hfi s hs
  cases er_type hf
  cases (List.map_eq_nil_iff.mp hfi)
  have h' := h pos
  show wC _ _ (callWith pos (.type T) [] (backTo pos (starEach (e :: rest) c.env)) []) _ s
  rw [hn] at h' ⊢
  refine wC_callWith (P := fun _ => True) (by show ((false || (backTo pos (starEach rest c.env)).any (·.1)) || false) = false; rw [hm]; rfl) (fun h _ => looks_keep_type T) ?_
  refine wC_of (evalArgs_plain (k1 h' hs fun vs S₁ s₁ hs₁ q => ⟨trivial, ?_⟩))
  exact rcode_call (q _ _ [] rfl rfl rfl) s₁ hs₁
end
end
end Mine
end
section
open PySem PySem.W PyProof.Rows PySem.Calls
set_option maxRecDepth 100000
set_option maxHeartbeats 4000000
namespace Mine
noncomputable section
section
variable {prog : Program} {w : World} {A : Around} {s : Shared} {env : Env} {R : Result → Shared → Prop}
theorem kC_func {body : List Stmt} (h : wC (model prog w) (A.deeper env) (execs body env) (fun f s' => R (.ok (.ret (match f with | .ret v => v | _ => .none))) s') s) : kC (model prog w) A (.func body env) R s := by
  refine kC_tree rfl ?_
  show wC _ (A.deeper env) (do point; match ← (execs body env).onRaise (leaving env) with | .ret v => ret v | _ => ret .none) _ s
  refine wC_bind (wC_point (wC_bind (wC_onRaise (wC_mono h fun f s' h' => ?_))))
  cases f <;> exact wC_pure h'
theorem kC_call_def {a : Addr} {o : Obj} {fd : FuncData} {body : List Stmt} {args : Args} {binds : List (Str × Value)}
    (hroom : A.depth < recursionLimit) (ho : s.heap.get? a = some o) (hdata : o.data = .func fd) (hlim : s.heap.NoLimit) (hcd : s.heap.CodeRec fd.code fd.qualname)
    (hbody : fd.body = .stmts body) (hbind : BindsTo s fd args binds)
    (hcell : ∀ x ∈ fd.scope.names, x.2 ≠ .cell) (hloc : ∀ x ∈ binds, fd.scope.names.lookup x.1 = some .local)
    (h : ∀ h₀, h₀.Ns s.heap.objs.size (fun x => binds.reverse.lookup x) → (∀ b o, s.heap.get? b = some o → h₀.get? b = some o) →
      wC (model prog w) (A.deeper (callEnv fd s.heap.objs.size a)) (execs body (callEnv fd s.heap.objs.size a)) (fun f s' => R (.ok (.ret (match f with | .ret v => v | _ => .none))) s')
        { s with heap := h₀, toks := s.toks + binds.length })
    (hco : fd.scope.isCoroutine = false := by rfl) (hgen : fd.scope.isGenerator = false := by rfl) (hk : fd.scope.kind = .function := by rfl) :
    kC (model prog w) A (.call (.ref a) args) R s := by
  refine kC_tree rfl ?_
  show wC _ A.in1 (callAny (.ref a) args) _ s
  unfold callAny
  dsimp only
  refine wC_bind (wC_of (wpAny_load ho ?_))
  obtain ⟨c, oc, vs, tq, hc, hoc, hdc, hq⟩ := hcd
  simp only [hdata, callFunction, hco, hgen, hbody, hc]
  refine wC_bind (m := field (.ref c) 1) (wC_of (wpAny_field hoc hdc hq (wC_bind (wC_pure ?_))))
  refine wC_bind (wC_of (hbind _ _ _ _ ?_))
  refine wC_bind (wC_of (wpAny_newFunctionEnv hcell hloc (fun h₀ hns₀ hsb₀ => ?_) hk))
  refine wC_bind (wC_of (wpAny_enterFrame (hlim.fresh _ hsb₀) hroom ?_))
  have := h h₀ hns₀ fun b o e => hsb₀.extBut b o (Nat.ne_of_lt (Heap.lt_size e)) (Heap.get?_push_of_some _ e)
  refine wC_pure (And.intro rfl (kC_func ?_))
  unfold callEnv at this
  rw [hc] at this
  exact this
end

section
variable {c : Cx} {S : St} {s : Shared} {k : Nat}
theorem rcall_fn {f : Addr} {args : List TV} {kws : List (Str × TV)} {name qual : Str} {params : Arguments} {body : List Stmt} {scope : Scope} {dV kV doc pm cdv ct oc : Value} {an od : Option Addr} {osl : Array (Option Value)}
    {m₀ : List (Str × TV)} {Q : TV → St → Prop} (hw : Well c) (hr : Room c.A (k + 1))
    (ho : (KK c.w).lookup f = some ⟨oc, od, .func (fnOf name qual params body scope dV kV doc pm an cdv ct), osl⟩) (hcd : codeIn (KK c.w) cdv qual = true)
    (hbind : ∀ (vs : List Value) (ks : List (Str × Value)), vs.map er = args → ks.map (fun x => (x.1, er x.2)) = kws → ∀ s, (KK c.w).In s.heap → ∃ binds : List (Str × Value), BindsTo s (fnOf name qual params body scope dV kV doc pm an cdv ct) ⟨vs, ks⟩ binds ∧
      (∀ x ∈ binds, scope.names.lookup x.1 = some .local) ∧ ∀ x, (binds.reverse.lookup x).map er = m₀.lookup x)
    (hk : scope.kind = .function) (hco : scope.isCoroutine = false) (hgen : scope.isGenerator = false) (hcell : ∀ x ∈ scope.names, x.2 ≠ .cell)
    (h : ∀ A' base' L', Room A' k → Well ⟨c.w, A', c.h₁, base', c.os, envOf qual scope L' f cdv⟩ →
      RX ⟨c.w, A', c.h₁, base', c.os, envOf qual scope L' f cdv⟩ (execs body (Cx.env ⟨c.w, A', c.h₁, base', c.os, envOf qual scope L' f cdv⟩)) (fun fl S' => Q (retv fl) { S' with m := S.m }) ⟨m₀, S.H, S.g⟩) :
    RCALL c (.ref f) args kws Q S := by
  intro vf vs ks hf hvs hks s hs
  cases er_ref hf
  obtain ⟨mm, F, e⟩ := hs.fr
  have X := hw.Kin hs
  obtain ⟨_, _, mg, mb, T⟩ := hw.T
  obtain ⟨binds, b1, b2, b3⟩ := hbind vs ks hvs hks s X
  refine kC_call_def (fd := fnOf name qual params body scope dV kV doc pm an cdv ct) (body := body) (binds := binds) (by have := hr.depth; exact aL 0x1120121f3d0c1103 this) (X _ _ ho) rfl (T.nolimit.keeps F.keep) (codeRec_of X hcd) rfl b1 hcell b2
    (fun h₁ hns hk₁ => ?_) hco hgen hk
  have hL : s.heap.get? c.L ≠ none := by obtain ⟨o, _, _, g, _⟩ := F.ns; rw [g]; exact fun z => by cases z
  let c' : Cx := ⟨c.w, c.A.deeper (envOf qual scope s.heap.objs.size f cdv), c.h₁, bsOf s S.H, c.os, envOf qual scope s.heap.objs.size f cdv⟩
  have W' : Well c' := ⟨hw.K, hw.T, hk, rfl, rfl⟩
  have sat : Sat c' ⟨m₀, S.H, S.g⟩ { s with heap := h₁, toks := s.toks + binds.length } := by
    refine ⟨⟨_, ⟨hns, fun b o q => hk₁ _ _ (F.keep b o q), Nat.le_trans F.above (Nat.le_of_lt hs.Llt)⟩, b3⟩, fun b o q => hk₁ _ _ (baseOf_get.mp q).1, ?_, fun a o q => ?_, ⟨fun _ _ h => h, hs.g.2⟩, hs.os⟩
    · show (bsOf s S.H).get? s.heap.objs.size = none
      cases q : (bsOf s S.H).get? s.heap.objs.size with
      | none => rfl
      | some o => exact absurd (Heap.lt_size (baseOf_get.mp q).1) (Nat.lt_irrefl _)
    · obtain ⟨⟨ob, q1, q2⟩, r1, r2, r3⟩ := hs.H a o q
      refine ⟨⟨ob, hk₁ _ _ q1, q2⟩, r1, ?_, Nat.ne_of_lt (Heap.lt_size q1)⟩
      cases z : (bsOf s S.H).get? a with
      | none => rfl
      | some o' => have := (baseOf_get.mp z).2; rw [q] at this; cases this
  refine wC_mono (h c'.A c'.base c'.L (hr.under _) W' _ sat) (fun fl s' ⟨S', hs', q⟩ => ⟨_, rfl, { S' with m := S.m }, ?_, by cases fl <;> exact q⟩)
  obtain ⟨mm', F', e'⟩ := hs'.fr
  have kp : ∀ b o, s.heap.get? b = some o → S.H b = none → s'.heap.get? b = some o := fun b o g z => hs'.base b o (baseOf_get.mpr ⟨g, z⟩)
  refine ⟨⟨mm, Fr.ofKeep F (fun o g => kp _ _ g hs.noL) (fun b o g => F'.keep b o g), e⟩, fun b o g => kp _ _ (hs.base b o g) ?_, hs.baseL, fun a o g => ?_, ⟨fun i x h => hs'.g.1 i x (hs.g.1 i x h), hs'.g.2⟩, hs'.os⟩
  · cases z : S.H b with
    | none => rfl
    | some x => have := (hs.H b x z).2.2.1; rw [g] at this; cases this
  · obtain ⟨r0, r1, r2, r3⟩ := hs'.H a o g
    refine ⟨r0, r1, ?_, ?_⟩
    · cases z : c.base.get? a with
      | none => rfl
      | some x =>
        have z1 : S.H a = none := by
          cases z2 : S.H a with
          | none => rfl
          | some y => have := (hs.H a y z2).2.2.1; rw [z] at this; cases this
        have : c'.base.get? a = some x := baseOf_get.mpr ⟨hs.base _ _ z, z1⟩
        rw [r2] at this; cases this
    · rintro rfl
      obtain ⟨o', _, _, g', _⟩ := F.ns
      have : c'.base.get? c.L = some o' := baseOf_get.mpr ⟨g', hs.noL⟩
      rw [r2] at this; cases this

theorem rcall_pos' {f : Addr} {args : List TV} {name qual : Str} {params : Arguments} {body : List Stmt} {scope : Scope} {dV kV doc pm cdv ct oc : Value} {an od : Option Addr} {osl : Array (Option Value)}
    {names : List Str} {Q : TV → St → Prop} (hw : Well c) (hr : Room c.A (k + 1))
    (ho : (KK c.w).lookup f = some ⟨oc, od, .func (fnOf name qual params body scope dV kV doc pm an cdv ct), osl⟩) (hcd : codeIn (KK c.w) cdv qual = true)
    (hlen : args.length = names.length)
    (hbind : ∀ vs : List Value, vs.length = names.length → bindArgs (fnOf name qual params body scope dV kV doc pm an cdv ct) ⟨vs, []⟩ = pure (names.zip vs))
    (hloc : (names.all fun x => decide (scope.names.lookup x = some .local)) = true)
    (hk : scope.kind = .function) (hco : scope.isCoroutine = false) (hgen : scope.isGenerator = false) (hcell : ∀ x ∈ scope.names, x.2 ≠ .cell)
    (h : ∀ A' base' L', Room A' k → Well ⟨c.w, A', c.h₁, base', c.os, envOf qual scope L' f cdv⟩ →
      RX ⟨c.w, A', c.h₁, base', c.os, envOf qual scope L' f cdv⟩ (execs body (Cx.env ⟨c.w, A', c.h₁, base', c.os, envOf qual scope L' f cdv⟩)) (fun fl S' => Q (retv fl) { S' with m := S.m }) ⟨(names.zip args).reverse, S.H, S.g⟩) :
    RCALL c (.ref f) args [] Q S := by
  refine rcall_fn hw hr ho hcd (fun vs ks hvs hks s X => ?_) hk hco hgen hcell h
  cases (List.map_eq_nil_iff.mp hks)
  have hl : vs.length = names.length := by rw [← hlen, ← hvs, List.length_map]
  refine ⟨names.zip vs, BindsTo.of_eq (hbind vs hl), fun x hx => ?_, fun x => ?_⟩
  · have := List.all_eq_true.mp hloc x.1 (List.of_mem_zip hx).1
    simpa using this
  · rw [lookup_er, List.map_reverse, zip_er, hvs]

theorem rx_forT {target : Expr} {pos : Pos} {iter : Expr} {body : List Stmt} {Q : TF → St → Prop} (hA : c.A.handled = none)
    (h : PV c (eval iter c.env) (fun v S₀ => ∃ (N : Nat) (item : Nat → Item) (J : Nat → St → Prop) (S₁ : St), Steps c target v N item J S₀ S₁ ∧ J 0 S₁ ∧
      (∀ k S₂ b, k < N → J k S₂ → Well (c.on b) → ASGI (c.on b) target (item k) (fun S₃ => RX (c.on b) (execs body (c.on b).env) (kLoop J k Q) S₃) S₂) ∧
      (∀ S₂, J N S₂ → Q .next S₂)) S) (hw : Well c)
    (hs : ∀ x, foldedSetIterable iter c.env x = pure x := by intro _; rfl) :
    RX c (exec (.For target iter body [] pos) c.env) Q S := by
  intro s hs₀
  rw [exec_For]
  refine wC_bind (wC_standAt (wC_bind (wC_of (k1 h hs₀ fun v₀ S₀ s₁ hs₁ H0 => ?_))))
  obtain ⟨N, item, J, S₁, ⟨IS, i1, i2, i3, i4, i5⟩, j0, turn, done⟩ := H0
  rw [hs]
  refine wC_bind (wC_pure (wC_bind (wC_standAt (wC_bind (wC_holding (wC_of ?_))))))
  generalize hv₀ : er v₀ = v at *
  refine i3 v₀ s₁ _ hv₀ hs₁ fun own it s₂ hs₂ fr is0 => ?_
  refine wC_runOwn ?_
  refine kC_loop rfl rfl (fun n s => ∃ k S₂ own, n + k = N ∧ Sat c S₂ s ∧ (∀ b ∈ own, Free c S₂ b) ∧ J k S₂ ∧ IS own it k s.heap s.gens) ?_ N ⟨0, S₁, own, rfl, hs₂, fr, j0, is0⟩
  intro n s₂ H0
  obtain ⟨k, S₂, own, hn, hs₂, hi, hJ, hIS⟩ := H0
  show wC _ c.A ((forTurn target (.ref it) body [] c.env).onRaise _) _ s₂
  refine wC_onRaise ?_
  unfold forTurn
  refine wC_bind (wC_standAt (wC_bind (wC_onRaise (wC_of ?_))))
  by_cases hk : k < N
  · refine i4 c.env c.base.toHeap k S₂ s₂ own it _ hk hs₂ hJ hi hIS fun xv s₁' hgo => ?_
    refine wC_bind (wC_of (wpAny_mono hgo (fun _ s₃ H0 => ?_) fun _ _ x => x))
    obtain ⟨hs₃, ⟨own', hi', hIS'⟩, hdel⟩ := H0
    have key := turn k S₂ (bsOf s₃ (hideL S₂.H c.L)) hk hJ (hw.on _)
    have T := hs₃.inner
    refine wC_bind (wC_of (wpAny_mono (asgi_ok (c := c.on (bsOf s₃ (hideL S₂.H c.L))) hA key hdel T) (fun _ s₄ H0 => ?_) fun _ _ x => x))
    obtain ⟨S₄, hs₄, q₄⟩ := H0
    refine wC_bind (wC_mono (q₄ s₄ hs₄) fun f s₅ H0 => ?_)
    obtain ⟨S₅, hs₅, q₅⟩ := H0
    obtain ⟨o1, o2, o3⟩ := hs₃.outer hs₅
    have fresh5 : ∀ b ∈ own', Free c S₅ b := fun b hb => by
      refine ⟨?_, (hi' b hb).base, (hi' b hb).h₁, (hi' b hb).L⟩
      obtain ⟨o, g⟩ := i1 own' it _ _ _ hIS' b hb
      cases z : S₅.H b with
      | none => rfl
      | some y =>
        have r := (hs₅.H b y z).2.2.1
        have : (bsOf s₃ (hideL S₂.H c.L)).get? b = some o := baseOf_get.mpr ⟨g, by rw [hideL, if_neg (hi' b hb).L, (hi' b hb).H]⟩
        rw [show (bsOf s₃ (hideL S₂.H c.L)).get? b = none from r] at this; cases this
    have is5 : IS own' it (k + 1) s₅.heap s₅.gens := i2 own' it _ _ _ _ _ hIS' (fun b hb o g => o2 b o (hi' b hb).L (hi' b hb).H g) o3
    cases f with
    | next => exact wC_pure (.inl ⟨rfl, n - 1, by exact aL 0x11010110001010311b03b211210c2304 hn hk (aS _ _), k + 1, S₅, own', by exact aL 0x10010110101011100101100011121f3c21b03b211210c2304 hn hk (aS _ _), o1, fresh5, q₅, is5⟩)
    | cont => exact wC_pure (.inl ⟨rfl, n - 1, by exact aL 0x11010110001010311b03b211210c2304 hn hk (aS _ _), k + 1, S₅, own', by exact aL 0x10010110101011100101100011121f3c21b03b211210c2304 hn hk (aS _ _), o1, fresh5, q₅, is5⟩)
    | brk => exact wC_pure ⟨_, rfl, S₅, o1, q₅⟩
    | ret r => exact wC_pure ⟨_, rfl, S₅, o1, q₅⟩
  · have e : k = N := by exact aL 0x1010100112122119210c2203 hn hk
    subst e
    refine i5 c.env c.base.toHeap S₂ s₂ own it _ hs₂ hJ hi hIS fun s₃ hs₃ => ?_
    refine wC_pure (.inr ⟨rfl, kC_of (codeAny_block (wpAny_execs_nil ⟨_, rfl, S₂, hs₃, done S₂ hJ⟩))⟩)
theorem rx_for {x : Str} {px pos : Pos} {iter : Expr} {body : List Stmt} {Q : TF → St → Prop} (hA : c.A.handled = none)
    (h : PV c (eval iter c.env) (fun v S₀ => ∃ (N : Nat) (item : Nat → TV) (J : Nat → St → Prop) (S₁ : St), Steps c (.Name x px) v N (fun k => .one (item k)) J S₀ S₁ ∧ J 0 S₁ ∧
      (∀ k S₂ b, k < N → J k S₂ → Well (c.on b) → STORE (c.on b) x (item k) (fun S₃ => RX (c.on b) (execs body (c.on b).env) (kLoop J k Q) S₃) S₂) ∧
      (∀ S₂, J N S₂ → Q .next S₂)) S) (hw : Well c)
    (hs : ∀ x, foldedSetIterable iter c.env x = pure x := by intro _; rfl) :
    RX c (exec (.For (.Name x px) iter body [] pos) c.env) Q S :=
  rx_forT hA (pw_mono h fun v S' H0 => by obtain ⟨N, item, J, S₁, a, b, d, e⟩ := H0; exact ⟨N, fun k => .one (item k), J, S₁, a, b, fun k S₂ b' hk hJ hW => assign_name (d k S₂ b' hk hJ hW), e⟩) hw hs
end
end
end Mine
end
section
open PySem PySem.W PyProof.Rows PySem.Calls
set_option maxRecDepth 100000
set_option maxHeartbeats 4000000
namespace Mine
noncomputable section
section
variable {prog : Program} {w : World} {A : Around} {s : Shared} {env : Env} {R : Result → Shared → Prop} {α : Type}
theorem wC_looksAt {M : Model} {t : Sem α} {r : α} {Q : α → Shared → Prop} {h : Heap} {g d tk os} (L : Looks M h t r) (q : Q r ⟨h, g, d, tk, os⟩) : wC M A t Q ⟨h, g, d, tk, os⟩ := wC_of (L.at q)
theorem kC_builtin {id : String} {args : Args} {b : Builtin} (hd : codecCode (.builtin id args) = false) (hb : entryFor table id = some b)
    (h : wC (model prog w) (A.under (.builtin id args)) (b args)
      (fun fin s' => match fin with | .done f => R (.ok f) s' | .again c' => c'.quiet = true ∧ kC (model prog w) A c' R s') s) :
    kC (model prog w) A (.builtin id args) R s := by
  refine kC_tree hd ?_
  show wC _ _ (match entryFor table id with | some b => b args | none => unsupported ((withoutEnding? id "#data").getD id)) _ s
  rw [hb]; exact h
theorem kC_call_builtin {id : String} {args : Args} {b : Builtin} (hd : codecCode (.builtin id args) = false) (hq : (Code.builtin id args).quiet = true) (hb : entryFor table id = some b)
    (hc : ∀ Q, Q () s → wpAny (model prog w) A.in1 (checkBuiltinCall id args) Q (fun _ _ => False) s)
    (h : wC (model prog w) (A.under (.builtin id args)) (b args)
      (fun fin s' => match fin with | .done f => R (.ok f) s' | .again c' => c'.quiet = true ∧ kC (model prog w) A c' R s') s) : kC (model prog w) A (.call (.builtin id) args) R s := by
  refine kC_tree rfl ?_
  show wC _ A.in1 (do checkBuiltinCall id args; again (.builtin id args)) _ s
  exact wC_bind (wC_of (hc _ (wC_pure (And.intro hq (kC_builtin hd hb h)))))

variable {h : Heap} {g : Array GenState} {d : Drawn} {t : Nat} {os : OsState} {C : Addr}
theorem kC_make {rest : List Value} {kw : List (Str × Value)} {init : Value} (Y : Makes (model prog w) h C) (hi : Looks (model prog w) h (typeLookup (.ref C) "__init__") (some init))
    (hb : ∀ self, Looks (model prog w) h (bindSpecial init self) (init, [self])) (hne : (some init != some (Value.builtin "object.__init__")) = true)
    (hq : kC (model prog w) (A.under (.builtin "type.__call__" ⟨.ref C :: rest, kw⟩)) (.call init ⟨.ref (h.objs.size + 1) :: rest, kw⟩) (fun r s' => r = .ok (.ret .none) ∧ R (.ok (.ret (.ref (h.objs.size + 1)))) s') ⟨(h.push emptyDict).push (instObj C h.objs.size), g, d, t, os⟩) :
    kC (model prog w) A (.call (.ref C) ⟨rest, kw⟩) R ⟨h, g, d, t, os⟩ := by
  have Y' := Y
  obtain ⟨⟨oc, od, cd, sl, hC, e1, e2, e4⟩, made, base, self, top, call, typ⟩ := Y
  refine kC_tree rfl ?_
  show wC _ _ (callAny (.ref C) _) _ _
  refine wC_bind (m := load C) (wC_of (wpAny_load hC ?_))
  show wC _ _ (callAny.viaDunder (.ref C) _) _ _
  unfold callAny.viaDunder
  refine wC_bind (wC_looksAt call ?_)
  dsimp only
  rw [tc_bind]
  refine wC_bind (wC_pure (wC_bind (wC_pure ?_)))
  refine wC_pure (a := Fin.again (.call (.builtin "type.__call__") ⟨.ref C :: rest, kw⟩)) (And.intro rfl ?_)
  refine kC_call_builtin rfl (Code.quiet_builtin _ (by decide +kernel)) entry_typeCall (fun Q q => check_slot tc_kind tc_split typ (tc_args _ _ _) q) ?_
  unfold Builtin.«type.__call__»
  have hm : Looks (model prog w) h (mroOf (.ref C)) cd.mro := ((Looks.ld (part := none) hC).andThen .now).andThen .now
  dsimp only
  rw [if_neg (show ¬ ((Value.ref C == Value.type "type") = true) from Bool.false_ne_true)]
  refine wC_bind (wC_looksAt hm ?_)
  rw [e4]
  simp only [Bool.false_eq_true, if_false]
  refine wC_bind (wC_looksAt made ?_)
  refine wC_bind (wC_pure (wC_bind (wC_holding (wC_call (kC_of ?_)))))
  refine codeAny_mono (new_K (R := fun r s' => r = .ok (.ret (.ref (h.objs.size + 1))) ∧ s' = ⟨(h.push emptyDict).push (instObj C h.objs.size), g, d, t, os⟩) Y' hi (.inl hne) ⟨rfl, rfl⟩) fun r s' hr => ?_
  obtain ⟨rfl, rfl⟩ := hr
  refine ⟨_, rfl, ?_⟩
  have k : ∀ b o, h.get? b = some o → ((h.push emptyDict).push (instObj C h.objs.size)).get? b = some o := fun b o e => Heap.get?_push_of_some _ (Heap.get?_push_of_some _ e)
  have hx : ((h.push emptyDict).push (instObj C h.objs.size)).get? (h.objs.size + 1) = some (instObj C h.objs.size) := by
    have := Heap.get?_push_size (h.push emptyDict) (o := instObj C h.objs.size) rfl
    rwa [Heap.size_push] at this
  have t1 : Looks (model prog w) ((h.push emptyDict).push (instObj C h.objs.size)) (typeOf (.ref (h.objs.size + 1))) (.ref C) := (Looks.ld hx).andThen .now
  have i1 : Looks (model prog w) ((h.push emptyDict).push (instObj C h.objs.size)) (isInstance (.ref (h.objs.size + 1)) (.ref C)) true := t1.andThen (self.keeps k)
  refine wC_bind (wC_looksAt i1 ?_)
  simp only [Bool.not_true, Bool.false_eq_true, if_false]
  refine wC_bind (wC_holding ?_)
  have l1 : Looks (model prog w) ((h.push emptyDict).push (instObj C h.objs.size)) (specialOf (.ref (h.objs.size + 1)) "__init__") (some init) := t1.andThen (hi.keeps k)
  unfold callSpecial?
  refine wC_bind (wC_looksAt l1 ?_)
  refine wC_holding (wC_bind (wC_looksAt ((hb _).keeps k) ?_))
  refine wC_bind (wC_call (kC_mono hq fun r s' ⟨e, q⟩ => ⟨.none, e, wC_pure ?_⟩))
  exact wC_pure q
end
section
variable {c : Cx} {S : St} {s : Shared} {k : Nat}
theorem rcall_inst {C fI : Addr} {args : List TV} {kws : List (Str × TV)} {Q : TV → St → Prop} (hw : Well c) (hr : Room c.A (k + 1)) (hB : makeB (KK c.w) C fI = true)
    (h : ∀ A' x d, Room A' k → S.H x = none → S.H d = none → x ≠ d →
      RCALL { c with A := A' } (.ref fI) (.ref x :: args) kws (fun v S' => v = .none ∧ Q (.ref x) S') { S with H := upd (upd S.H d (.dict [])) x (.inst C d) }) :
    RCALL c (.ref C) args kws Q S := by
  intro vf vs ks hf hvs hks s hs
  cases er_ref hf
  simp only [makeB, Bool.and_eq_true, beq_iff_eq] at hB
  obtain ⟨⟨b1, b2⟩, b3⟩ := hB
  have X := hw.Kin hs
  have V1 := hs.push (ao := .dict []) (ob := emptyDict) rfl ⟨[], 0, rfl, trivial⟩
  have V2 := V1.push (ao := .inst C s.heap.objs.size) (ob := instObj C s.heap.objs.size) rfl rfl
  have ex : (s.heap.push emptyDict).objs.size = s.heap.objs.size + 1 := Heap.size_push ..
  have fx : S.H (s.heap.objs.size + 1) = none := hs.HFresh (Nat.le_succ _)
  simp only [ex] at V2
  obtain ⟨hh, g, d, t, os⟩ := s
  refine kC_make (makes_of X b1) (looks_findIn X b2) (fun self => bind_fn X self (by simpa [isFn] using b3)) rfl ?_
  have key := h _ (hh.objs.size + 1) hh.objs.size (hr.cls C vs ks) fx hs.freshN (Nat.succ_ne_self _) (.ref fI) (.ref (hh.objs.size + 1) :: vs) ks rfl (by rw [List.map_cons, hvs]; rfl) hks _ (show Sat { c with A := _ } _ _ from ⟨V2.fr, V2.base, V2.baseL, V2.H, V2.g, V2.os⟩)
  refine kC_mono key fun r s' H0 => ?_
  obtain ⟨v, e, S', q1, q2, q3⟩ := H0
  subst e
  exact ⟨by rw [er_none q2], .ref _, rfl, S', ⟨q1.fr, q1.base, q1.baseL, q1.H, q1.g, q1.os⟩, q3⟩
end
end
end Mine
end
section
open PySem PySem.W PyProof.Rows PySem.Calls
set_option maxRecDepth 1000000
set_option maxHeartbeats 4000000
namespace Mine
noncomputable section
theorem ba_release : typeLookup (.type "bytearray") "__release_buffer__" = pure (some (.builtin "bytearray.__release_buffer__")) := by rw [typeLookup_type, builtinLookup_eq_fast]; kernel_rfl
theorem ba_buffer : typeLookup (.type "bytearray") "__buffer__" = pure (some (.builtin "bytearray.__buffer__")) := by rw [typeLookup_type, builtinLookup_eq_fast]; kernel_rfl
theorem by_release : typeLookup (.type "bytes") "__release_buffer__" = pure none := by rw [typeLookup_type, builtinLookup_eq_fast]; kernel_rfl
theorem by_buffer : typeLookup (.type "bytes") "__buffer__" = pure (some (.builtin "bytes.__buffer__")) := by rw [typeLookup_type, builtinLookup_eq_fast]; kernel_rfl
theorem by_index : typeLookup (.type "bytes") "__index__" = pure none := by rw [typeLookup_type, builtinLookup_eq_fast]; kernel_rfl
theorem int_index : typeLookup (.type "int") "__index__" = pure (some (.builtin "int.__index__")) := by rw [typeLookup_type, builtinLookup_eq_fast]; kernel_rfl
theorem ba_mro : mroOf (.type "bytearray") = pure [.type "bytearray", .type "object"] := by rw [mroOf_type]; kernel_rfl
theorem ba_new : typeLookup (.type "bytearray") "__new__" = pure (some (.builtin "bytearray.__new__")) := by rw [typeLookup_type, builtinLookup_eq_fast]; kernel_rfl
theorem ba_sub : isSubtype (.type "bytearray") (.type "bytearray") = pure true := by rw [isSubtype_type]; kernel_rfl
theorem by_sub : isSubtype (.type "bytes") (.type "bytes") = pure true := by rw [isSubtype_type]; kernel_rfl
theorem ba_init : Slot "bytearray" "__init__" "bytearray.__init__" :=
  .of (owner := "bytearray") (n := "__init__") (by rw [typeLookup_type, builtinLookup_eq_fast]; kernel_rfl) (by decide +kernel) (by decide +kernel) (by decide +kernel)
    (by first | exact .inl (by decide +kernel) | exact .inr (by decide +kernel)) (by rw [isSubtype_type]; kernel_rfl)
theorem ba_called : TypeCalled "bytearray" "bytearray.__new__" "bytearray.__init__" :=
  ⟨by decide +kernel, by decide +kernel, ⟨_, _, ba_mro⟩, madeBy_type ba_mro ba_new (by decide +kernel), by decide +kernel, ba_sub, ba_init⟩
theorem ba_typeCall (a : Value) : checkTypeCall "bytearray" ⟨[a], []⟩ = pure () := by kernel_rfl
theorem ba_newCall (a : Value) : checkBuiltinCall "bytearray.__new__" ⟨[.type "bytearray", a], []⟩ = pure () := by kernel_rfl
theorem ba_entryNew : entryFor table "bytearray.__new__" = some Builtin.«list.__new__» := entryFor_alias (id' := "list.__new__") (by kernel_rfl) rfl (by decide +kernel) (by kernel_rfl)
theorem ba_entryInit : entryFor table "bytearray.__init__" = some Builtin.«bytearray.__init__» := entryFor_of_tree (by kernel_rfl)
theorem ba_plainNew : plainId "bytearray.__new__" = true := by decide +kernel
set_option maxHeartbeats 40000000 in
theorem ba_owner : ("bytearray.__new__".splitOn ".__new__").headD "" = "bytearray" := by simp +decide [String.splitOn, String.splitOnAux]
theorem ba_initArgs (a b : Value) : argsOk "bytearray.__init__" ⟨[a, b], []⟩ := by unfold argsOk; kernel_rfl
section
variable {prog : Program} {w : World} {A : Around} {E : Value → Shared → Prop} {s : Shared}
theorem code_ba_new (a : Value) {Q₁ : Value → Shared → Prop}
    (h : Q₁ (.ref s.heap.objs.size) { s with heap := s.heap.push { cls := .type "bytearray", data := .bytearray #[] } }) :
    codeAny (model prog w) A (.call (.builtin "bytearray.__new__") ⟨[.type "bytearray", a], []⟩) (wants Q₁ E) s := by
  refine codeAny_of_tree ?_
  show wpAny _ A.in1 (do checkBuiltinCall "bytearray.__new__" ⟨[.type "bytearray", a], []⟩; again (.builtin "bytearray.__new__" ⟨[.type "bytearray", a], []⟩)) _ _ s
  refine wpAny_bind (wpAny_of_eq (ba_newCall a) (wpAny_pure ⟨plainId_quiet ba_plainNew _, codeAny_builtin_stack ba_entryNew rfl fun p st => ?_⟩))
  rw [Around.under_plainId ba_plainNew _]
  have hsub := ba_sub
  have hown := ba_owner
  obtain ⟨hp, g, d, tk, os⟩ := s
  simp only [hown]
  wp_walk
  exact h
theorem ba_ownRelease {obj : Value} {Q : Bool → Shared → Prop} (hT : s.TypeIs obj "bytearray") (h : Q false s) : wpAny (model prog w) A (Builtin.Bytes.ownRelease obj) Q E s := by
  unfold Builtin.Bytes.ownRelease Builtin.Bytes.slotIsOwn
  refine wpAny_bind (wpAny_bind (wpAny_specialOf hT ba_release ?_))
  dsimp only
  rw [if_neg (by decide +kernel)]
  refine wpAny_isInstance (T := "bytearray") (b := true) hT ?_ (wpAny_pure h)
  have : (("bytearray.__release_buffer__".dropRight ("__release_buffer__".length + 1)) : String) = "bytearray" := by decide +kernel
  rw [this]; exact ba_sub
theorem ba_bindOpt (v : Value) : Builtin.Bytes.bindOptional "bytearray.__init__" "bytearray" ["source", "encoding", "errors"] [v] [] = pure [some v, none, none] := by kernel_rfl
theorem ba_codec0 (i f w : String) : Builtin.Bytes.checkCodecArg i f w none = pure () := rfl
theorem wC_exported {obj : Value} {Q : Bool → Shared → Prop} (hg : A.guards = some []) (h : Q false s) : wC (model prog w) A (Builtin.Bytes.exported obj) Q s := by
  unfold Builtin.Bytes.exported
  refine wC_stackAny hg (fun c p hc hd => ?_) h
  cases c with
  | builtin id args =>
    obtain ⟨pos, kw⟩ := args
    delta PySem.Builtin.Bytes.exported.match_1
    show (dite (id = "bytearray.__contains__") _ _ : Bool) = false
    have hc : guardIds.contains id = false := hc
    have no : ∀ x : String, guardIds.contains x = true → id ≠ x := fun x hx e => by rw [e, hx] at hc; exact nomatch hc
    rw [dif_neg (no _ (by decide +kernel)), dif_neg (no _ (by decide +kernel)), dif_neg (no _ (by decide +kernel)), dif_neg (no _ (by decide +kernel)), dif_neg (no _ (by decide +kernel))]
    cases pos with
    | nil => rfl
    | cons v r =>
      have hd : Builtin.Bytes.decodersThatHold.contains id = false := hd
      show (_ && Builtin.Bytes.decodersThatHold.contains id) = false
      rw [hd, Bool.and_false]
  | _ => rfl
theorem wC_orM {M : Model} {x y : Sem Bool} {Q : Bool → Shared → Prop} (h : wC M A x (fun b s' => b = false ∧ wC M A y Q s') s) : wC M A (x <||> y) Q s := by
  show wC M A (x >>= fun b => match toBool b with | true => pure b | false => y) Q s
  refine wC_bind (wC_mono h fun b s' ⟨e, q⟩ => ?_)
  subst e; exact q
theorem ba_write {a : Addr} {b : Array UInt8} {f : Array UInt8 → Array UInt8} {Q : Unit → Shared → Prop} (ha : s.heap.get? a = some { cls := .type "bytearray", data := .bytearray b }) (hz : (f b).size ≤ sizeLine)
    (h : ∀ h', h'.get? a = some { cls := .type "bytearray", data := .bytearray (f b) } → Heap.SameBut a s.heap h' → Q () { s with heap := h' }) : wpAny (model prog w) A (Builtin.Bytes.write (.ref a) f) Q E s := by
  show wpAny _ _ (updateBytearray a f) _ _ _
  unfold updateBytearray
  refine wpAny_bind (wpAny_load ha ?_)
  have g := Heap.get?_update_self (Obj.mapBytearray f) ha rfl
  refine wpAny_bind (wpAny_update ha ?_)
  refine wpAny_lookBehind g ?_ (h _ g (Heap.SameBut.update ..))
  show (if (f b).size > sizeLine then _ else _) = none
  rw [if_neg (by omega)]
theorem ba_exportsOf {a : Addr} {b : Array UInt8} {Q : Nat → Shared → Prop} (ha : s.heap.get? a = some { cls := .type "bytearray", data := .bytearray b }) (h : Q 0 s) : wpAny (model prog w) A (Builtin.Bytes.exportsOf (.ref a)) Q E s := by
  unfold Builtin.Bytes.exportsOf
  exact wpAny_bind (wpAny_load ha (wpAny_pure h))
theorem ba_init_int {a : Addr} {n : Int} {t : Tok} {Q : PySem.Fin → Shared → Prop} (hg : A.guards = some []) (ha : s.heap.get? a = some { cls := .type "bytearray", data := .bytearray #[] }) (h0 : 0 ≤ n) (h1 : n ≤ 100000)
    (h : ∀ h', h'.get? a = some { cls := .type "bytearray", data := .bytearray (Array.replicate n.toNat 0) } → Heap.SameBut a s.heap h' → Q (.done (.ret .none)) { s with heap := h' }) :
    wC (model prog w) A (Builtin.«bytearray.__init__» ⟨[.ref a, .int n t], []⟩) Q s := by
  have hT : s.TypeIs (.ref a) "bytearray" := ⟨_, ha, rfl⟩
  unfold Builtin.«bytearray.__init__»
  dsimp only
  refine wC_bind (wC_of (ba_ownRelease hT ?_))
  rw [if_neg Bool.false_ne_true]
  refine wC_bind (wC_of (wpAny_of_eq (ba_bindOpt _) ?_))
  dsimp only
  refine wC_bind (wC_of (wpAny_of_eq (ba_codec0 _ _ _) ?_))
  refine wC_bind (wC_of (wpAny_of_eq (ba_codec0 _ _ _) ?_))
  refine wC_bind (wC_orM (wC_exported hg ⟨rfl, ?_⟩))
  refine wC_bind (wC_of (ba_exportsOf ha (wC_pure ?_)))
  rw [if_neg (by decide)]
  refine wC_bind (wC_of (ba_write ha (Nat.zero_le _) fun h₁ g₁ b₁ => ?_))
  refine wC_bind (wC_of (wpAny_of_eq (show asStr? (.int n t) = pure none from rfl) ?_))
  rw [if_neg (by decide)]
  rw [if_neg (by decide)]
  rw [if_neg (by decide)]
  refine wC_bind (wC_pure ?_)
  refine wC_bind (wC_of (wpAny_specialOf (T := "int") (typeIs_int _ _ _) int_index ?_))
  rw [if_pos (by rfl)]
  refine wC_bind (wC_of (wpAny_attempt (wpAny_of_eq (show asIndex (.int n t) = pure n from rfl) ?_)))
  dsimp only
  rw [if_neg (by unfold Builtin.Bytes.fitsIndex; simp; exact aL 0x10111011888888888888888888888804018888888888888888888888b3638bac88030083210 h0 h1)]
  rw [if_neg (by exact aL 0x11080490083110 h0)]
  rw [if_neg (by simp; exact aL 0x1017ffffffffffffffffffff805938bac8803110 h1)]
  rw [if_neg (by unfold Builtin.Bytes.tooLong; rw [sizeLine_eq]; simp; exact aL 0x1118888888880338bac8803110 h1)]
  refine wC_bind (wC_of (wpAny_rule ?_))
  by_cases hn : n > 0
  · rw [if_pos hn]
    refine wC_bind (wC_of (ba_write g₁ (by rw [Array.size_replicate, sizeLine_eq]; exact aL 0x1000111011188888888b0008030b0260075738bac8803211 h1 (aT _)) fun h₂ g₂ b₂ => ?_))
    exact wC_pure (h h₂ g₂ (b₁.trans b₂))
  · rw [if_neg hn]
    have : n = 0 := by exact aL 0x10111010805008490083210 h0 hn
    subst this
    exact wC_pure (h h₁ g₁ b₁)
end
end
end Mine
end
section
open PySem PySem.W PyProof.Rows PySem.Calls
set_option maxRecDepth 1000000
set_option maxHeartbeats 4000000
namespace Mine
noncomputable section
section
variable {prog : Program} {w : World} {A : Around} {E : Value → Shared → Prop} {s : Shared}
theorem by_slotOwn {b : Array UInt8} {t : Tok} {Q : Bool → Shared → Prop} (h : Q true s) : wpAny (model prog w) A (Builtin.Bytes.slotIsOwn (.bytes b t) "__buffer__") Q E s := by
  unfold Builtin.Bytes.slotIsOwn
  refine wpAny_bind (wpAny_specialOf (T := "bytes") (typeIs_bytes s b t) by_buffer ?_)
  dsimp only
  rw [if_neg (by decide +kernel)]
  refine wpAny_isInstance (T := "bytes") (b := true) (typeIs_bytes s b t) ?_ h
  have : (("bytes.__buffer__".dropRight ("__buffer__".length + 1)) : String) = "bytes" := by decide +kernel
  rw [this]; exact by_sub
theorem ba_slotOwn {v : Value} {Q : Bool → Shared → Prop} (hT : s.TypeIs v "bytearray") (h : Q true s) : wpAny (model prog w) A (Builtin.Bytes.slotIsOwn v "__buffer__") Q E s := by
  unfold Builtin.Bytes.slotIsOwn
  refine wpAny_bind (wpAny_specialOf (T := "bytearray") hT ba_buffer ?_)
  dsimp only
  rw [if_neg (by decide +kernel)]
  refine wpAny_isInstance (T := "bytearray") (b := true) hT ?_ h
  have : (("bytearray.__buffer__".dropRight ("__buffer__".length + 1)) : String) = "bytearray" := by decide +kernel
  rw [this]; exact ba_sub
theorem by_ownRelease {b : Array UInt8} {t : Tok} {Q : Bool → Shared → Prop} (h : Q false s) : wpAny (model prog w) A (Builtin.Bytes.ownRelease (.bytes b t)) Q E s := by
  unfold Builtin.Bytes.ownRelease Builtin.Bytes.slotIsOwn
  refine wpAny_bind (wpAny_bind (wpAny_specialOf (T := "bytes") (typeIs_bytes s b t) by_release ?_))
  exact wpAny_pure (wpAny_pure h)
theorem ba_payload {a : Addr} {b : Array UInt8} {Q : Array UInt8 → Shared → Prop} (ha : s.heap.get? a = some { cls := .type "bytearray", data := .bytearray b }) (h : Q b s) : wpAny (model prog w) A (Builtin.Bytes.payload (.ref a)) Q E s := by
  unfold Builtin.Bytes.payload Builtin.Bytes.payload?
  exact wpAny_bind (wpAny_bind (wpAny_load ha (wpAny_pure (wpAny_pure h))))
theorem buf_bytes {id : String} {f : Bool} {b : Array UInt8} {t : Tok} {Q : Option (Array UInt8) → Shared → Prop} (h : Q (some b) s) : wpAny (model prog w) A (Builtin.Bytes.buffer? id (.bytes b t) f) Q E s := by
  unfold Builtin.Bytes.buffer?
  refine wpAny_bind (wpAny_specialOf (T := "bytes") (typeIs_bytes s b t) by_buffer ?_)
  refine wpAny_bind (by_slotOwn ?_)
  rw [if_neg (by decide)]
  refine wpAny_bind (wpAny_specialOf (T := "bytes") (typeIs_bytes s b t) by_buffer ?_)
  refine wpAny_bind (by_ownRelease ?_)
  rw [if_neg (by decide)]
  exact wpAny_bind (wpAny_pure (wpAny_pure h))
theorem buf_barr {id : String} {f : Bool} {a : Addr} {b : Array UInt8} {Q : Option (Array UInt8) → Shared → Prop} (ha : s.heap.get? a = some { cls := .type "bytearray", data := .bytearray b }) (h : Q (some b) s) : wpAny (model prog w) A (Builtin.Bytes.buffer? id (.ref a) f) Q E s := by
  have hT : s.TypeIs (.ref a) "bytearray" := ⟨_, ha, rfl⟩
  unfold Builtin.Bytes.buffer?
  refine wpAny_bind (wpAny_specialOf hT ba_buffer ?_)
  refine wpAny_bind (ba_slotOwn hT ?_)
  rw [if_neg (by decide)]
  refine wpAny_bind (wpAny_specialOf hT ba_buffer ?_)
  refine wpAny_bind (ba_ownRelease hT ?_)
  rw [if_neg (by decide)]
  exact wpAny_bind (ba_payload ha (wpAny_pure h))
theorem ba_init_bytes {a : Addr} {b : Array UInt8} {t : Tok} {Q : PySem.Fin → Shared → Prop} (hg : A.guards = some []) (ha : s.heap.get? a = some { cls := .type "bytearray", data := .bytearray #[] }) (hz : b.size ≤ sizeLine)
    (h : ∀ h', h'.get? a = some { cls := .type "bytearray", data := .bytearray b } → Heap.SameBut a s.heap h' → Q (.done (.ret .none)) { s with heap := h' }) :
    wC (model prog w) A (Builtin.«bytearray.__init__» ⟨[.ref a, .bytes b t], []⟩) Q s := by
  have hT : s.TypeIs (.ref a) "bytearray" := ⟨_, ha, rfl⟩
  unfold Builtin.«bytearray.__init__»
  dsimp only
  refine wC_bind (wC_of (ba_ownRelease hT ?_))
  rw [if_neg Bool.false_ne_true]
  refine wC_bind (wC_of (wpAny_of_eq (ba_bindOpt _) ?_))
  dsimp only
  refine wC_bind (wC_of (wpAny_of_eq (ba_codec0 _ _ _) ?_))
  refine wC_bind (wC_of (wpAny_of_eq (ba_codec0 _ _ _) ?_))
  refine wC_bind (wC_orM (wC_exported hg ⟨rfl, ?_⟩))
  refine wC_bind (wC_of (ba_exportsOf ha (wC_pure ?_)))
  rw [if_neg (by decide)]
  refine wC_bind (wC_of (ba_write ha (Nat.zero_le _) fun h₁ g₁ b₁ => ?_))
  refine wC_bind (wC_of (wpAny_of_eq (show asStr? (.bytes b t) = pure none from rfl) ?_))
  rw [if_neg (by decide)]
  rw [if_neg (by decide)]
  rw [if_neg (by decide)]
  refine wC_bind (wC_pure ?_)
  refine wC_bind (wC_of (wpAny_specialOf (T := "bytes") (typeIs_bytes _ _ _) by_index ?_))
  rw [if_neg (by decide)]
  refine wC_bind (wC_of (buf_bytes ?_))
  dsimp only
  refine wC_bind (wC_of (wpAny_rule ?_))
  refine wC_bind (wC_of (ba_write g₁ hz fun h₂ g₂ b₂ => ?_))
  exact wC_pure (h h₂ g₂ (b₁.trans b₂))

/-- the call of the type -/
theorem kC_ba {v : Value} {b : Array UInt8} {R : Result → Shared → Prop} (hg : A.guards = some [])
    (hinit : ∀ (a : Addr) (s : Shared) (A : Around) (Q : PySem.Fin → Shared → Prop), A.guards = some [] → s.heap.get? a = some { cls := .type "bytearray", data := .bytearray #[] } →
      (∀ h', h'.get? a = some { cls := .type "bytearray", data := .bytearray b } → Heap.SameBut a s.heap h' → Q (.done (.ret .none)) { s with heap := h' }) → wC (model prog w) A (Builtin.«bytearray.__init__» ⟨[.ref a, v], []⟩) Q s)
    (h : ∀ h', h'.get? s.heap.objs.size = some { cls := .type "bytearray", data := .bytearray b } → (∀ b o, s.heap.get? b = some o → h'.get? b = some o) → R (.ok (.ret (.ref s.heap.objs.size))) { s with heap := h' }) :
    kC (model prog w) A (.call (.type "bytearray") ⟨[v], []⟩) R s := by
  refine kC_tree rfl ?_
  show wC _ _ (callAny (.type "bytearray") _) _ _
  refine wC_pure ⟨Code.quiet_builtin _ (by decide +kernel), kC_builtin rfl F.entry_type_call ?_⟩
  have hA1 : (A.under (.builtin "type.__call__" ⟨[.type "bytearray", v], []⟩)) = A.in1 := Around.under_plain (weight_type_call_type "bytearray" [v] []) rfl
  rw [hA1]
  unfold Builtin.«type.__call__»
  dsimp only
  rw [if_neg (by decide)]
  have h2 := ba_called.canCreate
  rw [if_neg (by rw [h2]; exact Bool.false_ne_true)]
  refine wC_bind (wC_of (wpAny_of_eq (ba_typeCall v) ?_))
  refine wC_bind (wC_of (wpAny_of_eq ba_mro ?_))
  rw [if_neg (by decide)]
  refine wC_bind (wC_of (wpAny_of_eq ba_called.made ?_))
  refine wC_bind (wC_pure (wC_bind (wC_holding (wC_call (kC_of ?_)))))
  refine codeAny_mono (code_ba_new v (E := fun _ _ => False) (Q₁ := fun r s' => r = .ref s.heap.objs.size ∧ s' = { s with heap := s.heap.push { cls := .type "bytearray", data := .bytearray #[] } }) ⟨rfl, rfl⟩) fun r s' hr => ?_
  have : r = .ok (.ret (.ref s.heap.objs.size)) ∧ s' = { s with heap := s.heap.push { cls := .type "bytearray", data := .bytearray #[] } } := by
    rcases r with e | (x | _ | _ | _) <;> first | exact ⟨by rw [hr.1], hr.2⟩ | exact hr.elim
  obtain ⟨rfl, rfl⟩ := this
  refine ⟨_, rfl, ?_⟩
  have hx : (s.heap.push { cls := .type "bytearray", data := .bytearray #[] }).get? s.heap.objs.size = some { cls := .type "bytearray", data := .bytearray #[] } := Heap.get?_push_size _ rfl
  have hT : ({ s with heap := s.heap.push { cls := .type "bytearray", data := .bytearray #[] } } : Shared).TypeIs (.ref s.heap.objs.size) "bytearray" := ⟨_, hx, rfl⟩
  refine wC_bind (wC_of (wpAny_isInstance (T := "bytearray") (b := true) hT ba_sub ?_))
  rw [if_neg (by decide)]
  refine wC_bind (wC_holding ?_)
  unfold callSpecial?
  refine wC_bind (wC_of (wpAny_specialOf hT ba_init.lookup ?_))
  refine wC_holding (wC_bind (wC_of (wpAny_of_eq (ba_init.bind _) ?_)))
  refine wC_bind (wC_call ?_)
  refine kC_call_builtin rfl (plainId_quiet ba_init.plain _) ba_entryInit (fun Q q => ba_init.check _ _ _ _ _ _ _ _ hT (ba_initArgs _ _) q) ?_
  rw [Around.under_plainId ba_init.plain _]
  refine hinit _ _ _ _ hg hx fun h' g' b' => ⟨_, rfl, wC_pure ?_⟩
  exact wC_pure (h h' g' fun c o z => by rw [b'.2 c (Nat.ne_of_lt (Heap.lt_size z))]; exact Heap.get?_push_of_some _ z)
end
section
variable {c : Cx} {S : St} {s : Shared} {k : Nat}
theorem rcall_ba_int {n : Int} {Q : TV → St → Prop} (hr : Room c.A k) (h0 : 0 ≤ n) (h1 : n ≤ 100000) (h : ∀ a, S.H a = none → Q (.ref a) { S with H := upd S.H a (.barr (List.replicate n.toNat 0)) }) : RCALL c (.type "bytearray") [.int n] [] Q S := by
  intro vf vs ks hf hvs hks s hs
  cases er_type hf
  rcases vs with _ | ⟨x, _ | _⟩ <;> simp at hvs
  obtain ⟨t, rfl⟩ := er_int hvs
  cases (List.map_eq_nil_iff.mp hks)
  refine kC_ba (b := Array.replicate n.toNat 0) hr.guards (fun a s A Q hg ha h => ba_init_int hg ha h0 h1 h) fun h' g' k' => ⟨_, rfl, _, ?_, h _ hs.freshN⟩
  have f := hs.free (Nat.le_refl _)
  exact (hs.ext (s' := { s with heap := h' }) k' rfl rfl).know (ao := .barr (List.replicate n.toNat 0)) (s := { s with heap := h' }) g' (by show _ = _; rw [List.toArray_replicate]) f.h₁ f.base f.L
theorem rcall_ba_bytes {b : List UInt8} {Q : TV → St → Prop} (hr : Room c.A k) (h1 : b.length ≤ 100000) (h : ∀ a, S.H a = none → Q (.ref a) { S with H := upd S.H a (.barr b) }) : RCALL c (.type "bytearray") [.bytes b] [] Q S := by
  intro vf vs ks hf hvs hks s hs
  cases er_type hf
  rcases vs with _ | ⟨x, _ | _⟩ <;> simp at hvs
  obtain ⟨t, rfl⟩ := er_bytes hvs
  cases (List.map_eq_nil_iff.mp hks)
  refine kC_ba (b := b.toArray) hr.guards (fun a s A Q hg ha h => ba_init_bytes hg ha (by rw [sizeLine_eq, List.size_toArray]; exact aL 0x11188888888b0038bac8b00101 h1) h) fun h' g' k' => ⟨_, rfl, _, ?_, h _ hs.freshN⟩
  have f := hs.free (Nat.le_refl _)
  exact (hs.ext (s' := { s with heap := h' }) k' rfl rfl).know (ao := .barr b) (s := { s with heap := h' }) g' rfl f.h₁ f.base f.L
end
end
end Mine
end
section
open PySem PySem.W PyProof.Rows PySem.Calls
set_option maxRecDepth 1000000
set_option maxHeartbeats 4000000
namespace Mine
noncomputable section
theorem ba_nobytes : typeLookup (.type "bytearray") "__bytes__" = pure none := by rw [typeLookup_type, builtinLookup_eq_fast]; kernel_rfl
theorem ba_noindex : typeLookup (.type "bytearray") "__index__" = pure none := by rw [typeLookup_type, builtinLookup_eq_fast]; kernel_rfl
theorem sl_noindex : typeLookup (.type "slice") "__index__" = pure none := by rw [typeLookup_type, builtinLookup_eq_fast]; kernel_rfl
theorem ba_len : Slot "bytearray" "__len__" "bytearray.__len__" :=
  .of (owner := "bytearray") (n := "__len__") (by rw [typeLookup_type, builtinLookup_eq_fast]; kernel_rfl) (by decide +kernel) (by decide +kernel) (by decide +kernel)
    (by first | exact .inl (by decide +kernel) | exact .inr (by decide +kernel)) (by rw [isSubtype_type]; kernel_rfl)
theorem ba_get : Slot "bytearray" "__getitem__" "bytearray.__getitem__" :=
  .of (owner := "bytearray") (n := "__getitem__") (by rw [typeLookup_type, builtinLookup_eq_fast]; kernel_rfl) (by decide +kernel) (by decide +kernel) (by decide +kernel)
    (by first | exact .inl (by decide +kernel) | exact .inr (by decide +kernel)) (by rw [isSubtype_type]; kernel_rfl)
theorem ba_add : Slot "bytearray" "__add__" "bytearray.__add__" :=
  .of (owner := "bytearray") (n := "__add__") (by rw [typeLookup_type, builtinLookup_eq_fast]; kernel_rfl) (by decide +kernel) (by decide +kernel) (by decide +kernel)
    (by first | exact .inl (by decide +kernel) | exact .inr (by decide +kernel)) (by rw [isSubtype_type]; kernel_rfl)
theorem ba_entryLen : entryFor table "bytearray.__len__" = some Builtin.«bytearray.__len__» := entryFor_of_tree (by kernel_rfl)
theorem ba_entryGet : entryFor table "bytearray.__getitem__" = some Builtin.«bytearray.__getitem__» := entryFor_of_tree (by kernel_rfl)
theorem ba_entryAdd : entryFor table "bytearray.__add__" = some Builtin.«bytearray.__add__» := entryFor_of_tree (by kernel_rfl)
theorem ba_argsLen (a : Value) : argsOk "bytearray.__len__" ⟨[a], []⟩ := by unfold argsOk; kernel_rfl
theorem ba_argsGet (a b : Value) : argsOk "bytearray.__getitem__" ⟨[a, b], []⟩ := by unfold argsOk; kernel_rfl
theorem ba_argsAdd (a b : Value) : argsOk "bytearray.__add__" ⟨[a, b], []⟩ := by unfold argsOk; kernel_rfl
theorem ba_fill : fillsNumberSlot (.type "bytearray") "add" = pure false := by kernel_rfl
theorem by_fill : fillsNumberSlot (.type "bytes") "add" = pure false := by kernel_rfl
theorem ba_seq : seqSlot? (.type "bytearray") "__add__" = pure (some (.builtin "bytearray.__add__")) := by
  unfold seqSlot?
  rw [show typeLookup (.type "bytearray") "__add__" = pure (some (.builtin "bytearray.__add__")) from ba_add.lookup]
  rfl
section
variable {prog : Program} {w : World} {A : Around} {E : Value → Shared → Prop} {s : Shared}
theorem call_len_ba {a : Addr} {b : Array UInt8} {Q : Value → Shared → Prop} (ha : s.heap.get? a = some { cls := .type "bytearray", data := .bytearray b }) (hz : b.size ≤ sizeLine)
    (h : Q (.int b.size (s.toks + 1)) { s with toks := s.toks + 1 + 1 }) : wpAny (model prog w) A (call (.builtin "len") [.ref a]) Q E s := by
  have hT : s.TypeIs (.ref a) "bytearray" := ⟨_, ha, rfl⟩
  rw [sizeLine_eq] at hz
  refine Calls.call_function_entry kind_len plain_len entry_len (args_len1 _) ?_
  unfold Builtin.«len»
  refine wpAny_bind (m := oneArg "len" _) (wpAny_pure ?_)
  refine wpAny_bind (m := callSpecial? (.ref a) (Str.ofString "__len__")) (wpAny_callSpecial?_slot (name := Str.ofString "__len__") hT ba_len
    (wpAny_call_entry ba_len hT ba_entryLen ?_ (ba_argsLen _)))
  unfold Builtin.«bytearray.__len__»
  refine wpAny_bind (wpAny_of_eq (a := (Value.ref a, [])) rfl ?_)
  refine wpAny_bind (ba_payload ha (wpAny_bind (wpAny_mkInt (wpAny_pure ⟨_, rfl, ?_⟩))))
  refine wpAny_bind (wpAny_holding (wpAny_pure ?_))
  refine wpAny_bind (wpAny_letGo ?_)
  show wpAny _ _ (if ((b.size : Nat) : Int) < 0 then _ else _) _ _ _
  rw [if_neg (by exact aL 0x1080749001)]
  show wpAny _ _ (if ((b.size : Nat) : Int) ≥ 2 ^ 63 then _ else _) _ _ _
  rw [if_neg (by exact aL 0x11071888888888888888888888839188888888b00101 hz)]
  exact wpAny_bind (wpAny_mkInt (wpAny_pure ⟨_, rfl, h⟩))
theorem ba_getItem_int {a : Addr} {b : Array UInt8} {k : Int} {t : Tok} {x : UInt8} {Q : Value → Shared → Prop} (ha : s.heap.get? a = some { cls := .type "bytearray", data := .bytearray b }) (h0 : 0 ≤ k) (h1 : k < b.size) (hz : b.size ≤ sizeLine)
    (hx : b[k.toNat]? = some x) (h : Q (.int x.toNat s.toks) { s with toks := s.toks + 1 }) : wpAny (model prog w) A (getItem (.ref a) (.int k t)) Q E s := by
  have hT : s.TypeIs (.ref a) "bytearray" := ⟨_, ha, rfl⟩
  rw [sizeLine_eq] at hz
  refine wpAny_getItem_slot hT (by decide) ba_get (wpAny_call_entry ba_get hT ba_entryGet ?_ (ba_argsGet _ _))
  unfold Builtin.«bytearray.__getitem__»
  refine wpAny_bind (wpAny_of_eq (a := (Value.ref a, [.int k t])) rfl ?_)
  dsimp only
  refine wpAny_bind ?_
  unfold Builtin.Bytes.subscript?
  refine wpAny_bind (wpAny_specialOf (T := "int") (typeIs_int _ _ _) int_index ?_)
  rw [if_neg (by decide)]
  refine wpAny_bind (wpAny_of_eq (a := k) rfl ?_)
  rw [if_neg (by unfold Builtin.Bytes.fitsIndex; simp; exact aL 0x1011110011888888888888888888888804018888888888888888888888b36188888888b0007040083311 h0 h1 hz)]
  refine wpAny_pure ?_
  dsimp only
  refine wpAny_bind (ba_payload ha ?_)
  rw [seqIndex_in h0 h1]
  simp only [Option.bind_some, hx]
  refine wpAny_bind (wpAny_mkInt (wpAny_pure ?_))
  exact ⟨_, rfl, h⟩
theorem ba_getItem_slice {a x : Addr} {b : Array UInt8} {l u : Value} {lo hi : Option Int} {Q : Value → Shared → Prop} (ha : s.heap.get? a = some { cls := .type "bytearray", data := .bytearray b }) (hsl : s.heap.IsSliceOf x l u .none)
    (hl : IsPart l lo) (hu : IsPart u hi) (hz : b.size ≤ sizeLine)
    (h : Q (.ref s.heap.objs.size) { s with heap := s.heap.push { cls := .type "bytearray", data := .bytearray (KBy.picked b lo hi) } }) : wpAny (model prog w) A (getItem (.ref a) (.ref x)) Q E s := by
  have hT : s.TypeIs (.ref a) "bytearray" := ⟨_, ha, rfl⟩
  obtain ⟨o, ho, hc, hd⟩ := hsl
  have hS : s.TypeIs (.ref x) "slice" := ⟨o, ho, hc⟩
  refine wpAny_getItem_slot hT (by decide) ba_get (wpAny_call_entry ba_get hT ba_entryGet ?_ (ba_argsGet _ _))
  unfold Builtin.«bytearray.__getitem__»
  refine wpAny_bind (wpAny_of_eq (a := (Value.ref a, [.ref x])) rfl ?_)
  dsimp only
  refine wpAny_bind ?_
  unfold Builtin.Bytes.subscript?
  refine wpAny_bind (wpAny_specialOf hS sl_noindex (wpAny_pure ?_))
  refine wpAny_bind (wpAny_typeOf hS ?_)
  rw [if_neg (by decide)]
  refine wpAny_bind ?_
  unfold Builtin.Bytes.sliceParts
  refine wpAny_bind (wpAny_field (x := .none) ho hd rfl ?_)
  refine wpAny_bind (wpAny_of_eq (a := Value.none) rfl ?_)
  rw [if_neg (by decide)]
  have part : ∀ {v : Value} {i : Option Int} {R : Value → Shared → Prop}, IsPart v i → R (rawPart i) s → wpAny (model prog w) A.in1 (do
      if v == .none then return Value.none
      if (← specialOf v "__index__").isNone then
        rule "bytes.slice.part-no-index"; raiseError "TypeError" "slice indices must be integers or None or have an __index__ method"
      return rawInt (← asIndex v)) R E s := by
    intro v i R hp hr
    cases hp with
    | none => exact wpAny_pure hr
    | int i t =>
      rw [if_neg (show ¬ ((Value.int i t == Value.none) = true) from Bool.false_ne_true)]
      refine wpAny_bind (wpAny_specialOf (T := "int") (typeIs_int _ _ _) int_index ?_)
      rw [if_neg (by decide)]
      exact wpAny_bind (wpAny_of_eq (a := i) rfl (wpAny_pure hr))
  refine wpAny_bind (wpAny_field (x := l) ho hd rfl ?_)
  refine wpAny_bind (part hl ?_)
  refine wpAny_bind (wpAny_field (x := u) ho hd rfl ?_)
  refine wpAny_bind (part hu ?_)
  refine wpAny_pure ?_
  dsimp only
  refine wpAny_bind (ba_payload ha ?_)
  refine wpAny_bind (wpAny_of_eq (sliceIndices_raw lo hi none b.size (fun e => nomatch e)) ?_)
  refine wpAny_bind ?_
  unfold Builtin.Bytes.newBytearray
  refine wpAny_newObj_type (wpAny_pure ⟨_, rfl, h⟩) ?_
  exact Nat.le_trans (KBc.size_picked_le b lo hi) hz
theorem ba_addCall {a : Addr} {b v : Array UInt8} {y : Value} {Q : Value → Shared → Prop} (ha : s.heap.get? a = some { cls := .type "bytearray", data := .bytearray b })
    (hb : ∀ (A : Around) (E : Value → Shared → Prop) (Q : Option (Array UInt8) → Shared → Prop), Q (some v) s → wpAny (model prog w) A (Builtin.Bytes.buffer? "bytearray.__add__" y) Q E s) (hz : b.size + v.size ≤ sizeLine)
    (h : Q (.ref s.heap.objs.size) { s with heap := s.heap.push { cls := .type "bytearray", data := .bytearray (b ++ v) } }) : wpAny (model prog w) A (call (.builtin "bytearray.__add__") [.ref a, y]) Q E s := by
  have hT : s.TypeIs (.ref a) "bytearray" := ⟨_, ha, rfl⟩
  refine wpAny_call_entry ba_add hT ba_entryAdd ?_ (ba_argsAdd _ _)
  unfold Builtin.«bytearray.__add__»
  refine wpAny_bind (wpAny_of_eq (a := (Value.ref a, [y])) rfl ?_)
  dsimp only
  refine wpAny_bind (buf_barr ha ?_)
  dsimp only
  refine wpAny_bind ?_
  unfold Builtin.Bytes.bufferQuiet?
  refine wpAny_bind (wpAny_attempt (hb _ _ _ (wpAny_pure ?_)))
  dsimp only
  rw [if_neg (by unfold Builtin.Bytes.tooLong; simp; omega)]
  refine wpAny_bind ?_
  unfold Builtin.Bytes.newBytearray
  refine wpAny_newObj_type (wpAny_pure ⟨_, rfl, h⟩) ?_
  show (b ++ v).size ≤ sizeLine
  rw [Array.size_append]; exact hz
theorem ba_concat_by {a : Addr} {b v : Array UInt8} {t : Tok} {Q : Value → Shared → Prop} (ha : s.heap.get? a = some { cls := .type "bytearray", data := .bytearray b }) (hz : b.size + v.size ≤ sizeLine)
    (h : Q (.ref s.heap.objs.size) { s with heap := s.heap.push { cls := .type "bytearray", data := .bytearray (b ++ v) } }) : wpAny (model prog w) A (binaryOp .Add (.ref a) (.bytes v t)) Q E s := by
  have hT : s.TypeIs (.ref a) "bytearray" := ⟨_, ha, rfl⟩
  unfold binaryOp
  refine wpAny_holding ?_
  show wpAny _ _ (binaryOp1 "add" (.ref a) (.bytes v t) >>= _) _ _ _
  refine wpAny_bind ?_
  unfold binaryOp1
  refine wpAny_bind (wpAny_typeOf hT (wpAny_bind (wpAny_typeOf (typeIs_bytes s v t) ?_)))
  refine wpAny_bind (wpAny_of_eq ba_fill ?_)
  show wpAny _ _ (fillsNumberSlot (.type "bytes") "add" >>= _) _ _ _
  refine wpAny_bind (wpAny_of_eq by_fill ?_)
  show wpAny _ _ (pure none) _ _ _
  refine wpAny_pure ?_
  dsimp only
  refine wpAny_bind (wpAny_typeOf hT ?_)
  refine wpAny_bind (wpAny_of_eq ba_seq ?_)
  exact wpAny_bind (wpAny_rule (ba_addCall ha (fun A E Q q => buf_bytes q) hz h))
theorem ba_concat_ba {a d : Addr} {b v : Array UInt8} {Q : Value → Shared → Prop} (ha : s.heap.get? a = some { cls := .type "bytearray", data := .bytearray b }) (hd : s.heap.get? d = some { cls := .type "bytearray", data := .bytearray v }) (hz : b.size + v.size ≤ sizeLine)
    (h : Q (.ref s.heap.objs.size) { s with heap := s.heap.push { cls := .type "bytearray", data := .bytearray (b ++ v) } }) : wpAny (model prog w) A (binaryOp .Add (.ref a) (.ref d)) Q E s :=
  wpAny_binaryOp_concat (T := "bytearray") ⟨_, ha, rfl⟩ ⟨_, hd, rfl⟩ ba_fill ba_seq (ba_addCall ha (fun A E Q q => buf_barr hd q) hz h)
theorem call_bytes_ba {a : Addr} {b : Array UInt8} {Q : Value → Shared → Prop} (ha : s.heap.get? a = some { cls := .type "bytearray", data := .bytearray b }) (hz : b.size ≤ sizeLine)
    (h : ∀ t k, Q (.bytes b t) { s with toks := k }) : wpAny (model prog w) A (call (.type "bytes") [.ref a]) Q E s := by
  have hT : s.TypeIs (.ref a) "bytearray" := ⟨_, ha, rfl⟩
  have new : codeAny (model prog w) A.in1 (.call (.builtin "bytes.__new__") ⟨[.type "bytes", .ref a], []⟩) (wants (fun obj s₁ => s₁.TypeIs obj "bytes" ∧ Q obj s₁) E) s := by
    refine codeAny_of_tree ?_
    show wpAny _ A.in1.in1 (do checkBuiltinCall "bytes.__new__" ⟨[.type "bytes", .ref a], []⟩; again (.builtin "bytes.__new__" ⟨[.type "bytes", .ref a], []⟩)) _ _ s
    refine wpAny_bind (wpAny_of_eq (F.bm_newCall _) (wpAny_pure ⟨plainId_quiet F.bm_plain _, codeAny_builtin F.bm_entry ?_⟩))
    rw [Around.under_plainId F.bm_plain _]
    unfold Builtin.«bytes.__new__»
    refine wpAny_bind (wpAny_of_eq (a := true) rfl ?_)
    refine wpAny_bind (wpAny_of_eq F.bm_sub ?_)
    refine wpAny_bind (wpAny_of_eq (F.bm_bind _) ?_)
    refine wpAny_bind (wpAny_of_eq (a := ()) rfl ?_)
    refine wpAny_bind (wpAny_of_eq (a := ()) rfl ?_)
    refine wpAny_bind (wpAny_specialOf hT ba_nobytes ?_)
    refine wpAny_bind (wpAny_bind ?_)
    show wpAny _ _ (load a >>= _) _ _ _
    refine wpAny_bind (wpAny_load ha (wpAny_pure (wpAny_pure ?_)))
    refine wpAny_bind (wpAny_specialOf hT ba_noindex ?_)
    rw [if_pos (show (Option.isNone (none : Option Value)) = true from rfl)]
    show wpAny _ _ (Builtin.Bytes.buffer? "bytes.__new__" (.ref a) true >>= _) _ _ _
    refine wpAny_bind (buf_barr ha ?_)
    dsimp only
    refine wpAny_bind (wpAny_rule (wpAny_bind (wpAny_mkBytes ?_ hz)))
    exact wpAny_pure ⟨typeIs_bytes _ _ _, h _ _⟩
  refine callType_codes (Q₁ := fun obj s₁ => s₁.TypeIs obj "bytes" ∧ Q obj s₁) F.bm_called (F.bm_typeCall _) F.entry_object_init new fun obj s₁ h₁ => ?_
  exact ⟨h₁.1, F.args_object_init_2 obj _, object_init_meets F.bm_called.init.lookup F.bm_called.made (by decide) prog w A.in1 _ s₁ ⟨h₁.1, rfl, h₁.2⟩⟩
end
section
variable {c : Cx} {S : St} {s : Shared} {k : Nat}
theorem Sat.ba (h : Sat c S s) {a : Addr} {b : List UInt8} (ha : S.H a = some (.barr b)) : s.heap.get? a = some { cls := .type "bytearray", data := .bytearray b.toArray } := by
  obtain ⟨⟨ob, g, i⟩, _⟩ := h.H a _ ha
  cases i; exact g
theorem len_ba {a : Addr} {b : List UInt8} {Q : TV → St → Prop} (ha : S.H a = some (.barr b)) (hz : b.length ≤ 100000) (h : Q (.int b.length) S) : CALLX c (.bt "len") [.ref a] Q S := by
  intro vf vs s hf hvs hs
  cases er_bt hf
  rcases vs with _ | ⟨x, _ | _⟩ <;> simp at hvs
  cases er_ref hvs
  refine call_len_ba (hs.ba ha) (by rw [sizeLine_eq, List.size_toArray]; exact aL 0x11188888888b0038bac8b00101 hz) ⟨S, hs.tok _, ?_⟩
  show Q (.int (b.toArray.size : Nat)) S
  rw [List.size_toArray]; exact h
theorem len_by {b : List UInt8} {Q : TV → St → Prop} (hz : b.length ≤ 100000) (h : Q (.int b.length) S) : CALLX c (.bt "len") [.bytes b] Q S := by
  intro vf vs s hf hvs hs
  cases er_bt hf
  rcases vs with _ | ⟨x, _ | _⟩ <;> simp at hvs
  obtain ⟨t, rfl⟩ := er_bytes hvs
  refine KBw.len_K (ks := KBw.bInts b.toArray) rfl (by rw [KBw.ints_length, List.size_toArray]; exact aL 0x1128888888888888b0038bac8b00101 hz) ⟨S, hs.tok _, ?_⟩
  show Q (.int ((KBw.bInts b.toArray).length : Nat)) S
  rw [KBw.ints_length, List.size_toArray]; exact h
theorem sub_ba {value slice : Expr} {a : Addr} {b : List UInt8} {i : Int} {Q : TV → St → Prop} (ha : S.H a = some (.barr b)) (hz : b.length ≤ 100000) (h0 : 0 ≤ i) (h1 : i < b.length) (h : Q (.int (b.getD i.toNat 0).toNat) S)
    (hs' : ∀ t, subscripted slice false (.ref a) (.int i t) = operate [.ref a, .int i t] (getItem (.ref a) (.int i t)) := by intro _; with_unfolding_all rfl) : SUBSCR c value slice (.ref a) (.int i) Q S := by
  intro va vi h2 h3 s hs
  cases er_ref h2
  obtain ⟨t, rfl⟩ := er_int h3
  have g := hs.ba ha
  have hlt : i.toNat < b.length := by exact aL 0x11100110101101108030b1260175707040083312 h0 h1 (aT _)
  refine tail_any (T := "bytearray") ⟨_, g, rfl⟩ ba_get.lookup (ba_getItem_int g h0 (by rw [List.size_toArray]; exact h1) (by rw [sizeLine_eq, List.size_toArray]; exact aL 0x11188888888b0038bac8b00101 hz) (x := b[i.toNat]) (by simp [hlt]) ⟨S, hs.tok _, ?_⟩) (hs' t)
  have e : b.getD i.toNat 0 = b[i.toNat] := by simp [List.getD, hlt]
  rw [e] at h
  exact h
theorem slice_ba {value slice : Expr} {a : Addr} {b ys : List UInt8} {lo hi : Option Int} {Q : TV → St → Prop} (ha : S.H a = some (.barr b)) (hz : b.length ≤ 100000)
    (hy : (b.drop (lo.elim 0 (clipAt b.length))).take (hi.elim b.length (clipAt b.length) - lo.elim 0 (clipAt b.length)) = ys) (h : ∀ a', S.H a' = none → Q (.ref a') { S with H := upd S.H a' (.barr ys) })
    (hs' : ∀ x, subscripted slice false (.ref a) (.ref x) = operate [.ref x, .ref a] (getItem (.ref a) (.ref x)) := by intro _; with_unfolding_all rfl) : SLICE c value slice (.ref a) lo hi Q S := by
  intro vo vl vu s ho pl pu hs
  cases er_ref ho
  have g := hs.ba ha
  have h1 : Sat c S { s with heap := s.heap.push { cls := .type "slice", data := .fields #[vl, vu, .none] } } := hs.ext (s' := { s with heap := s.heap.push _ }) (fun b o q => Heap.get?_push_of_some _ q) rfl rfl
  have g1 := h1.ba ha
  refine tail_any (T := "bytearray") (s := { s with heap := s.heap.push { cls := .type "slice", data := .fields #[vl, vu, .none] } }) ⟨_, g1, rfl⟩ ba_get.lookup
    (ba_getItem_slice (s := { s with heap := s.heap.push { cls := .type "slice", data := .fields #[vl, vu, .none] } }) g1 (Heap.IsSliceOf.new ..) pl pu (by rw [sizeLine_eq, List.size_toArray]; exact aL 0x11188888888b0038bac8b00101 hz) ⟨_, h1.push (ao := .barr ys) rfl ?_, h _ h1.freshN⟩) (hs' _)
  show _ = _
  rw [KBc.picked_eq]
  simp only [List.size_toArray, hy]
theorem add_ba_by {a : Addr} {b v : List UInt8} {Q : TV → St → Prop} (ha : S.H a = some (.barr b)) (hz : b.length + v.length ≤ 100000) (h : ∀ a', S.H a' = none → Q (.ref a') { S with H := upd S.H a' (.barr (b ++ v)) }) : BINOP c .Add (.ref a) (.bytes v) Q S := by
  intro va vb h1 h2 s hs
  cases er_ref h1
  obtain ⟨t, rfl⟩ := er_bytes h2
  exact ba_concat_by (hs.ba ha) (by rw [sizeLine_eq, List.size_toArray, List.size_toArray]; exact aL 0x11188888888b10c038bac8b10c0102 hz) ⟨_, hs.push (ao := .barr (b ++ v)) rfl (by show _ = _; simp), h _ hs.freshN⟩
theorem add_ba_ba {a d : Addr} {b v : List UInt8} {Q : TV → St → Prop} (ha : S.H a = some (.barr b)) (hd : S.H d = some (.barr v)) (hz : b.length + v.length ≤ 100000) (h : ∀ a', S.H a' = none → Q (.ref a') { S with H := upd S.H a' (.barr (b ++ v)) }) : BINOP c .Add (.ref a) (.ref d) Q S := by
  intro va vb h1 h2 s hs
  cases er_ref h1
  cases er_ref h2
  exact ba_concat_ba (hs.ba ha) (hs.ba hd) (by rw [sizeLine_eq, List.size_toArray, List.size_toArray]; exact aL 0x11188888888b10c038bac8b10c0102 hz) ⟨_, hs.push (ao := .barr (b ++ v)) rfl (by show _ = _; simp), h _ hs.freshN⟩
theorem call_bytes' {a : Addr} {b : List UInt8} {Q : TV → St → Prop} (ha : S.H a = some (.barr b)) (hz : b.length ≤ 100000) (h : Q (.bytes b) S) : CALLX c (.type "bytes") [.ref a] Q S := by
  intro vf vs s hf hvs hs
  cases er_type hf
  rcases vs with _ | ⟨x, _ | _⟩ <;> simp at hvs
  cases er_ref hvs
  exact call_bytes_ba (hs.ba ha) (by rw [sizeLine_eq, List.size_toArray]; exact aL 0x11188888888b0038bac8b00101 hz) fun t k => ⟨S, hs.tok _, h⟩
end
end
end Mine
end
section
open PySem PySem.W PyProof.Rows PySem.Calls
set_option maxRecDepth 1000000
set_option maxHeartbeats 4000000
namespace Mine
noncomputable section
/-- the octets of a number, the greatest first; and the number of octets -/
noncomputable def beB (k : Nat) (x : Int) : List UInt8 := ((KTBy.little k x).reverse).map fun i => i.toNat.toUInt8
noncomputable def vB (b : List UInt8) : Int := KFB.value (b.map fun c => (c.toNat : Int))
theorem beB_of {b : Array UInt8} {k : Nat} {x : Int} (h : KBw.bInts b = (KTBy.little k x).reverse) : b.toList = beB k x := by
  unfold beB
  rw [← h]
  unfold KBw.bInts
  rw [List.map_map]
  have : ∀ c : UInt8, ((fun i : Int => i.toNat.toUInt8) ∘ fun c : UInt8 => (c.toNat : Int)) c = c := fun c => by
    show ((c.toNat : Int).toNat).toUInt8 = c
    rw [Int.toNat_natCast]
    exact UInt8.ofNat_toNat
  rw [List.map_congr_left fun c _ => this c, List.map_id']
section
variable {c : Cx} {S : St} {s : Shared} {k : Nat}
theorem gm_to_bytes {x : Int} {Q : TV → List TV → St → Prop} (h : Q (.bt "int.to_bytes") [.int x] S) : GETM c (.int x) "to_bytes" Q S := by
  intro pl vo ho s hs
  obtain ⟨t, rfl⟩ := er_int ho
  exact KTBy.method ⟨S, hs, h⟩
theorem call_to_bytes {x n : Int} {Q : TV → St → Prop} (k : Nat) (hn : n = (k : Int)) (hk : k ≤ 8) (h0 : 0 ≤ x) (h1 : x < 256 ^ k) (h : Q (.bytes (beB k x)) S) : CALLX c (.bt "int.to_bytes") [.int x, .int n, .str "big"] Q S := by
  intro vf vs s hf hvs hs
  subst hn
  cases er_bt hf
  rcases vs with _ | ⟨a, _ | ⟨b, _ | ⟨d, _ | _⟩⟩⟩ <;> simp at hvs
  obtain ⟨t, rfl⟩ := er_int hvs.1
  obtain ⟨u, rfl⟩ := er_int hvs.2.1
  obtain ⟨v, rfl⟩ := er_str hvs.2.2
  refine KTBy.to_big hk rfl h0 h1 fun b t' k' e _ => ⟨S, hs.tok _, ?_⟩
  show Q (.bytes b.toList) S
  rw [beB_of e]; exact h
theorem gm_from_bytes {Q : TV → List TV → St → Prop} (hw : Well c)
    (e : findCls (KK c.w) (.type "int") (.type "type") (PySem.Str.ofString "from_bytes") = some (.get (.builtin "classmethod_descriptor.__get__") (.builtin "int.from_bytes") .none (.type "int")))
    (h : ∀ x, S.H x = none → Q (.ref x) [] { S with H := upd S.H x (.raw KFB.bound) }) : GETM c (.type "int") "from_bytes" Q S := by
  intro pl vo ho s hs
  cases er_type ho
  obtain ⟨mm, F, N, V⟩ := hs.viaNew
  refine KFB.getm F N hw.K e fun x h' F' N' l1 => ?_
  have V1 := V { s with heap := h', toks := s.toks + 1 } [(x, KFB.bound)] F' N' rfl rfl
  have nx := N' (x, KFB.bound) (.head _)
  have fx : S.H x = none := by
    cases z : S.H x with
    | none => rfl
    | some o =>
      obtain ⟨⟨ob, g, _⟩, r1, _, r3⟩ := hs.H x o z
      exact absurd (l1 (x, ob) (mem_allNews.mpr ⟨g, r3, r1⟩)) (Nat.lt_irrefl _)
  have bx : c.base.get? x = none := by
    cases z : c.base.get? x with
    | none => rfl
    | some o => exact absurd (l1 (x, o) (mem_allNews.mpr ⟨hs.base _ _ z, nx.2.1, nx.2.2⟩)) (Nat.lt_irrefl _)
  exact ⟨_, V1.know (ao := .raw KFB.bound) nx.1 rfl nx.2.2 bx nx.2.1, h x fx⟩
theorem callw_bound {u : Addr} {e : Expr} {rest : List Expr} {Q : TV → St → Prop} (h : ARGS c (e :: rest) (fun vs S₁ => S₁.H u = some (.raw KFB.bound) ∧ CALLX c (.ref u) vs Q S₁) S)
    (hn : starEach (e :: rest) c.env = (false, eval e c.env) :: starEach rest c.env := by rfl) (hm : ∀ pos, (backTo pos (starEach rest c.env)).any (fun x => x.1) = false := by intro _; rfl) :
    CALLW c (.ref u) [] (e :: rest) [] Q S := by
  intro pos vf vfirst hf hfi s hs
  cases er_ref hf
  cases (List.map_eq_nil_iff.mp hfi)
  have h' := h pos
  show wpAny _ _ (callWith pos (.ref u) [] (backTo pos (starEach (e :: rest) c.env)) []) _ _ s
  rw [hn] at h' ⊢
  refine KFB.callWith_fields (by show (false || (backTo pos (starEach rest c.env)).any (·.1)) = false; rw [hm]; rfl) ?_
  refine evalArgs_plain (k1 h' hs fun vs S₁ s₁ hs₁ ⟨hu, q⟩ => ⟨?_, q _ _ s₁ rfl rfl hs₁⟩)
  obtain ⟨⟨ob, g, i⟩, _⟩ := hs₁.H u _ hu
  cases i; exact g
theorem call_from_bytes {u : Addr} {b : List UInt8} {Q : TV → St → Prop} (hu : S.H u = some (.raw KFB.bound)) (hl : b.length ≤ 8) (h : Q (.int (vB b)) S) : CALLX c (.ref u) [.bytes b, .str "big"] Q S := by
  intro vf vs s hf hvs hs
  cases er_ref hf
  rcases vs with _ | ⟨x, _ | ⟨y, _ | _⟩⟩ <;> simp at hvs
  obtain ⟨t, rfl⟩ := er_bytes hvs.1
  obtain ⟨v, rfl⟩ := er_str hvs.2
  obtain ⟨⟨ob, g, i⟩, _⟩ := hs.H u _ hu
  cases i
  have e : KFB.value (KBw.bInts b.toArray) = vB b := by unfold vB KBw.bInts; rfl
  exact KFB.call_of g (fun p => KFB.tree_big (by rw [List.size_toArray]; exact hl) p) ⟨S, hs.tok _, by show Q (.int (KFB.value (KBw.bInts b.toArray))) S; rw [e]; exact h⟩

/-! more of sets, dicts -/
theorem pv_dict0 {pos : Pos} {Q : TV → St → Prop} (h : ∀ d, S.H d = none → Q (.ref d) { S with H := upd S.H d (.dict []) }) : PV c (eval (.Dict [] [] pos) c.env) Q S :=
  fun s hs => wpAny_Dict_empty ⟨_, hs.push (ao := .dict []) rfl ⟨[], 0, rfl, trivial⟩, h _ hs.freshN⟩
theorem set_noBool : typeLookup (.type "set") "__bool__" = pure none := by rw [typeLookup_type, builtinLookup_eq_fast]; kernel_rfl
theorem t_set {a : Addr} {xs : List Int} {Q : Bool → St → Prop} (ha : S.H a = some (.iset xs)) (h : Q (decide (xs ≠ [])) S) : TRUTHY c (.ref a) Q S := by
  intro va hv s hs
  cases er_ref hv
  obtain ⟨⟨ob, g, es, ep, t, rfl, ⟨n1, n2, n3, n4, n5⟩, ft, _, _⟩, _⟩ := hs.H a _ ha
  have hT : s.TypeIs (.ref a) "set" := ⟨_, g, rfl⟩
  have hb : es.size < 4096 := n5
  have hne : ((es.size : Int) != 0) = decide (xs ≠ []) := by
    rw [n4]
    cases xs <;> simp
    exact aL 0x10807e59001
  have key : wpAny (model PG c.w) c.A (runValue (.builtin "len" ⟨[.ref a], []⟩)) (fun r s' => r = .int es.size (s.toks + 1) ∧ s' = { s with toks := s.toks + 1 + 1 }) (fun _ _ => False) s := by
    refine wpAny_runValue (codeAny_builtin entry_len ?_)
    rw [Around.under_plainId plain_len _]
    exact wpAny_mono (wpAny_len_body_set (Q := fun r s' => r = .int es.size (s.toks + 1) ∧ s' = { s with toks := s.toks + 1 + 1 }) g ⟨rfl, rfl, rfl⟩ rfl ft (by exact aL 0x111888888888888888888888807418888b01101 hb) ⟨rfl, rfl⟩)
      (fun fin s' h' => by obtain ⟨r, rfl, hq⟩ := h'; exact hq) fun _ _ e => e
  unfold truthy
  first
    | refine wpAny_bind (wpAny_callSpecial?_none (name := Str.ofString "__bool__") hT set_noBool ?_)
    | refine wpAny_bind (wpAny_pure (wpAny_bind (wpAny_callSpecial?_none (name := Str.ofString "__bool__") hT set_noBool ?_)))
  first
    | refine wpAny_bind (wpAny_specialOf (name := Str.ofString "__len__") hT F.slot_set_len.lookup ?_)
    | refine wpAny_bind (wpAny_pure (wpAny_bind (wpAny_specialOf (name := Str.ofString "__len__") hT F.slot_set_len.lookup ?_)))
  have fin : wpAny (model PG c.w) c.A (match Value.int es.size (s.toks + 1) with | .int n _ => (pure (n != 0) : Sem Bool) | _ => unsupported "internal:truth.len") (fun v s' => ∃ S', Sat c S' s' ∧ Q v S') (fun _ _ => False) { s with toks := s.toks + 1 + 1 } :=
    wpAny_pure ⟨S, hs.tok _, by rw [hne]; exact h⟩
  first
    | exact wpAny_bind (wpAny_mono key (fun r s' h' => by obtain ⟨rfl, rfl⟩ := h'; exact fin) fun _ _ e => e)
    | exact wpAny_bind (wpAny_pure (wpAny_bind (wpAny_mono key (fun r s' h' => by obtain ⟨rfl, rfl⟩ := h'; exact fin) fun _ _ e => e)))
end
theorem kf_from (w : World) : findCls (KK w) (.type "int") (.type "type") (PySem.Str.ofString "from_bytes") = some (.get (.builtin "classmethod_descriptor.__get__") (.builtin "int.from_bytes") .none (.type "int")) := by kernel_rfl
theorem sp_in (w : World) : specB (KK w) 179 "__contains__" 176 = true := by kernel_rfl
theorem sp_len (w : World) : specB (KK w) 146 "__len__" 143 = true := by kernel_rfl
theorem sp_get (w : World) : specB (KK w) 146 "__getitem__" 129 = true := by kernel_rfl
theorem sp_iter (w : World) : specB (KK w) 146 "__iter__" 136 = true := by kernel_rfl
theorem fn_get (w : World) : fnIn (KK w) 129 = true := by kernel_rfl
theorem pr_data (w : World) : propB (KK w) 377 "data" 262 261 = true := by kernel_rfl
end
end Mine
end
section
open PySem PySem.W PyProof.Rows PySem.Calls
set_option maxRecDepth 100000
set_option maxHeartbeats 4000000
namespace Mine
noncomputable section
/-- a comprehension's own environment -/
noncomputable abbrev compEnv (env : Env) (scope : Scope) (cl : List (Str × Addr)) (L : Addr) : Env :=
  { scope := scope, locals := L, globals := env.globals, cells := cl, qual := env.qual, func := none, code := env.code, frame := env.frame, builtins := env.builtins }
noncomputable def keepHM (c : Cx) : HM := fun b => if b = c.L ∨ (c.base.get? b).isSome = true then none else some (.list [])
section
variable {c : Cx} {S : St} {s : Shared}
theorem keep_get {h : Heap} {b : Addr} {o : Obj} (e : (baseOf h (keepHM c)).get? b = some o) : h.get? b = some o ∧ (b = c.L ∨ (c.base.get? b).isSome = true) := by
  obtain ⟨g, z⟩ := baseOf_get.mp e
  refine ⟨g, ?_⟩
  unfold keepHM at z
  by_cases q : b = c.L ∨ (c.base.get? b).isSome = true
  · exact q
  · rw [if_neg q] at z; cases z
/-- into a comprehension: a new dict of locals, the frame's own namespace put among what is kept -/
theorem Sat.enterC (h : Sat c S s) {e : Env} {h' : Heap} {tk : Nat} {m₀ : List (Str × TV)} {mm : Str → Option Value} (hL : e.locals = s.heap.objs.size) (hn : h'.Ns e.locals mm) (hm : ∀ x, (mm x).map er = m₀.lookup x) (hk : ∀ b o, s.heap.get? b = some o → h'.get? b = some o) :
    Sat (c.alt e (baseOf s.heap (keepHM c))) { S with m := m₀ } { s with heap := h', toks := tk } := by
  obtain ⟨_, F, _⟩ := h.fr
  refine ⟨⟨mm, ⟨hn, fun b o g => hk _ _ (F.keep b o g), by show c.h₁.objs.size ≤ e.locals; rw [hL]; exact Nat.le_trans F.above (Nat.le_of_lt h.Llt)⟩, hm⟩, fun b o g => hk _ _ (keep_get g).1, ?_, fun a o q => ?_, h.g, h.os⟩
  · show (baseOf s.heap (keepHM c)).get? e.locals = none
    cases z : (baseOf s.heap (keepHM c)).get? e.locals with
    | none => rfl
    | some o => have := Heap.lt_size (keep_get z).1; rw [hL] at this; exact absurd this (Nat.lt_irrefl _)
  · obtain ⟨⟨ob, q1, q2⟩, r1, r2, r3⟩ := h.H a o q
    refine ⟨⟨ob, hk _ _ q1, q2⟩, r1, ?_, by show a ≠ e.locals; rw [hL]; exact Nat.ne_of_lt (Heap.lt_size q1)⟩
    show (baseOf s.heap (keepHM c)).get? a = none
    cases z : (baseOf s.heap (keepHM c)).get? a with
    | none => rfl
    | some o' =>
      rcases (keep_get z).2 with e1 | e1
      · exact absurd e1 r3
      · rw [r2] at e1; cases e1
theorem Sat.leaveC (h : Sat c S s) {e : Env} {S' : St} {s' : Shared} (hL : e.locals = s.heap.objs.size) (h2 : Sat (c.alt e (baseOf s.heap (keepHM c))) S' s') {h' : Heap} (hsb : Heap.SameBut e.locals s'.heap h') :
    Sat c { S' with m := S.m } { s' with heap := h' } := by
  obtain ⟨mm, F, em⟩ := h.fr
  have hlt := h.Llt
  have nL : c.L ≠ e.locals := by rw [hL]; exact Nat.ne_of_lt hlt
  have low : ∀ b o, s.heap.get? b = some o → b ≠ e.locals := fun b o g => by rw [hL]; exact Nat.ne_of_lt (Heap.lt_size g)
  have kp : ∀ b o, s.heap.get? b = some o → (b = c.L ∨ (c.base.get? b).isSome = true) → h'.get? b = some o := fun b o g z => by
    rw [hsb.2 b (low b o g)]
    refine h2.base b o (baseOf_get.mpr ⟨g, ?_⟩)
    unfold keepHM; rw [if_pos z]
  obtain ⟨_, F2, _⟩ := h2.fr
  refine ⟨⟨mm, Fr.ofKeep F (fun o g => kp _ _ g (.inl rfl)) (fun b o g => ?_), em⟩, fun b o g => kp _ _ (h.base b o g) (.inr (by rw [g]; rfl)), h.baseL, fun a o q => ?_, h2.g, h2.os⟩
  · rw [hsb.2 b (low b o (F.keep b o g))]; exact F2.keep b o g
  · obtain ⟨⟨ob, q1, q2⟩, r1, r2, r3⟩ := h2.H a o q
    replace r2 : (baseOf s.heap (keepHM c)).get? a = none := r2
    refine ⟨⟨ob, by show h'.get? a = _; rw [hsb.2 a r3]; exact q1, q2⟩, r1, ?_, ?_⟩
    · cases z : c.base.get? a with
      | none => rfl
      | some x =>
        have : (baseOf s.heap (keepHM c)).get? a = some x := baseOf_get.mpr ⟨h.base _ _ z, by unfold keepHM; rw [if_pos (.inr (by rw [z]; rfl))]⟩
        rw [r2] at this; cases this
    · rintro rfl
      obtain ⟨o', _, _, g', _⟩ := F.ns
      have : (baseOf s.heap (keepHM c)).get? c.L = some o' := baseOf_get.mpr ⟨g', by unfold keepHM; rw [if_pos (.inl rfl)]⟩
      rw [r2] at this; cases this
theorem Free.enterC {b : Addr} (fr : Free c S b) {e : Env} {m₀ : List (Str × TV)} (hL : e.locals = s.heap.objs.size) (hb : ∃ o, s.heap.get? b = some o) : Free (c.alt e (baseOf s.heap (keepHM c))) { S with m := m₀ } b := by
  obtain ⟨o, g⟩ := hb
  refine ⟨fr.H, ?_, fr.h₁, by show b ≠ e.locals; rw [hL]; exact Nat.ne_of_lt (Heap.lt_size g)⟩
  show (baseOf s.heap (keepHM c)).get? b = none
  cases z : (baseOf s.heap (keepHM c)).get? b with
  | none => rfl
  | some o' =>
    rcases (keep_get z).2 with e1 | e1
    · exact absurd e1 fr.L
    · rw [fr.base] at e1; cases e1

theorem pv_lcomp {elt iter : Expr} {x : Str} {px pos : Pos} {scope : Scope} {Q : TV → St → Prop} (hw : Well c) (hA : c.A.handled = none)
    (hfree : ∀ y ∈ scope.names, y.2 ≠ .free) (hcellf : ∀ y ∈ scope.names, y.2 ≠ .cell) (hkind : scope.kind = .function) (hnames : ∀ y ∈ scope.names, y.2 = .local → scope.names.lookup y.1 = some .local)
    (h : PV c (eval iter c.env) (fun v S₀ => ∃ (N : Nat) (item : Nat → TV) (J : Nat → St → Prop) (S₁ : St), StepsC c (.Name x px) v N (fun k => .one (item k)) J S₀ S₁ ∧
      ∀ acc, S₁.H acc = none → ∃ I : Nat → St → Prop, (∀ k S, I k S → J k S) ∧ I 0 { S₁ with m := [], H := upd S₁.H acc (.list []) } ∧
        (∀ k S₂ L b, k < N → I k S₂ → Well { c with env := compEnv c.env scope [] L, base := b } → STORE { c with env := compEnv c.env scope [] L, base := b } x (item k) (fun S₃ =>
          PV { c with env := compEnv c.env scope [] L, base := b } (eval elt (compEnv c.env scope [] L)) (fun y S₄ => ∃ ys, S₄.H acc = some (.list ys) ∧ ys.length ≤ sizeLine ∧ I (k + 1) { S₄ with H := upd S₄.H acc (.list (ys ++ [y])) }) S₃) S₂) ∧
        (∀ S₂, I N S₂ → Q (.ref acc) { S₂ with m := S₁.m })) S)
    (hs : ∀ x, foldedSetIterable iter c.env x = pure x := by intro _; rfl) : PV c (eval (.ListComp elt [⟨.Name x px, iter, [], 0⟩] scope pos) c.env) Q S := by
  intro s hs₀
  refine wpAny_ListComp hfree hkind hnames (k1 h hs₀ fun v₀ S₀ s₁ hs₁ H0 => ?_) hs
  obtain ⟨N, item, J, S₁, ⟨IS, ⟨i1, i2, i3, i4, i5⟩, i6⟩, rest⟩ := H0
  refine i3 v₀ s₁ _ rfl hs₁ fun own it s₂ hs₂ fr is0 => ?_
  unfold newList
  refine wpAny_newObj_type ?_ (by size_fits)
  obtain ⟨I, iJ, I0, turn, done⟩ := rest s₂.heap.objs.size hs₂.freshN
  have hs₃ : Sat c { S₁ with H := upd S₁.H s₂.heap.objs.size (.list []) } { s₂ with heap := s₂.heap.push { cls := .type "list", data := .seq #[] } } := hs₂.push (ao := .list []) rfl ⟨#[], 0, rfl, rfl⟩
  have ex₂ := i1 own it 0 _ _ is0
  have fr₃ : ∀ b ∈ own, Free c { S₁ with H := upd S₁.H s₂.heap.objs.size (.list []) } b := fun b hb => by
    obtain ⟨o, g⟩ := ex₂ b hb
    exact ⟨by show upd _ _ _ b = none; rw [upd_ne (Nat.ne_of_lt (Heap.lt_size g))]; exact (fr b hb).H, (fr b hb).base, (fr b hb).h₁, (fr b hb).L⟩
  have is₃ : IS own it 0 (s₂.heap.push { cls := .type "list", data := .seq #[] }) s₂.gens := i2 own it 0 _ _ _ _ is0 (fun b hb o g => Heap.get?_push_of_some _ g) fun _ _ z => z
  have ex₃ := i1 own it 0 _ _ is₃
  generalize s₂.heap.push { cls := .type "list", data := .seq #[] } = hp₃ at *
  refine wpAny_newFunctionEnv hcellf (by intro b hb; cases hb) (fun h₄ hns hsb => ?_) hkind
  have hk₄ : ∀ b o, hp₃.get? b = some o → h₄.get? b = some o := fun b o g => hsb.extBut b o (Nat.ne_of_lt (Heap.lt_size g)) (Heap.get?_push_of_some _ g)
  have hs₄ := hs₃.enterC (e := compEnv c.env scope [] hp₃.objs.size) (tk := s₂.toks + ([] : List (Str × Value)).length) (m₀ := []) rfl hns (by intro x; simp) hk₄
  have fr₄ : ∀ b ∈ own, Free (c.alt (compEnv c.env scope [] hp₃.objs.size) (baseOf hp₃ (keepHM c))) { S₁ with m := [], H := upd S₁.H s₂.heap.objs.size (.list []) } b := fun b hb => (fr₃ b hb).enterC (s := { s₂ with heap := hp₃ }) rfl (ex₃ b hb)
  have is₄ : IS own it 0 h₄ s₂.gens := i2 own it 0 _ _ _ _ is₃ (fun b hb o g => hk₄ _ _ g) fun _ _ z => z
  have main : codeAny (model PG c.w) c.A (.compLoop (.ListComp elt [⟨.Name x px, iter, [], 0⟩] scope pos) 0 (.ref it) (.ref s₂.heap.objs.size) (compEnv c.env scope [] hp₃.objs.size))
      (fun r s' => ∃ m, s'.heap.Ns hp₃.objs.size m ∧ ∀ h', Heap.SameBut hp₃.objs.size s'.heap h' → match r with
        | .ok _ => ∃ S', Sat c S' { s' with heap := h' } ∧ Q (.ref s₂.heap.objs.size) S'
        | .error x => wpAny (model PG c.w) c.A (passOn "comprehension.variables-let-go" x (compEnv c.env scope [] hp₃.objs.size)) (fun v s' => ∃ S', Sat c S' s' ∧ Q (er v) S') (fun _ _ => False) { s' with heap := h' })
      { s₂ with heap := h₄, toks := s₂.toks + ([] : List (Str × Value)).length } := by
    refine codeAny_compLoop_list (fun n s => ∃ k S₂ own, n + k = N ∧ Sat (c.alt (compEnv c.env scope [] hp₃.objs.size) (baseOf hp₃ (keepHM c))) S₂ s ∧ (∀ b ∈ own, Free (c.alt (compEnv c.env scope [] hp₃.objs.size) (baseOf hp₃ (keepHM c))) S₂ b) ∧ I k S₂ ∧ IS own it k s.heap s.gens) ?_ N
      ⟨0, _, own, rfl, hs₄, fr₄, I0, is₄⟩
    intro n s H0
    obtain ⟨k, S₂, own, hn, hsx, hi, hI, hIS⟩ := H0
    by_cases hk : k < N
    · refine offE (i4 _ _ k S₂ s own it _ hk hsx (iJ _ _ hI) hi hIS fun xv s₁' hgo => ?_)
      show wpAny _ _ (letOwnedTupleGo (.Name x px) (.ref it) xv >>= fun _ => assign (.Name x px) (compEnv c.env scope [] hp₃.objs.size) xv) _ _ s₁'
      refine offE (wpAny_bind (wpAny_mono hgo (fun _ s₃ H0 => ?_) fun _ _ x => x))
      obtain ⟨hs₃', ⟨own', hi', hIS'⟩, hdel⟩ := H0
      have hW : Well { c with env := compEnv c.env scope [] hp₃.objs.size, base := bsOf s₃ (hideL S₂.H hp₃.objs.size) } := ⟨hw.K, hw.T, hkind, hw.gl, hw.bn⟩
      have key := turn k S₂ hp₃.objs.size (bsOf s₃ (hideL S₂.H hp₃.objs.size)) hk hI hW
      have T := hs₃'.inner
      refine wpAny_assign_Name (wpAny_mono (key xv hdel s₃ T) (fun _ s₄ ⟨S₄, hs₄', q₄⟩ => offE (wpAny_mono (q₄ s₄ hs₄') (fun y s₅ ⟨S₅, hs₅, ys, hys, hz, q₅⟩ => offE ?_) fun _ _ x => x)) fun _ _ x => x)
      refine wpAny_mono (call_append' (c := { c with env := compEnv c.env scope [] hp₃.objs.size, base := bsOf s₃ (hideL S₂.H hp₃.objs.size) }) (v := er y) hys hz (Q := fun _ S' => I (k + 1) S') q₅ (.builtin "list.append") [.ref s₂.heap.objs.size, y] s₅ rfl rfl hs₅) (fun _ s₆ H0 => ?_) fun _ _ x => x
      obtain ⟨S₆, hs₆, q₆⟩ := H0
      obtain ⟨o1, o2, o3⟩ := hs₃'.outer hs₆
      have fresh5 : ∀ b ∈ own', Free (c.alt (compEnv c.env scope [] hp₃.objs.size) (baseOf hp₃ (keepHM c))) S₆ b := fun b hb => by
        refine ⟨?_, (hi' b hb).base, (hi' b hb).h₁, (hi' b hb).L⟩
        obtain ⟨o, g⟩ := i1 own' it _ _ _ hIS' b hb
        cases z : S₆.H b with
        | none => rfl
        | some y =>
          have r := (hs₆.H b y z).2.2.1
          have : (bsOf s₃ (hideL S₂.H hp₃.objs.size)).get? b = some o := baseOf_get.mpr ⟨g, by rw [hideL, if_neg (hi' b hb).L, (hi' b hb).H]⟩
          rw [show (bsOf s₃ (hideL S₂.H hp₃.objs.size)).get? b = none from r] at this; cases this
      have is5 : IS own' it (k + 1) s₆.heap s₆.gens := i2 own' it _ _ _ _ _ hIS' (fun b hb o g => o2 b o (hi' b hb).L (hi' b hb).H g) o3
      exact ⟨n - 1, by exact aL 0x11010110001010311b03b211210c2304 hn hk (aS _ _), k + 1, S₆, own', by exact aL 0x10010110101011100101100011121f3c21b03b211210c2304 hn hk (aS _ _), o1, fresh5, q₆, is5⟩
    · have e : k = N := by exact aL 0x1010100112122119210c2203 hn hk
      subst e
      refine offE (i5 _ _ S₂ s own it _ hsx (iJ _ _ hI) hi hIS fun s₃ hs₃' => ?_)
      obtain ⟨mm, F, _⟩ := hs₃'.fr
      exact ⟨mm, F.ns, fun h' hsb' => ⟨_, hs₃.leaveC (s := { s₂ with heap := hp₃ }) rfl hs₃' hsb', done S₂ hI⟩⟩
  exact codeAny_compStart_list main (offE (i6 _ own it 0 _ is₄ main))
end
end
end Mine
end
section
open PySem PySem.W PyProof.Rows PySem.Calls
set_option maxRecDepth 100000
set_option maxHeartbeats 4000000
namespace Mine
noncomputable section
section
variable {c : Cx} {S : St} {s : Shared}
theorem Sat.unk (h : Sat c S s) {r : Addr} (hr : s.heap.get? r = none) : S.H r = none ∧ c.h₁.get? r = none ∧ c.base.get? r = none ∧ r ≠ c.L := by
  obtain ⟨mm, F⟩ := h.fr'
  refine ⟨?_, ?_, ?_, ?_⟩
  · cases q : S.H r with
    | none => rfl
    | some x => obtain ⟨⟨ob, g, _⟩, _⟩ := h.H r x q; rw [hr] at g; cases g
  · cases q : c.h₁.get? r with
    | none => rfl
    | some o => have := F.keep r o q; rw [hr] at this; cases this
  · cases q : c.base.get? r with
    | none => rfl
    | some o => have := h.base r o q; rw [hr] at this; cases this
  · rintro rfl
    obtain ⟨o, _, _, g, _⟩ := F.ns
    rw [hr] at g; cases g
theorem Sat.newAt (h : Sat c S s) {s' : Shared} {r : Addr} {ob : Obj} {ao : AO} (hr : s.heap.get? r = none) (kp : ∀ b o, s.heap.get? b = some o → s'.heap.get? b = some o) (g : s'.heap.get? r = some ob)
    (hi : ao.is c.w.params ob) (hg : s'.gens = s.gens) (ho : s'.os = s.os) : Sat c { S with H := upd S.H r ao } s' := by
  obtain ⟨u1, u2, u3, u4⟩ := h.unk hr
  exact (h.ext kp hg ho).know g hi u2 u3 u4
theorem perm_of_sub : ∀ {xs l : List Int}, xs.Nodup → (∀ i ∈ xs, i ∈ l) → l.length = xs.length → xs.Perm l
  | [], l, _, _, h => by rw [List.length_eq_zero_iff.mp h]
  | x :: xs, l, n, hs, h => by
    have hx := hs x (.head _)
    have p := List.perm_cons_erase hx
    refine (List.Perm.cons x (perm_of_sub (List.nodup_cons.mp n).2 (fun i hi => ?_) ?_)).trans p.symm
    · exact (List.mem_erase_of_ne (by rintro rfl; exact (List.nodup_cons.mp n).1 hi)).mpr (hs i (.tail _ hi))
    · have := p.length_eq; simp at this h ⊢; exact aL 0x101101100111222f021f02203 h this
/-- sorted of a set of ints: a new list, the numbers rising -/
theorem call_sorted {a : Addr} {xs : List Int} {Q : TV → St → Prop} (hA : c.A.handled = none) (ha : S.H a = some (.iset xs))
    (h : ∀ (r : Addr) (ys : List Int), S.H r = none → ys.Perm xs → ys.Pairwise (· < ·) → Q (.ref r) { S with H := upd S.H r (.list (ys.map .int)) }) : CALLX c (.bt "sorted") [.ref a] Q S := by
  intro vf vs s hf hvs hs
  cases er_bt hf
  rcases vs with _ | ⟨x, _ | _⟩ <;> simp at hvs
  cases er_ref hvs
  obtain ⟨⟨ob, g, es, ep, tb, rfl, sv, ft, ri, le⟩, _⟩ := hs.H a _ ha
  refine Srt.sorted_set hA g sv.2.1 ft ri le sv.2.2.2.2 fun r out ns n h' d kp hr gr hi hp hs' => ?_
  have hperm : ns.Perm xs := by
    obtain ⟨n1, n2, n3, n4, n5⟩ := sv
    have sub : xs ⊆ es.toList.map fun e => numOf e.2 := fun i hi => by
      obtain ⟨e, he, q⟩ := (n3 i).mp hi
      obtain ⟨j, u, rfl⟩ := n2 e he
      cases q
      exact List.mem_map.mpr ⟨_, he, rfl⟩
    exact hp.trans (perm_of_sub n1 (fun i hi => sub hi) (by simp [n4])).symm
  have hnd : ns.Nodup := hperm.nodup_iff.mpr sv.1
  have hlt : ns.Pairwise (· < ·) := by
    refine (hs'.and hnd).imp ?_
    rintro x y ⟨p, q⟩
    exact aL 0x1110111041059103220 p q
  refine ⟨_, hs.newAt (s' := { s with heap := h', drawn := d }) hr kp gr (ao := .list (ns.map .int)) ⟨out, n, rfl, ?_⟩ rfl rfl, h r ns (hs.unk hr).1 hperm hlt⟩
  have key : ∀ {vs : List Value} {ns : List Int}, IntsAre vs ns → vs.map er = ns.map TV.int := by
    intro vs ns hI
    induction hI with
    | nil => rfl
    | cons n t _ ih => exact congrArg (TV.int n :: ·) ih
  exact key hi
end
end
end Mine
end
section
open PySem PySem.W PyProof.Rows PySem.Calls
set_option maxRecDepth 100000
set_option maxHeartbeats 4000000
namespace Mine
noncomputable section
section
variable {prog : Program} {w : World} {A : Around} {E : Value → Shared → Prop} {s : Shared}
theorem newSet_ {Q : Value → Shared → Prop} (h : Q (.ref s.heap.objs.size) { s with heap := s.heap.push (Srt.bornSet w) }) : wpAny (model prog w) A (newSet (.type "set")) Q E s := by
  unfold newSet
  refine wpAny_bind (Srt.wpAny_setsByText ?_)
  exact wpAny_newObj_type h (by size_fits)
theorem compTurn_set (x : Str) (px ep : Pos) (iter tst : Expr) (scope : Scope) (pos : Pos) (it acc : Value) (env : Env) :
    compTurn (.SetComp (.Name x ep) [⟨.Name x px, iter, [tst], 0⟩] scope pos) 0 it acc env = (do
      standAt iter.pos
      match ← pyNext it with
      | none => pure (.done .next)
      | some v =>
        letOwnedTupleGo (.Name x px) it v
        assign (.Name x px) env v
        let mut ok := true
        for c in [tst] do
          if ok then ok ← isTrue c env (eval c env)
        if ok then
          (do let v ← eval (.Name x ep) env; standAt (Expr.Name x ep).pos; let _ ← call (.builtin "set.add") [acc, v])
        again (.compLoop (.SetComp (.Name x ep) [⟨.Name x px, iter, [tst], 0⟩] scope pos) 0 it acc env)) := by rfl
theorem compStart_set {R : Result → Shared → Prop} {elt target iter ifs rest scope pos it acc env}
    (h0 : codeAny (model prog w) A (.compLoop (.SetComp elt (⟨target, iter, ifs, 0⟩ :: rest) scope pos) 0 it acc env) R s)
    (h : wpAny (model prog w) A (pyIter it) (fun it' s' => codeAny (model prog w) A (.compLoop (.SetComp elt (⟨target, iter, ifs, 0⟩ :: rest) scope pos) 0 it' acc env) R s') (fun _ _ => False) s) :
    codeAny (model prog w) A (.compStart (.SetComp elt (⟨target, iter, ifs, 0⟩ :: rest) scope pos) 0 it acc env) R s := by
  refine codeAny_of_tree ?_
  show wpAny _ _ ((compStart (.SetComp elt (⟨target, iter, ifs, 0⟩ :: rest) scope pos) 0 it acc env).onRaise (fun x => do noteFrame x env; standAt theWindowsPlace)) _ _ s
  refine wpAny_notedAt ?_
  unfold compStart
  show wpAny _ _ (ask >>= _) _ _ s
  refine wpAny_bind (wpAny_askSetting (wpAny_ite ?_))
  split
  · first
      | exact wpAny_bind (wpAny_pure (wpAny_pure (And.intro rfl h0)))
      | exact wpAny_pure (And.intro rfl h0)
  · refine wpAny_bind (wpAny_rule ?_)
    show wpAny _ _ (standAt iter.pos >>= _) _ _ s
    exact wpAny_bind (wpAny_standAt (wpAny_bind (wpAny_mono h (fun it' s' h' => wpAny_pure (And.intro rfl h')) fun _ _ x => x.elim)))
end
theorem setiter_iter : Slot "set_iterator" "__iter__" "set_iterator.__iter__" :=
  .of (owner := "set_iterator") (n := "__iter__") (by rw [typeLookup_type, builtinLookup_eq_fast]; kernel_rfl) (by decide +kernel) (by decide +kernel) (by decide +kernel)
    (by first | exact .inl (by decide +kernel) | exact .inr (by decide +kernel)) (by rw [isSubtype_type]; kernel_rfl)
theorem setiter_entry : entryFor table "set_iterator.__iter__" = some Builtin.«dict_keyiterator.__iter__» := entryFor_alias (id' := "dict_keyiterator.__iter__") (by kernel_rfl) rfl (by decide +kernel) (by kernel_rfl)
theorem setiter_args (a : Value) : argsOk "set_iterator.__iter__" ⟨[a], []⟩ := by unfold argsOk; kernel_rfl
theorem setit_keeps {P : Params} {h h' : Heap} {it a : Addr} {es : Array (Int × Value)} {ep : Nat} {t : SetTable} {k : Nat} {ord : List Value} {own : List Addr} (x : Srt.SetIt P h it a es ep t k ord own)
    (hk : ∀ b ∈ it :: own, ∀ o, h.get? b = some o → h'.get? b = some o) : Srt.SetIt P h' it a es ep t k ord own := by
  obtain ⟨first, q1, q2⟩ := x
  refine ⟨first, hk _ (.head _) _ q1, ?_⟩
  rcases q2 with q2 | q2 | ⟨m1, tp, places, e1, e3, ⟨o, z1, z2⟩, m3, m4⟩
  · exact .inl q2
  · exact .inr (.inl q2)
  · exact .inr (.inr ⟨m1, tp, places, e1, e3, ⟨o, hk _ (by rw [e3]; exact .tail _ (.head _)) _ z1, z2⟩, m3, m4⟩)
theorem setit_ex {P : Params} {h : Heap} {it a : Addr} {es : Array (Int × Value)} {ep : Nat} {t : SetTable} {k : Nat} {ord : List Value} {own : List Addr} (x : Srt.SetIt P h it a es ep t k ord own) :
    ∀ b ∈ it :: own, ∃ o, h.get? b = some o := by
  obtain ⟨first, q1, q2⟩ := x
  intro b hb
  rcases List.mem_cons.mp hb with rfl | hb
  · exact ⟨_, q1⟩
  rcases q2 with ⟨_, _, _, q2⟩ | ⟨_, _, _, _, q2⟩ | ⟨m1, tp, places, e1, e3, ⟨o, z1, z2⟩, m3, m4⟩
  · rw [q2] at hb; cases hb
  · rw [q2] at hb; cases hb
  · rw [e3] at hb; rw [List.mem_singleton.mp hb]; exact ⟨_, z1⟩
theorem setit_type {P : Params} {s : Shared} {it a : Addr} {es : Array (Int × Value)} {ep : Nat} {t : SetTable} {k : Nat} {ord : List Value} {own : List Addr} (x : Srt.SetIt P s.heap it a es ep t k ord own) : s.TypeIs (.ref it) "set_iterator" :=
  let ⟨_, q, _⟩ := x; ⟨_, q, rfl⟩
section
variable {c : Cx} {S : St} {s : Shared}
theorem iter_setiter {it : Addr} {Q : Value → Shared → Prop} (hT : s.TypeIs (.ref it) "set_iterator") (h : Q (.ref it) s) :
    wpAny (model PG c.w) c.A (pyIter (.ref it)) Q (fun _ _ => False) s := by
  refine wpAny_pyIter_slot hT setiter_iter (wpAny_call_entry setiter_iter hT setiter_entry ?_ (setiter_args _))
  show wpAny _ _ (ret (.ref it)) _ _ s
  exact wpAny_pure ⟨_, rfl, "set_iterator", _, hT, Srt.slot_setiter_next.lookup, h⟩

/-- a comprehension that takes those of a set's numbers that a test keeps -/
theorem pv_scomp {x : Str} {px ep pos : Pos} {iter tst : Expr} {scope : Scope} {cl : List (Str × Addr)} {Q : TV → St → Prop} (p : Int → Bool) (hw : Well c) (hA : c.A.handled = none)
    (hclos : closureFor scope c.env = pure cl) (hkind : scope.kind = .function) (hnames : ∀ y ∈ scope.names, y.2 = .local → scope.names.lookup y.1 = some .local) (hcell : ∀ y ∈ scope.names, y.2 ≠ .cell) (hx : scope.names.lookup x = some .local)
    (hd : (x == ("__debug__" : Str)) = false) (hs : ∀ v, foldedSetIterable iter c.env v = pure v)
    (h : PV c (eval iter c.env) (fun v S₀ => ∃ a xs, v = .ref a ∧ S₀.H a = some (.iset xs) ∧ xs.length < 4000 ∧
      (∀ L S₂ b i, S₂.m.lookup x = some (.int i) → (∀ b o, b ≠ a → S₀.H b = some o → S₂.H b = some o) → Well { c with env := compEnvC scope cl L c.env, base := b } →
        PW { c with env := compEnvC scope cl L c.env, base := b } (isTrue tst (compEnvC scope cl L c.env) (eval tst (compEnvC scope cl L c.env))) (fun ok S₃ => ok = p i ∧ S₃ = S₂) S₂) ∧
      (∀ acc ys, S₀.H acc = none → ys.Nodup → (∀ i, i ∈ ys ↔ i ∈ xs ∧ p i = true) → Q (.ref acc) { S₀ with H := upd S₀.H acc (.iset ys) })) S) :
    PV c (eval (.SetComp (.Name x ep) [⟨.Name x px, iter, [tst], 0⟩] scope pos) c.env) Q S := by
  intro s hs₀
  show wpAny _ _ (comprehension (.SetComp (.Name x ep) [⟨.Name x px, iter, [tst], 0⟩] scope pos) scope c.env (firstIterPos [⟨.Name x px, iter, [tst], 0⟩] pos) (newSet (.type "set")) false (eval iter c.env)) _ _ s
  refine wpAny_comprehension_free (g := ⟨.Name x px, iter, [tst], 0⟩) (gs := []) (use := none) rfl hs hclos hkind hnames (k1 h hs₀ fun v₀ S₀ s₁ hs₁ H0 => ?_)
  obtain ⟨a, xs, e, ha, hlen, turn, done⟩ := H0
  cases er_ref e
  obtain ⟨⟨ob, g, es, ep', tb, rfl, sv, ft, ri, le⟩, r1, r2, r3⟩ := hs₁.H a _ ha
  refine Srt.iter_set g ft sv.2.2.2.2 fun it h1 d ord own kp fresh nit hit hperm => ?_
  have hz : es.size = xs.length := sv.2.2.2.1
  have hol : ord.length = es.size := by rw [hperm.length_eq]; simp
  have hval : ∀ v ∈ ord, ∃ i tk, v = .int i tk := fun v hv => by
    obtain ⟨e, he, rfl⟩ := List.mem_map.mp (hperm.mem_iff.mp hv)
    obtain ⟨i, tk, rfl⟩ := sv.2.1 e he
    exact ⟨i, tk, rfl⟩
  have hmem : ∀ i, i ∈ xs ↔ ∃ v ∈ ord, er v = .int i := fun i => by
    rw [sv.2.2.1 i]
    constructor
    · rintro ⟨e, he, q⟩; exact ⟨e.2, hperm.mem_iff.mpr (List.mem_map_of_mem he), q⟩
    · rintro ⟨v, hv, q⟩
      obtain ⟨e, he, rfl⟩ := List.mem_map.mp (hperm.mem_iff.mp hv)
      exact ⟨e, he, q⟩
  have ex1 := setit_ex hit
  have alt : a < h1.objs.size := Heap.lt_size (kp _ _ g)
  refine newSet_ (s := { s₁ with heap := h1, drawn := d }) ?_
  have hs₂ : Sat c { S₀ with H := dropH S₀.H [a] } { s₁ with heap := h1, drawn := d } := (hs₁.forget [a]).ext (s' := { s₁ with heap := h1, drawn := d }) kp rfl rfl
  have hs₃ := hs₂.push (ao := .iset []) (ob := Srt.bornSet c.w) rfl ⟨#[], 0, _, rfl, ⟨.nil, fun e he => by simp at he, fun i => by simp, rfl, by decide⟩, by rfl, .nil, by
    show (!c.w.params.followText "set-order") = true ∨ c.w.params.followText "set-order" = true
    cases c.w.params.followText "set-order" <;> simp⟩
  obtain ⟨acc, hacc⟩ : ∃ acc, acc = h1.objs.size := ⟨_, rfl⟩
  have fr₃ : ∀ b ∈ a :: it :: own, Free c { S₀ with H := upd (dropH S₀.H [a]) h1.objs.size (.iset []) } b := fun b hb => by
    have lt : b < h1.objs.size := by
      rcases List.mem_cons.mp hb with rfl | hb
      · exact alt
      · obtain ⟨o, q⟩ := ex1 b hb; exact Heap.lt_size q
    rcases List.mem_cons.mp hb with rfl | hb
    · exact ⟨by show upd _ _ _ _ = none; rw [upd_ne (Nat.ne_of_lt lt)]; simp [dropH], r2, r1, r3⟩
    · have f := hs₁.free (fresh b hb)
      refine ⟨?_, f.base, f.h₁, f.L⟩
      show upd _ _ _ _ = none
      rw [upd_ne (Nat.ne_of_lt lt)]
      unfold dropH
      split
      · rfl
      · exact f.H
  have hSa : S₀.H h1.objs.size = none := by
    cases q : S₀.H h1.objs.size with
    | none => rfl
    | some o => obtain ⟨⟨ob', g', _⟩, _⟩ := hs₁.H _ _ q; exact absurd (Heap.lt_size (kp _ _ g')) (Nat.lt_irrefl _)
  have hp₃ : ∃ hp, hp = h1.push (Srt.bornSet c.w) := ⟨_, rfl⟩
  obtain ⟨hp, ehp⟩ := hp₃
  have k3 : ∀ b o, h1.get? b = some o → hp.get? b = some o := fun b o q => by rw [ehp]; exact Heap.get?_push_of_some _ q
  have hs₃' : Sat c { S₀ with H := upd (dropH S₀.H [a]) acc (.iset []) } { s₁ with heap := hp, drawn := d } := by rw [ehp, hacc]; exact hs₃
  rw [← hacc] at fr₃ hSa
  have hgoal : ∀ X : Value → Shared → Prop, X (.ref acc) { s₁ with heap := hp, drawn := d } → X (.ref h1.objs.size) { s₁ with heap := h1.push (Srt.bornSet c.w), drawn := d } := fun X hX => by rw [← ehp, ← hacc]; exact hX
  refine hgoal (fun v s => wpAny _ _ (newFunctionEnv scope c.env.globals cl [] c.env.qual none .none (some c.env)) (fun cenv s₄ => codeAny _ _ (.compStart _ 0 (.ref it) v { cenv with scope := relabel scope c.env }) (compPost _ _ _ _ _ v cenv.locals) s₄) _ s) ?_
  have exa : ∀ b ∈ a :: it :: own, ∃ o, hp.get? b = some o := fun b hb => by
    rcases List.mem_cons.mp hb with rfl | hb
    · exact ⟨_, k3 _ _ (kp _ _ g)⟩
    · obtain ⟨o, q⟩ := ex1 b hb; exact ⟨o, k3 _ _ q⟩
  have ga : hp.get? a = some (Srt.setObj es ep' tb) := k3 _ _ (kp _ _ g)
  have hitp := setit_keeps hit fun b _ o q => k3 b o q
  clear hs₃ hs₂ ehp hacc kp g alt ex1
  refine wpAny_newFunctionEnv hcell (by intro b hb; cases hb) (fun h₄ hns hsb => ?_) hkind
  have hk₄ : ∀ b o, hp.get? b = some o → h₄.get? b = some o := fun b o q => hsb.extBut b o (Nat.ne_of_lt (Heap.lt_size q)) (Heap.get?_push_of_some _ q)
  have hs₄ := hs₃'.enterC (e := compEnvC scope cl hp.objs.size c.env) (tk := s₁.toks + ([] : List (Str × Value)).length) (m₀ := []) rfl hns (by intro x; simp) hk₄
  have fr₄ : ∀ m₀, ∀ b ∈ a :: it :: own, Free (c.alt (compEnvC scope cl hp.objs.size c.env) (baseOf hp (keepHM c))) { S₀ with m := m₀, H := upd (dropH S₀.H [a]) acc (.iset []) } b := fun m₀ b hb => (fr₃ b hb).enterC (s := { s₁ with heap := hp, drawn := d }) rfl (exa b hb)
  have nea : acc ≠ a := fun z => by have := (fr₃ a (.head _)).H; rw [← z] at this; simp at this
  have hkx : (compEnvC scope cl hp.objs.size c.env).kindOf x = some .local := lookup_relabel_local hx
  have fr₅ : ∀ m₀ ys, ∀ b ∈ a :: it :: own, Free (c.alt (compEnvC scope cl hp.objs.size c.env) (baseOf hp (keepHM c))) { S₀ with m := m₀, H := upd (dropH S₀.H [a]) acc (.iset ys) } b := fun m₀ ys b hb => by
    have f := fr₄ m₀ b hb
    refine ⟨?_, f.base, f.h₁, f.L⟩
    have fh : upd (dropH S₀.H [a]) acc (.iset []) b = none := f.H
    by_cases q : b = acc
    · subst q; simp at fh
    · show upd _ _ _ b = none
      rw [upd_ne q] at fh ⊢; exact fh
  have main : codeAny (model PG c.w) c.A (.compLoop (.SetComp (.Name x ep) [⟨.Name x px, iter, [tst], 0⟩] scope pos) 0 (.ref it) (.ref acc) (compEnvC scope cl hp.objs.size c.env))
      (compPost (model PG c.w) c.A (fun _ _ => False) none (fun v s' => ∃ S', Sat c S' s' ∧ Q (er v) S') (.ref acc) hp.objs.size)
      { s₁ with heap := h₄, drawn := d, toks := s₁.toks + ([] : List (Str × Value)).length } := by
    refine codeAny_loop rfl (fun n s => ∃ k ys m', n + k = es.size ∧ Sat (c.alt (compEnvC scope cl hp.objs.size c.env) (baseOf hp (keepHM c))) { S₀ with m := m', H := upd (dropH S₀.H [a]) acc (.iset ys) } s ∧
      s.heap.get? a = some (Srt.setObj es ep' tb) ∧ Srt.SetIt c.w.params s.heap it a es ep' tb k ord own ∧ ys.length ≤ k ∧ ys.Nodup ∧ ∀ i, i ∈ ys ↔ (∃ v ∈ ord.take k, er v = .int i) ∧ p i = true) (fun n s hI => ?_) es.size
      ⟨0, [], [], rfl, hs₄, hk₄ _ _ ga, setit_keeps hitp fun b _ o q => hk₄ b o q, Nat.le_refl _, .nil, by simp⟩
    obtain ⟨k, ys, m', hn, hsx, hga, hIS, hyl, hnd, hys⟩ := hI
    show wpAny _ _ ((compTurn (.SetComp (.Name x ep) [⟨.Name x px, iter, [tst], 0⟩] scope pos) 0 (.ref it) (.ref acc) (compEnvC scope cl hp.objs.size c.env)).onRaise (fun x => do noteFrame x (compEnvC scope cl hp.objs.size c.env); theTreesLotGoes x)) _ _ s
    refine wpAny_noted (offE ?_)
    rw [compTurn_set]
    refine wpAny_bind (wpAny_standAt (wpAny_bind ?_))
    by_cases hk : k < es.size
    · refine Srt.next_set hIS hga ft ri le hk nit fun h' v hv hsb' hIS' => ?_
      obtain ⟨i, tk, rfl⟩ := hval v (List.mem_of_getElem? hv)
      have hs5 : Sat (c.alt (compEnvC scope cl hp.objs.size c.env) (baseOf hp (keepHM c))) { S₀ with m := m', H := upd (dropH S₀.H [a]) acc (.iset ys) } { s with heap := h' } :=
        hsx.but (s' := { s with heap := h' }) (own := [it]) (fun b hb => by rw [List.mem_singleton.mp hb]; exact fr₅ _ _ it (by simp)) (fun b o n q => by show h'.get? b = _; rw [hsb'.2 b (fun z => n (by simp [z]))]; exact q) hsx.g rfl
      have hga' : h'.get? a = some (Srt.setObj es ep' tb) := by
        by_cases q : a = it
        · subst q
          obtain ⟨_, q1, _⟩ := hIS
          rw [hga] at q1; simp [Srt.setObj] at q1
        · rw [hsb'.2 a q]; exact hga
      dsimp only
      refine wpAny_bind (wpAny_pure ?_)
      have hW : Well { c with env := compEnvC scope cl hp.objs.size c.env, base := bsOf { s with heap := h' } (hideL (upd (dropH S₀.H [a]) acc (.iset ys)) hp.objs.size) } := ⟨hw.K, hw.T, hkind, hw.gl, hw.bn⟩
      have T := hs5.inner
      refine wpAny_bind (wpAny_assign_Name (k1 (c := { c with env := compEnvC scope cl hp.objs.size c.env, base := bsOf { s with heap := h' } (hideL (upd (dropH S₀.H [a]) acc (.iset ys)) hp.objs.size) })
        (pw_store (Q := fun S' => S' = { S₀ with m := (x, .int i) :: m', H := upd (dropH S₀.H [a]) acc (.iset ys) }) hW rfl hkx (.int i tk) rfl) T fun _ S6 s6 hs6 e6 => ?_))
      subst e6
      have tt := turn hp.objs.size { S₀ with m := (x, .int i) :: m', H := upd (dropH S₀.H [a]) acc (.iset ys) } _ i (by simp) (fun b o nb q => by
        have : b ≠ acc := fun z => by rw [z, hSa] at q; cases q
        show upd _ _ _ b = _
        rw [upd_ne this]; simpa [dropH, nb] using q) hW
      refine wpAny_bind (wpAny_tests_one (k1 (c := { c with env := compEnvC scope cl hp.objs.size c.env, base := bsOf { s with heap := h' } (hideL (upd (dropH S₀.H [a]) acc (.iset ys)) hp.objs.size) }) tt hs6 fun ok S7 s7 hs7 ⟨e7, e8⟩ => ?_))
      subst e8
      have fin : ∀ ys' s8, Sat { c with env := compEnvC scope cl hp.objs.size c.env, base := bsOf { s with heap := h' } (hideL (upd (dropH S₀.H [a]) acc (.iset ys)) hp.objs.size) } { S₀ with m := (x, .int i) :: m', H := upd (dropH S₀.H [a]) acc (.iset ys') } s8 →
          ys'.length ≤ k + 1 → ys'.Nodup → (∀ j, j ∈ ys' ↔ (j = i ∧ p i = true) ∨ j ∈ ys) → ∃ m, m < n ∧ ∃ k ys m', m + k = es.size ∧ Sat (c.alt (compEnvC scope cl hp.objs.size c.env) (baseOf hp (keepHM c))) { S₀ with m := m', H := upd (dropH S₀.H [a]) acc (.iset ys) } s8 ∧
            s8.heap.get? a = some (Srt.setObj es ep' tb) ∧ Srt.SetIt c.w.params s8.heap it a es ep' tb k ord own ∧ ys.length ≤ k ∧ ys.Nodup ∧ ∀ i, i ∈ ys ↔ (∃ v ∈ ord.take k, er v = .int i) ∧ p i = true := fun ys' s8 hs8 hl8 hnd8 hm8 => by
        obtain ⟨o1, o2, _⟩ := hs5.outer hs8
        have kk : ∀ b ∈ a :: it :: own, ∀ o, h'.get? b = some o → s8.heap.get? b = some o := fun b hb o q => o2 b o (fr₅ m' ys b hb).L (fr₅ m' ys b hb).H q
        refine ⟨n - 1, by exact aL 0x11010110001010311b03b211210c2304 hn hk (aS _ _), k + 1, ys', _, by exact aL 0x100001011000101011011000132f0c21b10b321321c21b10c404 (aS _ _) hn hk (aS _ _), o1, kk a (.head _) _ hga', setit_keeps hIS' fun b hb => kk b (.tail _ hb), hl8, hnd8, fun j => ?_⟩
        rw [hm8 j, hys j, List.take_add_one, hv]
        simp only [Option.toList_some, List.mem_append, List.mem_singleton]
        constructor
        · rintro (⟨rfl, hp⟩ | ⟨⟨v, hv, q⟩, hp⟩)
          · exact ⟨⟨_, .inr rfl, rfl⟩, hp⟩
          · exact ⟨⟨v, .inl hv, q⟩, hp⟩
        · rintro ⟨⟨v, hv | rfl, q⟩, hp⟩
          · exact .inr ⟨⟨v, hv, q⟩, hp⟩
          · cases q; exact .inl ⟨rfl, hp⟩
      cases ok with
      | false =>
        exact wpAny_pure ⟨rfl, fin ys s7 hs7 (by exact aL 0x111f00100102 hyl) hnd fun j => by rw [← e7]; simp⟩
      | true =>
        refine wpAny_bind (wpAny_bind (k1 (c := { c with env := compEnvC scope cl hp.objs.size c.env, base := bsOf { s with heap := h' } (hideL (upd (dropH S₀.H [a]) acc (.iset ys)) hp.objs.size) }) (pv_local (v := .int i) hW (by simp) ⟨rfl, rfl⟩ hkx hd : PV _ _ (fun v S' => v = .int i ∧ S' = { S₀ with m := (x, .int i) :: m', H := upd (dropH S₀.H [a]) acc (.iset ys) }) _) hs7 fun v S9 s9 hs9 ⟨e9, e10⟩ => ?_))
        subst e10
        refine wpAny_bind (wpAny_standAt (wpAny_bind ?_))
        refine wpAny_mono (call_setadd (c := { c with env := compEnvC scope cl hp.objs.size c.env, base := bsOf { s with heap := h' } (hideL (upd (dropH S₀.H [a]) acc (.iset ys)) hp.objs.size) }) (i := i) (Q := fun _ S' => S' = { S₀ with m := (x, .int i) :: m', H := upd (upd (dropH S₀.H [a]) acc (.iset ys)) acc (.iset (insI i ys)) })
          (upd_self _ _ _) (by exact aL 0x1101117ec8b211313200127ec8b01404 hlen hz hyl hk) rfl (.builtin "set.add") [.ref acc, v] s9 rfl (by show [TV.ref acc, er v] = _; rw [e9]) hs9) (fun _ s10 ⟨S10, hs10, e11⟩ => ?_) fun _ _ x => x
        subst e11
        have eu : upd (upd (dropH S₀.H [a]) acc (.iset ys)) acc (.iset (insI i ys)) = upd (dropH S₀.H [a]) acc (.iset (insI i ys)) := by
          funext b; simp only [upd]; split <;> rfl
        rw [eu] at hs10
        exact wpAny_pure (wpAny_pure ⟨rfl, fin _ s10 hs10 (by rw [len_insI]; split <;> (first | exact aL 0x111f00100102 hyl | exact aL 0x111f0f0100102 hyl)) (nodup_insI hnd) fun j => by rw [mem_insI, e7.symm]; simp⟩)
    · have e : k = es.size := by exact aL 0x1010100112122119210c2203 hn hk
      subst e
      refine Srt.stop_set hA hIS hga ft ri le fun h' kp' => ?_
      refine wpAny_pure ?_
      have hs5 : Sat (c.alt (compEnvC scope cl hp.objs.size c.env) (baseOf hp (keepHM c))) { S₀ with m := m', H := upd (dropH S₀.H [a]) acc (.iset ys) } { s with heap := h' } :=
        hsx.but (s' := { s with heap := h' }) (own := [it]) (fun b hb => by rw [List.mem_singleton.mp hb]; exact fr₅ _ _ it (by simp)) (fun b o n q => kp' b o (fun z => n (by simp [z])) q) hsx.g rfl
      have hga' : h'.get? a = some (Srt.setObj es ep' tb) := kp' _ _ (fun q => by
        subst q
        obtain ⟨_, q1, _⟩ := hIS
        rw [hga] at q1; simp [Srt.setObj] at q1) hga
      obtain ⟨mm, F, _⟩ := hs5.fr
      refine ⟨mm, F.ns, fun h'' hsb'' => ?_⟩
      have L1 := hs₃'.leaveC (s := { s₁ with heap := hp, drawn := d }) rfl hs5 hsb''
      have naL : a ≠ hp.objs.size := Nat.ne_of_lt (Heap.lt_size ga)
      have L2 := L1.know (a := a) (ao := .iset xs) (ob := Srt.setObj es ep' tb) (by show h''.get? a = _; rw [hsb''.2 a naL]; exact hga') ⟨es, ep', tb, rfl, sv, ft, ri, le⟩ r1 r2 r3
      have eH : upd (upd (dropH S₀.H [a]) acc (.iset ys)) a (.iset xs) = upd S₀.H acc (.iset ys) := by
        funext b
        by_cases q : b = a
        · subst q; rw [upd_self, upd_ne (Ne.symm nea)]; exact ha.symm
        · rw [upd_ne q]
          by_cases q2 : b = acc
          · subst q2; simp
          · rw [upd_ne q2, upd_ne q2]; simp [dropH, q]
      refine ⟨_, L2, ?_⟩
      have := done acc ys hSa hnd fun i => by
        rw [hys i, List.take_of_length_le (by exact aL 0x101100102102 hol), hmem i]
      rw [eH]
      exact this
  exact compStart_set main (offE (iter_setiter (setit_type (setit_keeps hitp fun b _ o q => hk₄ b o q)) main))
end
end
end Mine
end
section
open PySem PySem.W PyProof.Rows PySem.Calls
set_option maxRecDepth 100000
set_option maxHeartbeats 4000000
namespace Mine
noncomputable section
theorem bindL_all {kind : Str → Option NameKind} {y : Str} : ∀ {binds : List (Str × Value)} {m : Str → Option Value}, (∀ x ∈ binds, kind x.1 = some .local) → bindL kind binds m y = (binds.reverse.lookup y).or (m y)
  | [], m, _ => by simp [bindL]
  | (n, v) :: r, m, h => by
    rw [bindL, if_pos (h _ (.head _)), bindL_all fun x hx => h x (.tail _ hx), List.reverse_cons, List.lookup_append]
    cases q : r.reverse.lookup y with
    | some u => rfl
    | none =>
      by_cases e : y = n
      · subst e; simp
      · have : (y == n) = false := by simpa using e
        simp [e, List.lookup_cons, this]
section
variable {c : Cx} {S : St} {s : Shared} {k : Nat}
theorem st_cell {x : Str} {v : TV} {ca : Addr} {o : Obj} {v₀ : Option Value} {Q : St → Prop} (hw : Well c) (hl : c.env.kindOf x = some .cell) (hc : c.env.cells.lookup x = some ca) (ho : S.H ca = some (.raw o)) (hd : o.data = .cell v₀)
    (h : ∀ o' vv, er vv = v → o'.data = .cell (some vv) → Q { S with H := upd S.H ca (.raw o') }) : STORE c x v Q S := by
  intro vv hv s hs
  obtain ⟨⟨ob, g, i⟩, r1, r2, r3⟩ := hs.H ca _ ho
  cases i
  refine wpAny_storeName_cell hw.fn hl hc ⟨_, g, hd⟩ fun h' ⟨o', g', d'⟩ hsb => ⟨_, hs.turn (s' := { s with heap := h' }) ho (fun b ob n q => by show h'.get? b = _; rw [hsb.2 b n]; exact q) g' (ao := .raw o') rfl rfl rfl, h o' vv hv d'⟩
theorem pv_cell {x : Str} {pos : Pos} {ca : Addr} {o : Obj} {vv : Value} {Q : TV → St → Prop} (hw : Well c) (hl : c.env.kindOf x = some .cell) (hc : c.env.cells.lookup x = some ca) (ho : S.H ca = some (.raw o)) (hd : o.data = .cell (some vv))
    (hx : (x == ("__debug__" : Str)) = false) (h : Q (er vv) S) : PV c (eval (.Name x pos) c.env) Q S := by
  intro s hs
  obtain ⟨⟨ob, g, i⟩, r1, r2, r3⟩ := hs.H ca _ ho
  cases i
  exact wpAny_Name (wpAny_loadName_cell hw.fn hl hc ⟨_, g, hd⟩ ⟨S, hs, h⟩) hx
theorem call_cell {f : Addr} {args : List TV} {name qual cx : Str} {params : Arguments} {body : List Stmt} {scope : Scope} {dV kV doc pm cdv ct oc : Value} {an od : Option Addr} {osl : Array (Option Value)}
    {names : List Str} {Q : TV → St → Prop} (hw : Well c) (hr : Room c.A (k + 1))
    (ho : (KK c.w).lookup f = some ⟨oc, od, .func (fnOf name qual params body scope dV kV doc pm an cdv ct), osl⟩) (hcd : codeIn (KK c.w) cdv qual = true)
    (hlen : args.length = names.length)
    (hbind : ∀ vs : List Value, vs.length = names.length → bindArgs (fnOf name qual params body scope dV kV doc pm an cdv ct) ⟨vs, []⟩ = pure (names.zip vs))
    (hloc : (names.all fun x => decide (scope.names.lookup x = some .local)) = true)
    (hk : scope.kind = .function) (hco : scope.isCoroutine = false) (hgen : scope.isGenerator = false) (hcl : ∀ n, cellsFrom n scope.names [] = [(cx, n)])
    (h : ∀ A' base' L' o, Room A' k → S.H (L' + 1) = none → o.data = .cell none → Well ⟨c.w, A', c.h₁, base', c.os, envOfC qual scope L' f cdv⟩ → (envOfC qual scope L' f cdv).cells = [(cx, L' + 1)] →
      PX ⟨c.w, A', c.h₁, base', c.os, envOfC qual scope L' f cdv⟩ (execs body (envOfC qual scope L' f cdv)) (fun fl S' => Q (retv fl) { S' with m := S.m }) ⟨(names.zip args).reverse, upd S.H (L' + 1) (.raw o), S.g⟩) :
    CALL c (.ref f) args [] Q S := by
  intro vf vs ks hf hvs hks s hs
  cases er_ref hf
  cases (List.map_eq_nil_iff.mp hks)
  obtain ⟨mm, F, e⟩ := hs.fr
  have X := hw.Kin hs
  obtain ⟨_, _, mg, mb, T⟩ := hw.T
  have hl : vs.length = names.length := by rw [← hlen, ← hvs, List.length_map]
  have hlocs : ∀ x ∈ names.zip vs, scope.names.lookup x.1 = some .local := fun x hx => by
    have := List.all_eq_true.mp hloc x.1 (List.of_mem_zip hx).1
    simpa using this
  refine codeAny_call_cells (fd := fnOf name qual params body scope dV kV doc pm an cdv ct) (body := body) (binds := names.zip vs) (by have := hr.depth; exact aL 0x1120121f3d0c1103 this) (X _ _ ho) rfl (T.nolimit.keeps F.keep) (codeRec_of X hcd) rfl (hbind vs hl) rfl
    (fun x hx => .inl (hlocs x hx)) (fun s₁ I => ?_) hco hgen hk
  have hlt := hs.Llt
  obtain ⟨⟨⟨h₁, tk, rfl⟩, ns, kp, _⟩, cell, _, _⟩ := I
  have ec : (callEnvC (fnOf name qual params body scope dV kV doc pm an cdv ct) s.heap.objs.size f).cells = [(cx, s.heap.objs.size + 1)] := hcl _
  obtain ⟨o, go, od'⟩ := cell cx (s.heap.objs.size + 1) (by rw [ec]; simp)
  have hbc : ∀ (l : List (Str × Value)) (m : Str → Option Value), (∀ x ∈ l, scope.names.lookup x.1 = some .local) → bindC (callEnvC (fnOf name qual params body scope dV kV doc pm an cdv ct) s.heap.objs.size f).kindOf l m = m := by
    intro l
    induction l with
    | nil => intro m _; rfl
    | cons x r ih =>
      intro m hx
      obtain ⟨n, v⟩ := x
      have e1 : (callEnvC (fnOf name qual params body scope dV kV doc pm an cdv ct) s.heap.objs.size f).kindOf n = some .local := hx (n, v) (.head _)
      rw [bindC, if_pos e1]
      exact ih m fun x h => hx x (.tail _ h)
  rw [hbc _ _ hlocs] at od'
  have fresh : ∀ a, s.heap.objs.size ≤ a → S.H a = none := fun a => hs.HFresh
  let c' : Cx := ⟨c.w, c.A.deeper (envOfC qual scope s.heap.objs.size f cdv), c.h₁, bsOf s S.H, c.os, envOfC qual scope s.heap.objs.size f cdv⟩
  have W' : Well c' := ⟨hw.K, hw.T, hk, rfl, rfl⟩
  have nob : ∀ a, s.heap.objs.size ≤ a → (bsOf s S.H).get? a = none := fun a ha => by
    cases q : (bsOf s S.H).get? a with
    | none => rfl
    | some o => exact absurd (Heap.lt_size (baseOf_get.mp q).1) (Nat.not_lt.mpr ha)
  have sat : Sat c' ⟨(names.zip (vs.map er)).reverse, S.H, S.g⟩ { s with heap := h₁, toks := tk } := by
    refine ⟨⟨_, ⟨ns, fun b o q => kp _ _ (F.keep b o q), Nat.le_trans F.above (Nat.le_of_lt hlt)⟩, fun x => ?_⟩, fun b o q => kp _ _ (baseOf_get.mp q).1, nob _ (Nat.le_refl _), fun a o q => ?_, ⟨fun _ _ h => h, hs.g.2⟩, hs.os⟩
    · rw [bindL_all fun x hx => hlocs x hx, Option.or_none, lookup_er, List.map_reverse, zip_er]
    · obtain ⟨⟨ob, q1, q2⟩, r1, r2, r3⟩ := hs.H a o q
      refine ⟨⟨ob, kp _ _ q1, q2⟩, r1, ?_, Nat.ne_of_lt (Heap.lt_size q1)⟩
      cases z : (bsOf s S.H).get? a with
      | none => rfl
      | some o' => have := (baseOf_get.mp z).2; rw [q] at this; cases this
  have sat' := sat.know (a := s.heap.objs.size + 1) (ao := .raw o) go rfl (hs.h1Fresh (Nat.le_succ _)) (nob _ (Nat.le_succ _)) (Nat.succ_ne_self _)
  rw [hvs] at sat'
  refine wpAny_mono (h c'.A c'.base s.heap.objs.size o (hr.under _) (fresh _ (Nat.le_succ _)) od' W' (hcl _) _ sat') (fun fl s' ⟨S', hs', q⟩ => ⟨_, rfl, { S' with m := S.m }, ?_, by cases fl <;> exact q⟩) fun _ _ x => x.elim
  obtain ⟨mm', F', e'⟩ := hs'.fr
  have kp : ∀ b o, s.heap.get? b = some o → S.H b = none → s'.heap.get? b = some o := fun b o g z => hs'.base b o (baseOf_get.mpr ⟨g, z⟩)
  refine ⟨⟨mm, Fr.ofKeep F (fun o g => kp _ _ g hs.noL) (fun b o g => F'.keep b o g), e⟩, fun b o g => kp _ _ (hs.base b o g) ?_, hs.baseL, fun a o g => ?_, ⟨fun i x h => hs'.g.1 i x (hs.g.1 i x h), hs'.g.2⟩, hs'.os⟩
  · cases z : S.H b with
    | none => rfl
    | some x => have := (hs.H b x z).2.2.1; rw [g] at this; cases this
  · obtain ⟨r0, r1, r2, r3⟩ := hs'.H a o g
    refine ⟨r0, r1, ?_, ?_⟩
    · cases z : c.base.get? a with
      | none => rfl
      | some x =>
        have z1 : S.H a = none := by
          cases z2 : S.H a with
          | none => rfl
          | some y => have := (hs.H a y z2).2.2.1; rw [z] at this; cases this
        have : c'.base.get? a = some x := baseOf_get.mpr ⟨hs.base _ _ z, z1⟩
        rw [r2] at this; cases this
    · rintro rfl
      obtain ⟨o', _, _, g', _⟩ := F.ns
      have : c'.base.get? c.L = some o' := baseOf_get.mpr ⟨g', hs.noL⟩
      rw [r2] at this; cases this
end
end
end Mine
end
section
open PySem PySem.W PyProof.Rows PySem.Calls PySem.SeqAt
set_option maxRecDepth 100000
set_option maxHeartbeats 4000000
namespace Mine
noncomputable section
theorem entry_set_eq : entryFor table "set.__eq__" = some Builtin.«frozenset.__eq__» := entryFor_alias (id' := "frozenset.__eq__") (by kernel_rfl) rfl (by decide +kernel) (by kernel_rfl)
theorem sub_set_fro : isSubtype (.type "set") (.type "frozenset") = pure false := by rw [isSubtype_type]; kernel_rfl
theorem sub_set_set : isSubtype (.type "set") (.type "set") = pure true := by rw [isSubtype_type]; kernel_rfl
section
variable {prog : Program} {w : World} {A : Around} {E : Value → Shared → Prop} {s : Shared}
theorem wpAny_orT {x y : Sem Bool} {Q : Bool → Shared → Prop} (h : wpAny (model prog w) A x (fun b s' => b = true ∧ Q true s') E s) : wpAny (model prog w) A (x <||> y) Q E s := by
  unfold orM
  refine wpAny_bind (wpAny_mono h (fun b s' ⟨e, q⟩ => ?_) fun _ _ x => x)
  subst e
  exact wpAny_pure q
theorem wpAny_andF {x y : Sem Bool} {Q : Bool → Shared → Prop} (h : wpAny (model prog w) A x (fun b s' => b = false ∧ Q false s') E s) : wpAny (model prog w) A (x <&&> y) Q E s := by
  unfold andM
  refine wpAny_bind (wpAny_mono h (fun b s' ⟨e, q⟩ => ?_) fun _ _ x => x)
  subst e
  exact wpAny_pure q
/-- a loop that takes every item and goes on -/
theorem wpAny_forGo {α β : Type} {f : α → β → Sem (ForInStep β)} {b : β} {Q : β → Shared → Prop} : ∀ (l : List α), (∀ x ∈ l, ∀ R : ForInStep β → Shared → Prop, R (.yield b) s → wpAny (model prog w) A (f x b) R E s) → Q b s → wpAny (model prog w) A (forIn l b f) Q E s
  | [], _, h => wpAny_pure h
  | x :: l, hl, h => by
    rw [List.forIn_cons]
    exact wpAny_bind (hl x (.head _) _ (wpAny_forGo l (fun y hy => hl y (.tail _ hy)) h))
end
section
variable {c : Cx} {S : St} {s : Shared}
theorem set_eq_true {a b : Addr} {xs ys : List Int} {Q : TV → St → Prop} (hu : c.A.units < cLine) (ha : S.H a = some (.iset xs)) (hb : S.H b = some (.iset ys)) (he : ∀ i, i ∈ xs ↔ i ∈ ys) (h : Q (.bool true) S) : CMP c .Eq (.ref a) (.ref b) Q S := by
  intro va vb h1 h2 s hs
  cases er_ref h1
  cases er_ref h2
  obtain ⟨SA, na, _⟩ := hs.set ha
  obtain ⟨SB, nb, _⟩ := hs.set hb
  obtain ⟨⟨oa, ga, ea, pa, ta, rfl, va, fa, _⟩, _⟩ := hs.H a _ ha
  obtain ⟨⟨ob, gb, eb, pb, tb, rfl, vb, fb, _⟩, _⟩ := hs.H b _ hb
  have hT : s.TypeIs (.ref a) "set" := ⟨_, ga, rfl⟩
  have hT2 : s.TypeIs (.ref b) "set" := ⟨_, gb, rfl⟩
  have hsz : ea.size = eb.size := by
    rw [va.2.2.2.1, vb.2.2.2.1]
    exact ((List.perm_ext_iff_of_nodup na nb).mpr he).length_eq
  show wpAny _ _ (richCompare .Eq (.ref a) (.ref b)) _ _ s
  refine wpAny_richCompare_same_room hT hT2 F.slot_set_eq (wpAny_call_entry F.slot_set_eq hT entry_set_eq ?_ (F.args_set_eq_2 _ _)) hu
  show wpAny _ _ (Builtin.Frozenset.slot1 "__eq__" ⟨[.ref a, .ref b], []⟩ >>= _) _ _ _
  unfold Builtin.Frozenset.slot1 slotArgs
  simp only [List.isEmpty_nil, Bool.not_true, Bool.false_eq_true, ↓reduceIte, List.length_singleton, bne_self_eq_false, pure_bind]
  unfold Builtin.Frozenset.isAnySet Builtin.Frozenset.addrOf Builtin.Frozenset.sizeOf
  refine wpAny_bind (wpAny_orT (wpAny_isInstance (T := "set") (b := true) hT2 sub_set_set ⟨rfl, ?_⟩))
  refine wpAny_bind (wpAny_pure (wpAny_bind (wpAny_pure (wpAny_bind (wpAny_bind (wpAny_setEntries_of ga rfl fa (wpAny_pure (wpAny_bind (wpAny_bind (wpAny_setEntries_of gb rfl fb (wpAny_pure ?_)))))))))))
  rw [if_neg (by simp [hsz])]
  refine wpAny_bind (wpAny_bind (wpAny_andF (wpAny_isInstance (T := "set") (b := false) hT sub_set_fro ⟨rfl, ?_⟩)))
  show wpAny _ _ (Builtin.Frozenset.subsetOf _ a b) _ _ s
  unfold Builtin.Frozenset.subsetOf Builtin.Frozenset.sizeOf
  refine wpAny_bind (wpAny_bind (wpAny_setEntries_of ga rfl fa (wpAny_pure (wpAny_bind (wpAny_bind (wpAny_setEntries_of gb rfl fb (wpAny_pure ?_)))))))
  rw [if_neg (by exact aL 0x1010119102102 hsz)]
  refine wpAny_bind (wpAny_setEpoch_of ga rfl fa ?_)
  unfold Builtin.Frozenset.walkUnseen
  refine wpAny_bind (wpAny_bind (wpAny_setEntries_of ga rfl fa (wpAny_bind (wpAny_setEntries_of gb rfl fb (wpAny_bind ?_)))))
  have hint : ∀ e ∈ ea.toList ++ eb.toList, ∃ i tk, e = (hashInt i, .int i tk) := fun e he => (List.mem_append.mp he).elim (va.2.1 e) (vb.2.1 e)
  refine wpAny_forGo _ (fun e he R hR => ?_) ?_
  · obtain ⟨i, tk, rfl⟩ := hint e he
    exact wpAny_bind (wpAny_pure (wpAny_pure hR))
  refine wpAny_pure (wpAny_bind (wpAny_forGo _ (fun e hm R hR => ?_) ?_))
  · obtain ⟨i, tk, rfl⟩ := va.2.1 e hm
    have hi : i ∈ ys := (he _).mp ((va.2.2.1 i).mpr ⟨_, hm, rfl⟩)
    dsimp only
    refine wpAny_bind (wpAny_holding (wpAny_setFind_of (knd := intKind PG c.w) (k := i) (intKind_is PG c.w i tk) rfl SB fun r hr => ?_))
    cases r with
    | none => simp [hi] at hr
    | some r =>
      rw [if_neg (by simp)]
      unfold Builtin.Frozenset.unchanged
      refine wpAny_bind (wpAny_bind (wpAny_setEpoch_of ga rfl fa ?_))
      rw [if_neg (by simp)]
      exact wpAny_pure (wpAny_pure hR)
  · exact wpAny_pure (wpAny_pure ⟨_, rfl, (fun e => by cases e), S, hs, h⟩)

/-- two lists, item by item -/
noncomputable def All2 {α β : Type} (R : α → β → Prop) : List α → List β → Prop
  | [], [] => True
  | a :: as, b :: bs => R a b ∧ All2 R as bs
  | _, _ => False
theorem All2.len {α β : Type} {R : α → β → Prop} : ∀ {as : List α} {bs : List β}, All2 R as bs → as.length = bs.length
  | [], [], _ => rfl
  | _ :: _, _ :: _, h => congrArg (· + 1) (All2.len h.2)
  | [], _ :: _, h => h.elim
  | _ :: _, [], h => h.elim
theorem All2.imp {α β : Type} {R R' : α → β → Prop} (f : ∀ a b, R a b → R' a b) : ∀ {as : List α} {bs : List β}, All2 R as bs → All2 R' as bs
  | [], [], _ => trivial
  | _ :: _, _ :: _, h => ⟨f _ _ h.1, All2.imp f h.2⟩
  | [], _ :: _, h => h.elim
  | _ :: _, [], h => h.elim
theorem All2.app {α β : Type} {R : α → β → Prop} {cs : List α} {ds : List β} (k : All2 R cs ds) : ∀ {as : List α} {bs : List β}, All2 R as bs → All2 R (as ++ cs) (bs ++ ds)
  | [], [], _ => k
  | _ :: _, _ :: _, h => ⟨h.1, All2.app k h.2⟩
  | [], _ :: _, h => h.elim
  | _ :: _, [], h => h.elim
theorem All2.get {α β : Type} {R : α → β → Prop} {b : β} : ∀ {as : List α} {bs : List β} (i : Nat), All2 R as bs → bs[i]? = some b → ∃ a, as[i]? = some a ∧ R a b
  | [], [], _, _, h => by simp at h
  | a :: _, _ :: _, 0, h, e => ⟨a, rfl, by simp at e; rw [← e]; exact h.1⟩
  | _ :: _, _ :: _, i + 1, h, e => All2.get i h.2 (by simpa using e)
  | [], _ :: _, _, h, _ => h.elim
  | _ :: _, [], _, h, _ => h.elim
theorem All2.drop {α β : Type} {R : α → β → Prop} : ∀ {as : List α} {bs : List β} (i : Nat), All2 R as bs → All2 R (as.drop i) (bs.drop i)
  | [], [], i, _ => by rw [List.drop_nil, List.drop_nil]; exact trivial
  | _ :: _, _ :: _, 0, h => h
  | _ :: _, _ :: _, i + 1, h => by simpa using All2.drop i h.2
  | [], _ :: _, _, h => h.elim
  | _ :: _, [], _, h => h.elim
theorem All2.take {α β : Type} {R : α → β → Prop} : ∀ {as : List α} {bs : List β} (i : Nat), All2 R as bs → All2 R (as.take i) (bs.take i)
  | [], [], i, _ => by rw [List.take_nil, List.take_nil]; exact trivial
  | _ :: _, _ :: _, 0, h => trivial
  | _ :: _, _ :: _, i + 1, h => ⟨h.1, All2.take i h.2⟩
  | [], _ :: _, _, h => h.elim
  | _ :: _, [], _, h => h.elim
/-- a list of pairs of ints -/
noncomputable abbrev IsPair (H : HM) (a : Addr) (r : Int × Int) : Prop := H a = some (.tup [.int r.1, .int r.2])
noncomputable def PairsAt (H : HM) (l : Addr) (rs : List (Int × Int)) : Prop := ∃ as : List Addr, H l = some (.list (as.map TV.ref)) ∧ All2 (IsPair H) as rs
noncomputable abbrev pdP (rs : List (Int × Int)) : List PyData := rs.map fun r => .tuple [.int r.1, .int r.2]
theorem pd_lay : ∀ rs, PyData.canLayAll0 (pdP rs) = true ∧ PyData.depthAll (pdP rs) ≤ 1
  | [] => ⟨rfl, Nat.zero_le _⟩
  | r :: rs => by
    obtain ⟨h1, h2⟩ := pd_lay rs
    refine ⟨by simp [PyData.canLayAll0, PyData.canLay0, h1], ?_⟩
    simp only [pdP, List.map_cons, PyData.depthAll, PyData.depth] at h2 ⊢
    exact aL 0x110011011111100110011111100110111111001100111111b300302f3071200b2070b100b1071b00404 h2 (aV _ _) (aV _ _) (aV _ _)
theorem pd_shaped (rs : List (Int × Int)) : shaped (.list (pdP rs)) = true := by
  obtain ⟨h1, h2⟩ := pd_lay rs
  have : (PyData.list (pdP rs)).depth ≤ 64 := by simp only [PyData.depth]; exact aL 0x11188b0f01b00101 h2
  simp only [shaped, PyData.canLay0, h1, this, decide_true, Bool.and_self]
theorem pd_eqv : ∀ rs ss, PyData.eqvAll (pdP rs) (pdP ss) = decide (rs = ss)
  | [], [] => by simp [PyData.eqvAll]
  | [], _ :: _ => by simp [PyData.eqvAll]
  | _ :: _, [] => by simp [PyData.eqvAll]
  | (a, b) :: r, (x, y) :: t => by
    have ih := pd_eqv r t
    simp only [pdP, List.map_cons, PyData.eqvAll, PyData.eqv] at ih ⊢
    rw [ih]
    by_cases h1 : a = x <;> by_cases h2 : b = y <;> by_cases h3 : r = t <;> simp [h1, h2, h3]
theorem pd_reads {as : List Addr} {rs : List (Int × Int)} (h : Sat c S s) (ha : All2 (IsPair S.H) as rs) : ∃ bs, ReadsAll s.heap (as.map Value.ref) (pdP rs) bs := by
  induction as generalizing rs with
  | nil => cases rs with
    | nil => exact ⟨_, .nil⟩
    | cons r rs => exact ha.elim
  | cons a as ih => cases rs with
    | nil => exact ha.elim
    | cons r rs =>
      obtain ⟨bs, hb⟩ := ih ha.2
      obtain ⟨⟨ob, g, vs, rfl, e⟩, _⟩ := h.H a _ ha.1
      rcases vs with _ | ⟨x, _ | ⟨y, _ | _⟩⟩ <;> simp at e
      obtain ⟨t, rfl⟩ := er_int e.1
      obtain ⟨u, rfl⟩ := er_int e.2
      exact ⟨_, .cons (reads_tuple_at g rfl rfl (.cons (.int _ t) (.cons (.int _ u) .nil))) hb⟩
theorem vs_ref {vs : List Value} {as : List Addr} (h : vs.map er = as.map TV.ref) : vs = as.map Value.ref := by
  induction vs generalizing as with
  | nil => cases as with
    | nil => rfl
    | cons => simp at h
  | cons v vs ih => cases as with
    | nil => simp at h
    | cons a as =>
      simp only [List.map_cons, List.cons.injEq] at h ⊢
      exact ⟨er_ref h.1, ih h.2⟩
theorem l_ne {a b : Addr} {rs ss : List (Int × Int)} {Q : TV → St → Prop} (hu : c.A.units + 64 < cLine) (ha : PairsAt S.H a rs) (hb : PairsAt S.H b ss) (h : Q (.bool (!decide (rs = ss))) S) : CMP c .NotEq (.ref a) (.ref b) Q S := by
  intro va vb h1 h2 s hs
  cases er_ref h1
  cases er_ref h2
  obtain ⟨as, h3, h4⟩ := ha
  obtain ⟨bs, h5, h6⟩ := hb
  obtain ⟨vs, n, g, e⟩ := hs.lst h3
  obtain ⟨us, m, g', e'⟩ := hs.lst h5
  obtain ⟨xs, r1⟩ := pd_reads hs h4
  obtain ⟨ys, r2⟩ := pd_reads hs h6
  rw [← vs_ref e] at r1
  rw [← vs_ref e'] at r2
  refine ne_dataH (reads_list_at g rfl rfl r1) (reads_list_at g' rfl rfl r2) (pd_shaped _) (pd_shaped _) hu ⟨S, hs, ?_⟩
  show Q (.bool (!PyData.eqv (.list (pdP rs)) (.list (pdP ss)))) S
  rw [PyData.eqv, pd_eqv]
  exact h
end
end
end Mine
end
section
open PySem PySem.W PyProof.Rows PySem.Calls
set_option maxRecDepth 100000
set_option maxHeartbeats 4000000
namespace Mine
noncomputable section
theorem nf {H : HM} {a b : Addr} {o : AO} (h : H a = none) (k : H b = some o) : b ≠ a := by rintro rfl; rw [h] at k; cases k
theorem nk {H : HM} {a b : Addr} {o o' : AO} (h : H a = some o) (k : H b = some o') (n : o' ≠ o) : b ≠ a := by rintro rfl; rw [h] at k; cases k; exact n rfl
theorem nm_nil {a : Addr} : a ∉ ([] : List Addr) := by simp
theorem nm_cons {a b : Addr} {F : List Addr} (h : a ≠ b) (k : a ∉ F) : a ∉ b :: F := by simp [h, k]
theorem Well.at {c : Cx} (hw : Well c) (A : Around) : Well { c with A := A } := ⟨hw.K, hw.T, hw.fn, hw.gl, hw.bn⟩
/-- the objects that the program makes -/
noncomputable abbrev rgD (s e : Int) : AO := .dict [("start", .int s), ("stop", .int e)]
noncomputable def RangeAt (H : HM) (x : Addr) (r : Int × Int) : Prop := ∃ d, H x = some (.inst 52 d) ∧ H d = some (rgD r.1 r.2)
noncomputable def RangesAt (H : HM) (l : Addr) (rs : List (Int × Int)) : Prop := ∃ as : List Addr, H l = some (.list (as.map TV.ref)) ∧ All2 (RangeAt H) as rs
structure RSet (H : HM) (x d l : Addr) (rs : List (Int × Int)) : Prop where
  x : H x = some (.inst 146 d)
  d : H d = some (.dict [("_ranges", .ref l)])
  l : RangesAt H l rs
end
end Mine
end
section
open PySem PySem.W PyProof.Rows PySem.Calls
set_option maxRecDepth 100000
set_option maxHeartbeats 4000000
namespace Mine
noncomputable section
section
variable {c : Cx} {S : St} {k : Nat} {sc : Scope}
/-- what a body's walk knows of its context -/
structure In (c : Cx) (k : Nat) (sc : Scope) : Prop where
  w : Well c
  r : Room c.A k
  s : c.env.scope = sc
theorem In.on {b : Bs} (h : In c k sc) : In (c.on b) k sc := ⟨h.w.on b, h.r, h.s⟩
theorem In.kd (h : In c k sc) {x : Str} {d : NameKind} (e : sc.names.lookup x = some d) : c.env.kindOf x = some d := by
  show c.env.scope.names.lookup x = _
  rw [h.s]; exact e
theorem In.hA (h : In c k sc) : c.A.handled = none := h.r.handled
theorem lv {x : Str} {pos : Pos} {Q : TV → St → Prop} {v : TV} (I : In c k sc) (hl : sc.names.lookup x = some .local) (hv : S.m.lookup x = some v) (hd : (x == ("__debug__" : Str)) = false) (h : Q v S) :
    PV c (eval (.Name x pos) c.env) Q S := pv_local I.w hv h (I.kd hl) hd
theorem lvn {x : Str} {Q : TV → St → Prop} {v : TV} (I : In c k sc) (hl : sc.names.lookup x = some .local) (hv : S.m.lookup x = some v) (h : Q v S) : PV c (loadName c.env x) Q S := ldn' I.w hv h (I.kd hl)
theorem gv {x : Str} {pos : Pos} {Q : TV → St → Prop} {v : Value} (I : In c k sc) (hl : sc.names.lookup x = some .globalImplicit) (hv : nsIn (KK c.w) mainGlobals x = some (some v)) (hd : (x == ("__debug__" : Str)) = false) (h : Q (er v) S) :
    PV c (eval (.Name x pos) c.env) Q S := pv_global I.w hv h (I.kd hl) hd
theorem bv {x : Str} {pos : Pos} {Q : TV → St → Prop} {v : Value} (I : In c k sc) (hl : sc.names.lookup x = some .globalImplicit) (hv : nsIn (KK c.w) mainGlobals x = some none) (hb : bootBuiltins x = some v) (hn : (x == ("__name__" : Str)) = false) (hd : (x == ("__debug__" : Str)) = false) (h : Q (er v) S) :
    PV c (eval (.Name x pos) c.env) Q S := pv_builtin I.w hv hb (by simpa using hn) h (I.kd hl) hd
theorem sv {x : Str} {v : TV} {Q : St → Prop} {m : List (Str × TV)} {H : HM} (I : In c k sc) (hl : sc.names.lookup x = some .local) (h : Q ⟨(x, v) :: m, H, ()⟩) : STORE c x v Q ⟨m, H, ()⟩ := pw_store I.w h (I.kd hl)
theorem sa {x C d : Addr} {l l' : List (Str × TV)} {name : Str} {v : TV} {Q : St → Prop} {m : List (Str × TV)} {H : HM} (I : In c k sc) (hx : H x = some (.inst C d)) (hd : H d = some (.dict l)) (hB : setB (KK c.w) C name = true)
    (hl : setA name v l = l') (hz : Nat.ble l.length 900 = true) (h : Q ⟨m, upd H d (.dict l'), ()⟩) : SETATTR c (.ref x) name v Q ⟨m, H, ()⟩ := sa_own I.w hx hd hB hl (Nat.le_of_ble_eq_true hz) h
theorem ga {x C d : Addr} {l : List (Str × TV)} {name : Str} {v : TV} {Q : TV → St → Prop} (I : In c k sc) (hx : S.H x = some (.inst C d)) (hd : S.H d = some (.dict l)) (hB : attrB (KK c.w) C name = true)
    (hv : l.lookup name = some v) (hh : ∀ i, v ≠ .bt i) (h : Q v S) : GETATTR c (.ref x) name Q S := ga_own I.w hx hd hB hv hh h
theorem Keep.step {F : List Addr} {H H' : HM} {a : Addr} {o : AO} (k : Keep F H H') (h : a ∈ F ∨ H a = none) : Keep F H (upd H' a o) := fun b x nb hb => by
  have : b ≠ a := by
    rintro rfl
    rcases h with h | h
    · exact nb h
    · rw [h] at hb; cases hb
  rw [upd_ne this]; exact k b x nb hb
theorem In.int (h : In c k sc) : interactive c.env = false := by
  unfold interactive; rw [h.w.fn]; rfl
theorem xe {e : Expr} {pos : Pos} {Q : TF → St → Prop} (I : In c k sc) (hs : swapsWith e none pos.line c.env = pure false) (h : PV c (eval e c.env) (fun _ S' => Q .next S') S) : PX c (exec (.Expr e pos) c.env) Q S := px_expr h I.int hs

theorem w0 {P : List Value → Prop} (h : P []) (vs : List Value) (e : vs.length = 0) : P vs := by
  cases vs with
  | nil => exact h
  | cons a r => cases e
theorem w1 {P : List Value → Prop} (h : ∀ a, P [a]) (vs : List Value) (e : vs.length = 1) : P vs := by
  cases vs with
  | nil => cases e
  | cons a r => exact w0 (P := fun r => P (a :: r)) (h a) r (Nat.succ.inj e)
theorem w2 {P : List Value → Prop} (h : ∀ a b, P [a, b]) (vs : List Value) (e : vs.length = 2) : P vs := by
  cases vs with
  | nil => cases e
  | cons a r => exact w1 (P := fun r => P (a :: r)) (h a) r (Nat.succ.inj e)
theorem w3 {P : List Value → Prop} (h : ∀ a b c, P [a, b, c]) (vs : List Value) (e : vs.length = 3) : P vs := by
  cases vs with
  | nil => cases e
  | cons a r => exact w2 (P := fun r => P (a :: r)) (h a) r (Nat.succ.inj e)
theorem w4 {P : List Value → Prop} (h : ∀ a b c d, P [a, b, c, d]) (vs : List Value) (e : vs.length = 4) : P vs := by
  cases vs with
  | nil => cases e
  | cons a r => exact w3 (P := fun r => P (a :: r)) (h a) r (Nat.succ.inj e)
theorem call_p {f : Addr} {args : List TV} {name qual : Str} {params : Arguments} {body : List Stmt} {scope : Scope} {dV kV doc pm cdv ct oc : Value} {an od : Option Addr} {osl : Array (Option Value)}
    {Q : TV → St → Prop} (names : List Str) (hw : Well c) (hr : Room c.A (k + 1))
    (ho : (KK c.w).lookup f = some ⟨oc, od, .func (fnOf name qual params body scope dV kV doc pm an cdv ct), osl⟩) (hcd : codeIn (KK c.w) cdv qual = true)
    (hlen : args.length = names.length)
    (hbind : ∀ vs : List Value, vs.length = names.length → bindArgs (fnOf name qual params body scope dV kV doc pm an cdv ct) ⟨vs, []⟩ = pure (names.zip vs))
    (hloc : (names.all fun x => decide (scope.names.lookup x = some .local)) = true)
    (hk : scope.kind = .function) (hco : scope.isCoroutine = false) (hgen : scope.isGenerator = false) (hcell : (scope.names.all fun x => x.2 != .cell) = true)
    (h : ∀ c', In c' k scope → PX c' (execs body c'.env) (fun fl S' => Q (retv fl) { S' with m := S.m }) ⟨(names.zip args).reverse, S.H, S.g⟩) :
    CALL c (.ref f) args [] Q S :=
  call_pos' hw hr ho hcd hlen hbind hloc hk hco hgen (fun x hx => by simpa using List.all_eq_true.mp hcell x hx) fun A' base' L' hr' hw' => h _ ⟨hw', hr', rfl⟩
theorem rcall_p {f : Addr} {args : List TV} {name qual : Str} {params : Arguments} {body : List Stmt} {scope : Scope} {dV kV doc pm cdv ct oc : Value} {an od : Option Addr} {osl : Array (Option Value)}
    {Q : TV → St → Prop} (names : List Str) (hw : Well c) (hr : Room c.A (k + 1))
    (ho : (KK c.w).lookup f = some ⟨oc, od, .func (fnOf name qual params body scope dV kV doc pm an cdv ct), osl⟩) (hcd : codeIn (KK c.w) cdv qual = true)
    (hlen : args.length = names.length)
    (hbind : ∀ vs : List Value, vs.length = names.length → bindArgs (fnOf name qual params body scope dV kV doc pm an cdv ct) ⟨vs, []⟩ = pure (names.zip vs))
    (hloc : (names.all fun x => decide (scope.names.lookup x = some .local)) = true)
    (hk : scope.kind = .function) (hco : scope.isCoroutine = false) (hgen : scope.isGenerator = false) (hcell : (scope.names.all fun x => x.2 != .cell) = true)
    (h : ∀ c', In c' k scope → RX c' (execs body c'.env) (fun fl S' => Q (retv fl) { S' with m := S.m }) ⟨(names.zip args).reverse, S.H, S.g⟩) :
    RCALL c (.ref f) args [] Q S :=
  rcall_pos' hw hr ho hcd hlen hbind hloc hk hco hgen (fun x hx => by simpa using List.all_eq_true.mp hcell x hx) fun A' base' L' hr' hw' => h _ ⟨hw', hr', rfl⟩
theorem call_g {f : Addr} {args : List TV} {kws : List (Str × TV)} {name qual : Str} {params : Arguments} {body : List Stmt} {scope : Scope} {dV kV doc pm cdv ct oc : Value} {an od : Option Addr} {osl : Array (Option Value)}
    {Q : TV → St → Prop} (names : List Str) (vals : List TV) (hw : Well c) (hr : Room c.A (k + 1))
    (ho : (KK c.w).lookup f = some ⟨oc, od, .func (fnOf name qual params body scope dV kV doc pm an cdv ct), osl⟩) (hcd : codeIn (KK c.w) cdv qual = true)
    (hbind : ∀ (vs : List Value) (ks : List (Str × Value)), vs.map er = args → ks.map (fun x => (x.1, er x.2)) = kws → ∃ us : List Value, us.map er = vals ∧ ∀ s, (KK c.w).In s.heap → BindsTo s (fnOf name qual params body scope dV kV doc pm an cdv ct) ⟨vs, ks⟩ (names.zip us))
    (hloc : (names.all fun x => decide (scope.names.lookup x = some .local)) = true)
    (hk : scope.kind = .function) (hco : scope.isCoroutine = false) (hgen : scope.isGenerator = false) (hcell : (scope.names.all fun x => x.2 != .cell) = true)
    (h : ∀ c', In c' k scope → PX c' (execs body c'.env) (fun fl S' => Q (retv fl) { S' with m := S.m }) ⟨(names.zip vals).reverse, S.H, S.g⟩) :
    CALL c (.ref f) args kws Q S := by
  refine call_fn (m₀ := (names.zip vals).reverse) hw hr ho hcd (fun vs ks hvs hks s X => ?_) hk hco hgen (fun x hx => by simpa using List.all_eq_true.mp hcell x hx) fun A' base' L' hr' hw' => h _ ⟨hw', hr', rfl⟩
  obtain ⟨us, e, B⟩ := hbind vs ks hvs hks
  refine ⟨_, B s X, fun x hx => ?_, fun x => ?_⟩
  · have := List.all_eq_true.mp hloc x.1 (List.of_mem_zip hx).1
    simpa using this
  · rw [lookup_er, List.map_reverse, zip_er, e]
theorem rcall_g {f : Addr} {args : List TV} {kws : List (Str × TV)} {name qual : Str} {params : Arguments} {body : List Stmt} {scope : Scope} {dV kV doc pm cdv ct oc : Value} {an od : Option Addr} {osl : Array (Option Value)}
    {Q : TV → St → Prop} (names : List Str) (vals : List TV) (hw : Well c) (hr : Room c.A (k + 1))
    (ho : (KK c.w).lookup f = some ⟨oc, od, .func (fnOf name qual params body scope dV kV doc pm an cdv ct), osl⟩) (hcd : codeIn (KK c.w) cdv qual = true)
    (hbind : ∀ (vs : List Value) (ks : List (Str × Value)), vs.map er = args → ks.map (fun x => (x.1, er x.2)) = kws → ∃ us : List Value, us.map er = vals ∧ ∀ s, (KK c.w).In s.heap → BindsTo s (fnOf name qual params body scope dV kV doc pm an cdv ct) ⟨vs, ks⟩ (names.zip us))
    (hloc : (names.all fun x => decide (scope.names.lookup x = some .local)) = true)
    (hk : scope.kind = .function) (hco : scope.isCoroutine = false) (hgen : scope.isGenerator = false) (hcell : (scope.names.all fun x => x.2 != .cell) = true)
    (h : ∀ c', In c' k scope → RX c' (execs body c'.env) (fun fl S' => Q (retv fl) { S' with m := S.m }) ⟨(names.zip vals).reverse, S.H, S.g⟩) :
    RCALL c (.ref f) args kws Q S := by
  refine rcall_fn (m₀ := (names.zip vals).reverse) hw hr ho hcd (fun vs ks hvs hks s X => ?_) hk hco hgen (fun x hx => by simpa using List.all_eq_true.mp hcell x hx) fun A' base' L' hr' hw' => h _ ⟨hw', hr', rfl⟩
  obtain ⟨us, e, B⟩ := hbind vs ks hvs hks
  refine ⟨_, B s X, fun x hx => ?_, fun x => ?_⟩
  · have := List.all_eq_true.mp hloc x.1 (List.of_mem_zip hx).1
    simpa using this
  · rw [lookup_er, List.map_reverse, zip_er, e]
/-- an empty list of the written part, gone through -/
theorem steps_K0 {target : Expr} {l : Addr} {o : Obj} {n : Nat} {item : Nat → Item} {J : Nat → St → Prop} (hw : Well c) (hA : c.A.handled = none) (ho : (KK c.w).lookup l = some o) (hc : o.cls = .type "list") (hd : o.data = .seq #[] n) :
    Steps c target (.ref l) 0 item J S S := by
  have hl : ∀ h : Heap, (KK c.w).In h → h.IsList l #[] := fun h X => ⟨o, X _ _ ho, hc, n, hd⟩
  refine ⟨fun own it k h g => own = [it] ∧ h.IsListIter it l k, ?_, ?_, fun vv s Q' hv hs q => ?_, fun e₀ hb k S s own it Q' hk hs hj fr hi q => absurd hk (Nat.not_lt_zero _), fun e₀ hb S s own it Q' hs hj fr hi q => ?_⟩
  · rintro own it k h g ⟨rfl, o, g', _⟩ b hb; rw [List.mem_singleton.mp hb]; exact ⟨o, g'⟩
  · rintro own it k h g h' g' ⟨rfl, o, g1, r⟩ kp _; exact ⟨rfl, o, kp _ (.head _) o g1, r⟩
  · cases er_ref hv
    exact wpAny_pyIter_list (hl _ (hw.Kin hs)) (q [_] _ _ (hs.ext (s' := { s with heap := s.heap.push _ }) (fun b o g => Heap.get?_push_of_some _ g) rfl rfl) (by rintro b hb; rw [List.mem_singleton.mp hb]; exact hs.free (Nat.le_refl _)) ⟨rfl, _, Heap.get?_push_size _ rfl, rfl, rfl⟩)
  · obtain ⟨rfl, hi⟩ := hi
    obtain ⟨mm, F, _⟩ := hs.fr
    exact wpAny_pyNext_list_end hA hi (hl _ (hw.K.keeps F.keep)) rfl fun h' hx => q _ (hs.one (tk := s.toks) fr fun b o n q => hx b o n q)
theorem nl {xs : List TV} {Q : TV → St → Prop} {m : List (Str × TV)} {H : HM} (hz : xs.length ≤ sizeLine) (h : ∀ a, H a = none → Q (.ref a) ⟨m, upd H a (.list xs), ()⟩) : NEWLIST c xs Q ⟨m, H, ()⟩ := new_list hz h
theorem nt {xs : List TV} {Q : TV → St → Prop} {m : List (Str × TV)} {H : HM} (hz : xs.length ≤ sizeLine) (h : ∀ a, H a = none → Q (.ref a) ⟨m, upd H a (.tup xs), ()⟩) : NEWTUP c xs Q ⟨m, H, ()⟩ := new_tup hz h
theorem sl_le {n : Nat} (h : n ≤ 100000) : n ≤ sizeLine := Nat.le_trans h (Nat.le_of_ble_eq_true rfl)
/-! rows that stand together often, as one step -/
noncomputable def notBt : TV → Bool
  | .bt _ => false
  | _ => true
theorem notBt_ne {v : TV} (h : notBt v = true) : ∀ i, v ≠ .bt i := fun i e => by subst e; cases h
theorem lattr {x attr : Str} {p1 p2 : Pos} {o C d : Addr} {l : List (Str × TV)} {v : TV} {Q : TV → St → Prop} (I : In c k sc) (hl : sc.names.lookup x = some .local) (hv : S.m.lookup x = some (.ref o)) (hd : (x == ("__debug__" : Str)) = false) (hx : S.H o = some (.inst C d)) (hD : S.H d = some (.dict l)) (hB : attrB (KK c.w) C attr = true)
    (ha : l.lookup attr = some v) (hh : notBt v = true) (h : Q v S) : PV c (eval (.Attribute (.Name x p1) attr p2) c.env) Q S := pv_attr (lv I hl hv hd (ga I hx hD hB ha (notBt_ne hh) h))
theorem wsub {x y : Str} {p1 p2 p3 : Pos} {n : Nat} {d : Addr} {l : List (Str × TV)} {v : TV} {Q : TV → St → Prop} (I : In c k sc) (hl : sc.names.lookup x = some .local) (hv : S.m.lookup x = some (.ref d)) (hd : (x == ("__debug__" : Str)) = false) (hD : S.H d = some (.dict l)) (hy : l.lookup y = some v) (h : Q v S) :
    PV c (eval (.Subscript (.Name x p1) (.Constant (.str y) n p2) p3) c.env) Q S := pv_sub (lv I hl hv hd (pv_str (sub_dict hD hy h)))
theorem gcall {x : Str} {p1 p2 : Pos} {a : Addr} {e : Expr} {rest : List Expr} {Q : TV → St → Prop} (I : In c k sc) (hl : sc.names.lookup x = some .globalImplicit) (hv : nsIn (KK c.w) mainGlobals x = some (some (.ref a))) (hd : (x == ("__debug__" : Str)) = false) (hk : keepIn (KK c.w) (.ref a) = true)
    (h : ARGS c (e :: rest) (fun vs S₁ => CALL c (.ref a) vs [] Q S₁) S)
    (hn : starEach (e :: rest) c.env = (false, eval e c.env) :: starEach rest c.env := by rfl) (hm : ∀ pos, (backTo pos (starEach rest c.env)).any (fun x => x.1) = false := by intro _; rfl) :
    PV c (eval (.Call (.Name x p1) (e :: rest) [] p2) c.env) Q S := pv_call (gv I hl hv hd (callw_K I.w hk h hn hm))
end
end
end Mine
end
section
open PySem PySem.W PyProof.Rows PySem.Calls
set_option maxRecDepth 100000
set_option maxHeartbeats 4000000
namespace Mine
noncomputable section
section
variable {c : Cx} {S : St} {k : Nat}
theorem spec_Range {s e : Int} {Q : TV → St → Prop} (hw : Well c) (hr : Room c.A 2) (h : ∀ x H', S.H x = none → Keep [] S.H H' → RangeAt H' x (s, e) → Q (.ref x) { S with H := H' }) : CALL c (.ref 52) [.int s, .int e] [] Q S := by
  refine call_inst (k := 1) hw hr (mk_52 _) fun A' x d hr' hx hd hxd => ?_
  refine call_p (k := 0) ["self", "start", "stop"] (hw.at A') hr' rfl rfl rfl (w3 fun _ _ _ => rfl) rfl rfl rfl rfl rfl fun c' I => ?_
  refine px_cons (px_assign_attr (lv I rfl rfl rfl (lv I rfl rfl rfl (sa I (by repeat (first | assumption | exact upd_self _ _ _ | refine (upd_ne (by first | assumption | exact Ne.symm (by assumption) | exact nf (by assumption) (by assumption))).trans ?_ | refine kp_get (by assumption) (by repeat (first | exact nm_nil | refine nm_cons (by first | assumption | exact Ne.symm (by assumption) | exact nf (by assumption) (by assumption)) ?_)) ?_)) (by repeat (first | assumption | exact upd_self _ _ _ | refine (upd_ne (by first | assumption | exact Ne.symm (by assumption) | exact nf (by assumption) (by assumption))).trans ?_ | refine kp_get (by assumption) (by repeat (first | exact nm_nil | refine nm_cons (by first | assumption | exact Ne.symm (by assumption) | exact nf (by assumption) (by assumption)) ?_)) ?_)) (s_52_start _) rfl rfl ?_))))
  refine px_cons (px_assign_attr (lv I rfl rfl rfl (lv I rfl rfl rfl (sa I (by repeat (first | assumption | exact upd_self _ _ _ | refine (upd_ne (by first | assumption | exact Ne.symm (by assumption) | exact nf (by assumption) (by assumption))).trans ?_ | refine kp_get (by assumption) (by repeat (first | exact nm_nil | refine nm_cons (by first | assumption | exact Ne.symm (by assumption) | exact nf (by assumption) (by assumption)) ?_)) ?_)) (by repeat (first | assumption | exact upd_self _ _ _ | refine (upd_ne (by first | assumption | exact Ne.symm (by assumption) | exact nf (by assumption) (by assumption))).trans ?_ | refine kp_get (by assumption) (by repeat (first | exact nm_nil | refine nm_cons (by first | assumption | exact Ne.symm (by assumption) | exact nf (by assumption) (by assumption)) ?_)) ?_)) (s_52_stop _) rfl rfl ?_))))
  exact px_nil ⟨rfl, h x _ hx (((((Keep.refl).step (.inr hd)).step (.inr hx)).step (.inr hd)).step (.inr hd)) ⟨d, (by repeat (first | assumption | exact upd_self _ _ _ | refine (upd_ne (by first | assumption | exact Ne.symm (by assumption) | exact nf (by assumption) (by assumption))).trans ?_ | refine kp_get (by assumption) (by repeat (first | exact nm_nil | refine nm_cons (by first | assumption | exact Ne.symm (by assumption) | exact nf (by assumption) (by assumption)) ?_)) ?_)), (by repeat (first | assumption | exact upd_self _ _ _ | refine (upd_ne (by first | assumption | exact Ne.symm (by assumption) | exact nf (by assumption) (by assumption))).trans ?_ | refine kp_get (by assumption) (by repeat (first | exact nm_nil | refine nm_cons (by first | assumption | exact Ne.symm (by assumption) | exact nf (by assumption) (by assumption)) ?_)) ?_))⟩⟩
noncomputable def sizeV (v : Int) : Int := if v ≤ 63 then 1 else if v ≤ 16383 then 2 else if v ≤ 1073741823 then 4 else 8
theorem spec_size {v : Int} {Q : TV → St → Prop} (hw : Well c) (hr : Room c.A 1) (hv : v ≤ 4611686018427387903) (h : Q (.int (sizeV v)) S) : CALL c (.ref 388) [.int v] [] Q S := by
  refine call_p (k := 0) ["value"] hw hr rfl rfl rfl (w1 fun _ => rfl) rfl rfl rfl rfl rfl fun c' I => ?_
  unfold sizeV at h
  refine px_cons (px_if (pt_cmp (lv I rfl rfl rfl (pv_int (i_le (t_bool (dec_2 (fun q => ?_) fun q => ?_)))))))
  · rw [if_pos q] at h
    exact px_cons (px_return (pv_int h))
  rw [if_neg q] at h
  refine px_cons (px_if (pt_cmp (lv I rfl rfl rfl (pv_int (i_le (t_bool (dec_2 (fun q => ?_) fun q => ?_)))))))
  · rw [if_pos q] at h
    exact px_cons (px_return (pv_int h))
  rw [if_neg q] at h
  refine px_cons (px_if (pt_cmp (lv I rfl rfl rfl (pv_int (i_le (t_bool (dec_2 (fun q => ?_) fun q => ?_)))))))
  · rw [if_pos q] at h
    exact px_cons (px_return (pv_int h))
  rw [if_neg q] at h
  exact px_cons (px_if (pt_cmp (lv I rfl rfl rfl (pv_int (i_le (t_bool (dec_2 (fun q => px_cons (px_return (pv_int h))) fun q => absurd hv q)))))))
noncomputable def decodeRaw (t b e : Int) : Int :=
  let w : Int := 1 * 2 ^ b.toNat
  let hf : Int := w.fdiv 2
  let cand := Builtin.bitOr (Builtin.bitAnd e (-(w - 1) - 1)) t
  if cand ≤ e - hf ∧ cand < 1 * 2 ^ (62 : Int).toNat - w then cand + w else if e + hf < cand ∧ w ≤ cand then cand - w else cand
theorem spec_decode {t b e : Int} {Q : TV → St → Prop} (hw : Well c) (hr : Room c.A 1) (hb : b = 8 ∨ b = 16 ∨ b = 24) (h : Q (.int (decodeRaw t b e)) S) : CALL c (.ref 395) [.int t, .int b, .int e] [] Q S := by
  refine call_p (k := 0) ["truncated", "num_bits", "expected"] hw hr rfl rfl rfl (w3 fun _ _ _ => rfl) rfl rfl rfl rfl rfl fun c' I => ?_
  unfold decodeRaw at h
  dsimp only at h
  have h8 : 0 ≤ b ∧ b ≤ 1000000 := by exact aL 0x1011011011110110110113ec99888030083638805288057188057110 hb
  refine px_cons <| px_assign_name <| pv_bin <| pv_int <| lv I rfl rfl rfl <| i_shl h8.1 h8.2 (by decide) <| sv I rfl ?_
  have hp : Builtin.divisionGoesByPylong (1 * 2 ^ b.toNat) 2 = false := by rcases hb with rfl | rfl | rfl <;> decide
  refine px_cons <| px_assign_name <| pv_bin <| lv I rfl rfl rfl <| pv_int <| i_div (by decide) hp <| sv I rfl ?_
  refine px_cons <| px_assign_name <| pv_bin <| pv_bin <| lv I rfl rfl rfl <| pv_un <| pv_bin <| lv I rfl rfl rfl <| pv_int <| i_sub <| i_inv <| i_and <| lv I rfl rfl rfl <| i_or <| sv I rfl ?_
  generalize Builtin.bitOr _ _ = cand at *
  generalize (1 * 2 ^ b.toNat : Int) = wd at *
  refine px_cons <| px_ifj (decide (cand ≤ e - wd.fdiv 2 ∧ cand < 1 * 2 ^ (62 : Int).toNat - wd)) ?_ (dec_2 (fun q => ?_) fun q => ?_)
  · refine pt_and <| pt_cmp <| lv I rfl rfl rfl <| pv_bin <| lv I rfl rfl rfl <| lv I rfl rfl rfl <| i_sub <| i_le <| t_bool <| dec_2 (fun q1 => ?_) fun q1 => ⟨by simp [q1], rfl⟩
    refine pt_and <| pt_cmp <| lv I rfl rfl rfl <| pv_bin <| pv_bin <| pv_int <| pv_int <| i_shl (by decide) (by decide) (by decide) <| lv I rfl rfl rfl <| i_sub <| i_lt <| t_bool <| dec_2 (fun q2 => pt_and_nil ?_) fun q2 => ?_
    · exact ⟨(decide_eq_true ⟨q1, q2⟩).symm, rfl⟩
    · exact ⟨(decide_eq_false fun z => q2 z.2).symm, rfl⟩
  · rw [if_pos q] at h
    exact px_cons <| px_return <| pv_bin <| lv I rfl rfl rfl <| lv I rfl rfl rfl <| i_add h
  rw [if_neg q] at h
  refine px_cons <| px_ifj (decide (e + wd.fdiv 2 < cand ∧ wd ≤ cand)) ?_ (dec_2 (fun q => ?_) fun q => ?_)
  · refine pt_and <| pt_cmp <| lv I rfl rfl rfl <| pv_bin <| lv I rfl rfl rfl <| lv I rfl rfl rfl <| i_add <| i_gt <| t_bool <| dec_2 (fun q1 => ?_) fun q1 => ⟨by simp [q1], rfl⟩
    refine pt_and <| pt_cmp <| lv I rfl rfl rfl <| lv I rfl rfl rfl <| i_ge <| t_bool <| dec_2 (fun q2 => pt_and_nil ?_) fun q2 => ?_
    · exact ⟨(decide_eq_true ⟨q1, q2⟩).symm, rfl⟩
    · exact ⟨(decide_eq_false fun z => q2 z.2).symm, rfl⟩
  · rw [if_pos q] at h
    exact px_cons <| px_return <| pv_bin <| lv I rfl rfl rfl <| lv I rfl rfl rfl <| i_sub h
  · rw [if_neg q] at h
    exact px_cons <| px_return <| lv I rfl rfl rfl h
end
end
end Mine
end
section
open PySem PySem.W PyProof.Rows PySem.Calls
set_option maxRecDepth 100000
set_option maxHeartbeats 4000000
namespace Mine
noncomputable section
section
variable {c : Cx} {S : St} {k : Nat}
theorem or_add (x t : Int) (b : Nat) (hx : 0 ≤ x) (hm : x % 2 ^ b = 0) (h0 : 0 ≤ t) (h1 : t < 2 ^ b) : Builtin.bitOr x t = x + t := by
  rw [bitOr_and]
  have e : t = Builtin.bitAnd t (2 ^ b - 1) := by rw [kbt_mask, Int.emod_eq_of_lt h0 h1]
  have hp : (0 : Int) ≤ 2 ^ b - 1 := by have := kbt_pos b; omega
  have : Builtin.bitAnd x t = 0 := by
    have e1 : Builtin.bitAnd x (2 ^ b - 1) = 0 := by rw [kbt_mask, hm]
    rw [bitAnd_pp hx hp] at e1
    rw [bitAnd_pp h0 hp] at e
    rw [e, bitAnd_pp hx (by exact aL 0x107083001)]
    have e2 : x.toNat &&& (2 ^ b - 1 : Int).toNat = 0 := by exact aL 0x10110010b0208075101 e1
    rw [Int.toNat_natCast, Nat.and_comm t.toNat, ← Nat.and_assoc, e2, Nat.zero_and]
    rfl
  exact aL 0x11010112190219a50805130 this
/-- the number that a truncated one stands for -/
noncomputable def dueOf (n w e : Int) : Int :=
  let above := (n - e) % w
  let due := if 2 * above ≤ w then e + above else e + above - w
  if due < 0 then due + w else due
theorem decode_due {n b e : Int} (hb : b = 8 ∨ b = 16 ∨ b = 24) (hn : 0 ≤ n) (he : 0 ≤ e) (he2 : e ≤ 100000000) : decodeRaw (n % 2 ^ b.toNat) b e = dueOf n (2 ^ b.toNat) e := by
  obtain ⟨k, rfl, w, hw, hwk⟩ : ∃ k : Nat, b = k ∧ ∃ w : Int, w = 2 ^ k ∧ (w = 256 ∨ w = 65536 ∨ w = 16777216) := by
    rcases hb with rfl | rfl | rfl
    · exact ⟨8, rfl, _, rfl, .inl (by decide)⟩
    · exact ⟨16, rfl, _, rfl, .inr (.inl (by decide))⟩
    · exact ⟨24, rfl, _, rfl, .inr (.inr (by decide))⟩
  unfold decodeRaw dueOf
  simp only [Int.toNat_natCast, Int.one_mul]
  have e1 : (-((2 : Int) ^ k - 1) - 1) = Builtin.bitNot (2 ^ k - 1) := rfl
  rw [e1, bitAnd_not, kbt_mask, ← hw]
  have hwp : 0 < w := by exact aL 0x1101101101008418888888880528888880574888057110 hwk
  have m1 := Int.emod_nonneg n (show w ≠ 0 by exact aL 0x11080590084110 hwp)
  have m2 := Int.emod_lt_of_pos n hwp
  have m3 := Int.emod_nonneg e (show w ≠ 0 by exact aL 0x11080590084110 hwp)
  have m4 := Int.emod_lt_of_pos e hwp
  have m5 : e % w ≤ e := by
    have := Int.emod_add_mul_ediv e w
    have h2 : 0 ≤ e / w := Int.ediv_nonneg he (by exact aL 0x1100830084110 hwp)
    have h3 : 0 ≤ w * (e / w) := Int.mul_nonneg (by exact aL 0x1100830084110 hwp) h2
    exact aL 0x1011203108321095230 this h3
  rw [or_add (e - e % w) (n % w) k (by exact aL 0x1101a083103120 m5) (by rw [← hw, Int.sub_emod]; simp) m1 (by rw [← hw]; exact m2)]
  have e2 : (n - e) % w = if e % w ≤ n % w then n % w - e % w else n % w - e % w + w := by
    rw [Int.sub_emod]
    split
    · exact Int.emod_eq_of_lt (by exact aL 0x1101a083103120 (by assumption)) (by exact aL 0x111120a42083104230 m2 m3)
    · rw [← Int.add_emod_right]; exact Int.emod_eq_of_lt (by exact aL 0x111210a90832140083230 m1 m4) (by exact aL 0x112201a941039130 (by assumption))
  rw [e2, Int.fdiv_eq_ediv_of_nonneg _ (by decide)]
  generalize n % w = t at *
  generalize e % w = r at *
  have e3 : (1 * 2 ^ (62 : Int).toNat : Int) = 4611686018427387904 := by decide
  simp only [Int.one_mul] at e3
  rw [e3]
  clear hw e1 e2 e3 hb
  repeat' split
  · exact aL 0x111312a0993210a995040
  · exact aL 0x220101010002201010100022010101011002100000112a094210a99518888888884528888884574888457285450836432c5956412a2c321344888888888888888888888a210a9430a210a936560 (by assumption) (by assumption) (by assumption) (aF 2 _ oY) hwk
  · exact aL 0x2000211010111000000011103a29a91302a995285450836142c5956103a2c3914888888888888888888888a302a9442a302a9361040083560 m3 m4 (by assumption) (by assumption) (aF 2 _ oY)
  · exact aL 0x100021101012200000001103a29a1302a995285450836142c5956103a2c3914888888888888888888888a302a9442a302a9361040083560 m3 m4 (by assumption) (by assumption) (aF 2 _ oY)
  · exact aL 0x11110111113321a90993120a99508321a909432410830083440 he m1 m4 (by assumption)
  · exact aL 0x111312a9093210a995040
  · exact aL 0x11133312a909a93210a995040
  · omega
  · exact aL 0x11101111312a0993210a9a50812a0942130083340 he (by assumption) (by assumption)
  · exact aL 0x21101000211010123a094320a9a5285450836412c5956423a2c3320a943320a910946360 (by assumption) (by assumption) (aF 2 _ oY)
  · exact aL 0x101010114423a09a94320a9a508423a09a4320a943320a910946250 (by assumption) (by assumption)
  · exact aL 0x111312a09a3210a9a5040
  · exact aL 0x11110111113321a90993120a9a508321a909432410830083440 he m1 m4 (by assumption)
  · exact aL 0x122000000010002110101140a9291042a9a5285450836132c59561140a92c3042a913042a9329461040083560 m1 m2 (by assumption) (by assumption) (aF 2 _ oY)
  · exact aL 0x11101011101111104a929a91402a9a5081104a929a4402a913402a9329461040083450 m3 m4 (by assumption) (by assumption)
  · exact aL 0x10021000010220101014423a909a4320a9a5285450836412c59564423a92c393239320a943320a910946460 (by assumption) (by assumption) (by assumption) (aF 2 _ oY)
  · exact aL 0x11101111310a299012a950810a2942130083340 m1 m5 (by assumption)
  · exact aL 0x11112a09210a95030
  · exact aL 0x1113312a09a9210a95040
  · exact aL 0x1000010001001012111100000001102a39a203a95203a913203a9539469284440836152c495608102a39a49102a2c391040083660 m3 m4 (by assumption) (by assumption) (aF 2 _ oY) (by assumption)
  · exact aL 0x11110111113321a9099120a9508321a909432410830083440 he m1 m4 (by assumption)
  · exact aL 0x10220100000021011000010000010101211321a909120a9534888888888888888888888a120a9450a120a9369284440836352c49563321a92c302332410835fdbe8c88803760 he2 m1 m4 m5 (by assumption) (aF 2 _ oY) (by assumption)
  · exact aL 0x1110111133310a929a9012a95083310a929a42130083340 m1 m5 (by assumption)
  · exact aL 0x1113312a909a210a95040
theorem due_near {n w e : Int} (hn : 0 ≤ n) (hw : 2 ≤ w) (h1 : e - n < w / 2) (h2 : 2 * (n - e) < w) : dueOf n w e = n := by
  unfold dueOf
  have e2 : (n - e) % w = if e ≤ n then n - e else n - e + w := by
    split
    · exact Int.emod_eq_of_lt (by exact aL 0x1101a083103120 (by assumption)) (by exact aL 0x111210a4013210a2c4230 h2 (by assumption))
    · rw [← Int.add_emod_right]; exact Int.emod_eq_of_lt (by exact aL 0x2120101012a9083284440836032c4956321a40283350 hw h1 (aF 2 _ oY)) (by exact aL 0x112201a941039130 (by assumption))
  simp only [e2]
  repeat' split
  · exact aL 0x1101110210a19950810a1940083230 hn (by assumption)
  · exact aL 0x111101a095020
  · exact aL 0x11112201a09a95030
  · exact aL 0x1101110210a19a5210a2c39210a2c4230 h2 (by assumption)
  · exact aL 0x120020000012210101103310a91995284440836322c495608310a91940139201a40083550 hn h1 (by assumption) (by assumption) (aF 2 _ oY)
  · exact aL 0x210101021010111301a9095284440836322c49563301a92c3210a4350 h1 (by assumption) (aF 2 _ oY)
  · exact aL 0x110111022210a919a95082210a919a40083230 hn (by assumption)
  · exact aL 0x11112201a909a5030
end
end
end Mine
end
section
open PySem PySem.W PyProof.Rows PySem.Calls
set_option maxRecDepth 100000
set_option maxHeartbeats 4000000
namespace Mine
noncomputable section
section
variable {c : Cx} {S : St} {k : Nat}
theorem little_bound : ∀ (n : Nat) (x : Int), ∀ y ∈ KTBy.little n x, 0 ≤ y ∧ y < 256
  | 0, _, y, h => by cases h
  | n + 1, x, y, h => by
    rcases List.mem_cons.mp h with rfl | h
    · exact aL 0x11000101001488804008364888040083621488c0956130 (aF 256 _ oY)
    · exact little_bound n _ y h
theorem value_snoc (l : List Int) (a : Int) : KFB.value (l ++ [a]) = KFB.value l * 256 + a := by
  unfold KFB.value
  rw [List.foldl_append]; rfl
theorem value_little : ∀ (n : Nat) (x : Int), 0 ≤ x → x < 256 ^ n → KFB.value (KTBy.little n x).reverse = x
  | 0, x, h0, h1 => by
    have : x = 0 := by simp at h1; exact aL 0x1011101080518040083210 h0 h1
    subst this; rfl
  | n + 1, x, h0, h1 => by
    show KFB.value (x % 256 :: KTBy.little n (x / 256)).reverse = x
    rw [List.reverse_cons, value_snoc, value_little n (x / 256) (Int.ediv_nonneg h0 (by decide)) (Int.ediv_lt_of_lt_mul (by decide) (by rw [Int.pow_succ] at h1; exact h1))]
    exact aL 0x10001100101204881d954888040083621488c0956130 (aF 256 _ oY)
theorem vB_beB (k : Nat) (x : Int) (h0 : 0 ≤ x) (h1 : x < 256 ^ k) : vB (beB k x) = x := by
  unfold vB beB
  rw [List.map_map, List.map_congr_left (g := id) fun y hy => ?_, List.map_id, value_little k x h0 h1]
  have := little_bound k x y (List.mem_reverse.mp hy)
  show ((y.toNat.toUInt8.toNat : Nat) : Int) = y
  have e : y.toNat.toUInt8.toNat = y.toNat := by
    show y.toNat % 256 = y.toNat
    exact Nat.mod_eq_of_lt (by exact aL 0x1000111011488b0108030b02600757488804211 this.2 (aT _))
  rw [e]; exact aL 0x11000110001110101007508030b0260075707030083311 this.1 (Int.self_le_toNat _) (aT _)
theorem beB_len (k : Nat) (x : Int) : (beB k x).length = k := by
  unfold beB; simp [KTBy.little_length]
/-- how many octets, and how a number is written in them -/
noncomputable def encK (v : Int) : Nat := if v ≤ 63 then 1 else if v ≤ 16383 then 2 else 4
noncomputable def encX (v : Int) : Int := if v ≤ 63 then v else if v ≤ 16383 then v + 16384 else v + 2147483648
noncomputable def encV (v : Int) : List UInt8 := beB (encK v) (encX v)
theorem encV_len (v : Int) : (encV v).length = encK v := beB_len _ _
theorem encX_bound {v : Int} (h0 : 0 ≤ v) (h1 : v < 1073741824) : 0 ≤ encX v ∧ encX v < 256 ^ encK v := by
  unfold encX encK
  split
  · exact ⟨h0, by exact aL 0x114888047f803110 (by assumption)⟩
  · split
    · exact ⟨by exact aL 0x11488888090837f8039110 (by assumption), by exact aL 0x1128888884888880943ffff803110 (by assumption)⟩
    · exact ⟨by exact aL 0x11288888888888090833ffff8039110 (by assumption), by exact aL 0x1148888888888828888888888809418888888888804110 h1⟩
/-- the first octet -/
theorem encV_first {v : Int} (h0 : 0 ≤ v) (h1 : v < 1073741824) : ∃ f r, encV v = f :: r ∧ ((f.toNat : Int) = if v ≤ 63 then v else if v ≤ 16383 then v / 256 + 64 else v / 16777216 + 128) := by
  have key : ∀ (l : List Int) (a : Int), 0 ≤ a → a < 256 → ∃ f r, ((l ++ [a]).reverse.map fun i : Int => i.toNat.toUInt8) = f :: r ∧ (f.toNat : Int) = a := fun l a q0 q1 => by
    refine ⟨a.toNat.toUInt8, l.reverse.map fun i : Int => i.toNat.toUInt8, by simp, ?_⟩
    have e : a.toNat.toUInt8.toNat = a.toNat := by
      show a.toNat % 256 = a.toNat
      exact Nat.mod_eq_of_lt (by exact aL 0x1000111011488b0108030b02600757488804211 q1 (aT _))
    rw [e]; exact aL 0x11000110001110101007508030b0260075707030083311 q0 (Int.self_le_toNat _) (aT _)
  unfold encV encK encX beB
  split
  · obtain ⟨f, r, e1, e2⟩ := key [] (v % 256) (by exact aL 0x1010000834888040083621488c0956130 (aF 256 _ oY)) (by exact aL 0x110004888044888040083621488c0956130 (aF 256 _ oY))
    exact ⟨f, r, e1, by exact aL 0x1000100014880010001010488010010001010488100100010048811001000104880110075208e308237218be318b2374888141083602488c195610757f8030083631 h0 (by assumption) e2 (aF 256 _ oY) (aC _ (-1)) (aC _ 0)⟩
  · split
    · obtain ⟨f, r, e1, e2⟩ := key [(v + 16384) % 256] ((v + 16384) / 256 % 256) (by exact aL 0x1010000834888040083621488c0956130 (aF 256 _ oY)) (by exact aL 0x110004888044888040083621488c0956130 (aF 256 _ oY))
      exact ⟨f, r, e1, by exact aL 0x488000488101000048801012888880010000000488048801010288888010010000000488048801010288888488004880010100488010100288888148800488001010048801010288888011188839075408e308437418be318b4374888664660836488888095488c669564888141083654488c19564888242083603488c295610753ffff8037f80391871 (by assumption) (by assumption) e2 (aF 256 _ oY) (aF 256 _ oY) (aF 256 _ oY) (aC _ (-1)) (aC _ 0)⟩
    · obtain ⟨f, r, e1, e2⟩ := key [(v + 2147483648) % 256, (v + 2147483648) / 256 % 256, (v + 2147483648) / 256 / 256 % 256] ((v + 2147483648) / 256 / 256 / 256 % 256) (by exact aL 0x1010000834888040083621488c0956130 (aF 256 _ oY)) (by exact aL 0x110004888044888040083621488c0956130 (aF 256 _ oY))
      exact ⟨f, r, e1, by exact aL 0x188888888000188888888101000018888888802888880288888048804880101488888888880001000000188888888018888888802888880288888048804880101048888888888010100000000188888888018888888802888880288888048804880101048888888888188888888001888888880010100188888888028888802888880488048801010048888888888118888888800188888888001010018888888802888880288888048804880101048888888888011288839075408e308437418be318b43748881a641a6083628888888888809196488c1a695648881864186083619676488c1869564888664660836765488c669564888141083654488c19561888888888242083603188888888c295610753ffff8039188888888888041a1b1 h1 (by assumption) e2 (aF 16777216 _ oY) (aF 256 _ oY) (aF 256 _ oY) (aF 256 _ oY) (aF 256 _ oY) (aC _ (-1)) (aC _ 0)⟩
/-- what reading gives back -/
theorem encV_read {v : Int} (h0 : 0 ≤ v) (h1 : v < 1073741824) : Builtin.bitAnd (vB (encV v)) (2 ^ (8 * encK v - 2) - 1) = v := by
  obtain ⟨b0, b1⟩ := encX_bound h0 h1
  unfold encV
  rw [vB_beB _ _ b0 b1, kbt_mask]
  unfold encX encK
  split
  · exact Int.emod_eq_of_lt h0 (by exact aL 0x111888047f803110 (by assumption))
  · split
    · show (v + 16384) % 16384 = v
      exact aL 0x100000148888001010104888801001010104888810000100488881100001048888011015218e318237208e308237488888141083648888809248888c19563ffff8037f8039530 (by assumption) (by assumption) (aF 16384 _ oY) (aC _ 0) (aC _ 1)
    · show (v + 2147483648) % 1073741824 = v
      exact aL 0x100000118888888888000110101888888888801010010101888888888810000100188888888881100001018888888888011015228e328237218e318237188888888888141083628888888888809218888888888c19563ffff803918888888888804530 h1 (by assumption) (aF 1073741824 _ oY) (aC _ 1) (aC _ 2)
theorem or_16384 {v : Int} (h0 : 0 ≤ v) (h1 : v < 16384) : Builtin.bitOr v 16384 = v + 16384 := by
  rw [bitOr_comm, or_add 16384 v 14 (by decide) (by decide) h0 h1]; exact aL 0x11148888809048888895010
theorem or_31 {v : Int} (h0 : 0 ≤ v) (h1 : v < 1073741824) : Builtin.bitOr v 2147483648 = v + 2147483648 := by
  rw [bitOr_comm, or_add 2147483648 v 31 (by decide) (by decide) h0 (by exact aL 0x112888888888880418888888888804110 h1)]; exact aL 0x11128888888888809028888888888895010
end
end
end Mine
end
section
open PySem PySem.W PyProof.Rows PySem.Calls
set_option maxRecDepth 100000
set_option maxHeartbeats 4000000
namespace Mine
noncomputable section
section
variable {c : Cx} {S : St} {k : Nat}
theorem kl_64 (w : World) : ∃ o n, (KK w).lookup 64 = some o ∧ o.cls = .type "list" ∧ o.data = .seq #[] n := ⟨_, _, rfl, rfl, rfl⟩
theorem upd_none {H : HM} {a b : Addr} {o : AO} (h : upd H a o b = none) : b ≠ a ∧ H b = none := by
  by_cases e : b = a
  · subst e; simp at h
  · exact ⟨e, by rwa [upd_ne e] at h⟩
theorem spec_RangeSet {Q : TV → St → Prop} (hw : Well c) (hr : Room c.A 2) (h : ∀ x d l H', S.H x = none → S.H d = none → S.H l = none → x ≠ d → Keep [] S.H H' → RSet H' x d l [] → Q (.ref x) { S with H := H' }) : CALL c (.ref 146) [] [] Q S := by
  refine call_inst (k := 1) hw hr (mk_146 _) fun A' x d hr' hx hd hxd => ?_
  refine call_g (k := 0) ["self", "ranges"] [.ref x, .ref 64] (hw.at A') hr' rfl rfl ?_ rfl rfl rfl rfl rfl fun c' I => ?_
  · intro vs ks h1 h2
    rcases vs with _ | ⟨a, _ | _⟩ <;> simp at h1
    cases (List.map_eq_nil_iff.mp h2)
    exact ⟨[a, .ref 64], by simp only [List.map_cons, h1]; rfl, fun s X => binds_K X rfl rfl rfl rfl rfl⟩
  refine px_cons <| px_assign_attr <| pv_list <| args_nil <| nl (Nat.zero_le _) fun l hl => ?_
  obtain ⟨nlx, hl⟩ := upd_none hl
  obtain ⟨nld, hl⟩ := upd_none hl
  refine lv I rfl rfl rfl <| sa I (by repeat (first | assumption | exact upd_self _ _ _ | refine (upd_ne (by first | assumption | exact Ne.symm (by assumption) | exact nf (by assumption) (by assumption))).trans ?_ | refine kp_get (by assumption) (by repeat (first | exact nm_nil | refine nm_cons (by first | assumption | exact Ne.symm (by assumption) | exact nf (by assumption) (by assumption)) ?_)) ?_)) (by repeat (first | assumption | exact upd_self _ _ _ | refine (upd_ne (by first | assumption | exact Ne.symm (by assumption) | exact nf (by assumption) (by assumption))).trans ?_ | refine kp_get (by assumption) (by repeat (first | exact nm_nil | refine nm_cons (by first | assumption | exact Ne.symm (by assumption) | exact nf (by assumption) (by assumption)) ?_)) ?_)) (s_146_ranges _) rfl rfl ?_
  obtain ⟨o, n, k1, k2, k3⟩ := kl_64 c'.w
  refine px_cons <| px_for I.hA (lv I rfl rfl rfl ⟨0, fun _ => .none, fun _ S₂ => S₂.H = upd (upd (upd (upd S.H d (.dict [])) x (.inst 146 d)) l (.list [])) d (.dict [("_ranges", .ref l)]), _, steps_K0 I.w I.hA k1 k2 k3, rfl, fun k S₂ b hk => absurd hk (Nat.not_lt_zero _), fun S₂ e => px_nil ⟨rfl, ?_⟩⟩) I.w
  rw [e]
  exact h x d l _ hx hd hl hxd ((((Keep.refl.step (.inr hd)).step (.inr hx)).step (.inr hl)).step (.inr hd)) ⟨(by repeat (first | assumption | exact upd_self _ _ _ | refine (upd_ne (by first | assumption | exact Ne.symm (by assumption) | exact nf (by assumption) (by assumption))).trans ?_ | refine kp_get (by assumption) (by repeat (first | exact nm_nil | refine nm_cons (by first | assumption | exact Ne.symm (by assumption) | exact nf (by assumption) (by assumption)) ?_)) ?_)), (by repeat (first | assumption | exact upd_self _ _ _ | refine (upd_ne (by first | assumption | exact Ne.symm (by assumption) | exact nf (by assumption) (by assumption))).trans ?_ | refine kp_get (by assumption) (by repeat (first | exact nm_nil | refine nm_cons (by first | assumption | exact Ne.symm (by assumption) | exact nf (by assumption) (by assumption)) ?_)) ?_)), [], (by repeat (first | assumption | exact upd_self _ _ _ | refine (upd_ne (by first | assumption | exact Ne.symm (by assumption) | exact nf (by assumption) (by assumption))).trans ?_ | refine kp_get (by assumption) (by repeat (first | exact nm_nil | refine nm_cons (by first | assumption | exact Ne.symm (by assumption) | exact nf (by assumption) (by assumption)) ?_)) ?_)), trivial⟩
end
end
end Mine
end
section
open PySem PySem.W PyProof.Rows PySem.Calls
set_option maxRecDepth 100000
set_option maxHeartbeats 4000000
namespace Mine
noncomputable section
section
variable {c : Cx} {S : St} {k : Nat}
/-! a range put into a set of ranges -/
noncomputable def absorb (stop : Int) : List (Int × Int) → Int × List (Int × Int)
  | [] => (stop, [])
  | (a, b) :: r => if a ≤ stop then absorb (max b stop) r else (stop, (a, b) :: r)
noncomputable def addR (s e : Int) : List (Int × Int) → List (Int × Int)
  | [] => [(s, e)]
  | (a, b) :: r => if e < a then (s, e) :: (a, b) :: r else if b < s then (a, b) :: addR s e r else (min s a, (absorb (max e b) r).1) :: (absorb (max e b) r).2
/-- the first k ranges end below s -/
noncomputable def Skip (s : Int) (k : Nat) (rs : List (Int × Int)) : Prop := ∀ r ∈ rs.take k, r.2 < s
theorem addR_skip {s e : Int} : ∀ {k : Nat} {rs : List (Int × Int)}, Skip s k rs → (∀ r ∈ rs.take k, r.1 ≤ e) → addR s e rs = rs.take k ++ addR s e (rs.drop k)
  | 0, _, _, _ => rfl
  | k + 1, [], _, _ => by simp
  | k + 1, (a, b) :: r, h, h2 => by
    have hb : b < s := h (a, b) (by simp)
    have ha : a ≤ e := h2 (a, b) (by simp)
    rw [addR, if_neg (by exact aL 0x110149103120 ha), if_pos hb, addR_skip (k := k) (fun x hx => h x (by simp [hx])) fun x hx => h2 x (by simp [hx])]
    rfl
theorem Skip.step {s : Int} {k : Nat} {rs : List (Int × Int)} {r : Int × Int} (h : Skip s k rs) (e : rs[k]? = some r) (hr : r.2 < s) : Skip s (k + 1) rs := fun x hx => by
  rw [List.take_add_one, e] at hx
  rcases List.mem_append.mp hx with hx | hx
  · exact h x hx
  · simp at hx; subst hx; exact hr
theorem px_seq {st : Stmt} {rest : List Stmt} {Q : TF → St → Prop} (P : St → Prop) (h1 : PX c (exec st c.env) (fun f S' => f = .next ∧ P S') S) (h2 : ∀ S', P S' → PX c (execs rest c.env) Q S') : PX c (execs (st :: rest) c.env) Q S :=
  px_cons (pw_mono h1 fun f S' ⟨e, q⟩ => by rw [e]; exact h2 S' q)
theorem RangeAt.keep {H H' : HM} {a : Addr} {r : Int × Int} (R : RangeAt H a r) (h : Keep [] H H') : RangeAt H' a r := let ⟨d, d1, d2⟩ := R; ⟨d, h _ _ nm_nil d1, h _ _ nm_nil d2⟩
theorem RangeAt.upd {H : HM} {a l : Addr} {r : Int × Int} {xs ys : List TV} (R : RangeAt H a r) (hl : H l = some (.list xs)) : RangeAt (upd H l (.list ys)) a r := by
  obtain ⟨d, d1, d2⟩ := R
  exact ⟨d, (upd_ne (nk hl d1 (by simp))).trans d1, (upd_ne (nk hl d2 (by simp))).trans d2⟩
theorem RSet.keep {H H' : HM} {x d l : Addr} {rs : List (Int × Int)} (R : RSet H x d l rs) (h : Keep [] H H') : RSet H' x d l rs :=
  ⟨h _ _ nm_nil R.x, h _ _ nm_nil R.d, let ⟨as, q1, q2⟩ := R.l; ⟨as, h _ _ nm_nil q1, q2.imp fun _ _ q => q.keep h⟩⟩
/-- the list of a set of ranges has turned -/
theorem RSet.turn {H : HM} {x d l : Addr} {rs rs' : List (Int × Int)} {xs ys : List TV} {as' : List Addr} (R : RSet H x d l rs) (hl : H l = some (.list xs)) (ha : All2 (RangeAt H) as' rs') (e : ys = as'.map TV.ref) : RSet (upd H l (.list ys)) x d l rs' := by
  subst e
  exact ⟨(upd_ne (nk hl R.x (by simp))).trans R.x, (upd_ne (nk hl R.d (by simp))).trans R.d, as', upd_self _ _ _, ha.imp fun _ _ q => q.upd hl⟩
theorem drop_cons {α : Type} {l : List α} {k : Nat} {a : α} (h : l[k]? = some a) : l.drop k = a :: l.drop (k + 1) := by
  obtain ⟨h1, rfl⟩ := List.getElem?_eq_some_iff.mp h
  exact (List.drop_eq_getElem_cons h1)
theorem skip_le {s e : Int} {k : Nat} {rs : List (Int × Int)} (h : Skip s k rs) (hse : s < e) (hlow : ∀ r ∈ rs, r.1 ≤ r.2) : ∀ r ∈ rs.take k, r.1 ≤ e := fun r hr => by
  have := h r hr
  have := hlow r (List.mem_of_mem_take hr)
  exact aL 0x1111133233024104340 hse (by assumption) this
theorem All2.cons {α β : Type} {R : α → β → Prop} {a : α} {b : β} {as : List α} {bs : List β} (h : R a b) (k : All2 R as bs) : All2 R (a :: as) (b :: bs) := ⟨h, k⟩
theorem All2.del {α β : Type} {R : α → β → Prop} {a : α} {b : β} {cs : List α} {ds : List β} : ∀ {as : List α} {bs : List β}, as.length = bs.length → All2 R (as ++ a :: cs) (bs ++ b :: ds) → All2 R as bs ∧ All2 R cs ds
  | [], [], _, h => ⟨trivial, h.2⟩
  | _ :: _, _ :: _, e, h => let ⟨x, y⟩ := All2.del (Nat.succ.inj e) h.2; ⟨⟨h.1, x⟩, y⟩
  | [], _ :: _, e, _ => by simp at e
  | _ :: _, [], e, _ => by simp at e
theorem map_getD {as : List Addr} {k : Nat} {a : Addr} (h : as[k]? = some a) : (as.map TV.ref).getD k .none = .ref a := by simp [List.getD, h]
theorem asg2 {n1 n2 : Str} {p1 p2 : Pos} {env : Env} : ∀ t ∈ [Expr.Name n1 p1, .Name n2 p2], ∀ r, assignEach (t :: r) env = (false, assign t env) :: assignEach r env := by
  intro t ht r
  simp only [List.mem_cons, List.not_mem_nil, or_false] at ht
  rcases ht with rfl | rfl <;> rfl
theorem asg3 {n1 n2 n3 : Str} {p1 p2 p3 : Pos} {env : Env} : ∀ t ∈ [Expr.Name n1 p1, .Name n2 p2, .Name n3 p3], ∀ r, assignEach (t :: r) env = (false, assign t env) :: assignEach r env := by
  intro t ht r
  simp only [List.mem_cons, List.not_mem_nil, or_false] at ht
  rcases ht with rfl | rfl | rfl <;> rfl
theorem order2 {n1 n2 : Str} {p1 p2 : Pos} {a b : TV} {Q : St → Prop} (h : STORE c n1 a (fun S' => STORE c n2 b Q S') S) : ORDER c [.Name n1 p1, .Name n2 p2] [a, b] Q S :=
  assign_name fun vv hv => pw_mono (h vv hv) fun _ S' q => assign_name q
theorem order3 {n1 n2 n3 : Str} {p1 p2 p3 : Pos} {a b d : TV} {Q : St → Prop} (h : STORE c n1 a (fun S' => STORE c n2 b (fun S'' => STORE c n3 d Q S'') S') S) : ORDER c [.Name n1 p1, .Name n2 p2, .Name n3 p3] [a, b, d] Q S :=
  assign_name fun vv hv => pw_mono (h vv hv) fun _ S' q => order2 q
theorem asgi2 {n1 n2 : Str} {p1 p2 pos : Pos} {kk : Nat} {a b : TV} {Q : St → Prop} (h : STORE c n1 a (fun S' => STORE c n2 b Q S') S) : ASGI c (.Tuple [.Name n1 p1, .Name n2 p2] kk pos) (.tup [a, b]) Q S := ⟨rfl, asg2, order2 h⟩
theorem sub_at {value slice : Expr} {l : Addr} {xs : List TV} {k : Int} {v : TV} {Q : TV → St → Prop} (hl : S.H l = some (.list xs)) (h0 : 0 ≤ k) (hx : xs[k.toNat]? = some v) (hz : xs.length ≤ sizeLine) (h : Q v S)
    (hs' : ∀ t, subscripted slice false (.ref l) (.int k t) = operate [.ref l, .int k t] (getItem (.ref l) (.int k t)) := by intro _; with_unfolding_all rfl) : SUBSCR c value slice (.ref l) (.int k) Q S := by
  have hk := (List.getElem?_eq_some_iff.mp hx).1
  refine sub_list hl h0 (by exact aL 0x11117040703101212 hk (Int.self_le_toNat _)) hz ?_ hs'
  rwa [List.getD, hx]
theorem pop_at {l : Addr} {xs ys zs : List TV} {k : Int} {v : TV} {Q : TV → St → Prop} {m : List (Str × TV)} {H : HM} (hl : H l = some (.list xs)) (e : xs = ys ++ v :: zs) (hk : k = ys.length) (hz : xs.length ≤ 100000)
    (h : Q v ⟨m, upd H l (.list (ys ++ zs)), ()⟩) : CALLX c (.bt "list.pop") [.ref l, .int k] Q ⟨m, H, ()⟩ := by
  subst e hk
  refine call_pop' hl (sl_le hz) (by exact aL 0x107083001) (by simp; exact aL 0x117e079074002) ?_
  have e1 : (ys ++ v :: zs).getD (ys.length : Int).toNat .none = v := by simp [List.getD]
  have e2 : (ys ++ v :: zs).take (ys.length : Int).toNat ++ (ys ++ v :: zs).drop ((ys.length : Int).toNat + 1) = ys ++ zs := by simp
  rw [e1, e2]
  exact h
theorem app_at {α : Type} {as bs : List α} {a : α} {k : Nat} (h : as.length = k) : (as ++ a :: bs)[k]? = some a := by subst h; simp
end
end
end Mine
end
section
open PySem PySem.W PyProof.Rows PySem.Calls
set_option maxRecDepth 100000
set_option maxHeartbeats 4000000
namespace Mine
noncomputable section
section
variable {c : Cx} {S : St} {k : Nat}
/-! the fewest ranges -/
noncomputable def Canon : List (Int × Int) → Prop
  | [] => True
  | r :: rs => r.1 < r.2 ∧ (∀ q ∈ rs, r.2 < q.1) ∧ Canon rs
noncomputable def Mem (x : Int) (rs : List (Int × Int)) : Prop := ∃ r ∈ rs, r.1 ≤ x ∧ x < r.2
theorem mem_cons {x : Int} {r : Int × Int} {rs : List (Int × Int)} : Mem x (r :: rs) ↔ (r.1 ≤ x ∧ x < r.2) ∨ Mem x rs := by
  unfold Mem; simp
theorem mem_nil {x : Int} : ¬ Mem x [] := by unfold Mem; simp
theorem mem_app {x : Int} {rs ss : List (Int × Int)} : Mem x (rs ++ ss) ↔ Mem x rs ∨ Mem x ss := by
  induction rs with
  | nil => simp [mem_nil]
  | cons r rs ih => rw [List.cons_append, mem_cons, mem_cons, ih, or_assoc]
theorem Canon.low : ∀ {rs : List (Int × Int)}, Canon rs → ∀ r ∈ rs, r.1 < r.2
  | _ :: _, h, r, hr => by
    rcases List.mem_cons.mp hr with rfl | hr
    · exact h.1
    · exact h.2.2.low r hr
theorem canon_app : ∀ {rs ss : List (Int × Int)}, Canon (rs ++ ss) ↔ Canon rs ∧ Canon ss ∧ ∀ r ∈ rs, ∀ q ∈ ss, r.2 < q.1
  | [], ss => by simp [Canon]
  | r :: rs, ss => by
    rw [List.cons_append, Canon, Canon, canon_app]
    constructor
    · intro H0
      obtain ⟨h1, h2, h3, h4, h5⟩ := H0
      refine ⟨⟨h1, fun q hq => h2 q (List.mem_append_left _ hq), h3⟩, h4, fun x hx q hq => ?_⟩
      rcases List.mem_cons.mp hx with rfl | hx
      · exact h2 q (List.mem_append_right _ hq)
      · exact h5 x hx q hq
    · intro H0
      obtain ⟨⟨h1, h2, h3⟩, h4, h5⟩ := H0
      refine ⟨h1, fun q hq => ?_, h3, h4, fun x hx => h5 x (.tail _ hx)⟩
      rcases List.mem_append.mp hq with hq | hq
      · exact h2 q hq
      · exact h5 r (.head _) q hq
theorem absorb_ok : ∀ {rs : List (Int × Int)} {s e : Int}, Canon rs → (∀ q ∈ rs, s ≤ q.1) → e ≤ (absorb e rs).1 ∧ Canon (absorb e rs).2 ∧ (∀ q ∈ (absorb e rs).2, (absorb e rs).1 < q.1) ∧
    ∀ x, (s ≤ x ∧ x < (absorb e rs).1) ∨ Mem x (absorb e rs).2 ↔ (s ≤ x ∧ x < e) ∨ Mem x rs
  | [], s, e, _, _ => ⟨Int.le_refl _, trivial, by simp [absorb], fun x => Iff.rfl⟩
  | (a, b) :: rs, s, e, h, hs => by
    have hsa : s ≤ a := hs (a, b) (.head _)
    have hab : a < b := h.1
    by_cases q : a ≤ e
    · rw [absorb, if_pos q]
      obtain ⟨i1, i2, i3, i4⟩ := absorb_ok (s := s) (e := max b e) h.2.2 fun q hq => hs q (.tail _ hq)
      refine ⟨by exact aL 0x11101330330236103240 i1 (bX _ _), i2, i3, fun x => ?_⟩
      rw [i4 x, mem_cons]
      constructor
      · rintro (⟨h1, h2⟩ | h1)
        · by_cases z : x < e
          · exact .inl ⟨h1, z⟩
          · exact .inr (.inl ⟨by show a ≤ x; exact aL 0x1112031249103230 q z, by show x < b; exact aL 0x1111101130421331372049104340 h2 z (bV _ _)⟩)
        · exact .inr (.inr h1)
      · rintro (⟨h1, h2⟩ | ⟨h1, h2⟩ | h1)
        · exact .inl ⟨h1, by exact aL 0x11103043133236104240 h2 (bX _ _)⟩
        · refine .inl ⟨?_, ?_⟩
          · replace h1 : a ≤ x := h1; exact aL 0x111203213103230 hsa h1
          · replace h2 : x < b := h2; exact aL 0x11012042332136104240 h2 (bX _ _)
        · exact .inr h1
    · rw [absorb, if_neg q]
      refine ⟨Int.le_refl _, h, fun r hr => ?_, fun x => Iff.rfl⟩
      rcases List.mem_cons.mp hr with rfl | hr
      · show e < a; exact aL 0x110141039120 q
      · have := h.2.1 r hr
        replace this : b < r.1 := this
        show e < r.1; exact aL 0x11113243142039104340 hab q this
theorem addR_ok : ∀ {rs : List (Int × Int)} {s e : Int}, Canon rs → s < e → Canon (addR s e rs) ∧ (∀ x, Mem x (addR s e rs) ↔ Mem x rs ∨ (s ≤ x ∧ x < e)) ∧ ∀ y, y < s → (∀ q ∈ rs, y < q.1) → ∀ q ∈ addR s e rs, y < q.1
  | [], s, e, _, h => ⟨⟨h, by simp, trivial⟩, fun x => by rw [addR, mem_cons]; simp [mem_nil], fun y hy _ q hq => by rw [addR, List.mem_singleton] at hq; subst hq; exact hy⟩
  | (a, b) :: rs, s, e, h, hse => by
    have hab : a < b := h.1
    rw [addR]
    by_cases q1 : e < a
    · rw [if_pos q1]
      refine ⟨⟨hse, fun q hq => ?_, h⟩, fun x => by rw [mem_cons, or_comm], fun y hy hq q hm => ?_⟩
      · rcases List.mem_cons.mp hq with rfl | hq
        · exact q1
        · have := h.2.1 q hq
          replace this : b < q.1 := this
          show e < q.1; exact aL 0x1111324314024104340 hab q1 this
      · rcases List.mem_cons.mp hm with rfl | hm
        · exact hy
        · exact hq q hm
    rw [if_neg q1]
    by_cases q2 : b < s
    · rw [if_pos q2]
      obtain ⟨i1, i2, i3⟩ := addR_ok h.2.2 hse
      refine ⟨⟨hab, i3 b q2 h.2.1, i1⟩, fun x => by rw [mem_cons, mem_cons, i2 x, or_assoc], fun y hy hq q hm => ?_⟩
      rcases List.mem_cons.mp hm with rfl | hm
      · exact hq _ (.head _)
      · exact i3 y hy (fun q hq' => hq q (.tail _ hq')) q hm
    · rw [if_neg q2]
      obtain ⟨i1, i2, i3, i4⟩ := absorb_ok (s := min s a) (e := max e b) h.2.2 fun q hq => by
        have := h.2.1 q hq
        replace this : b < q.1 := this
        exact aL 0x111102330334336214104350 hab this (bN _ _)
      refine ⟨⟨by show min s a < _; exact aL 0x1111010354053665362132436323104470 hab i1 (bX _ _) (bN _ _), i3, i2⟩, fun x => ?_, fun y hy hq q hm => ?_⟩
      · rw [mem_cons, mem_cons]
        refine (i4 x).trans ?_
        constructor
        · rintro (⟨h1, h2⟩ | h1)
          · by_cases z : s ≤ x ∧ x < e
            · exact .inr z
            · exact .inl (.inl ⟨by show a ≤ x; exact aL 0x101101100100111113130343436921324373231049450 q1 h1 (bO _ _) z, by show x < b; exact aL 0x101100011111001110244242136903343373241049450 q2 h2 (bV _ _) z⟩)
          · exact .inl (.inr h1)
        · rintro ((⟨h1, h2⟩ | h1) | ⟨h1, h2⟩)
          · replace h1 : a ≤ x := h1
            replace h2 : x < b := h2
            exact .inl ⟨by exact aL 0x11101230233236103240 h1 (bN _ _), by exact aL 0x11103043133236104240 h2 (bX _ _)⟩
          · exact .inr h1
          · exact .inl ⟨by exact aL 0x11011233230236103240 h1 (bN _ _), by exact aL 0x11012042332136104240 h2 (bX _ _)⟩
      · have ya : y < a := hq (a, b) (.head _)
        rcases List.mem_cons.mp hm with rfl | hm
        · show y < min s a; exact aL 0x1011110113043233137204104340 hy ya (bO _ _)
        · have := i3 q hm
          exact aL 0x111111054421326636534044323104570 hab i1 ya this (bX _ _)
theorem Canon.min : ∀ {r : Int × Int} {rs : List (Int × Int)} {x : Int}, Canon (r :: rs) → Mem x (r :: rs) → r.1 ≤ x
  | r, rs, x, h, hm => by
    rcases mem_cons.mp hm with ⟨h1, _⟩ | ⟨q, hq, h1, _⟩
    · exact h1
    · have := h.2.1 q hq
      have := h.1
      exact aL 0x1111133234024103340 h1 (by assumption) this
theorem canon_eq : ∀ {rs ss : List (Int × Int)}, Canon rs → Canon ss → (∀ x, Mem x rs ↔ Mem x ss) → rs = ss
  | [], [], _, _, _ => rfl
  | [], (a, b) :: ss, _, h2, h => absurd ((h a).mpr (mem_cons.mpr (.inl ⟨Int.le_refl _, h2.1⟩))) mem_nil
  | (a, b) :: rs, [], h1, _, h => absurd ((h a).mp (mem_cons.mpr (.inl ⟨Int.le_refl _, h1.1⟩))) mem_nil
  | (a, b) :: rs, (c, d) :: ss, h1, h2, h => by
    have ab : a < b := h1.1
    have cd : c < d := h2.1
    have e1 : c ≤ a := h2.min ((h a).mp (mem_cons.mpr (.inl ⟨Int.le_refl _, ab⟩)))
    have e2 : a ≤ c := h1.min ((h c).mpr (mem_cons.mpr (.inl ⟨Int.le_refl _, cd⟩)))
    have far : ∀ {y z : Int} {ts : List (Int × Int)}, Canon ((y, z) :: ts) → ∀ {x}, Mem x ts → z < x := fun {y z ts} ht {x} ⟨q, hq, q1, _⟩ => by
      have := ht.2.1 q hq
      replace this : z < q.1 := this
      exact aL 0x111124024103230 q1 this
    have nb : ∀ {y z : Int} {ts : List (Int × Int)}, Canon ((y, z) :: ts) → ¬ Mem z ((y, z) :: ts) := fun {y z ts} ht hm => by
      rcases mem_cons.mp hm with ⟨_, h1⟩ | h1
      · exact absurd h1 (Int.lt_irrefl _)
      · exact absurd (far ht h1) (Int.lt_irrefl _)
    have e3 : b = d := by
      rcases Int.lt_trichotomy b d with z | z | z
      · exact absurd ((h b).mpr (mem_cons.mpr (.inl ⟨by show c ≤ b; exact aL 0x111123023104230 ab e1, z⟩))) (nb h1)
      · exact z
      · exact absurd ((h d).mp (mem_cons.mpr (.inl ⟨by show a ≤ d; exact aL 0x111123023104230 cd e2, z⟩))) (nb h2)
    have e4 : a = c := by exact aL 0x1011101015013103220 e1 e2
    subst e3 e4
    congr 1
    refine canon_eq h1.2.2 h2.2.2 fun x => ⟨fun hx => ?_, fun hx => ?_⟩
    · have := far h1 hx
      rcases mem_cons.mp ((h x).mp (mem_cons.mpr (.inr hx))) with ⟨_, z⟩ | z
      · replace z : x < b := z; exact False.elim (aL 0x11d014104220 this z)
      · exact z
    · have := far h2 hx
      rcases mem_cons.mp ((h x).mpr (mem_cons.mpr (.inr hx))) with ⟨_, z⟩ | z
      · replace z : x < b := z; exact False.elim (aL 0x11d014104220 this z)
      · exact z
end
end
end Mine
end
section
open PySem PySem.W PyProof.Rows PySem.Calls
set_option maxRecDepth 100000
set_option maxHeartbeats 4000000
namespace Mine
noncomputable section
section
variable {c : Cx} {S : St} {k : Nat}
/-- the law's own runs, number by number -/
noncomputable def pushRun (runs : List (Int × Int)) (n : Int) : List (Int × Int) := match runs.getLast? with
  | some r => if r.2 = n then runs.dropLast ++ [(r.1, n + 1)] else runs ++ [(n, n + 1)]
  | none => [(n, n + 1)]
theorem pushRun_ok {runs : List (Int × Int)} {n : Int} (h : Canon runs) (hn : ∀ r ∈ runs, r.2 ≤ n) : Canon (pushRun runs n) ∧ (∀ r ∈ pushRun runs n, r.2 ≤ n + 1) ∧ ∀ x, Mem x (pushRun runs n) ↔ Mem x runs ∨ x = n := by
  have one : ∀ {x}, Mem x [(n, n + 1)] ↔ x = n := fun {x} => by
    rw [mem_cons]
    constructor
    · rintro (⟨h1, h2⟩ | h1)
      · replace h1 : n ≤ x := h1
        replace h2 : x < n + 1 := h2
        exact aL 0x10111010150e14103220 h1 h2
      · exact absurd h1 mem_nil
    · rintro rfl; exact .inl ⟨Int.le_refl _, by show x < x + 1; exact aL 0x10e04010⟩
  rcases List.eq_nil_or_concat runs with rfl | ⟨rs, ⟨a, b⟩, rfl⟩
  · refine ⟨⟨by show n < n + 1; exact aL 0x10e04010, by simp, trivial⟩, fun r hr => ?_, fun x => by simp [pushRun, one, mem_nil]⟩
    simp [pushRun] at hr; subst hr; exact Int.le_refl _
  · rw [List.concat_eq_append] at *
    obtain ⟨c1, ⟨c2, _⟩, c3⟩ := canon_app.mp h
    replace c2 : a < b := c2
    have e : pushRun (rs ++ [(a, b)]) n = if b = n then rs ++ [(a, n + 1)] else (rs ++ [(a, b)]) ++ [(n, n + 1)] := by simp [pushRun]
    rw [e]
    by_cases q : b = n
    · subst q
      rw [if_pos rfl]
      refine ⟨canon_app.mpr ⟨c1, ⟨by show a < b + 1; exact aL 0x111e04104120 c2, by simp, trivial⟩, fun r hr q hq => ?_⟩, fun r hr => ?_, fun x => ?_⟩
      · rw [List.mem_singleton] at hq; subst hq; exact c3 r hr (a, b) (.head _)
      · rcases List.mem_append.mp hr with hr | hr
        · have := hn r (List.mem_append_left _ hr); exact aL 0x111e03103120 this
        · rw [List.mem_singleton] at hr; subst hr; exact Int.le_refl _
      · rw [mem_app, mem_app, mem_cons, mem_cons, or_assoc]
        refine or_congr Iff.rfl ?_
        constructor
        · rintro (⟨h1, h2⟩ | h1)
          · replace h1 : a ≤ x := h1
            replace h2 : x < b + 1 := h2
            by_cases z : x < b
            · exact .inl (.inl ⟨h1, z⟩)
            · exact .inr (by exact aL 0x110101110510491e04220 h2 z)
          · exact absurd h1 mem_nil
        · rintro ((⟨h1, h2⟩ | h1) | rfl)
          · replace h2 : x < b := h2
            exact .inl ⟨h1, by show x < b + 1; exact aL 0x111e04104120 h2⟩
          · exact absurd h1 mem_nil
          · exact .inl ⟨by show a ≤ x; exact aL 0x11103104120 c2, by show x < x + 1; exact aL 0x10e04010⟩
    · rw [if_neg q]
      have hb : b ≤ n := hn (a, b) (List.mem_append_right _ (.head _))
      refine ⟨canon_app.mpr ⟨h, ⟨by show n < n + 1; exact aL 0x10e04010, by simp, trivial⟩, fun r hr q hq => ?_⟩, fun r hr => ?_, fun x => by rw [mem_app, one]⟩
      · rw [List.mem_singleton] at hq
        subst hq
        show r.2 < n
        rcases List.mem_append.mp hr with hr | hr
        · have := c3 r hr (a, b) (.head _)
          replace this : r.2 < a := this
          exact aL 0x1111234034213104340 c2 hb this
        · rw [List.mem_singleton] at hr; subst hr; show b < n; exact aL 0x1110111041059103220 hb q
      · rcases List.mem_append.mp hr with hr | hr
        · have := hn r hr; exact aL 0x111e03103120 this
        · rw [List.mem_singleton] at hr; subst hr; exact Int.le_refl _
theorem runs_ok : ∀ (ns : List Int) (runs : List (Int × Int)), ns.Pairwise (· < ·) → Canon runs → (∀ r ∈ runs, ∀ n ∈ ns, r.2 ≤ n) → Canon (ns.foldl pushRun runs) ∧ ∀ x, Mem x (ns.foldl pushRun runs) ↔ Mem x runs ∨ x ∈ ns
  | [], runs, _, h, _ => ⟨h, fun x => by simp⟩
  | n :: ns, runs, hp, h, hn => by
    obtain ⟨i1, i2, i3⟩ := pushRun_ok h fun r hr => hn r hr n (.head _)
    rw [List.pairwise_cons] at hp
    obtain ⟨j1, j2⟩ := runs_ok ns (pushRun runs n) hp.2 i1 fun r hr m hm => by
      have := i2 r hr
      have := hp.1 m hm
      exact aL 0x1112032141e03230 (by assumption) this
    refine ⟨j1, fun x => ?_⟩
    rw [List.foldl_cons, j2 x, i3 x, List.mem_cons, or_assoc]
/-! a frame: its fields, the newest range first -/
noncomputable def gapsF (start : Int) : List (Int × Int) → List Int
  | [] => []
  | r :: ds => (start - r.2 - 1) :: (r.2 - r.1 - 1) :: gapsF r.1 ds
noncomputable def encL (l : List Int) : List UInt8 := l.flatMap encV
theorem encL_cons (a : Int) (l : List Int) : encL (a :: l) = encV a ++ encL l := by simp [encL]
theorem encL_app (a b : List Int) : encL (a ++ b) = encL a ++ encL b := by simp [encL]
noncomputable def headF (top : Int × Int) (delay : Int) (n : Int) : List Int := [top.2 - 1, delay, n, top.2 - 1 - top.1]
noncomputable def frameF (top : Int × Int) (downs : List (Int × Int)) (delay : Int) : List Int := headF top delay downs.length ++ gapsF top.1 downs
/-- from the newest down -/
noncomputable def Desc : Int → List (Int × Int) → Prop
  | _, [] => True
  | s, r :: ds => 0 ≤ r.1 ∧ r.1 < r.2 ∧ r.2 < s ∧ Desc r.1 ds
theorem desc_of : ∀ {ds : List (Int × Int)} {r : Int × Int}, Canon (r :: ds).reverse → (∀ q ∈ ds, 0 ≤ q.1) → Desc r.1 ds
  | [], _, _, _ => trivial
  | q :: ds, r, h, h0 => by
    rw [List.reverse_cons] at h
    obtain ⟨h1, _, h3⟩ := canon_app.mp h
    exact ⟨h0 q (.head _), h1.low q (by simp), h3 q (by simp) r (.head _), desc_of h1 fun x hx => h0 x (.tail _ hx)⟩
theorem desc_cons {s : Int} {r : Int × Int} {ds : List (Int × Int)} (h : Desc s (r :: ds)) : 0 ≤ r.1 ∧ r.1 < r.2 ∧ r.2 < s ∧ Desc r.1 ds := h
theorem encK_mono {a b : Int} (h : a ≤ b) : encK a ≤ encK b := by
  unfold encK
  repeat' split
  all_goals first | omega | decide
theorem encK_le (v : Int) : encK v ≤ 4 ∧ 1 ≤ encK v := by
  unfold encK
  repeat' split
  all_goals (first | exact aL 0x1111b1b04b1b06000 | exact aL 0x1112b1b04b2b06000 | exact aL 0x1114b1b04b4b06000)
theorem sizeV_encK {v : Int} (h : v < 1073741824) : sizeV v = encK v := by
  unfold sizeV encK
  repeat' split
  all_goals first | rfl | exact aL 0x1110014b718857fffffffff803918888888888804210 h (by assumption)
end
end
end Mine
end
section
open PySem PySem.W PyProof.Rows PySem.Calls
set_option maxRecDepth 100000
set_option maxHeartbeats 4000000
namespace Mine
noncomputable section
section
variable {c : Cx} {S : St} {k : Nat}
theorem rng_size {a b : Int} (h : a ≤ b) : Builtin.Range.rangeSize a b 1 = ((b - a).toNat : Nat) := by
  unfold Builtin.Range.rangeSize
  rw [if_pos (by decide)]
  split
  · exact aL 0x10010110010000010010101000111073e50801a30b02601a07570701a31824208361801aa31c2956104441 (by assumption) (aF 1 _ oY) (Int.self_le_toNat _) (aT _)
  · exact aL 0x10010001110111070850801a30b02601a07571049221 (by assumption) (aT _)
theorem rng_size2 {n : Nat} : Builtin.Range.rangeSize 0 n 2 = (((n + 1) / 2 : Nat) : Int) := by
  unfold Builtin.Range.rangeSize
  rw [if_pos (by decide)]
  split
  · exact aL 0x201011021010011171e512df0f00f12d06280400836180807aa12c0956222 (aF 2 _ oY) (aD 2 _ oY)
  · exact aL 0x1000210111708512df0f00f12d06070849202 (by assumption) (aD 2 _ oY)
theorem rng_small {a b d : Int} (h1 : -4000000000 ≤ a) (h2 : a ≤ 4000000000) (h3 : -4000000000 ≤ b) (h4 : b ≤ 4000000000) (hd : d = 1 ∨ d = 2) : Builtin.Range.small a b d = true := by
  have key : ∀ x : Int, -9000000000 ≤ x → x ≤ 9000000000 → Builtin.Range.rangeFitsLong x = true := fun x q1 q2 => by
    unfold Builtin.Range.rangeFitsLong
    simp only [Bool.and_eq_true, decide_eq_true_eq]
    exact aL 0x10111011888888888888888888888804018888888888888888888888b3618b8bca9d888803018b8bca9d8888b3210 q1 q2
  have hs : 0 ≤ Builtin.Range.rangeSize a b d ∧ Builtin.Range.rangeSize a b d ≤ 9000000000 := by
    unfold Builtin.Range.rangeSize
    rcases hd with rfl | rfl
    · rw [if_pos (by decide)]; split <;> (first | exact aL 0x1110010110011010118b8bca9d88883e33e08361824208361801aa31c29561043debaeac88881303debaeac8888b3440 h1 h4 (by assumption) (aF 1 _ oY) | exact aL 0x11118b8bca9d8888083080836000)
    · rw [if_pos (by decide)]; split <;> (first | exact aL 0x2110010120011010118b8bca9d88883e33e08362824208361801aa32c29561043debaeac88881303debaeac8888b3440 h1 h4 (by assumption) (aF 2 _ oY) | exact aL 0x11118b8bca9d8888083080836000)
  unfold Builtin.Range.small
  rw [key a (by exact aL 0x11018b8bca9d8888b303debaeac8888b3110 h1) (by exact aL 0x1118b8bca9d8888033debaeac888803110 h2), key b (by exact aL 0x11018b8bca9d8888b303debaeac8888b3110 h3) (by exact aL 0x1118b8bca9d8888033debaeac888803110 h4), key d (by exact aL 0x1101101018b8bca9d8888b3280518057110 hd) (by exact aL 0x101101118b8bca9d888803280518057110 hd), key _ (by exact aL 0x11018b8bca9d8888b30083110 hs.1) hs.2]
  rcases hd with rfl | rfl
  · simp [key b (by exact aL 0x11018b8bca9d8888b303debaeac8888b3110 h3) (by exact aL 0x1118b8bca9d8888033debaeac888803110 h4)]
  · simp [key (b + 1) (by exact aL 0x110e18b8bca9d8888b303debaeac8888b3110 h3) (by exact aL 0x1118b8bca9d88880e33debaeac888803110 h4)]
end
end
end Mine
end
section
open PySem PySem.W PyProof.Rows PySem.Calls
set_option maxRecDepth 100000
set_option maxHeartbeats 4000000
namespace Mine
noncomputable section
section
variable {c : Cx} {S : St} {k : Nat}
noncomputable abbrev Lk (m : List (Str × TV)) (x : Addr) (s e : Int) : Prop := m.lookup ("self" : Str) = some (.ref x) ∧ m.lookup ("start" : Str) = some (.int s) ∧ m.lookup ("stop" : Str) = some (.int e)
theorem keep_enum {H : HM} {e it : Addr} {o o' : AO} (he : H e = none) (hi : H it = none) : Keep [] H (dropH (upd (upd H it o) e o') [e, it]) := fun a x _ g => by
  have n1 := nf he g
  have n2 := nf hi g
  rw [dropH_ne (by simp [n1, n2]), upd_ne n1, upd_ne n2]; exact g
/-- the while loop of 'add' -/
structure WI (H₁ : HM) (x l : Addr) (as : List Addr) (rs : List (Int × Int)) (s' st0 : Int) (k n : Nat) (S : St) (st : Int) (ws : List Addr) (tl : List (Int × Int)) : Prop where
  n : n = tl.length
  lk : Lk S.m x s' st
  i : S.m.lookup ("i" : Str) = some (.int k)
  K : Keep [l] H₁ S.H
  l : S.H l = some (.list ((as.take (k + 1) ++ ws).map TV.ref))
  A : All2 (RangeAt S.H) (as.take (k + 1) ++ ws) (rs.take (k + 1) ++ tl)
  ab : absorb st tl = absorb st0 (rs.drop (k + 1))
  b : tl.length ≤ rs.length
theorem spec_add {x d l : Addr} {rs : List (Int × Int)} {s e : Int} {ar : List TV} {Q : TV → St → Prop} (hw : Well c) (hr : Room c.A 3) (R : RSet S.H x d l rs) (hlen : rs.length ≤ 10000) (hse : s < e) (har : ar = [.int e] ∨ (ar = [] ∧ e = s + 1)) (hlow : ∀ r ∈ rs, r.1 ≤ r.2)
    (h : ∀ H', Keep [l] S.H H' → RSet H' x d l (addR s e rs) → Q .none { S with H := H' }) : CALL c (.ref 80) (.ref x :: .int s :: ar) [] Q S := by
  obtain ⟨v, hv⟩ : ∃ v, v = ar.headD .none := ⟨_, rfl⟩
  refine call_g (k := 2) ["self", "start", "stop"] [.ref x, .int s, v] hw hr rfl rfl ?_ rfl rfl rfl rfl rfl fun c' I => ?_
  · intro vs ks h1 h2
    cases (List.map_eq_nil_iff.mp h2)
    rcases har with rfl | ⟨rfl, _⟩
    · rcases vs with _ | ⟨a1, _ | ⟨a2, _ | ⟨a3, _ | _⟩⟩⟩ <;> simp at h1
      exact ⟨[a1, a2, a3], by simp only [List.map_cons, h1, hv]; rfl, fun s X => binds_K X rfl rfl rfl rfl rfl⟩
    · rcases vs with _ | ⟨a1, _ | ⟨a2, _ | _⟩⟩ <;> simp at h1
      exact ⟨[a1, a2, .none], by simp only [List.map_cons, h1, hv]; rfl, fun s X => binds_K X rfl rfl rfl rfl rfl⟩
  refine px_seq (fun S' => S'.H = S.H ∧ Lk S'.m x s e) ?_ fun S' ⟨e1, lk⟩ => ?_
  · rcases har with rfl | ⟨rfl, rfl⟩
    · subst hv
      exact px_if <| pt_cmp <| lv I rfl rfl rfl <| pv_none <| i_is_none <| t_bool <| ite_f rfl <| px_nil ⟨rfl, rfl, rfl, rfl, rfl⟩
    · subst hv
      exact px_if <| pt_cmp <| lv I rfl rfl rfl <| pv_none <| n_is_none <| t_bool <| ite_t rfl <| px_cons <| px_assign_name <| pv_bin <| lv I rfl rfl rfl <| pv_int <| i_add <| sv I rfl <| px_nil ⟨rfl, rfl, rfl, rfl, rfl⟩
  obtain ⟨m, H, _⟩ := S'
  subst e1
  obtain ⟨m1, m2, m3⟩ := lk
  dsimp only at m1 m2 m3
  refine px_cons <| px_assert <| pt_cmp <| lv I rfl (by exact m3) rfl <| lv I rfl (by exact m2) rfl <| i_gt <| t_bool ⟨decide_eq_true hse, ?_⟩
  obtain ⟨as, la, ra⟩ := R.l
  have hal := ra.len
  have R' := R
  obtain ⟨rx, rd, _⟩ := R'
  refine px_cons <| px_forT I.hA (pv_call <| bv I rfl (n_enumerate _) b_enumerate rfl rfl <| callw_ty <| args_cons <| pv_attr <| lv I rfl (by exact m1) rfl <| ga I rx rd (a_146_ranges _) rfl (by simp) <| args_nil <| call_enum la fun en it oi he hi hne c1 d1 => ?_) I.w
  have K1 := keep_enum (o := .raw oi) (o' := .raw (enumObj it)) he hi
  refine ⟨(as.map TV.ref).length, fun k => .tup [.int k, (as.map TV.ref).getD k .none], fun k S₂ => S₂.H = dropH (upd (upd S.H it (.raw oi)) en (.raw (enumObj it))) [en, it] ∧ Lk S₂.m x s e ∧ Skip s k rs ∧ k ≤ rs.length, _,
    steps_enum I.hA hne (upd_self _ _ _) ((upd_ne (Ne.symm hne)).trans (upd_self _ _ _)) c1 d1 (fun k S' hj => by rw [hj.1]; exact K1 _ _ nm_nil la), ⟨rfl, ⟨m1, m2, m3⟩, by simp [Skip], Nat.zero_le _⟩, fun k S₂ b hk hJ hW => ?_, fun S₂ hJ => ?_⟩
  · obtain ⟨m', H₁, _⟩ := S₂
    obtain ⟨e2, ⟨n1, n2, n3⟩, sk, hkl⟩ := hJ
    dsimp only at e2 n1 n2 n3
    rw [← e2] at K1
    have J := I.on (b := b)
    have hk' : k < as.length := by simpa using hk
    obtain ⟨r, hr1⟩ : ∃ r, rs[k]? = some r := ⟨rs[k]'(by exact aL 0x1011121021102203 hal hk'), List.getElem?_eq_getElem _⟩
    obtain ⟨ak, ha1, rr⟩ := ra.get k hr1
    obtain ⟨rdk, g1, g2⟩ := rr.keep K1
    have eg := congrArg some (map_getD ha1)
    have x1 := K1 _ _ nm_nil rx
    have d1' := K1 _ _ nm_nil rd
    have l1 := K1 _ _ nm_nil la
    have R1 : RSet H₁ x d l rs := R.keep K1
    have ra1 : All2 (RangeAt H₁) as rs := ra.imp fun _ _ q => q.keep K1
    refine asgi2 <| sv J rfl <| sv J rfl ?_
    refine px_cons <| px_if <| pt_cmp <| lv J rfl (by exact n3) rfl <| pv_attr <| lv J rfl (by exact eg) rfl <| ga J g1 g2 (a_52_start _) rfl (by simp) <| i_lt <| t_bool <| dec_2 (fun q => ?_) fun q => ?_
    · refine px_cons <| xe J rfl <| pv_mcall <| pv_attr <| lv J rfl (by exact n1) rfl <| ga J x1 d1' (a_146_ranges _) rfl (by simp) <| gm_insert l1 <| callw_bt <| args_cons <| lv J rfl rfl rfl <| args_cons (pv_call <| gv J rfl (g_Range _) rfl <| callw_K J.w (kc_52 _) <| args_cons <| lv J rfl (by exact n2) rfl <| args_cons <| lv J rfl (by exact n3) rfl <| args_nil <| spec_Range J.w J.r fun y H' hy kp ry => ?_) 
      have K2 := K1.trans kp
      refine args_nil <| call_insert' (kp _ _ nm_nil l1) (sl_le (by simp; exact aL 0x110138bac8b100122bca8b00202 hlen hal)) (by exact aL 0x107083001) (by simp; exact aL 0x11100101102 hk') <| px_cons <| px_return_none <| h _ ((K2.weaken (by simp)).step (.inl (.head _))) ?_
      refine (R.keep K2).turn (K2 _ _ nm_nil la) (as' := as.take k ++ y :: as.drop k) ?_ (by simp)
      rw [addR_skip sk (skip_le sk hse hlow), drop_cons hr1, addR, if_pos q, ← drop_cons hr1]
      exact All2.app (.cons ry ((ra.drop k).imp fun _ _ q => q.keep K2)) ((ra.take k).imp fun _ _ q => q.keep K2)
    refine px_nil <| px_cons <| px_if <| pt_cmp <| lv J rfl (by exact n2) rfl <| pv_attr <| lv J rfl (by exact eg) rfl <| ga J g1 g2 (a_52_stop _) rfl (by simp) <| i_gt <| t_bool <| dec_2 (fun q2 => ?_) fun q2 => ?_
    · exact px_cons <| px_continue ⟨e2, ⟨n1, n2, n3⟩, sk.step hr1 q2, by exact aL 0x101112f0021102203 hal hk'⟩
    refine px_nil <| px_cons <| px_assign_name <| pv_call <| bv J rfl (n_min _) b_min rfl rfl <| callw_bt <| args_cons <| lv J rfl (by exact n2) rfl <| args_cons (pv_attr <| lv J rfl (by exact eg) rfl <| ga J g1 g2 (a_52_start _) rfl (by simp) <| args_nil <| min2 J.hA <| sv J rfl ?_)
    refine px_cons <| px_assign_name <| pv_call <| bv J rfl (n_max _) b_max rfl rfl <| callw_bt <| args_cons <| lv J rfl (by exact n3) rfl <| args_cons (pv_attr <| lv J rfl (by exact eg) rfl <| ga J g1 g2 (a_52_stop _) rfl (by simp) <| args_nil <| max2 J.hA <| sv J rfl ?_)
    refine px_seq (fun S' => ∃ n st ws tl, WI H₁ x l as rs (min s r.1) (max e r.2) k n S' st ws tl ∧ absorb st tl = (st, tl)) (px_while (fun n S' => ∃ st ws tl, WI H₁ x l as rs (min s r.1) (max e r.2) k n S' st ws tl) (rs.drop (k + 1)).length ⟨max e r.2, as.drop (k + 1), rs.drop (k + 1), rfl, ⟨n1, rfl, rfl⟩, rfl, Keep.refl, by rw [List.take_append_drop]; exact l1, by rw [List.take_append_drop, List.take_append_drop]; exact ra1, rfl, by simp⟩ fun n S₃ ⟨st, ws, tl, W⟩ => ?_) fun S₃ ⟨n, st, ws, tl, W, wfin⟩ => ?_
    · have W0 := W
      obtain ⟨m3', H3, _⟩ := S₃
      obtain ⟨rfl, ⟨w1, w2, w3⟩, wi, WK, wl, wA, wab, wb⟩ := W
      dsimp only at w1 w2 w3 wi WK wl wA
      have x3 := WK _ _ (nm_cons (nk l1 x1 (by simp)) nm_nil) x1
      have d3 := WK _ _ (nm_cons (nk l1 d1' (by simp)) nm_nil) d1'
      have hlw := wA.len
      simp only [List.length_append, List.length_take] at hlw
      have hsz : ((as.take (k + 1) ++ ws).map TV.ref).length = k + 1 + ws.length := by simp; exact aL 0x100101100110001110f2221020f071200f206101303 hk' (aN _ _) (aO _ _)
      refine pt_and <| pt_cmp <| lv J rfl (by exact wi) rfl <| pv_bin <| pv_call <| bv J rfl (n_len _) b_len rfl rfl <| callw_bt <| args_cons <| pv_attr <| lv J rfl (by exact w1) rfl <| ga J x3 d3 (a_146_ranges _) rfl (by simp) <| args_nil <| len_list wl (sl_le (by exact aL 0x13011101011038bac8b700602f60652fc7236c54c20301210122bca8b007018 hlen hal hk' wb hlw hsz (aN _ _))) <| pv_int <| i_sub <| i_lt <| t_bool <| dec_2 (fun q3 => ?_) fun q3 => ?_
      · rw [hsz] at q3
        obtain ⟨w, ws', rfl⟩ : ∃ w ws', ws = w :: ws' := by
          cases ws with
          | nil => simp at q3
          | cons w ws' => exact ⟨w, ws', rfl⟩
        obtain ⟨⟨a2, b2⟩, tl', rfl⟩ : ∃ r' tl', tl = r' :: tl' := by
          cases tl with
          | nil => simp at hlw; exact False.elim (aL 0x1010110010111d21020f075400f40643f2c2101406 hk' hlw (aN _ _) (aO _ _))
          | cons w ws' => exact ⟨w, ws', rfl⟩
        have t1 : (as.take (k + 1)).length = k + 1 := by simp; exact aL 0x100101100110001110f2221020f071200f206101303 hk' (aN _ _) (aO _ _)
        have t2 : (rs.take (k + 1)).length = k + 1 := by simp; exact aL 0x100001010110011000001112f3231032f071302f306021102404 hal hk' (aN _ _) (aO _ _)
        obtain ⟨w', hw1, rw⟩ := wA.get (k + 1) (app_at t2)
        rw [app_at t1] at hw1
        cases hw1
        obtain ⟨rw1, rw2, rw3⟩ := rw
        have hxs : ((as.take (k + 1) ++ w :: ws').map TV.ref)[((k : Int) + 1).toNat]? = some (.ref w) := by
          rw [show ((k : Int) + 1).toNat = k + 1 from rfl, List.getElem?_map, app_at t1]; rfl
        refine pt_and <| pt_cmp <| pv_attr <| pv_sub <| pv_attr <| lv J rfl (by exact w1) rfl <| ga J x3 d3 (a_146_ranges _) rfl (by simp) <| pv_bin <| lv J rfl (by exact wi) rfl <| pv_int <| i_add <| sub_at wl (by exact aL 0x107e083001) hxs (sl_le (by exact aL 0x13011011011038bac8b300702f70657c46c205042fc321210122bca8b007018 hlen hal hk' hsz wb hlw (aN _ _))) <| ga J rw2 rw3 (a_52_start _) rfl (by simp) <| lv J rfl (by exact w3) rfl <| i_le <| t_bool <| dec_2 (fun q4 => pt_and_nil ?_) fun q4 => ⟨rfl, _, _, _, _, W0, by rw [absorb, if_neg q4]⟩
        refine ite_t rfl <| px_cons <| px_assign_name <| pv_call <| bv J rfl (n_max _) b_max rfl rfl <| callw_bt <| args_cons <| pv_attr <| pv_sub <| pv_attr <| lv J rfl (by exact w1) rfl <| ga J x3 d3 (a_146_ranges _) rfl (by simp) <| pv_bin <| lv J rfl (by exact wi) rfl <| pv_int <| i_add <| sub_at wl (by exact aL 0x107e083001) hxs (sl_le (by exact aL 0x13011011011038bac8b300702f70657c46c205042fc321210122bca8b007018 hlen hal hk' hsz wb hlw (aN _ _))) <| ga J rw2 rw3 (a_52_stop _) rfl (by simp) <| args_cons <| lv J rfl (by exact w3) rfl <| args_nil <| max2 J.hA <| sv J rfl ?_
        refine px_cons <| xe J rfl <| pv_mcall <| pv_attr <| lv J rfl (by exact w1) rfl <| ga J x3 d3 (a_146_ranges _) rfl (by simp) <| gm_pop wl <| callw_bt <| args_cons <| pv_bin <| lv J rfl (by exact wi) rfl <| pv_int <| i_add <| args_nil <| pop_at wl (ys := (as.take (k + 1)).map TV.ref) (v := .ref w) (zs := ws'.map TV.ref) (by simp) (by rw [List.length_map, t1]; exact aL 0x1110f707e5001) (by exact aL 0x13011011011038bac8b300702f70657c46c205042fc321210122bca8b007018 hlen hal hk' hsz wb hlw (aN _ _)) <| px_nil ?_
        refine ⟨tl'.length, by simp, max b2 st, ws', tl', rfl, ⟨w1, w2, rfl⟩, wi, WK.step (.inl (.head _)), by rw [List.map_append]; exact upd_self _ _ _, ?_, ?_, by simp at wb; exact aL 0x1110010f0102 wb⟩
        · obtain ⟨y1, y2⟩ := All2.del (t1.trans t2.symm) wA
          exact (All2.app y2 y1).imp fun _ _ q => q.upd wl
        · rw [← wab, absorb, if_pos q4]
      · refine ⟨rfl, _, _, _, _, W0, ?_⟩
        cases tl with
        | nil => rfl
        | cons => rw [hsz] at q3; simp at hlw; exact False.elim (aL 0x1110101001100111d51052f070402f4066f5c34c21832fc7a2749102507 hal q3 hlw (aN _ _) (aO _ _))
    obtain ⟨m3', H3, _⟩ := S₃
    obtain ⟨rfl, ⟨w1, w2, w3⟩, wi, WK, wl, wA, wab, wb⟩ := W
    dsimp only at w1 w2 w3 wi WK wl wA
    have x3 := WK _ _ (nm_cons (nk l1 x1 (by simp)) nm_nil) x1
    have d3 := WK _ _ (nm_cons (nk l1 d1' (by simp)) nm_nil) d1'
    have hlw := wA.len
    simp only [List.length_append, List.length_take] at hlw
    refine px_cons <| px_assign_sub <| pv_call <| gv J rfl (g_Range _) rfl <| callw_K J.w (kc_52 _) <| args_cons <| lv J rfl (by exact w2) rfl <| args_cons <| lv J rfl (by exact w3) rfl <| args_nil <| spec_Range J.w J.r fun y H' hy kp ry => ?_
    refine pv_attr <| lv J rfl (by exact w1) rfl <| ga J (kp _ _ nm_nil x3) (kp _ _ nm_nil d3) (a_146_ranges _) rfl (by simp) <| lv J rfl (by exact wi) rfl <| si_list (kp _ _ nm_nil wl) (sl_le (by simp; exact aL 0x121011038bac8b32c00405f40614c32c20102bca8b00406 hlen wb hlw (aN _ _))) (by exact aL 0x107083001) (by simp; exact aL 0x1011101100010114737927451052f0765c43c2021102407 hal hk' hlw (aO _ _)) <| px_cons <| px_return_none <| h _ (((K1.weaken (by simp)).trans (WK.trans (kp.weaken (by simp)))).step (.inl (.head _))) ?_
    have e1 : as.take (k + 1) = as.take k ++ [ak] := by rw [List.take_add_one, ha1]; rfl
    have e2 : rs.take (k + 1) = rs.take k ++ [r] := by rw [List.take_add_one, hr1]; rfl
    rw [e1, e2, List.append_assoc, List.append_assoc] at wA
    obtain ⟨y1, y2⟩ := All2.del (by simp; exact aL 0x1010010101010000110000100011100010100101000000110114324104207300320714024060302306021102605 hal hk' (aN _ _) (aN _ _) (aO _ _) (aO _ _)) wA
    have R3 : RSet H' x d l (rs.take (k + 1) ++ tl) := ⟨kp _ _ nm_nil x3, kp _ _ nm_nil d3, _, kp _ _ nm_nil wl, by rw [e1, e2, List.append_assoc, List.append_assoc]; exact wA.imp fun _ _ q => q.keep kp⟩
    refine R3.turn (kp _ _ nm_nil wl) (as' := as.take k ++ y :: ws) ?_ ?_
    · rw [addR_skip sk (skip_le sk hse hlow), drop_cons hr1, addR, if_neg q, if_neg q2, ← wab, wfin]
      exact All2.app (.cons ry (y2.imp fun _ _ q => q.keep kp)) (y1.imp fun _ _ q => q.keep kp)
    · have e4 : ((as.take k).map TV.ref).length = k := by rw [List.length_map, List.length_take]; exact aL 0x1001001011100011102221020071200206101303 hk' (aN _ _) (aO _ _)
      rw [e1, List.map_append, List.map_append, List.map_append, List.append_assoc, Int.toNat_natCast, List.set_append_right _ _ (by rw [e4]; exact Nat.le_refl _), e4, Nat.sub_self]
      rfl
  · obtain ⟨m', H₁, _⟩ := S₂
    obtain ⟨e2, ⟨n1, n2, n3⟩, sk, hkl⟩ := hJ
    dsimp only at e2 n1 n2 n3
    rw [← e2] at K1
    have hN : (as.map TV.ref).length = rs.length := by simp [hal]
    refine px_cons <| xe I rfl <| pv_mcall <| pv_attr <| lv I rfl (by exact n1) rfl <| ga I (K1 _ _ nm_nil rx) (K1 _ _ nm_nil rd) (a_146_ranges _) rfl (by simp) <| gm_append (K1 _ _ nm_nil la) <| callw_bt <| args_cons (pv_call <| gv I rfl (g_Range _) rfl <| callw_K I.w (kc_52 _) <| args_cons <| lv I rfl (by exact n2) rfl <| args_cons <| lv I rfl (by exact n3) rfl <| args_nil <| spec_Range I.w I.r fun y H' hy kp ry => ?_)
    have K2 := K1.trans kp
    refine args_nil <| call_append' (kp _ _ nm_nil (K1 _ _ nm_nil la)) (sl_le (by exact aL 0x110138bac8b100122bca8b00202 hlen hN)) <| px_nil <| h _ ((K2.weaken (by simp)).step (.inl (.head _))) ?_
    refine (R.keep K2).turn (K2 _ _ nm_nil la) (as' := as ++ [y]) ?_ (by simp)
    rw [hN] at sk
    rw [addR_skip sk (skip_le sk hse hlow), List.drop_length, List.take_length]
    exact All2.app (.cons ry (show All2 _ [] [] from trivial)) (ra.imp fun _ _ q => q.keep K2)
end
end
end Mine
end
section
open PySem PySem.W PyProof.Rows PySem.Calls
set_option maxRecDepth 100000
set_option maxHeartbeats 4000000
namespace Mine
noncomputable section
section
variable {c : Cx} {S : St} {k : Nat}
theorem spec_getitem {x d l a : Addr} {i : Int} {xs : List TV} {Q : TV → St → Prop} (hw : Well c) (hr : Room c.A 1) (hx : S.H x = some (.inst 146 d)) (hd : S.H d = some (.dict [("_ranges", .ref l)])) (hl : S.H l = some (.list xs)) (h0 : 0 ≤ i) (hi : xs[i.toNat]? = some (.ref a)) (hz : xs.length ≤ 100000)
    (h : Q (.ref a) S) : CALL c (.ref 129) [.ref x, .int i] [] Q S := by
  refine call_p (k := 0) ["self", "key"] hw hr rfl rfl rfl (w2 fun _ _ => rfl) rfl rfl rfl rfl rfl fun c' I => ?_
  exact px_cons <| px_return <| pv_sub <| pv_attr <| lv I rfl rfl rfl <| ga I hx hd (a_146_ranges _) rfl (by simp) <| lv I rfl rfl rfl <| sub_at hl h0 hi (sl_le hz) h
theorem spec_len {x d l : Addr} {xs : List TV} {Q : TV → St → Prop} (hw : Well c) (hr : Room c.A 1) (hx : S.H x = some (.inst 146 d)) (hd : S.H d = some (.dict [("_ranges", .ref l)])) (hl : S.H l = some (.list xs)) (hz : xs.length ≤ 100000)
    (h : Q (.int xs.length) S) : CALL c (.ref 143) [.ref x] [] Q S := by
  refine call_p (k := 0) ["self"] hw hr rfl rfl rfl (w1 fun _ => rfl) rfl rfl rfl rfl rfl fun c' I => ?_
  exact px_cons <| px_return <| pv_call <| bv I rfl (n_len _) b_len rfl rfl <| callw_bt <| args_cons <| pv_attr <| lv I rfl rfl rfl <| ga I hx hd (a_146_ranges _) rfl (by simp) <| args_nil <| len_list hl (sl_le hz) h
/-! the window -/
noncomputable abbrev winD (lo : Int) (rs : Addr) : AO := .dict [("_lower", .int lo), ("_received", .ref rs), ("_size", .int 128)]
structure Win (H : HM) (x d rs : Addr) (lo : Int) (xs : List Int) : Prop where
  x : H x = some (.inst 179 d)
  d : H d = some (winD lo rs)
  s : H rs = some (.iset xs)
theorem spec_window {Q : TV → St → Prop} (hw : Well c) (hr : Room c.A 2) (h : ∀ x d rs H', S.H x = none → S.H d = none → S.H rs = none → Keep [] S.H H' → Win H' x d rs 0 [] → Q (.ref x) { S with H := H' }) : CALL c (.ref 179) [] [] Q S := by
  refine call_inst (k := 1) hw hr (mk_179 _) fun A' x d hr' hx hd hxd => ?_
  refine call_p (k := 0) ["self"] (hw.at A') hr' rfl rfl rfl (w1 fun _ => rfl) rfl rfl rfl rfl rfl fun c' I => ?_
  refine px_cons <| px_assign_attr <| pv_int <| lv I rfl rfl rfl <| sa I (by repeat (first | assumption | exact upd_self _ _ _ | refine (upd_ne (by first | assumption | exact Ne.symm (by assumption) | exact nf (by assumption) (by assumption))).trans ?_ | refine kp_get (by assumption) (by repeat (first | exact nm_nil | refine nm_cons (by first | assumption | exact Ne.symm (by assumption) | exact nf (by assumption) (by assumption)) ?_)) ?_)) (by repeat (first | assumption | exact upd_self _ _ _ | refine (upd_ne (by first | assumption | exact Ne.symm (by assumption) | exact nf (by assumption) (by assumption))).trans ?_ | refine kp_get (by assumption) (by repeat (first | exact nm_nil | refine nm_cons (by first | assumption | exact Ne.symm (by assumption) | exact nf (by assumption) (by assumption)) ?_)) ?_)) (s_179_lower _) rfl rfl ?_
  refine px_cons <| px_assign_attr <| pv_call <| bv I rfl (n_set _) b_set rfl rfl <| callw_ty0 <| call_setnew fun rs hrs => ?_
  obtain ⟨n1, hrs⟩ := upd_none hrs
  obtain ⟨n2, hrs⟩ := upd_none hrs
  obtain ⟨n3, hrs⟩ := upd_none hrs
  refine lv I rfl rfl rfl <| sa I (by repeat (first | assumption | exact upd_self _ _ _ | refine (upd_ne (by first | assumption | exact Ne.symm (by assumption) | exact nf (by assumption) (by assumption))).trans ?_ | refine kp_get (by assumption) (by repeat (first | exact nm_nil | refine nm_cons (by first | assumption | exact Ne.symm (by assumption) | exact nf (by assumption) (by assumption)) ?_)) ?_)) (by repeat (first | assumption | exact upd_self _ _ _ | refine (upd_ne (by first | assumption | exact Ne.symm (by assumption) | exact nf (by assumption) (by assumption))).trans ?_ | refine kp_get (by assumption) (by repeat (first | exact nm_nil | refine nm_cons (by first | assumption | exact Ne.symm (by assumption) | exact nf (by assumption) (by assumption)) ?_)) ?_)) (s_179_received _) rfl rfl ?_
  obtain ⟨tk, g64⟩ := g_MAX_ACK_RANGES c'.w
  refine px_cons <| px_assign_attr <| pv_bin <| pv_int <| gv I rfl g64 rfl <| i_mul (.of_left (by decide)) <| lv I rfl rfl rfl <| sa I (by repeat (first | assumption | exact upd_self _ _ _ | refine (upd_ne (by first | assumption | exact Ne.symm (by assumption) | exact nf (by assumption) (by assumption))).trans ?_ | refine kp_get (by assumption) (by repeat (first | exact nm_nil | refine nm_cons (by first | assumption | exact Ne.symm (by assumption) | exact nf (by assumption) (by assumption)) ?_)) ?_)) (by repeat (first | assumption | exact upd_self _ _ _ | refine (upd_ne (by first | assumption | exact Ne.symm (by assumption) | exact nf (by assumption) (by assumption))).trans ?_ | refine kp_get (by assumption) (by repeat (first | exact nm_nil | refine nm_cons (by first | assumption | exact Ne.symm (by assumption) | exact nf (by assumption) (by assumption)) ?_)) ?_)) (s_179_size _) rfl rfl ?_
  refine px_nil ⟨rfl, h x d rs _ hx hd hrs (((((((Keep.refl).step (.inr hd)).step (.inr hx)).step (.inr hd)).step (.inr hrs)).step (.inr hd)).step (.inr hd)) ⟨(by repeat (first | assumption | exact upd_self _ _ _ | refine (upd_ne (by first | assumption | exact Ne.symm (by assumption) | exact nf (by assumption) (by assumption))).trans ?_ | refine kp_get (by assumption) (by repeat (first | exact nm_nil | refine nm_cons (by first | assumption | exact Ne.symm (by assumption) | exact nf (by assumption) (by assumption)) ?_)) ?_)), (by repeat (first | assumption | exact upd_self _ _ _ | refine (upd_ne (by first | assumption | exact Ne.symm (by assumption) | exact nf (by assumption) (by assumption))).trans ?_ | refine kp_get (by assumption) (by repeat (first | exact nm_nil | refine nm_cons (by first | assumption | exact Ne.symm (by assumption) | exact nf (by assumption) (by assumption)) ?_)) ?_)), (by repeat (first | assumption | exact upd_self _ _ _ | refine (upd_ne (by first | assumption | exact Ne.symm (by assumption) | exact nf (by assumption) (by assumption))).trans ?_ | refine kp_get (by assumption) (by repeat (first | exact nm_nil | refine nm_cons (by first | assumption | exact Ne.symm (by assumption) | exact nf (by assumption) (by assumption)) ?_)) ?_))⟩⟩
theorem spec_contains {x d rs : Addr} {lo i : Int} {xs : List Int} {Q : TV → St → Prop} (hw : Well c) (hr : Room c.A 1) (W : Win S.H x d rs lo xs) (h : Q (.bool (decide (i < lo ∨ i ∈ xs))) S) : CALL c (.ref 176) [.ref x, .int i] [] Q S := by
  refine call_p (k := 0) ["self", "packet_number"] hw hr rfl rfl rfl (w2 fun _ _ => rfl) rfl rfl rfl rfl rfl fun c' I => ?_
  refine px_cons <| px_return <| pv_or <| pv_cmp <| lv I rfl rfl rfl <| pv_attr <| lv I rfl rfl rfl <| ga I W.x W.d (a_179_lower _) rfl (by simp) <| i_lt <| t_bool <| dec_2 (fun q => ?_) fun q => ?_
  · simpa [q, retv] using h
  · refine pv_bool1 <| pv_cmp <| lv I rfl rfl rfl <| pv_attr <| lv I rfl rfl rfl <| ga I W.x W.d (a_179_received _) rfl (by simp) <| set_in W.s ?_
    simpa [q, retv] using h
end
end
end Mine
end
section
open PySem PySem.W PyProof.Rows PySem.Calls
set_option maxRecDepth 100000
set_option maxHeartbeats 4000000
namespace Mine
noncomputable section
section
variable {c : Cx} {S : St} {k : Nat}
theorem relabel_cell {env : Env} {x : Str} (hk : env.scope.kind = .function) (hx : env.kindOf x = some .cell) : ∀ {names : List (Str × NameKind)}, names.lookup x = some .free →
    (names.map fun (n, k) => if (k == NameKind.free && env.scope.kind == .function && env.kindOf n == some .cell) then (n, NameKind.cell) else (n, k)).lookup x = some .cell
  | [], h => by simp at h
  | (n, k) :: r, h => by
    show List.lookup x ((if (k == NameKind.free && env.scope.kind == .function && env.kindOf n == some .cell) = true then (n, NameKind.cell) else (n, k)) :: _) = _
    cases e : x == n with
    | true =>
      simp only [List.lookup_cons, e] at h
      cases h
      have := beq_iff_eq.mp e
      subst this
      simp [hk, hx]
    | false =>
      simp only [List.lookup_cons, e] at h
      have ih := relabel_cell hk hx h
      split <;> (simp only [List.lookup_cons, e]; exact ih)
theorem closure_one {env : Env} {x : Str} {ca : Addr} {n1 n2 : Str} {sc : Scope} (h : sc.names = [(n1, .local), (n2, .local), (x, .free)]) (hc : env.cells.lookup x = some ca) : closureFor sc env = pure [(x, ca)] := by
  unfold closureFor
  rw [h]
  have : cellOf env x = pure ca := by unfold cellOf; rw [hc]
  simp [this]
theorem call_cp {f : Addr} {args : List TV} {name qual : Str} {params : Arguments} {body : List Stmt} {scope : Scope} {dV kV doc pm cdv ct oc : Value} {an od : Option Addr} {osl : Array (Option Value)}
    {Q : TV → St → Prop} (names : List Str) (cx : Str) (hw : Well c) (hr : Room c.A (k + 1))
    (ho : (KK c.w).lookup f = some ⟨oc, od, .func (fnOf name qual params body scope dV kV doc pm an cdv ct), osl⟩) (hcd : codeIn (KK c.w) cdv qual = true)
    (hlen : args.length = names.length)
    (hbind : ∀ vs : List Value, vs.length = names.length → bindArgs (fnOf name qual params body scope dV kV doc pm an cdv ct) ⟨vs, []⟩ = pure (names.zip vs))
    (hloc : (names.all fun x => decide (scope.names.lookup x = some .local)) = true)
    (hk : scope.kind = .function) (hco : scope.isCoroutine = false) (hgen : scope.isGenerator = false) (hcl : ∀ n, cellsFrom n scope.names [] = [(cx, n)])
    (h : ∀ c' ca o, In c' k scope → c'.env.cells = [(cx, ca)] → S.H ca = none → o.data = .cell none → PX c' (execs body c'.env) (fun fl S' => Q (retv fl) { S' with m := S.m }) ⟨(names.zip args).reverse, upd S.H ca (.raw o), S.g⟩) :
    CALL c (.ref f) args [] Q S :=
  call_cell hw hr ho hcd hlen hbind hloc hk hco hgen hcl fun A' base' L' o hr' hn hd hw' hc => h ⟨c.w, A', c.h₁, base', c.os, envOfC qual scope L' f cdv⟩ (L' + 1) o ⟨hw', hr', rfl⟩ hc hn hd
/-- what 'add' of the window does -/
noncomputable def WinAdd (lo : Int) (xs : List Int) (i lo' : Int) (xs' : List Int) : Prop :=
  if i < lo then lo' = lo ∧ xs' = xs else lo' = max lo (i - 127) ∧ (∀ j, lo' ≤ j → (j ∈ xs' ↔ j ∈ insI i xs)) ∧ ∀ j ∈ xs', j ∈ insI i xs
theorem spec_winadd {x d rs : Addr} {lo i : Int} {xs : List Int} {Q : TV → St → Prop} (hw : Well c) (hr : Room c.A 1) (W : Win S.H x d rs lo xs) (hl : xs.length < 3999) (nd : xs.Nodup)
    (h : ∀ H' rs' lo' xs', Keep [d, rs] S.H H' → (rs' = rs ∨ S.H rs' = none) → Win H' x d rs' lo' xs' → xs'.Nodup → WinAdd lo xs i lo' xs' → Q .none { S with H := H' }) : CALL c (.ref 169) [.ref x, .int i] [] Q S := by
  refine call_cp (k := 0) ["self", "packet_number"] "lower" hw hr rfl rfl rfl (w2 fun _ _ => rfl) rfl rfl rfl rfl (fun n => rfl) fun c' ca o I hc hca hd => ?_
  obtain ⟨Wx, Wd, Ws⟩ := W
  have x1 := (upd_ne (o := .raw o) (nf hca Wx)).trans Wx
  have d1 := (upd_ne (o := .raw o) (nf hca Wd)).trans Wd
  have s1 := (upd_ne (o := .raw o) (nf hca Ws)).trans Ws
  have K1 : Keep [d, rs] S.H (upd S.H ca (.raw o)) := Keep.refl.step (.inr hca)
  have u1 : upd S.H ca (.raw o) ca = some (.raw o) := upd_self _ _ _
  have nrd : rs ≠ d := nk Wd Ws (by simp)
  have nra : rs ≠ ca := nf hca Ws
  have nda : d ≠ ca := nf hca Wd
  generalize upd S.H ca (.raw o) = H₁ at *
  refine px_cons <| px_if <| pt_cmp <| lv I rfl rfl rfl <| pv_attr <| lv I rfl rfl rfl <| ga I x1 d1 (a_179_lower _) rfl (by simp) <| i_lt <| t_bool <| dec_2 (fun q => ?_) fun q => ?_
  · exact px_cons <| px_return_none <| h _ _ _ _ K1 (.inl rfl) ⟨x1, d1, s1⟩ nd (by rw [WinAdd, if_pos q]; exact ⟨rfl, rfl⟩)
  refine px_nil <| px_cons <| xe I rfl <| pv_mcall <| pv_attr <| lv I rfl rfl rfl <| ga I x1 d1 (a_179_received _) rfl (by simp) <| gm_set_add s1 <| callw_bt <| args_cons <| lv I rfl rfl rfl <| args_nil <| call_setadd s1 (Nat.lt_succ_of_lt hl) ?_
  have K2 : Keep [d, rs] S.H (upd H₁ rs (.iset (insI i xs))) := K1.step (.inl (by simp))
  have x2 := (upd_ne (o := .iset (insI i xs)) (nk s1 x1 (by simp))).trans x1
  have d2 := (upd_ne (o := .iset (insI i xs)) (nk s1 d1 (by simp))).trans d1
  have u2 := (upd_ne (o := .iset (insI i xs)) (Ne.symm nra)).trans u1
  have s2 : upd H₁ rs (.iset (insI i xs)) rs = _ := upd_self _ _ _
  generalize upd H₁ rs (.iset (insI i xs)) = H₂ at *
  have kc := I.kd (x := "lower") rfl
  have hcl : c'.env.cells.lookup ("lower" : Str) = some ca := by rw [hc]; simp
  refine px_cons <| px_assign_name <| pv_bin <| pv_bin <| lv I rfl rfl rfl <| pv_attr <| lv I rfl rfl rfl <| ga I x2 d2 (a_179_size _) rfl (by simp) <| i_sub <| pv_int <| i_add <| st_cell I.w kc hcl u2 hd fun o' vv hv hd' => ?_
  have K3 : Keep [d, rs] S.H (upd H₂ ca (.raw o')) := K2.step (.inr hca)
  have x3 := (upd_ne (o := .raw o') (nf hca Wx)).trans x2
  have d3 := (upd_ne (o := .raw o') nda).trans d2
  have s3 := (upd_ne (o := .raw o') nra).trans s2
  have u3 : upd H₂ ca (.raw o') ca = _ := upd_self _ _ _
  generalize upd H₂ ca (.raw o') = H₃ at *
  have lowc : ∀ {S' : St} {Q' : TV → St → Prop} {pos : Pos}, S'.H ca = some (.raw o') → Q' (.int (i - 128 + 1)) S' → PV c' (eval (.Name "lower" pos) c'.env) Q' S' := fun {S' Q' pos} a b => pv_cell I.w kc hcl a hd' rfl (by rw [hv]; exact b)
  have nd2 := nodup_insI (i := i) nd
  refine px_cons <| px_if <| pt_cmp <| lowc u3 <| pv_attr <| lv I rfl rfl rfl <| ga I x3 d3 (a_179_lower _) rfl (by simp) <| i_gt <| t_bool <| dec_2 (fun q2 => ?_) fun q2 => ?_
  · refine px_cons <| px_assign_attr <| lowc u3 <| lv I rfl rfl rfl <| sa I x3 d3 (s_179_lower _) rfl rfl ?_
    have K4 : Keep [d, rs] S.H (upd H₃ d (winD (i - 128 + 1) rs)) := K3.step (.inl (by simp))
    have x4 := (upd_ne (o := winD (i - 128 + 1) rs) (nk d3 x3 (by simp))).trans x3
    have d4 : upd H₃ d (winD (i - 128 + 1) rs) d = _ := upd_self _ _ _
    have s4 := (upd_ne (o := winD (i - 128 + 1) rs) nrd).trans s3
    have u4 := (upd_ne (o := winD (i - 128 + 1) rs) (Ne.symm nda)).trans u3
    show PX c' _ _ ⟨_, upd H₃ d (winD (i - 128 + 1) rs), ()⟩
    generalize upd H₃ d (winD (i - 128 + 1) rs) = H₄ at *
    have e1 : i - 128 + 1 = max lo (i - 127) := by exact aL 0x10100100010110111228881ae51ff81a23023721ff81a3203628881ae04330 q2 (bX _ _) (bV _ _)
    refine px_cons <| px_if <| pt_cmp <| pv_call <| bv I rfl (n_len _) b_len rfl rfl <| callw_bt <| args_cons <| pv_attr <| lv I rfl rfl rfl <| ga I x4 d4 (a_179_received _) rfl (by simp) <| args_nil <| len_set s4 <| pv_bin <| pv_int <| pv_attr <| lv I rfl rfl rfl <| ga I x4 d4 (a_179_size _) rfl (by simp) <| i_mul (.of_left (by decide)) <| i_gt <| t_bool <| dec_2 (fun q3 => ?_) fun q3 => ?_
    · have hl2 : (insI i xs).length < 4000 := by rw [len_insI]; split <;> (first | exact aL 0x117ec8b017ebfb01101 hl | exact aL 0x117ec8b0f17ebfb01101 hl)
      refine px_cons <| px_assign_attr <| pv_scomp (fun j => decide (i - 128 + 1 ≤ j)) I.w I.hA (closure_one rfl hcl) rfl (by decide) (by decide) rfl rfl (fun _ => rfl) <| pv_attr <| lv I rfl rfl rfl <| ga I x4 d4 (a_179_received _) rfl (by simp) ⟨rs, _, rfl, s4, hl2, fun L S₂ b j hm hk hW => ?_, fun acc ys (hacc : H₄ acc = none) hn hys => ?_⟩
      · have hlo := hk ca _ (Ne.symm nra) u4
        refine pt_cmp <| pv_local hW hm ?_ (lookup_relabel_local rfl) rfl
        refine pv_cell hW (relabel_cell I.w.fn kc rfl) rfl hlo hd' rfl ?_
        rw [hv]
        exact i_ge <| t_bool ⟨rfl, rfl⟩
      · have na : d ≠ acc := nf hacc d4
        have K5 : Keep [d, rs] S.H (upd H₄ acc (.iset ys)) := fun a o' n g => (upd_ne (nf hacc (K4 a o' n g))).trans (K4 a o' n g)
        refine lv I rfl rfl rfl <| sa I ((upd_ne (nf hacc x4)).trans x4) ((upd_ne na).trans d4) (s_179_received _) rfl rfl <| px_nil <| px_nil <| px_nil <| h _ acc _ ys (K5.step (.inl (by simp))) ?_ ⟨(upd_ne (nk d4 x4 (by simp))).trans ((upd_ne (nf hacc x4)).trans x4), upd_self _ _ _, (upd_ne (Ne.symm na)).trans (upd_self _ _ _)⟩ hn ?_
        · by_cases e : acc = rs
          · exact .inl e
          · refine .inr ?_
            cases z : S.H acc with
            | none => rfl
            | some o'' => have := K4 acc o'' (nm_cons (Ne.symm na) (nm_cons e nm_nil)) z; rw [hacc] at this; cases this
        · rw [WinAdd, if_neg q]
          refine ⟨e1, fun j hj => ?_, fun j hj => ((hys j).mp hj).1⟩
          rw [hys j]
          simp only [decide_eq_true_eq]
          exact ⟨fun z => z.1, fun z => ⟨z, hj⟩⟩
    · exact px_nil <| px_nil <| px_nil <| h _ _ _ _ K4 (.inl rfl) ⟨x4, d4, s4⟩ nd2 (by rw [WinAdd, if_neg q]; exact ⟨e1, fun j _ => Iff.rfl, fun j hj => hj⟩)
  · exact px_nil <| px_nil <| h _ _ _ _ K3 (.inl rfl) ⟨x3, d3, s3⟩ nd2 (by rw [WinAdd, if_neg q]; exact ⟨by exact aL 0x100101100110001112051ff81a23023721ff81a3203628881ae049330 q2 (bX _ _) (bV _ _), fun j _ => Iff.rfl, fun j hj => hj⟩)
end
end
end Mine
end
section
open PySem PySem.W PyProof.Rows PySem.Calls
set_option maxRecDepth 100000
set_option maxHeartbeats 4000000
namespace Mine
noncomputable section
section
variable {c : Cx} {S : St} {k : Nat}
noncomputable abbrev spD (aq rp se : Addr) (exp : Int) : AO := .dict [("ack_at", .none), ("ack_queue", .ref aq), ("discarded", .bool false), ("expected_packet_number", .int exp), ("is_application_data", .bool false), ("largest_received_packet", .int (-1)), ("largest_received_time", .none),
  ("received_packets", .ref rp), ("ack_eliciting_in_flight", .int 0), ("largest_acked_packet", .int 0), ("loss_time", .none), ("sent_packets", .ref se)]
theorem keepN {H H' : HM} (k : Keep [] H H') {a : Addr} (h : H' a = none) : H a = none := by
  cases z : H a with
  | none => rfl
  | some o => have := k a o nm_nil z; rw [h] at this; cases this
theorem Win.keep {H H' : HM} {x d rs : Addr} {lo : Int} {xs : List Int} (W : Win H x d rs lo xs) (k : Keep [] H H') : Win H' x d rs lo xs := ⟨k _ _ nm_nil W.x, k _ _ nm_nil W.d, k _ _ nm_nil W.s⟩
theorem upd_upd {H : HM} {a : Addr} {o o' : AO} : upd (upd H a o) a o' = upd H a o' := by
  funext b; simp only [upd]; split <;> rfl
theorem sa' {sc : Scope} {x C d : Addr} {l l' : List (Str × TV)} {name : Str} {v : TV} {Q : St → Prop} {m : List (Str × TV)} {H : HM} (I : In c k sc) (hx : H x = some (.inst C d)) (n : x ≠ d) (hB : setB (KK c.w) C name = true)
    (hl : setA name v l = l') (hz : Nat.ble l.length 900 = true) (h : Q ⟨m, upd H d (.dict l'), ()⟩) : SETATTR c (.ref x) name v Q ⟨m, upd H d (.dict l), ()⟩ :=
  sa I ((upd_ne n).trans hx) (upd_self _ _ _) hB hl hz (by rw [upd_upd]; exact h)
theorem RSet.ups {H : HM} {x d l a : Addr} {o : AO} (R : RSet H x d l []) (h1 : x ≠ a) (h2 : d ≠ a) (h3 : l ≠ a) : RSet (upd H a o) x d l [] := by
  obtain ⟨as, q1, q2⟩ := R.l
  cases as with
  | nil => exact ⟨(upd_ne h1).trans R.x, (upd_ne h2).trans R.d, [], (upd_ne h3).trans q1, trivial⟩
  | cons => exact q2.elim
theorem Win.ups {H : HM} {x d rs a : Addr} {o : AO} {lo : Int} {xs : List Int} (W : Win H x d rs lo xs) (h1 : x ≠ a) (h2 : d ≠ a) (h3 : rs ≠ a) : Win (upd H a o) x d rs lo xs := ⟨(upd_ne h1).trans W.x, (upd_ne h2).trans W.d, (upd_ne h3).trans W.s⟩
theorem spec_space {Q : TV → St → Prop} (hw : Well c) (hr : Room c.A 4) (h : ∀ sp spd aq aqd ql rp rpd rs se H', H' sp = some (.inst 201 spd) → H' spd = some (spD aq rp se 0) → RSet H' aq aqd ql [] → Win H' rp rpd rs 0 [] → Keep [] S.H H' → Q (.ref sp) { S with H := H' }) : CALL c (.ref 201) [] [] Q S := by
  refine call_inst (k := 3) hw hr (mk_201 _) fun A' x d hr' hx hd hxd => ?_
  refine call_g (k := 2) ["self", "is_application_data"] [.ref x, .bool false] (hw.at A') hr' rfl rfl ?_ rfl rfl rfl rfl rfl fun c' I => ?_
  · intro vs ks h1 h2
    rcases vs with _ | ⟨a, _ | _⟩ <;> simp at h1
    cases (List.map_eq_nil_iff.mp h2)
    exact ⟨[a, .bool false], by simp only [List.map_cons, h1]; rfl, fun s X => kp_binds X fun _ => rfl⟩
  refine px_cons <| px_assign_attr <| pv_none <| lv I rfl rfl rfl <| sa I (by repeat (first | assumption | exact upd_self _ _ _ | refine (upd_ne (by first | assumption | exact Ne.symm (by assumption) | exact nf (by assumption) (by assumption))).trans ?_ | refine kp_get (by assumption) (by repeat (first | exact nm_nil | refine nm_cons (by first | assumption | exact Ne.symm (by assumption) | exact nf (by assumption) (by assumption)) ?_)) ?_)) (by repeat (first | assumption | exact upd_self _ _ _ | refine (upd_ne (by first | assumption | exact Ne.symm (by assumption) | exact nf (by assumption) (by assumption))).trans ?_ | refine kp_get (by assumption) (by repeat (first | exact nm_nil | refine nm_cons (by first | assumption | exact Ne.symm (by assumption) | exact nf (by assumption) (by assumption)) ?_)) ?_)) (s_201_ack_at _) rfl rfl ?_
  have K0 : Keep [] S.H (upd (upd (upd S.H d (.dict [])) x (.inst 201 d)) d (.dict (setA "ack_at" .none []))) := ((Keep.refl.step (.inr hd)).step (.inr hx)).step (.inr hd)
  have hx0 : upd (upd (upd S.H d (.dict [])) x (.inst 201 d)) d (.dict (setA "ack_at" .none [])) x = some (.inst 201 d) := (by repeat (first | assumption | exact upd_self _ _ _ | refine (upd_ne (by first | assumption | exact Ne.symm (by assumption) | exact nf (by assumption) (by assumption))).trans ?_ | refine kp_get (by assumption) (by repeat (first | exact nm_nil | refine nm_cons (by first | assumption | exact Ne.symm (by assumption) | exact nf (by assumption) (by assumption)) ?_)) ?_))
  have hd0 : upd (upd (upd S.H d (.dict [])) x (.inst 201 d)) d (.dict (setA "ack_at" .none [])) d = some (.dict (setA "ack_at" .none [])) := (by repeat (first | assumption | exact upd_self _ _ _ | refine (upd_ne (by first | assumption | exact Ne.symm (by assumption) | exact nf (by assumption) (by assumption))).trans ?_ | refine kp_get (by assumption) (by repeat (first | exact nm_nil | refine nm_cons (by first | assumption | exact Ne.symm (by assumption) | exact nf (by assumption) (by assumption)) ?_)) ?_))
  show PX c' _ _ ⟨_, upd (upd (upd S.H d (.dict [])) x (.inst 201 d)) d (.dict (setA "ack_at" .none [])), ()⟩
  generalize upd (upd (upd S.H d (.dict [])) x (.inst 201 d)) d (.dict (setA "ack_at" .none [])) = H₀ at *
  refine px_cons <| px_assign_attr <| pv_call <| gv I rfl (g_RangeSet _) rfl <| callw_K0 I.w (kc_146 _) <| spec_RangeSet I.w I.r fun aq aqd ql H₁ n1 n2 n3 n4 K1 R1 => ?_
  have hx1 := K1 _ _ nm_nil hx0
  have hd1 := K1 _ _ nm_nil hd0
  have a1 : aq ≠ d := Ne.symm (nf n1 hd0)
  have a2 : aqd ≠ d := Ne.symm (nf n2 hd0)
  have a3 : ql ≠ d := Ne.symm (nf n3 hd0)
  refine lv I rfl rfl rfl <| sa I hx1 hd1 (s_201_ack_queue _) rfl rfl ?_
  refine px_cons <| px_assign_attr <| pv_bool <| lv I rfl rfl rfl <| sa' I hx1 hxd (s_201_discarded _) rfl rfl ?_
  refine px_cons <| px_assign_attr <| pv_int <| lv I rfl rfl rfl <| sa' I hx1 hxd (s_201_expected_packet_number _) rfl rfl ?_
  refine px_cons <| px_assign_attr <| lv I rfl rfl rfl <| lv I rfl rfl rfl <| sa' I hx1 hxd (s_201_is_application_data _) rfl rfl ?_
  refine px_cons <| px_assign_attr <| pv_un <| pv_int <| i_neg <| lv I rfl rfl rfl <| sa' I hx1 hxd (s_201_largest_received_packet _) rfl rfl ?_
  refine px_cons <| px_assign_attr <| pv_none <| lv I rfl rfl rfl <| sa' I hx1 hxd (s_201_largest_received_time _) rfl rfl ?_
  refine px_cons <| px_assign_attr <| pv_call <| gv I rfl (g_QuicPacketNumberWindow _) rfl <| callw_K0 I.w (kc_179 _) <| spec_window I.w I.r fun rp rpd rs H₂ m1 m2 m3 K2 W2 => ?_
  have b1 : rp ≠ d := Ne.symm (nf m1 (upd_self _ _ _))
  have b2 : rpd ≠ d := Ne.symm (nf m2 (upd_self _ _ _))
  have b3 : rs ≠ d := Ne.symm (nf m3 (upd_self _ _ _))
  have hx2 := K2 _ _ nm_nil ((upd_ne hxd).trans hx1)
  have hd2 := K2 _ _ nm_nil (upd_self _ _ _)
  have R2 := (R1.ups (o := .dict (setA "largest_received_time" .none (setA "largest_received_packet" (.int (-1)) (setA "is_application_data" (.bool false) (setA "expected_packet_number" (.int 0) (setA "discarded" (.bool false) (setA "ack_queue" (.ref aq) (setA "ack_at" .none [])))))))) a1 a2 a3).keep K2
  have KK2 : Keep [] S.H H₂ := (fun a o n g => K2 a o n ((upd_ne (nf hd g)).trans (K1 a o n (K0 a o n g))))
  clear K2 K1 K0
  refine lv I rfl rfl rfl <| sa I hx2 hd2 (s_201_received_packets _) rfl rfl ?_
  refine px_cons <| px_assign_attr <| pv_int <| lv I rfl rfl rfl <| sa' I hx2 hxd (s_201_ack_eliciting_in_flight _) rfl rfl ?_
  refine px_cons <| px_assign_attr <| pv_int <| lv I rfl rfl rfl <| sa' I hx2 hxd (s_201_largest_acked_packet _) rfl rfl ?_
  refine px_cons <| px_assign_attr <| pv_none <| lv I rfl rfl rfl <| sa' I hx2 hxd (s_201_loss_time _) rfl rfl ?_
  refine px_cons <| px_assign_attr <| pv_dict0 fun se hse => ?_
  obtain ⟨e1, hse⟩ := upd_none hse
  have hx3 := (upd_ne (o := .dict []) (nf hse hx2)).trans hx2
  refine lv I rfl rfl rfl <| sa I ((upd_ne (nf hse hx2)).trans ((upd_ne hxd).trans hx2)) ((upd_ne (Ne.symm e1)).trans (upd_self _ _ _)) (s_201_sent_packets _) rfl rfl ?_
  refine px_nil ⟨rfl, h x d aq aqd ql rp rpd rs se _ ?_ (upd_self _ _ _) ?_ ?_ ?_⟩
  · exact (upd_ne hxd).trans ((upd_ne (nf hse hx2)).trans ((upd_ne hxd).trans hx2))
  · obtain ⟨as, q1, q2⟩ := R2.l
    exact ((R2.ups a1 a2 a3).ups (nf hse R2.x) (nf hse R2.d) (nf hse q1)).ups a1 a2 a3
  · exact ((W2.ups b1 b2 b3).ups (nf hse W2.x) (nf hse W2.d) (nf hse W2.s)).ups b1 b2 b3
  · exact fun a o n g => (upd_ne (nf hd g)).trans ((upd_ne (nf hse (KK2 a o n g))).trans ((upd_ne (nf hd g)).trans (KK2 a o n g)))
end
end
end Mine
end
section
open PySem PySem.W PyProof.Rows PySem.Calls
set_option maxRecDepth 100000
set_option maxHeartbeats 4000000
namespace Mine
noncomputable section
section
variable {c : Cx} {S : St} {k : Nat}
noncomputable abbrev bufD (o : Addr) (p : Int) : AO := .dict [("_octets", .ref o), ("_place", .int p)]
structure Buf (H : HM) (b bd o : Addr) (p : Int) (bs : List UInt8) : Prop where
  b : H b = some (.inst 377 bd)
  d : H bd = some (bufD o p)
  o : H o = some (.barr bs)
theorem Buf.keep {H H' : HM} {b bd o : Addr} {p : Int} {bs : List UInt8} (B : Buf H b bd o p bs) (k : Keep [] H H') : Buf H' b bd o p bs := ⟨k _ _ nm_nil B.b, k _ _ nm_nil B.d, k _ _ nm_nil B.o⟩
theorem rx_seq {st : Stmt} {rest : List Stmt} {Q : TF → St → Prop} (P : St → Prop) (h1 : RX c (exec st c.env) (fun f S' => f = .next ∧ P S') S) (h2 : ∀ S', P S' → RX c (execs rest c.env) Q S') : RX c (execs (st :: rest) c.env) Q S :=
  rx_cons (rw_mono h1 fun f S' ⟨e, q⟩ => by rw [e]; exact h2 S' q)
theorem rx_nil {Q : TF → St → Prop} (h : Q .next S) : RX c (execs [] c.env) Q S := rx_of (px_nil h)
theorem spec_buf {kws : List (Str × TV)} {bs : List UInt8} {Q : TV → St → Prop} (hw : Well c) (hr : Room c.A 3) (hk : (∃ n : Int, 0 ≤ n ∧ n ≤ 100000 ∧ kws = [((Str.ofString "capacity"), .int n)] ∧ bs = List.replicate n.toNat 0) ∨ (kws = [((Str.ofString "data"), .bytes bs)] ∧ bs.length ≤ 100000))
    (h : ∀ b bd o H', S.H bd = none → Keep [] S.H H' → Buf H' b bd o 0 bs → Q (.ref b) { S with H := H' }) : RCALL c (.ref 377) [] kws Q S := by
  refine rcall_inst (k := 2) hw hr (mk_377 _) fun A' x d hr' hx hd hxd => ?_
  obtain ⟨vc, hvc⟩ : ∃ v, v = (kws.lookup (Str.ofString "capacity")).getD (.int 0) := ⟨_, rfl⟩
  obtain ⟨vd, hvd⟩ : ∃ v, v = (kws.lookup (Str.ofString "data")).getD .none := ⟨_, rfl⟩
  refine rcall_g (k := 1) ["self", "capacity", "data"] [.ref x, vc, vd] (hw.at A') hr' rfl rfl ?_ rfl rfl rfl rfl rfl fun c' I => ?_
  · intro vs ks h1 h2
    rcases vs with _ | ⟨a, _ | _⟩ <;> simp at h1
    rcases hk with ⟨n, _, _, rfl, _⟩ | ⟨rfl, _⟩
    · rcases ks with _ | ⟨⟨k1, a1⟩, _ | _⟩ <;> simp at h2
      obtain ⟨rfl, h3⟩ := h2
      exact ⟨[a, a1, .none], by simp only [List.map_cons, h1, h3, hvc, hvd]; rfl, fun s X => binds_K X rfl rfl rfl rfl rfl⟩
    · rcases ks with _ | ⟨⟨k1, a1⟩, _ | _⟩ <;> simp at h2
      obtain ⟨rfl, h3⟩ := h2
      exact ⟨[a, .int 0 _, a1], by simp only [List.map_cons, h1, h3, hvc, hvd]; rfl, fun s X => binds_K X rfl rfl rfl rfl rfl⟩
  refine rx_seq (fun S' => ∃ o, S'.m.lookup (Str.ofString "self") = some (.ref x) ∧ S.H o = none ∧ o ≠ x ∧ o ≠ d ∧ S'.H = upd (upd (upd (upd S.H d (.dict [])) x (.inst 377 d)) o (.barr bs)) d (.dict [("_octets", .ref o)])) ?_ fun S' H0 => ?_
  · rcases hk with ⟨n, h0, h1, rfl, rfl⟩ | ⟨rfl, hz⟩
    · subst hvc hvd
      refine rx_if <| rw_of <| pt_cmp <| lv I rfl rfl rfl <| pv_none <| n_is_none <| t_bool <| ite_t rfl <| rx_cons <| rx_assign_attr <| rv_call <| bv I rfl (n_bytearray _) b_bytearray rfl rfl <| rcallw_ty <| args_cons <| lv I rfl rfl rfl <| args_nil <| rcall_ba_int I.r h0 h1 fun o ho => ?_
      obtain ⟨n1, ho⟩ := upd_none ho
      obtain ⟨n2, ho⟩ := upd_none ho
      refine lv I rfl rfl rfl <| sa I (by repeat (first | assumption | exact upd_self _ _ _ | refine (upd_ne (by first | assumption | exact Ne.symm (by assumption) | exact nf (by assumption) (by assumption))).trans ?_ | refine kp_get (by assumption) (by repeat (first | exact nm_nil | refine nm_cons (by first | assumption | exact Ne.symm (by assumption) | exact nf (by assumption) (by assumption)) ?_)) ?_)) (by repeat (first | assumption | exact upd_self _ _ _ | refine (upd_ne (by first | assumption | exact Ne.symm (by assumption) | exact nf (by assumption) (by assumption))).trans ?_ | refine kp_get (by assumption) (by repeat (first | exact nm_nil | refine nm_cons (by first | assumption | exact Ne.symm (by assumption) | exact nf (by assumption) (by assumption)) ?_)) ?_)) (s_377_octets _) rfl rfl <| rx_nil ⟨rfl, o, rfl, ho, n1, n2, rfl⟩
    · subst hvc hvd
      refine rx_if <| rw_of <| pt_cmp <| lv I rfl rfl rfl <| pv_none <| by_is_none <| t_bool <| ite_f rfl <| rx_cons <| rx_assign_attr <| rv_call <| bv I rfl (n_bytearray _) b_bytearray rfl rfl <| rcallw_ty <| args_cons <| lv I rfl rfl rfl <| args_nil <| rcall_ba_bytes I.r hz fun o ho => ?_
      obtain ⟨n1, ho⟩ := upd_none ho
      obtain ⟨n2, ho⟩ := upd_none ho
      refine lv I rfl rfl rfl <| sa I (by repeat (first | assumption | exact upd_self _ _ _ | refine (upd_ne (by first | assumption | exact Ne.symm (by assumption) | exact nf (by assumption) (by assumption))).trans ?_ | refine kp_get (by assumption) (by repeat (first | exact nm_nil | refine nm_cons (by first | assumption | exact Ne.symm (by assumption) | exact nf (by assumption) (by assumption)) ?_)) ?_)) (by repeat (first | assumption | exact upd_self _ _ _ | refine (upd_ne (by first | assumption | exact Ne.symm (by assumption) | exact nf (by assumption) (by assumption))).trans ?_ | refine kp_get (by assumption) (by repeat (first | exact nm_nil | refine nm_cons (by first | assumption | exact Ne.symm (by assumption) | exact nf (by assumption) (by assumption)) ?_)) ?_)) (s_377_octets _) rfl rfl <| rx_nil ⟨rfl, o, rfl, ho, n1, n2, rfl⟩
  obtain ⟨o, ms, ho, n1, n2, e⟩ := H0
  obtain ⟨m, H, _⟩ := S'
  dsimp only at ms e
  subst e
  have ho' : ∀ {a o'}, S.H a = some o' → a ≠ o := fun g => nf ho g
  refine rx_of <| px_cons <| px_assign_attr <| pv_int <| lv I rfl (by exact ms) rfl <| sa I (by repeat (first | assumption | exact upd_self _ _ _ | refine (upd_ne (by first | assumption | exact Ne.symm (by assumption) | exact nf (by assumption) (by assumption))).trans ?_ | refine kp_get (by assumption) (by repeat (first | exact nm_nil | refine nm_cons (by first | assumption | exact Ne.symm (by assumption) | exact nf (by assumption) (by assumption)) ?_)) ?_)) (by repeat (first | assumption | exact upd_self _ _ _ | refine (upd_ne (by first | assumption | exact Ne.symm (by assumption) | exact nf (by assumption) (by assumption))).trans ?_ | refine kp_get (by assumption) (by repeat (first | exact nm_nil | refine nm_cons (by first | assumption | exact Ne.symm (by assumption) | exact nf (by assumption) (by assumption)) ?_)) ?_)) (s_377_place _) rfl rfl <| px_nil ⟨rfl, h x d o _ hd ((((((Keep.refl).step (.inr hd)).step (.inr hx)).step (.inr ho)).step (.inr hd)).step (.inr hd)) ⟨(by repeat (first | assumption | exact upd_self _ _ _ | refine (upd_ne (by first | assumption | exact Ne.symm (by assumption) | exact nf (by assumption) (by assumption))).trans ?_ | refine kp_get (by assumption) (by repeat (first | exact nm_nil | refine nm_cons (by first | assumption | exact Ne.symm (by assumption) | exact nf (by assumption) (by assumption)) ?_)) ?_)), (by repeat (first | assumption | exact upd_self _ _ _ | refine (upd_ne (by first | assumption | exact Ne.symm (by assumption) | exact nf (by assumption) (by assumption))).trans ?_ | refine kp_get (by assumption) (by repeat (first | exact nm_nil | refine nm_cons (by first | assumption | exact Ne.symm (by assumption) | exact nf (by assumption) (by assumption)) ?_)) ?_)), (by repeat (first | assumption | exact upd_self _ _ _ | refine (upd_ne (by first | assumption | exact Ne.symm (by assumption) | exact nf (by assumption) (by assumption))).trans ?_ | refine kp_get (by assumption) (by repeat (first | exact nm_nil | refine nm_cons (by first | assumption | exact Ne.symm (by assumption) | exact nf (by assumption) (by assumption)) ?_)) ?_))⟩⟩
end
end
end Mine
end
section
open PySem PySem.W PyProof.Rows PySem.Calls
set_option maxRecDepth 100000
set_option maxHeartbeats 4000000
namespace Mine
noncomputable section
section
variable {c : Cx} {S : St} {k : Nat}
theorem pa_none {Q : Option Int → St → Prop} (h : Q none S) : PART c none Q S := h
theorem pa_some {e : Expr} {Q : Option Int → St → Prop} (h : PV c (eval e c.env) (fun v S' => ∃ i, v = .int i ∧ Q (some i) S') S) : PART c (some e) Q S := h
theorem clip_nat {n p : Nat} (h : p ≤ n) : clipAt n (p : Int) = p := by
  have := clipAt_cast n p
  omega
theorem Buf.new {H : HM} {b bd o a : Addr} {p : Int} {bs : List UInt8} {x : AO} (B : Buf H b bd o p bs) (h : H a = none) : Buf (upd H a x) b bd o p bs := ⟨(upd_ne (nf h B.b)).trans B.b, (upd_ne (nf h B.d)).trans B.d, (upd_ne (nf h B.o)).trans B.o⟩
theorem spec_data {b bd o : Addr} {p : Nat} {bs : List UInt8} {Q : TV → St → Prop} (hw : Well c) (hr : Room c.A 1) (B : Buf S.H b bd o p bs) (hp : p ≤ bs.length) (hz : bs.length ≤ 100000) (h : ∀ H', Keep [] S.H H' → Q (.bytes (bs.take p)) { S with H := H' }) : CALL c (.ref 261) [.ref b] [] Q S := by
  refine call_p (k := 0) ["self"] hw hr rfl rfl rfl (w1 fun _ => rfl) rfl rfl rfl rfl rfl fun c' I => ?_
  refine px_cons <| px_return <| pv_call <| bv I rfl (n_bytes _) b_bytes rfl rfl <| callw_ty <| args_cons <| pv_slice <| pv_attr <| lv I rfl rfl rfl <| ga I B.b B.d (a_377_octets _) rfl (by simp) <| pa_none <| pa_some <| pv_attr <| lv I rfl rfl rfl <| ga I B.b B.d (a_377_place _) rfl (by simp) ⟨_, rfl, slice_ba B.o hz rfl fun a ha => args_nil ?_⟩
  have e : (bs.drop 0).take (clipAt bs.length (p : Int) - 0) = bs.take p := by rw [clip_nat hp]; rfl
  show CALLX c' _ [.ref a] _ ⟨_, upd S.H a (.barr ((bs.drop 0).take (clipAt bs.length (p : Int) - 0))), ()⟩
  rw [e]
  exact call_bytes' (upd_self _ _ _) (by simp; exact aL 0x111038bac8b10010210638bac8b00203 hz (aN _ _)) (h _ (Keep.refl.step (.inr ha)))
theorem spec_pull {b bd o : Addr} {p n : Nat} {bs : List UInt8} {Q : TV → St → Prop} (hw : Well c) (hr : Room c.A 1) (B : Buf S.H b bd o p bs) (hp : p + n ≤ bs.length) (hz : bs.length ≤ 100000)
    (h : ∀ H', Keep [bd] S.H H' → Buf H' b bd o (p + n : Nat) bs → Q (.bytes ((bs.drop p).take n)) { S with H := H' }) : CALL c (.ref 297) [.ref b, .int n] [] Q S := by
  refine call_p (k := 0) ["self", "length"] hw hr rfl rfl rfl (w2 fun _ _ => rfl) rfl rfl rfl rfl rfl fun c' I => ?_
  refine px_cons <| px_if <| pt_or <| pt_cmp <| lv I rfl rfl rfl <| pv_int <| i_lt <| t_bool <| dec_2 (fun q => absurd q (by exact aL 0x1080749001)) fun q => ?_
  refine pt_or <| pt_cmp <| pv_bin <| pv_attr <| lv I rfl rfl rfl <| ga I B.b B.d (a_377_place _) rfl (by simp) <| lv I rfl rfl rfl <| i_add <| pv_call <| bv I rfl (n_len _) b_len rfl rfl <| callw_bt <| args_cons <| pv_attr <| lv I rfl rfl rfl <| ga I B.b B.d (a_377_octets _) rfl (by simp) <| args_nil <| len_ba B.o hz <| i_gt <| t_bool <| dec_2 (fun q => absurd q (by exact aL 0x11170792749210c0103 hp)) fun q => pt_or_nil <| ite_f rfl <| px_nil ?_
  refine px_cons <| px_assign_name <| pv_call <| bv I rfl (n_bytes _) b_bytes rfl rfl <| callw_ty <| args_cons <| pv_slice <| pv_attr <| lv I rfl rfl rfl <| ga I B.b B.d (a_377_octets _) rfl (by simp) <| pa_some <| pv_attr <| lv I rfl rfl rfl <| ga I B.b B.d (a_377_place _) rfl (by simp) ⟨_, rfl, pa_some <| pv_bin <| pv_attr <| lv I rfl rfl rfl <| ga I B.b B.d (a_377_place _) rfl (by simp) <| lv I rfl rfl rfl <| i_add ⟨_, rfl, slice_ba B.o hz rfl fun a ha => args_nil ?_⟩⟩
  have e : (bs.drop (clipAt bs.length (p : Int))).take (clipAt bs.length ((p : Int) + n) - clipAt bs.length (p : Int)) = (bs.drop p).take n := by
    have := clip_nat (p := p + n) hp
    rw [Int.natCast_add] at this
    rw [this, clip_nat (by exact aL 0x11200210c0103 hp), Nat.add_sub_cancel_left]
  show CALLX c' _ [.ref a] _ ⟨_, upd S.H a (.barr ((bs.drop (clipAt bs.length (p : Int))).take (clipAt bs.length ((p : Int) + n) - clipAt bs.length (p : Int)))), ()⟩
  rw [e]
  have B1 : Buf (upd S.H a (.barr ((bs.drop p).take n))) b bd o p bs := B.new ha
  have nbd : b ≠ bd := nk B.d B.b (by simp)
  have nod : o ≠ bd := nk B.d B.o (by simp)
  refine call_bytes' (upd_self _ _ _) (by simp; exact aL 0x1110138bac8b30430130638bac8b20210c0305 hp hz (aN _ _)) <| sv I rfl ?_
  refine px_cons <| px_aug_attr <| lv I rfl rfl rfl <| ga I B1.b B1.d (a_377_place _) rfl (by simp) <| lv I rfl rfl rfl <| i_iadd <| sa I B1.b B1.d (s_377_place _) rfl rfl ?_
  refine px_cons <| px_return <| lv I rfl rfl rfl <| h _ ((Keep.refl.step (.inr ha)).step (.inl (by simp))) ⟨(upd_ne nbd).trans B1.b, ?_, (upd_ne nod).trans B1.o⟩
  rw [Int.natCast_add]
  exact upd_self _ _ _
theorem spec_pullvar {b bd o : Addr} {p : Nat} {v : Int} {bs done rest : List UInt8} {Q : TV → St → Prop} (hw : Well c) (hr : Room c.A 2) (h0 : 0 ≤ v) (h1 : v < 1073741824) (hb : bs = done ++ (encV v ++ rest)) (hp : p = done.length) (B : Buf S.H b bd o p bs) (hz : bs.length ≤ 100000)
    (h : ∀ H', Keep [bd] S.H H' → Buf H' b bd o (done ++ encV v).length bs → Q (.int v) { S with H := H' }) : CALL c (.ref 332) [.ref b] [] Q S := by
  subst hp
  refine call_p (k := 1) ["self"] hw hr rfl rfl rfl (w1 fun _ => rfl) rfl rfl rfl rfl rfl fun c' I => ?_
  obtain ⟨f, r, ef, ef2⟩ := encV_first h0 h1
  have hk : encK v = 1 ∨ encK v = 2 ∨ encK v = 4 := by unfold encK; split; simp; split <;> simp
  have hbl : bs.length = done.length + encK v + rest.length := by rw [hb]; simp [encV_len]; exact aL 0x111210cc21c0c2003
  have hfst : bs.getD done.length 0 = f := by rw [hb, ef]; simp [List.getD]
  have hsz : (1 : Int) * 2 ^ (((f.toNat : Int).fdiv (2 ^ (6 : Int).toNat))).toNat = encK v ∧ 0 ≤ (f.toNat : Int).fdiv (2 ^ (6 : Int).toNat) ∧ (f.toNat : Int).fdiv (2 ^ (6 : Int).toNat) ≤ 1000000 := by
    rw [ef2, show ((2 : Int) ^ (6 : Int).toNat) = 64 from rfl, Int.fdiv_eq_ediv_of_nonneg _ (by decide)]
    unfold encK
    split
    · rw [show v / 64 = 0 by exact aL 0x188010101188101010108251888141083602188c19567f8030083330 h0 (by assumption) (aF 64 _ oY)]; decide
    · split
      · rw [show (v / 256 + 64) / 64 = 1 by exact aL 0x4888801010104880488488881010104880488011845188834308361888294188c39564888141083602488c19563ffff8037f8039450 (by assumption) (by assumption) (aF 256 _ oY) (aF 64 _ oY)]; decide
      · rw [show (v / 16777216 + 128) / 64 = 2 by exact aL 0x1888888888810010101888888880188888888188888888880110101888888880188888888012845188834308362888294188c39561888888888141083602188888888c19563ffff803918888888888804450 h1 (by assumption) (aF 16777216 _ oY) (aF 64 _ oY)]; decide
  refine px_cons <| px_if <| pt_cmp <| pv_attr <| lv I rfl rfl rfl <| ga I B.b B.d (a_377_place _) rfl (by simp) <| pv_call <| bv I rfl (n_len _) b_len rfl rfl <| callw_bt <| args_cons <| pv_attr <| lv I rfl rfl rfl <| ga I B.b B.d (a_377_octets _) rfl (by simp) <| args_nil <| len_ba B.o hz <| i_ge <| t_bool <| dec_2 (fun q => absurd q (by exact aL 0x11010110101101011707394b222b2271b227321cc02204 hbl hk)) fun q => px_nil ?_
  refine px_cons <| px_assign_name <| pv_bin <| pv_int <| pv_bin <| pv_sub <| pv_attr <| lv I rfl rfl rfl <| ga I B.b B.d (a_377_octets _) rfl (by simp) <| pv_attr <| lv I rfl rfl rfl <| ga I B.b B.d (a_377_place _) rfl (by simp) <| sub_ba B.o hz (by exact aL 0x107083001) (by exact aL 0x1107174170739102 q) <| pv_int <| i_shr (by decide) ?_
  rw [Int.toNat_natCast, hfst]
  refine i_shl hsz.2.1 hsz.2.2 (by decide) ?_
  rw [hsz.1]
  refine sv I rfl ?_
  refine px_cons <| px_return <| pv_bin <| pv_mcall <| bv I rfl (n_int _) b_int rfl rfl <| gm_from_bytes I.w (kf_from _) fun u hu => callw_bound <| args_cons ?_
  have B1 : Buf (upd S.H u (.raw KFB.bound)) b bd o done.length bs := B.new hu
  refine pv_mcall <| lv I rfl rfl rfl <| gm_inst I.w B1.b B1.d (m_377_pull_bytes _) rfl <| callw_K I.w (kf_297 _) <| args_cons <| lv I rfl rfl rfl <| args_nil <| spec_pull I.w I.r B1 (by exact aL 0x110021c0321cc02104 hbl) hz fun H' kp B2 => args_cons <| pv_str <| args_nil ⟨kp _ _ (nm_cons (nk B1.d (upd_self _ _ _) (by simp)) nm_nil) (upd_self _ _ _), ?_⟩
  have e2 : (bs.drop done.length).take (encK v) = encV v := by rw [hb, List.drop_left', ← encV_len v, List.take_left']; rfl; rfl
  rw [e2]
  refine call_from_bytes (kp _ _ (nm_cons (nk B1.d (upd_self _ _ _) (by simp)) nm_nil) (upd_self _ _ _)) (by rw [encV_len]; exact aL 0x101101101118b004b022b0271b027101 hk) ?_
  have e3 : (8 * (encK v : Int) - 2).toNat = 8 * encK v - 2 := by exact aL 0x10010101101010111100001110010110001110101112022b118d2b08281718ca30b026281718ca0757203 (aT _) (aS _ _)
  refine pv_bin <| pv_bin <| pv_int <| pv_bin <| pv_bin <| pv_int <| lv I rfl rfl rfl <| i_mul (.of_left (by decide)) <| pv_int <| i_sub <| i_shl (by exact aL 0x1180118011801280718ca0834b022b0271b027101 hk) (by exact aL 0x1181803ec99888282718ca3321cc0238bac8b00204 hz hbl) (by decide) <| pv_int <| i_sub <| i_and ?_
  rw [e3, Int.one_mul, encV_read h0 h1]
  refine h _ (((Keep.refl (F := [bd])).step (.inr hu)).trans kp) ?_
  rw [List.length_append, encV_len]; exact B2
end
end
end Mine
end
section
open PySem PySem.W PyProof.Rows PySem.Calls
set_option maxRecDepth 100000
set_option maxHeartbeats 4000000
namespace Mine
noncomputable section
section
variable {c : Cx} {S : St} {k : Nat}
theorem spec_push {b bd o : Addr} {bs done rest v : List UInt8} {p : Nat} {Q : TV → St → Prop} (hw : Well c) (hr : Room c.A 1) (hb : bs = done ++ rest) (hp : p = done.length) (hv : v.length ≤ rest.length) (B : Buf S.H b bd o p bs) (hz : bs.length ≤ 100000)
    (h : ∀ H' o', Keep [bd] S.H H' → Buf H' b bd o' (done ++ v).length ((done ++ v) ++ rest.drop v.length) → Q .none { S with H := H' }) : CALL c (.ref 339) [.ref b, .bytes v] [] Q S := by
  subst hp
  refine call_p (k := 0) ["self", "value"] hw hr rfl rfl rfl (w2 fun _ _ => rfl) rfl rfl rfl rfl rfl fun c' I => ?_
  have hl : bs.length = done.length + rest.length := by rw [hb]; simp
  have hvz : v.length ≤ 100000 := by exact aL 0x1111038bac8b0013c2238bac8b20100304 hv hz hl
  refine px_cons <| px_assign_name <| pv_bin <| pv_attr <| lv I rfl rfl rfl <| ga I B.b B.d (a_377_place _) rfl (by simp) <| pv_call <| bv I rfl (n_len _) b_len rfl rfl <| callw_bt <| args_cons <| lv I rfl rfl rfl <| args_nil <| len_by hvz <| i_add <| sv I rfl ?_
  refine px_cons <| px_if <| pt_cmp <| lv I rfl rfl rfl <| pv_call <| bv I rfl (n_len _) b_len rfl rfl <| callw_bt <| args_cons <| pv_attr <| lv I rfl rfl rfl <| ga I B.b B.d (a_377_octets _) rfl (by simp) <| args_nil <| len_ba B.o hz <| i_gt <| t_bool <| dec_2 (fun q => absurd q (by exact aL 0x111007379274913c22100204 hv hl)) fun q => px_nil ?_
  have e1 : (bs.drop 0).take (clipAt bs.length (done.length : Int) - 0) = done := by rw [clip_nat (by exact aL 0x11001021c02103 hl), hb]; exact List.take_left' rfl
  refine px_cons <| px_assign_attr <| pv_bin <| pv_bin <| pv_slice <| pv_attr <| lv I rfl rfl rfl <| ga I B.b B.d (a_377_octets _) rfl (by simp) <| pa_none <| pa_some <| pv_attr <| lv I rfl rfl rfl <| ga I B.b B.d (a_377_place _) rfl (by simp) ⟨_, rfl, slice_ba B.o hz e1 fun a1 ha1 => ?_⟩
  have B1 := B.new (x := .barr done) ha1
  refine lv I rfl rfl rfl <| add_ba_by (upd_self _ _ _) (by exact aL 0x1111038bac8b03c013c2238bac8b20100304 hv hz hl) fun a2 ha2 => ?_
  have B2 := B1.new (x := .barr (done ++ v)) ha2
  have e2 : (bs.drop (clipAt bs.length ((done.length : Int) + v.length))).take (bs.length - clipAt bs.length ((done.length : Int) + v.length)) = rest.drop v.length := by
    rw [← Int.natCast_add, clip_nat (by exact aL 0x1110203c013c22100204 hv hl), hb, List.drop_append, List.drop_of_length_le (by exact aL 0x110c00002), Nat.add_sub_cancel_left, List.nil_append]
    exact List.take_of_length_le (by simp; exact aL 0x10130c2031c21c0c104 (aS _ _))
  refine pv_slice <| pv_attr <| lv I rfl rfl rfl <| ga I B2.b B2.d (a_377_octets _) rfl (by simp) <| pa_some <| lv I rfl rfl rfl ⟨_, rfl, pa_none <| slice_ba B2.o hz e2 fun a3 ha3 => ?_⟩
  have B3 := B2.new (x := .barr (rest.drop v.length)) ha3
  have n32 : a2 ≠ a3 := nf ha3 (upd_self _ _ _)
  refine add_ba_ba ((upd_ne n32).trans (upd_self _ _ _)) (upd_self _ _ _) (by simp; exact aL 0x11110011011010138bac8b403cc0014b13c2238bac8b20100405 hv hz hl (aS _ _)) fun a4 ha4 => ?_
  have B4 := B3.new (x := .barr (done ++ v ++ rest.drop v.length)) ha4
  have K4 : Keep [bd] S.H (upd (upd (upd (upd S.H a1 (.barr done)) a2 (.barr (done ++ v))) a3 (.barr (rest.drop v.length))) a4 (.barr (done ++ v ++ rest.drop v.length))) := fun a x n g =>
    have g1 := (upd_ne (o := .barr done) (nf ha1 g)).trans g
    have g2 := (upd_ne (o := .barr (done ++ v)) (nf ha2 g1)).trans g1
    have g3 := (upd_ne (o := .barr (rest.drop v.length)) (nf ha3 g2)).trans g2
    (upd_ne (nf ha4 g3)).trans g3
  have s4 : upd (upd (upd (upd S.H a1 (.barr done)) a2 (.barr (done ++ v))) a3 (.barr (rest.drop v.length))) a4 (.barr (done ++ v ++ rest.drop v.length)) a4 = some (.barr (done ++ v ++ rest.drop v.length)) := upd_self _ _ _
  show PV c' _ _ ⟨_, upd (upd (upd (upd S.H a1 (.barr done)) a2 (.barr (done ++ v))) a3 (.barr (rest.drop v.length))) a4 (.barr (done ++ v ++ rest.drop v.length)), ()⟩
  generalize upd (upd (upd (upd S.H a1 (.barr done)) a2 (.barr (done ++ v))) a3 (.barr (rest.drop v.length))) a4 (.barr (done ++ v ++ rest.drop v.length)) = H4 at *
  have nbd : b ≠ bd := nk B4.d B4.b (by simp)
  refine lv I rfl rfl rfl <| sa I B4.b B4.d (s_377_octets _) rfl rfl ?_
  refine px_cons <| px_assign_attr <| lv I rfl rfl rfl <| lv I rfl rfl rfl <| sa' I B4.b nbd (s_377_place _) rfl rfl <| px_nil <| h _ a4 (K4.step (.inl (by simp))) ⟨(upd_ne nbd).trans B4.b, ?_, (upd_ne (nk B4.d s4 (by simp))).trans s4⟩
  rw [List.length_append, Int.natCast_add]
  exact upd_self _ _ _
theorem spec_pushvar {b bd o : Addr} {bs done rest : List UInt8} {p : Nat} {v : Int} {Q : TV → St → Prop} (hw : Well c) (hr : Room c.A 2) (h0 : 0 ≤ v) (h1 : v < 1073741824) (hb : bs = done ++ rest) (hp : p = done.length) (hv : (encV v).length ≤ rest.length) (B : Buf S.H b bd o p bs) (hz : bs.length ≤ 100000)
    (h : ∀ H' o', Keep [bd] S.H H' → Buf H' b bd o' (done ++ encV v).length ((done ++ encV v) ++ rest.drop (encV v).length) → Q .none { S with H := H' }) : CALL c (.ref 374) [.ref b, .int v] [] Q S := by
  refine call_p (k := 1) ["self", "value"] hw hr rfl rfl rfl (w2 fun _ _ => rfl) rfl rfl rfl rfl rfl fun c' I => ?_
  obtain ⟨tk, gm⟩ := g_UINT_VAR_MAX c'.w
  refine px_cons <| px_if <| pt_or <| pt_cmp <| lv I rfl rfl rfl <| pv_int <| i_lt <| t_bool <| dec_2 (fun q => absurd q (by exact aL 0x11080490083110 h0)) fun q => ?_
  refine pt_or <| pt_cmp <| lv I rfl rfl rfl <| gv I rfl gm rfl <| i_gt <| t_bool <| dec_2 (fun q => absurd q (by exact aL 0x1103ffffffffffffffffffff84918888888888804110 h1)) fun q => pt_or_nil <| ite_f rfl <| px_nil ?_
  obtain ⟨x0, x1⟩ := encX_bound h0 h1
  unfold encX at x0 x1
  unfold encK at x1
  have hv' := hv
  have h' := h
  unfold encV encX encK at hv' h'
  refine px_cons <| px_if <| pt_cmp <| lv I rfl rfl rfl <| pv_int <| i_le <| t_bool <| dec_2 (fun q => ?_) fun q => ?_
  · simp only [if_pos q] at x0 x1 hv' h'
    exact px_cons <| xe I rfl <| pv_mcall <| lv I rfl rfl rfl <| gm_inst I.w B.b B.d (m_377_push_bytes _) rfl <| callw_K I.w (kf_339 _) <| args_cons <| pv_mcall <| lv I rfl rfl rfl <| gm_to_bytes <| callw_bt <| args_cons <| pv_int <| args_cons <| pv_str <| args_nil <| call_to_bytes 1 rfl (by decide) x0 x1 <| args_nil <| spec_push I.w I.r hb hp hv' B hz fun H' o' kp B' => px_nil <| px_nil <| h' _ _ kp B'
  simp only [if_neg q] at x0 x1 hv' h'
  refine px_cons <| px_if <| pt_cmp <| lv I rfl rfl rfl <| pv_int <| i_le <| t_bool <| dec_2 (fun q2 => ?_) fun q2 => ?_
  · simp only [if_pos q2] at x0 x1 hv' h'
    rw [← or_16384 h0 (by exact aL 0x11488888043ffff803110 q2)] at x0 x1 hv' h'
    exact px_cons <| xe I rfl <| pv_mcall <| lv I rfl rfl rfl <| gm_inst I.w B.b B.d (m_377_push_bytes _) rfl <| callw_K I.w (kf_339 _) <| args_cons <| pv_mcall <| pv_bin <| lv I rfl rfl rfl <| pv_int <| i_or <| gm_to_bytes <| callw_bt <| args_cons <| pv_int <| args_cons <| pv_str <| args_nil <| call_to_bytes 2 rfl (by decide) x0 x1 <| args_nil <| spec_push I.w I.r hb hp hv' B hz fun H' o' kp B' => px_nil <| px_nil <| px_nil <| h' _ _ kp B'
  simp only [if_neg q2] at x0 x1 hv' h'
  refine px_cons <| px_if <| pt_cmp <| lv I rfl rfl rfl <| pv_int <| i_le <| t_bool <| dec_2 (fun q3 => ?_) fun q3 => absurd (show v ≤ 1073741823 by exact aL 0x117fffffffff80318888888888804110 h1) q3
  rw [← or_31 h0 h1] at x0 x1 hv' h'
  exact px_cons <| xe I rfl <| pv_mcall <| lv I rfl rfl rfl <| gm_inst I.w B.b B.d (m_377_push_bytes _) rfl <| callw_K I.w (kf_339 _) <| args_cons <| pv_mcall <| pv_bin <| lv I rfl rfl rfl <| pv_int <| i_or <| gm_to_bytes <| callw_bt <| args_cons <| pv_int <| args_cons <| pv_str <| args_nil <| call_to_bytes 4 rfl (by decide) x0 x1 <| args_nil <| spec_push I.w I.r hb hp hv' B hz fun H' o' kp B' => px_nil <| px_nil <| px_nil <| px_nil <| h' _ _ kp B'
end
end
end Mine
end
section
open PySem PySem.W PyProof.Rows PySem.Calls
set_option maxRecDepth 100000
set_option maxHeartbeats 4000000
namespace Mine
noncomputable section
section
variable {c : Cx} {S : St} {k : Nat}
theorem rs_ne {H : HM} {x d l b bd o : Addr} {p : Int} {rs : List (Int × Int)} {bs : List UInt8} (R : RSet H x d l rs) (B : Buf H b bd o p bs) : x ∉ [bd] ∧ d ∉ [bd] ∧ l ∉ [bd] ∧ b ∉ [l] ∧ bd ∉ [l] ∧ o ∉ [l] := by
  obtain ⟨as, q1, _⟩ := R.l
  exact ⟨nm_cons (nk B.d R.x (by simp)) nm_nil, nm_cons (nk B.d R.d (by simp)) nm_nil, nm_cons (nk B.d q1 (by simp)) nm_nil, nm_cons (nk q1 B.b (by simp)) nm_nil, nm_cons (nk q1 B.d (by simp)) nm_nil, nm_cons (nk q1 B.o (by simp)) nm_nil⟩
theorem RSet.keepB {H H' : HM} {x d l b bd o : Addr} {p : Int} {rs : List (Int × Int)} {bs : List UInt8} (R : RSet H x d l rs) (B : Buf H b bd o p bs) (k : Keep [bd] H H') : RSet H' x d l rs := by
  obtain ⟨n1, n2, n3, _⟩ := rs_ne R B
  obtain ⟨as, q1, q2⟩ := R.l
  refine ⟨k _ _ n1 R.x, k _ _ n2 R.d, as, k _ _ n3 q1, q2.imp fun a r ⟨rd, d1, d2⟩ => ⟨rd, k _ _ (nm_cons (nk B.d d1 (by simp)) nm_nil) d1, k _ _ (nm_cons (nk B.d d2 (by simp)) nm_nil) d2⟩⟩
theorem Buf.keepL {H H' : HM} {x d l b bd o : Addr} {p : Int} {rs : List (Int × Int)} {bs : List UInt8} (B : Buf H b bd o p bs) (R : RSet H x d l rs) (k : Keep [l] H H') : Buf H' b bd o p bs := by
  obtain ⟨_, _, _, n1, n2, n3⟩ := rs_ne R B
  exact ⟨k _ _ n1 B.b, k _ _ n2 B.d, k _ _ n3 B.o⟩
theorem Keep.over {F : List Addr} {H H' H'' : HM} {l : Addr} (k : Keep F H H') (hl : H l = none) (k' : Keep [l] H' H'') : Keep F H H'' := fun a o n g => k' a o (nm_cons (nf hl g) nm_nil) (k a o n g)
structure PJ (S : St) (H₀ : HM) (b bd o x d l : Addr) (bs : List UInt8) (top : Int × Int) (downs : List (Int × Int)) (delay : Int) (k : Nat) (st : Int) (done : List UInt8) (tl : List (Int × Int)) (b' : Int) : Prop where
  m1 : S.m.lookup (Str.ofString "buf") = some (.ref b)
  m2 : S.m.lookup (Str.ofString "rangeset") = some (.ref x)
  m3 : S.m.lookup (Str.ofString "end") = some (.int st)
  m4 : S.m.lookup (Str.ofString "delay") = some (.int delay)
  K : Keep [bd] H₀ S.H
  B : Buf S.H b bd o done.length bs
  R : RSet S.H x d l ((top :: downs.take k).reverse)
  e : bs = done ++ encL (gapsF st (downs.drop k))
  D : Desc st (downs.drop k)
  t : (top :: downs.take k).reverse = (st, b') :: tl
  s0 : 0 ≤ st
  s1 : st < 1000000000
  c : Canon ((top :: downs.take k).reverse)
theorem spec_pullframe {b bd o : Addr} {bs : List UInt8} {top : Int × Int} {downs : List (Int × Int)} {delay : Int} {Q : TV → St → Prop} (hw : Well c) (hr : Room c.A 4) (hbs : bs = encL (frameF top downs delay)) (B : Buf S.H b bd o 0 bs) (hz : bs.length ≤ 100000)
    (h1 : 0 ≤ top.1) (h2 : top.1 < top.2) (h3 : top.2 < 1000000000) (hd : Desc top.1 downs) (d0 : 0 ≤ delay) (d1 : delay < 1073741824) (hlen : downs.length ≤ 9000)
    (h : ∀ t x d l H', Keep [bd] S.H H' → H' t = some (.tup [.ref x, .int delay]) → RSet H' x d l ((top :: downs).reverse) → Q (.ref t) { S with H := H' }) : CALL c (.ref 402) [.ref b] [] Q S := by
  refine call_p (k := 3) ["buf"] hw hr rfl rfl rfl (w1 fun _ => rfl) rfl rfl rfl rfl rfl fun c' I => ?_
  refine px_cons <| px_assign_name <| pv_call <| gv I rfl (g_RangeSet _) rfl <| callw_K0 I.w (kc_146 _) <| spec_RangeSet I.w (I.r.le (by decide)) fun x d l H1 nx nd nl nxd K1 R1 => sv I rfl ?_
  have B1 := B.keep K1
  have f1 : bs = [] ++ (encV (top.2 - 1) ++ (encV delay ++ (encV downs.length ++ (encV (top.2 - 1 - top.1) ++ encL (gapsF top.1 downs))))) := by
    rw [hbs, frameF, encL_app, headF, encL_cons, encL_cons, encL_cons, encL_cons]; simp [encL]
  refine px_cons <| px_assign_name <| pv_mcall <| lv I rfl rfl rfl <| gm_inst I.w B1.b B1.d (m_377_pull_uint_var _) rfl <| callw_K0 I.w (kf_332 _) <| spec_pullvar I.w (I.r.le (by decide)) (by exact aL 0x111181a0831040083220 h1 h2) (by exact aL 0x11188888888888180a47bcedcd888804110 h3) f1 rfl B1 hz fun H2 K2 B2 => sv I rfl ?_
  have R2 := R1.keepB B1 K2
  rw [List.nil_append] at B2 f1
  refine px_cons <| px_assign_name <| pv_mcall <| lv I rfl rfl rfl <| gm_inst I.w B2.b B2.d (m_377_pull_uint_var _) rfl <| callw_K0 I.w (kf_332 _) <| spec_pullvar I.w (I.r.le (by decide)) d0 d1 f1 rfl B2 hz fun H3 K3 B3 => sv I rfl ?_
  have R3 := R2.keepB B2 K3
  rw [← List.append_assoc] at f1
  refine px_cons <| px_assign_name <| pv_mcall <| lv I rfl rfl rfl <| gm_inst I.w B3.b B3.d (m_377_pull_uint_var _) rfl <| callw_K0 I.w (kf_332 _) <| spec_pullvar I.w (I.r.le (by decide)) (by exact aL 0x107083001) (by exact aL 0x1118888888888807429cd8b00101 hlen) f1 rfl B3 hz fun H4 K4 B4 => sv I rfl ?_
  have R4 := R3.keepB B3 K4
  rw [← List.append_assoc] at f1
  refine px_cons <| px_assign_name <| pv_mcall <| lv I rfl rfl rfl <| gm_inst I.w B4.b B4.d (m_377_pull_uint_var _) rfl <| callw_K0 I.w (kf_332 _) <| spec_pullvar I.w (I.r.le (by decide)) (by exact aL 0x110181aa083104120 h2) (by exact aL 0x1111888888888880181aa47bcedcd8888140083220 h1 h3) f1 rfl B4 hz fun H5 K5 B5 => sv I rfl ?_
  have R5 := R4.keepB B4 K5
  rw [← List.append_assoc] at f1
  have K15 : Keep [bd] S.H H5 := (K1.weaken (by simp)).trans (K2.trans (K3.trans (K4.trans K5)))
  have e1 : top.2 - 1 - (top.2 - 1 - top.1) = top.1 := by exact aL 0x11111180aa180aa5020
  have e2 : top.2 - 1 + 1 = top.2 := by exact aL 0x1110180ae5010
  refine px_cons <| xe I rfl <| pv_mcall <| lv I rfl rfl rfl <| gm_inst I.w R5.x R5.d (m_146_add _) rfl <| callw_K I.w (kf_80 _) <| args_cons <| pv_bin <| lv I rfl rfl rfl <| lv I rfl rfl rfl <| i_sub <| args_cons <| pv_bin <| lv I rfl rfl rfl <| pv_int <| i_add <| args_nil ?_
  rw [e1, e2]
  refine spec_add I.w I.r R5 (by simp) h2 (.inl rfl) (by simp) fun H6 K6 R6 => ?_
  have B6 := B5.keepL R5 K6
  have K16 : Keep [bd] S.H H6 := K15.over nl K6
  clear K1 K2 K3 K4 K5 K6 K15 B1 B2 B3 B4 B5 R1 R2 R3 R4 R5 B
  refine px_cons <| px_aug_name <| lvn I rfl rfl <| lv I rfl rfl rfl <| i_isub ?_
  rw [e1]
  refine sv I rfl ?_
  refine px_cons <| px_for I.hA (pv_call <| bv I rfl (n_range _) b_range rfl rfl <| callw_ty <| args_cons <| lv I rfl rfl rfl <| args_nil <| call_range1 fun ra hra => ⟨downs.length, _, fun k S₂ => ∃ st done tl b', PJ S₂ S.H b bd o x d l bs top downs delay k st done tl b', _, steps_range I.hA (upd_self _ _ _) ?small ?size, ?init, fun k S₂ bb hk ⟨st, done, tl, b', P⟩ hW => ?turn, fun S₂ ⟨st, done, tl, b', P⟩ => ?fin⟩) I.w
  case small => exact rng_small (by decide) (by decide) (by exact aL 0x1073debaeac8888b3001) (by exact aL 0x113debaeac888807329cd8b00101 hlen) (.inl rfl)
  case size => rw [rng_size (by exact aL 0x107083001)]; rfl
  case init =>
    refine ⟨top.1, _, [], top.2, rfl, rfl, rfl, rfl, K16.step (.inr ?_), ?_, ?_, f1, hd, rfl, h1, by exact aL 0x1117bcedcd8888047bcedcd888814104220 h2 h3, ⟨h2, by simp, trivial⟩⟩
    · cases z : S.H ra with
      | none => rfl
      | some o' =>
        by_cases e : ra = bd
        · subst e; exact absurd B6.d (by rw [show H6 ra = none from hra]; simp)
        · have := K16 ra o' (nm_cons e nm_nil) z
          rw [show H6 ra = none from hra] at this; cases this
    · exact B6.new hra
    · exact R6.keep (Keep.refl.step (.inr hra))
  case turn =>
    obtain ⟨m1, m2, m3, m4, K, B, R, e, D, t, s0, s1, cn⟩ := P
    obtain ⟨m, H, _⟩ := S₂
    dsimp only at m1 m2 m3 m4 K B R
    have J := I.on (b := bb)
    have hk' : k < downs.length := hk
    obtain ⟨r, hr1⟩ : ∃ r, downs[k]? = some r := ⟨downs[k], List.getElem?_eq_getElem hk'⟩
    rw [drop_cons hr1] at e D
    obtain ⟨D0, D1, D2, D3⟩ := desc_cons D
    rw [gapsF, encL_cons, encL_cons] at e
    refine sv J rfl ?_
    refine px_cons <| px_aug_name <| lvn J rfl (by exact m3) <| pv_bin <| pv_mcall <| lv J rfl (by exact m1) rfl <| gm_inst J.w B.b B.d (m_377_pull_uint_var _) rfl <| callw_K0 J.w (kf_332 _) <| spec_pullvar J.w (J.r.le (by decide)) (by exact aL 0x111801aa083104120 D2) (by exact aL 0x11111888888888881820aa421410837bcedcd888804330 s1 D0 D1) e rfl B hz fun H2 K2 B2 => pv_int <| i_add <| i_isub ?_
    have R2 := R.keepB B K2
    rw [← List.append_assoc] at e
    have e3 : st - (st - r.2 - 1 + 2) = r.2 - 1 := by exact aL 0x111181a281810aa90a5020
    rw [e3]
    refine sv J rfl ?_
    refine px_cons <| px_assign_name <| pv_mcall <| lv J rfl (by exact m1) rfl <| gm_inst J.w B2.b B2.d (m_377_pull_uint_var _) rfl <| callw_K0 J.w (kf_332 _) <| spec_pullvar J.w (J.r.le (by decide)) (by exact aL 0x111801aa083104120 D1) (by exact aL 0x11111888888888881812aa402410837bcedcd888804330 s1 D0 D2) e rfl B2 hz fun H3 K3 B3 => sv J rfl ?_
    have R3 := R2.keepB B2 K3
    rw [← List.append_assoc] at e
    have e4 : r.2 - 1 - (r.2 - r.1 - 1) = r.1 := by exact aL 0x11111810aa180aa5020
    have e5 : r.2 - 1 + 1 = r.2 := by exact aL 0x1110180ae5010
    refine px_cons <| xe J rfl <| pv_mcall <| lv J rfl (by exact m2) rfl <| gm_inst J.w R3.x R3.d (m_146_add _) rfl <| callw_K J.w (kf_80 _) <| args_cons <| pv_bin <| lv J rfl rfl rfl <| lv J rfl rfl rfl <| i_sub <| args_cons <| pv_bin <| lv J rfl rfl rfl <| pv_int <| i_add <| args_nil ?_
    rw [e4, e5]
    refine spec_add J.w J.r R3 (by simp; exact aL 0x11102bc9fb10010210629cd8b00203 hlen (aN _ _)) D1 (.inl rfl) (fun q hq => Int.le_of_lt (cn.low q hq)) fun H4 K4 R4 => ?_
    have B4 := B3.keepL R3 K4
    have e6 : addR r.1 r.2 ((top :: downs.take k).reverse) = (top :: downs.take (k + 1)).reverse := by
      rw [t, addR, if_pos D2, ← t, List.take_add_one, hr1]
      simp
    rw [e6] at R4
    refine px_cons <| px_aug_name <| lvn J rfl rfl <| lv J rfl rfl rfl <| i_isub ?_
    rw [e4]
    refine sv J rfl <| px_nil ⟨r.1, _, (st, b') :: tl, r.2, m1, m2, rfl, m4, (K.trans (K2.trans K3)).over nl K4, B4, R4, e, D3, ?_, D0, by exact aL 0x11117bcedcd8888140242147bcedcd888804330 s1 D1 D2, ?_⟩
    · rw [← e6, t, addR, if_pos D2]
    · rw [← e6]; exact (addR_ok cn D1).1
  case fin =>
    obtain ⟨m1, m2, m3, m4, K, B, R, e, D, t, s0, s1, cn⟩ := P
    obtain ⟨m, H, _⟩ := S₂
    dsimp only at m1 m2 m3 m4 K B R
    refine px_cons <| px_if <| pt_cmp <| lv I rfl (by exact m3) rfl <| pv_int <| i_lt <| t_bool <| dec_2 (fun q => absurd q (by exact aL 0x11080490083110 s0)) fun q => px_nil <| px_cons <| px_return <| pv_tuple <| args_cons <| lv I rfl (by exact m2) rfl <| args_cons <| lv I rfl (by exact m4) rfl <| args_nil <| nt (sl_le (Nat.le_of_ble_eq_true rfl)) fun t ht => ?_
    rw [List.take_length] at R
    refine h t x d l _ (fun a o' n g => (upd_ne (nf ht (K a o' n g))).trans (K a o' n g)) (upd_self _ _ _) (R.keep (Keep.refl.step (.inr ht)))
end
end
end Mine
end
section
open PySem PySem.W PyProof.Rows PySem.Calls
set_option maxRecDepth 100000
set_option maxHeartbeats 4000000
namespace Mine
noncomputable section
section
variable {c : Cx} {S : St} {k : Nat}
structure PB (H : HM) (b bd : Addr) (l : List Int) (cap : Nat) (M : Int) : Prop where
  B : ∃ o rest, Buf H b bd o (encL l).length (encL l ++ rest) ∧ (encL l).length + rest.length = cap
  s : ∀ v ∈ l, 0 ≤ v ∧ v ≤ M
theorem encL_le {fs : Nat} : ∀ {l : List Int}, (∀ v ∈ l, encK v ≤ fs) → (encL l).length ≤ fs * l.length
  | [], _ => by simp [encL]
  | a :: l, h => by
    have i := encL_le (l := l) fun v hv => h v (.tail _ hv)
    have j := h a (.head _)
    rw [encL_cons, List.length_append, encV_len, List.length_cons, Nat.mul_succ]
    exact aL 0x11131c02c0320100204 i j
theorem PB.buf {H : HM} {b bd : Addr} {l : List Int} {cap : Nat} {M : Int} (F : PB H b bd l cap M) : H b = some (.inst 377 bd) ∧ ∃ o p, H bd = some (bufD o p) := let ⟨⟨o, _, B, _⟩, _⟩ := F; ⟨B.b, o, _, B.d⟩
theorem spec_pushPB {b bd : Addr} {l : List Int} {cap fs : Nat} {M v : Int} {Q : TV → St → Prop} (hw : Well c) (hr : Room c.A 3) (F : PB S.H b bd l cap M) (hfs : ∀ v, 0 ≤ v → v ≤ M → encK v ≤ fs) (hroom : fs * (l.length + 1) ≤ cap) (h0 : 0 ≤ v) (h1 : v ≤ M) (hM : M < 1073741824) (hc : cap ≤ 100000)
    (h : ∀ H', Keep [bd] S.H H' → PB H' b bd (l ++ [v]) cap M → Q .none { S with H := H' }) : CALL c (.ref 374) [.ref b, .int v] [] Q S := by
  obtain ⟨⟨o, rest, B, hl⟩, hs⟩ := F
  have q1 := encL_le fun v hv => hfs v (hs v hv).1 (hs v hv).2
  have q2 := hfs v h0 h1
  rw [Nat.mul_succ] at hroom
  refine spec_pushvar hw (hr.le (by decide)) h0 (by exact aL 0x1111888888888880418888888888814103220 h1 hM) rfl rfl (by rw [encV_len]; exact aL 0x111011450150030243c2210c0406 hroom hl q1 q2) B (by rw [List.length_append]; exact aL 0x110138bac8b21c0021c238bac8b00203 hc hl) fun H' o' kp B' => h H' kp ⟨⟨o', rest.drop (encV v).length, ?_, ?_⟩, fun w hw' => ?_⟩
  · rw [encL_app]
    have e : encL [v] = encV v := by simp [encL]
    rw [e]; exact B'
  · rw [encL_app]
    have e : encL [v] = encV v := by simp [encL]
    rw [e, List.length_append, List.length_drop, encV_len]; exact aL 0x10010011011000010010110101000015026cc2210b420360516c2543c0210c607 (aS _ _) hroom hl q1 q2 (aS _ _)
  · rcases List.mem_append.mp hw' with hw' | hw'
    · exact hs w hw'
    · rw [List.mem_singleton.mp hw']; exact ⟨h0, h1⟩
theorem RSet.keepP {H H' : HM} {x d l b bd : Addr} {rs : List (Int × Int)} {fl : List Int} {cap : Nat} {M : Int} (R : RSet H x d l rs) (F : PB H b bd fl cap M) (k : Keep [bd] H H') : RSet H' x d l rs := let ⟨⟨o, rest, B, _⟩, _⟩ := F; R.keepB B k
noncomputable def lastS (s : Int) (ds : List (Int × Int)) : Int := ds.getLast?.elim s (·.1)
theorem gaps_snoc : ∀ {ds : List (Int × Int)} {s : Int} {r : Int × Int}, gapsF s (ds ++ [r]) = gapsF s ds ++ [lastS s ds - r.2 - 1, r.2 - r.1 - 1]
  | [], s, r => rfl
  | q :: ds, s, r => by
    have e : lastS s (q :: ds) = lastS q.1 ds := by
      unfold lastS
      cases ds with
      | nil => rfl
      | cons a t => simp [List.getLast?_cons_cons, List.getLast?_eq_some_getLast]
    rw [List.cons_append, gapsF, gaps_snoc, gapsF, e]; rfl
theorem lastS_snoc {s : Int} {ds : List (Int × Int)} {r : Int × Int} : lastS s (ds ++ [r]) = r.1 := by simp [lastS]
structure QJ (S : St) (H₀ : HM) (b bd x : Addr) (rs : List (Int × Int)) (top : Int × Int) (ds : List (Int × Int)) (cap n j : Nat) (M : Int) : Prop where
  m1 : S.m.lookup (Str.ofString "buf") = some (.ref b)
  m2 : S.m.lookup (Str.ofString "rangeset") = some (.ref x)
  m3 : S.m.lookup (Str.ofString "ranges") = some (.int n)
  m4 : S.m.lookup (Str.ofString "index") = some (.int ((rs.length : Int) - 1 - j))
  m5 : S.m.lookup (Str.ofString "oldest") = some (.int ((rs.length : Int) - n))
  m6 : S.m.lookup (Str.ofString "start") = some (.int (lastS top.1 (ds.take j)))
  K : Keep [bd] H₀ S.H
  F : PB S.H b bd (headF top cap ((n : Int) - 1) ++ gapsF top.1 (ds.take j)) cap M
  j : j ≤ n - 1
theorem gaps_len : ∀ (ds : List (Int × Int)) (s : Int), (gapsF s ds).length = 2 * ds.length
  | [], _ => rfl
  | r :: ds, s => by rw [gapsF, List.length_cons, List.length_cons, gaps_len, List.length_cons]; exact aL 0x1110f2d02dff2001
theorem canon_count : ∀ {init : List (Int × Int)} {top : Int × Int} {lo : Int}, Canon (init ++ [top]) → (∀ q ∈ init ++ [top], lo ≤ q.1) → lo + init.length + 1 ≤ top.2
  | [], top, lo, h, hl => by
    have := h.1
    have := hl top (by simp)
    simp; exact aL 0x11112e3023104230 (by assumption) this
  | q :: init, top, lo, h, hl => by
    have h1 := h.1
    have h2 := hl q (by simp)
    have := canon_count (lo := lo + 1) h.2.2 fun x hx => by
      have := h.2.1 x hx
      exact aL 0x111132e3314023104340 h1 h2 this
    rw [List.length_cons]; exact aL 0x1110f709e31070e9e3121 this
theorem spec_pushframe {b bd o x d l : Addr} {rs : List (Int × Int)} {cap : Nat} {Q : TV → St → Prop} (hw : Well c) (hr : Room c.A 4) (B : Buf S.H b bd o 0 (List.replicate cap 0)) (R : RSet S.H x d l rs) (cn : Canon rs) (hne : rs ≠ [])
    (h0 : ∀ q ∈ rs, 0 ≤ q.1) (hmax : ∀ q ∈ rs, q.2 < 1000000000) (hlen : rs.length ≤ 5000) (hc1 : 32 ≤ cap) (hc2 : cap ≤ 100000)
    (h : ∀ H' top downs n, Keep [bd] S.H H' → 1 ≤ n → n ≤ rs.length → (top :: downs).reverse = rs.drop (rs.length - n) → (16 * (rs.length + 1) ≤ cap → n = rs.length) → (∃ M, PB H' b bd (frameF top downs cap) cap M) → Q (.int n) { S with H := H' }) :
    CALL c (.ref 409) [.ref b, .ref x, .int cap, .int cap] [] Q S := by
  obtain ⟨init, top, rfl⟩ : ∃ init top, rs = init ++ [top] := by
    rcases List.eq_nil_or_concat rs with e | ⟨i, t, e⟩
    · exact absurd e hne
    · exact ⟨i, t, by rw [e, List.concat_eq_append]⟩
  obtain ⟨c1, ⟨c2, _⟩, c3⟩ := canon_app.mp cn
  have hL : (init ++ [top]).length = init.length + 1 := by simp
  have t0 := h0 top (by simp)
  have tmax := hmax top (by simp)
  have tcnt := canon_count cn h0
  obtain ⟨as, la, ra⟩ := R.l
  have hal := ra.len
  obtain ⟨at', ha1, rr⟩ := ra.get init.length (app_at rfl)
  obtain ⟨rd, g1, g2⟩ := rr
  refine call_p (k := 3) ["buf", "rangeset", "delay", "capacity"] hw hr rfl rfl rfl (w4 fun _ _ _ _ => rfl) rfl rfl rfl rfl rfl fun c' I => ?_
  refine px_cons <| px_assign_name <| pv_call <| bv I rfl (n_len _) b_len rfl rfl <| callw_bt <| args_cons <| lv I rfl rfl rfl <| args_nil <| inst_len I.w R.x R.d (sp_len _) <| spec_len (I.w.at _) (Room.le I.r.in1 (by decide)) R.x R.d la (by simp; exact aL 0x110138bac8b1001219e98b00202 hlen hal) ⟨_, rfl, by exact aL 0x107083001, by simp; exact aL 0x11011888888888888888888888817401219e98b00202 hlen hal, ?_⟩
  rw [List.length_map, hal]
  refine sv I rfl <| px_cons <| px_assign_name <| pv_bin <| lv I rfl rfl rfl <| pv_int <| i_sub <| sv I rfl ?_
  have hi : ((as.map TV.ref))[(((init ++ [top]).length : Int) - 1).toNat]? = some (.ref at') := by
    rw [show (((init ++ [top]).length : Int) - 1).toNat = init.length by exact aL 0x10000011010011110101122081807a30b2261807a2757271807a31f02303 hL (Int.self_le_toNat _) (aT _), List.getElem?_map, ha1]; rfl
  refine px_cons <| px_assign_name <| pv_sub <| lv I rfl rfl rfl <| lv I rfl rfl rfl <| inst_sub I.w R.x R.d (sp_get _) (fn_get _) (spec_getitem (I.w.at _) (Room.le I.r.in1 (by decide)) R.x R.d la (by exact aL 0x1101807a0831f02102 hL) hi (by simp; exact aL 0x110138bac8b1001219e98b00202 hlen hal) (sv I rfl ?_))
  obtain ⟨tkm, gm⟩ := g_UINT_VAR_MAX_SIZE c'.w
  have hM : max (top.2 - 1) (cap : Int) < 1073741824 := by exact aL 0x110110111188888888888140713180a1377bcedcd88880438bac8b00321 hc2 tmax (bV _ _)
  refine px_seq (fun S' => ∃ n fs : Nat, S'.H = S.H ∧ (S'.m.lookup (Str.ofString "buf") = some (.ref b) ∧ S'.m.lookup (Str.ofString "rangeset") = some (.ref x) ∧ S'.m.lookup (Str.ofString "delay") = some (.int cap) ∧ S'.m.lookup (Str.ofString "index") = some (.int (((init ++ [top]).length : Int) - 1)) ∧
      S'.m.lookup (Str.ofString "r") = some (.ref at') ∧ S'.m.lookup (Str.ofString "ranges") = some (.int n)) ∧ 1 ≤ n ∧ n ≤ (init ++ [top]).length ∧ (16 * ((init ++ [top]).length + 1) ≤ cap → n = (init ++ [top]).length) ∧ fs * (2 * (n + 1)) ≤ cap ∧ ∀ v, 0 ≤ v → v ≤ max (top.2 - 1) (cap : Int) → encK v ≤ fs) ?_
    fun S' H0 => ?_
  · refine px_if <| pt_cmp <| pv_bin <| pv_bin <| pv_int <| pv_bin <| lv I rfl rfl rfl <| pv_int <| i_add <| i_mul (.of_left (by decide)) <| gv I rfl gm rfl <| i_mul (.of_right (by decide)) <| lv I rfl rfl rfl <| i_gt <| t_bool <| dec_2 (fun q => ?_) fun q => ?_
    · refine px_cons <| px_assign_name <| pv_call <| gv I rfl (g_size_uint_var _) rfl <| callw_K I.w (kf_388 _) <| args_cons (pv_call <| bv I rfl (n_max _) b_max rfl rfl <| callw_bt <| args_cons <| pv_bin <| pv_attr <| lv I rfl rfl rfl <| ga I g1 g2 (a_52_stop _) rfl (by simp) <| pv_int <| i_sub <| args_cons <| lv I rfl rfl rfl <| args_nil <| max2 I.hA <| args_nil <| spec_size I.w (I.r.le (by decide)) (by exact aL 0x113ffffffffffffffffffff80318888888888804110 hM) ?_)
      obtain ⟨k1, k2⟩ := encK_le (max (top.2 - 1) (cap : Int))
      have hk : encK (max (top.2 - 1) (cap : Int)) = 1 ∨ encK (max (top.2 - 1) (cap : Int)) = 2 ∨ encK (max (top.2 - 1) (cap : Int)) = 4 := by unfold encK; split; simp; split <;> simp
      have hmono : ∀ v, 0 ≤ v → v ≤ max (top.2 - 1) (cap : Int) → encK v ≤ encK (max (top.2 - 1) (cap : Int)) := fun v _ hv => encK_mono hv
      rw [sizeV_encK hM]
      generalize encK (max (top.2 - 1) (cap : Int)) = fs at *
      have hp : Builtin.divisionGoesByPylong (cap : Int) (2 * (fs : Int)) = false := by rcases hk with e | e | e <;> (subst e; rfl)
      refine sv I rfl <| px_cons <| px_assign_name <| pv_call <| bv I rfl (n_min _) b_min rfl rfl <| callw_bt <| args_cons <| lv I rfl rfl rfl <| args_cons (pv_bin <| pv_bin <| lv I rfl rfl rfl <| pv_bin <| pv_int <| lv I rfl rfl rfl <| i_mul (.of_left (by decide)) <| i_div (by exact aL 0x1208072c5901b0101 k2) hp <| pv_int <| i_sub <| args_nil <| min2 I.hA <| sv I rfl ?_)
      refine px_nil ⟨rfl, min (init ++ [top]).length (cap / (2 * fs) - 1), fs, rfl, ⟨rfl, rfl, rfl, rfl, rfl, ?_⟩, ?_, by exact aL 0x1011002001006103 (aN _ _), by exact aL 0x11011112201f28d081817e2cd074103 q, ?_, hmono⟩
      · have e : (cap : Int).fdiv (2 * (fs : Int)) = ((cap / (2 * fs) : Nat) : Int) := by
          rw [Int.fdiv_eq_ediv_of_nonneg _ (by exact aL 0x1072c083001)]; rfl
        have h1 : 1 ≤ cap / (2 * fs) := by rcases hk with e | e | e <;> (subst e; (first | exact aL 0x211011b012df00012d06048b0202 hc1 (aD 2 _ oY) | exact aL 0x411011b03b14dc00014d06048b0202 hc1 (aD 4 _ oY) | exact aL 0x1811011b07b118dc000118d06048b0202 hc1 (aD 8 _ oY)))
        have e2 : min (((init ++ [top]).length : Nat) : Int) ((cap : Int).fdiv (2 * (fs : Int)) - 1) = ((min (init ++ [top]).length (cap / (2 * fs) - 1) : Nat) : Int) := by rw [e]; exact aL 0x101000010010100000111001000001111010000100101000001110010000011111100101010100010110011000011011270523021071b03b01807a30173732012061807a031703601b0614 h1 (bN _ _) (aN _ _) (bO _ _) (aS _ _) (aO _ _)
        exact congrArg (fun z => some (TV.int z)) e2
      · rcases hk with e | e | e <;> (subst e; (first | exact aL 0x202100102100010001151b0500530712df20212d064f32248b01b10c506 (aS _ _) hc1 hL (aD 2 _ oY) (aO _ _) | exact aL 0x404100104100010001151b050053073b14dc20214d064f32248b01b10c506 (aS _ _) hc1 hL (aD 4 _ oY) (aO _ _) | exact aL 0x180181001018100010001151b050053077b118dc202118d064f32248b01b10c506 (aS _ _) hc1 hL (aD 8 _ oY) (aO _ _)))
      · have h1 : min (init ++ [top]).length (cap / (2 * fs) - 1) + 1 ≤ cap / (2 * fs) := by rcases hk with e | e | e <;> (subst e; (first | exact aL 0x110002010001010112f01b14b420320612df00012d06048b0405 hc1 (aD 2 _ oY) (aN _ _) (aS _ _) | exact aL 0x110004010001010112f01b14b42032063b14dc00014d06048b0405 hc1 (aD 4 _ oY) (aN _ _) (aS _ _) | exact aL 0x1100018010001010112f01b14b42032067b118dc000118d06048b0405 hc1 (aD 8 _ oY) (aN _ _) (aS _ _)))
        have h2 : cap / (2 * fs) * (2 * fs) ≤ cap := Nat.div_mul_le_self _ _
        have h3 := Nat.mul_le_mul_right (2 * fs) h1
        have h4 : fs * (2 * (min (init ++ [top]).length (cap / (2 * fs) - 1) + 1)) = (min (init ++ [top]).length (cap / (2 * fs) - 1) + 1) * (2 * fs) := by rw [Nat.mul_left_comm, ← Nat.mul_assoc, Nat.mul_comm]
        exact aL 0x11101130232020100304 h2 h3 h4
    · exact px_nil ⟨rfl, (init ++ [top]).length, 8, rfl, ⟨rfl, rfl, rfl, rfl, rfl, rfl⟩, by exact aL 0x11001b01f02102 hL, Nat.le_refl _, fun _ => rfl, by exact aL 0x1101f2d18d01817e2cd0749102 q, fun v _ _ => by have := (encK_le v).1; exact aL 0x1118b004b00101 this⟩
  obtain ⟨n, fs, eH, ⟨m1, m2, m3, m4, m5, m6⟩, n1, n2, n3, n4, n5⟩ := H0
  obtain ⟨m, H, _⟩ := S'
  dsimp only at eH m1 m2 m3 m4 m5 m6
  subst eH
  have n6 : ∀ k, k ≤ 2 * (n + 1) → fs * k ≤ cap := fun k hk => Nat.le_trans (Nat.mul_le_mul_left fs hk) n4
  have F0 : PB S.H b bd [] cap (max (top.2 - 1) (cap : Int)) := ⟨⟨o, _, B, by simp [encL]⟩, by simp⟩
  have hM1 : top.2 - 1 ≤ max (top.2 - 1) (cap : Int) := by exact aL 0x1011180a310731180a36121 (bX _ _)
  have hM2 : (cap : Int) ≤ max (top.2 - 1) (cap : Int) := by exact aL 0x110107310731180a36121 (bX _ _)
  generalize max (top.2 - 1) (cap : Int) = M at *
  have e1 : ((init ++ [top]).length : Int) - 1 - n + 1 = ((init ++ [top]).length : Int) - n := by exact aL 0x1111707a171807aae5002
  refine px_cons <| px_assign_name <| pv_bin <| pv_bin <| lv I rfl (by exact m4) rfl <| lv I rfl (by exact m6) rfl <| i_sub <| pv_int <| i_add ?_
  rw [e1]
  refine sv I rfl ?_
  refine px_cons <| xe I rfl <| pv_mcall <| lv I rfl (by exact m1) rfl <| gm_inst I.w F0.buf.1 F0.buf.2.choose_spec.choose_spec (m_377_push_uint_var _) rfl <| callw_K I.w (kf_374 _) <| args_cons <| pv_bin <| pv_attr <| lv I rfl (by exact m5) rfl <| ga I g1 g2 (a_52_stop _) rfl (by simp) <| pv_int <| i_sub <| args_nil <| spec_pushPB I.w I.r F0 n5 (n6 _ (by simp; exact aL 0x10f2d1b0001)) (by exact aL 0x111181a0830083104220 c2 t0) hM1 hM hc2 fun H1 K1 F1 => ?_
  have R1 := R.keepP F0 K1
  have nb := nk F0.buf.2.choose_spec.choose_spec g1 (by simp)
  have nb2 := nk F0.buf.2.choose_spec.choose_spec g2 (by simp)
  have g11 := K1 _ _ (nm_cons nb nm_nil) g1
  have g12 := K1 _ _ (nm_cons nb2 nm_nil) g2
  refine px_cons <| xe I rfl <| pv_mcall <| lv I rfl (by exact m1) rfl <| gm_inst I.w F1.buf.1 F1.buf.2.choose_spec.choose_spec (m_377_push_uint_var _) rfl <| callw_K I.w (kf_374 _) <| args_cons <| lv I rfl (by exact m3) rfl <| args_nil <| spec_pushPB I.w I.r F1 n5 (n6 _ (by simp; exact aL 0x10f2d2b0001)) (by exact aL 0x107083001) hM2 hM hc2 fun H2 K2 F2 => ?_
  have R2 := R1.keepP F1 K2
  have g21 := K2 _ _ (nm_cons nb nm_nil) g11
  have g22 := K2 _ _ (nm_cons nb2 nm_nil) g12
  refine px_cons <| xe I rfl <| pv_mcall <| lv I rfl (by exact m1) rfl <| gm_inst I.w F2.buf.1 F2.buf.2.choose_spec.choose_spec (m_377_push_uint_var _) rfl <| callw_K I.w (kf_374 _) <| args_cons <| pv_bin <| lv I rfl (by exact m6) rfl <| pv_int <| i_sub <| args_nil <| spec_pushPB I.w I.r F2 n5 (n6 _ (by simp; exact aL 0x120f2d3b001b0101 n1)) (by exact aL 0x111807a08301b0101 n1) (by exact aL 0x10111111827a31180a3020017089e31f02423 hL tcnt n2 hM1) hM hc2 fun H3 K3 F3 => ?_
  have R3 := R2.keepP F2 K3
  have g31 := K3 _ _ (nm_cons nb nm_nil) g21
  have g32 := K3 _ _ (nm_cons nb2 nm_nil) g22
  refine px_cons <| xe I rfl <| pv_mcall <| lv I rfl (by exact m1) rfl <| gm_inst I.w F3.buf.1 F3.buf.2.choose_spec.choose_spec (m_377_push_uint_var _) rfl <| callw_K I.w (kf_374 _) <| args_cons <| pv_bin <| pv_bin <| pv_attr <| lv I rfl (by exact m5) rfl <| ga I g31 g32 (a_52_stop _) rfl (by simp) <| pv_int <| i_sub <| pv_attr <| lv I rfl (by exact m5) rfl <| ga I g31 g32 (a_52_start _) rfl (by simp) <| i_sub <| args_nil <| spec_pushPB I.w I.r F3 n5 (n6 _ (by simp; exact aL 0x120f2d4b001b0101 n1)) (by exact aL 0x110181aa083104120 c2) (by exact aL 0x11120181aa32181a30083230 t0 hM1) hM hc2 fun H4 K4 F4 => ?_
  have R4 := R3.keepP F3 K4
  have g41 := K4 _ _ (nm_cons nb nm_nil) g31
  have g42 := K4 _ _ (nm_cons nb2 nm_nil) g32
  have K14 := K1.trans (K2.trans (K3.trans K4))
  have F4' : PB H4 b bd (headF top cap ((n : Int) - 1)) cap M := F4
  refine px_cons <| px_assign_name <| pv_attr <| lv I rfl (by exact m5) rfl <| ga I g41 g42 (a_52_start _) rfl (by simp) <| sv I rfl ?_
  refine px_cons <| px_while (fun k S' => ∃ j, k + j = n - 1 ∧ QJ S' S.H b bd x (init ++ [top]) top init.reverse cap n j M) (n - 1) ⟨0, rfl, m1, m2, m6, ?_, rfl, rfl, K14, by simpa [gapsF] using F4', Nat.zero_le _⟩ fun k S' ⟨j, hkj, J⟩ => ?_
  · exact Eq.trans m4 (by simp)
  obtain ⟨j1, j2, j3, j4, j5, j6, JK, JF, jj⟩ := J
  obtain ⟨m', H', _⟩ := S'
  dsimp only at j1 j2 j3 j4 j5 j6 JK JF
  have RR := R.keepP F0 JK
  refine pt_cmp <| lv I rfl (by exact j4) rfl <| lv I rfl (by exact j5) rfl <| i_gt <| t_bool <| dec_2 (fun q => ?_) fun q => ?_
  · have hj : j < init.length := by exact aL 0x10111131371807aa2707a40201f02304 hL n2 q
    obtain ⟨r, hr1⟩ : ∃ r, init.reverse[j]? = some r := ⟨init.reverse[j]'(by simpa using hj), List.getElem?_eq_getElem _⟩
    have hri : (init ++ [top])[init.length - 1 - j]? = some r := by
      rw [List.getElem?_append_left (by exact aL 0x11010111001013011b31b321210c304 (aS _ _) hj (aS _ _)), ← hr1, List.getElem?_reverse hj]
    obtain ⟨as', la', ra'⟩ := RR.l
    obtain ⟨aj, hj1, rj⟩ := ra'.get _ hri
    obtain ⟨rdj, gj1, gj2⟩ := rj
    have hal' := ra'.len
    have hrm : r ∈ init := List.mem_reverse.mp (List.mem_of_getElem? hr1)
    have r0 := h0 r (List.mem_append_left _ hrm)
    have rl := c1.low r hrm
    have rt : r.2 < top.1 := c3 r hrm top (by simp)
    have e2 : init.reverse.take (j + 1) = init.reverse.take j ++ [r] := by rw [List.take_add_one, hr1]; rfl
    have ls : r.2 < lastS top.1 (init.reverse.take j) ∧ lastS top.1 (init.reverse.take j) ≤ top.1 := by
      have dsc := desc_of (r := top) (ds := init.reverse) (by simpa using cn) fun q hq => h0 q (by simp at hq; simp [hq])
      have key : ∀ (ds : List (Int × Int)) (s : Int) (j : Nat) (r : Int × Int), Desc s ds → ds[j]? = some r → r.2 < lastS s (ds.take j) ∧ lastS s (ds.take j) ≤ s := by
        intro ds
        induction ds with
        | nil => intro s j r _ hr; simp at hr
        | cons q ds ih =>
          intro s j r hD hr
          obtain ⟨D0, D1, D2, D3⟩ := desc_cons hD
          cases j with
          | zero => simp at hr; subst hr; exact ⟨D2, Int.le_refl _⟩
          | succ j =>
            have i := ih q.1 j r D3 (by simpa using hr)
            have e : lastS s ((q :: ds).take (j + 1)) = lastS q.1 (ds.take j) := by
              rw [List.take_succ_cons]
              unfold lastS
              cases ds.take j with
              | nil => rfl
              | cons a t => simp [List.getLast?_cons_cons, List.getLast?_eq_some_getLast]
            rw [e]; exact aL 0x111011001012434346043434214104450 D1 D2 i.1 i.2
      exact key _ _ _ _ dsc hr1
    have e3 : ((init ++ [top]).length : Int) - 1 - j - 1 = ((init ++ [top]).length : Int) - 1 - (j + 1 : Nat) := by exact aL 0x1111f71807aa18171807aaa5002
    refine px_cons <| px_aug_name <| lvn I rfl (by exact j4) <| pv_int <| i_isub ?_
    rw [e3]
    refine sv I rfl ?_
    have hi' : ((as'.map TV.ref))[(((init ++ [top]).length : Int) - 1 - (j + 1 : Nat)).toNat]? = some (.ref aj) := by
      rw [show (((init ++ [top]).length : Int) - 1 - (j + 1 : Nat)).toNat = init.length - 1 - j by exact aL 0x10000000010101010101011001000000010100000000000011000010100101011100100000010100000000000110000101010101111252302b1b10b083f71847aa30b5263f71847aa57571f42302c1b10c606 (aS _ _) (aS _ _) hL (aT _) (aS _ _) (aS _ _), List.getElem?_map, hj1]; rfl
    refine px_cons <| px_assign_name <| pv_sub <| lv I rfl (by exact j2) rfl <| lv I rfl rfl rfl <| inst_sub I.w RR.x RR.d (sp_get _) (fn_get _) (spec_getitem (I.w.at _) (Room.le I.r.in1 (by decide)) RR.x RR.d la' (by exact aL 0x11012f71807aa0831211f02203 hL hj) hi' (by simp; exact aL 0x110138bac8b1001219e98b00202 hlen hal') (sv I rfl ?_))
    have hb1 := JF.buf.2.choose_spec.choose_spec
    have hgl : (headF top cap ((n : Int) - 1) ++ gapsF top.1 (init.reverse.take j)).length = 4 + 2 * j := by
      rw [List.length_append, gaps_len, List.length_take, List.length_reverse]; simp [headF]; exact aL 0x1002001011100021102d22d221020071200206101303 hj (aN _ _) (aO _ _)
    refine px_cons <| xe I rfl <| pv_mcall <| lv I rfl (by exact j1) rfl <| gm_inst I.w JF.buf.1 hb1 (m_377_push_uint_var _) rfl <| callw_K I.w (kf_374 _) <| args_cons <| pv_bin <| pv_bin <| lv I rfl (by exact j6) rfl <| pv_attr <| lv I rfl rfl rfl <| ga I gj1 gj2 (a_52_stop _) rfl (by simp) <| i_sub <| pv_int <| i_sub <| args_nil <| spec_pushPB I.w I.r JF n5 (n6 _ (by exact aL 0x12011f2d3f022d4bc32271807aa1707a4204 q hgl)) (by exact aL 0x111801aa083104120 ls.1) (by exact aL 0x11111121845aa305343430832181a3104560 c2 hM1 r0 rl ls.2) hM hc2 fun H1' K1' F1' => ?_
    have gj11 := K1' _ _ (nm_cons (nk hb1 gj1 (by simp)) nm_nil) gj1
    have gj12 := K1' _ _ (nm_cons (nk hb1 gj2 (by simp)) nm_nil) gj2
    refine px_cons <| xe I rfl <| pv_mcall <| lv I rfl (by exact j1) rfl <| gm_inst I.w F1'.buf.1 F1'.buf.2.choose_spec.choose_spec (m_377_push_uint_var _) rfl <| callw_K I.w (kf_374 _) <| args_cons <| pv_bin <| pv_bin <| pv_attr <| lv I rfl rfl rfl <| ga I gj11 gj12 (a_52_stop _) rfl (by simp) <| pv_attr <| lv I rfl rfl rfl <| ga I gj11 gj12 (a_52_start _) rfl (by simp) <| i_sub <| pv_int <| i_sub <| args_nil <| spec_pushPB I.w I.r F1' n5 (n6 _ (by rw [List.length_append, hgl, List.length_singleton]; exact aL 0x121f2d22d4bcff0271807aa1707a4103 q)) (by exact aL 0x111801aa083104120 rl) (by exact aL 0x1111121834aa304430832181a3104450 c2 hM1 r0 rt) hM hc2 fun H2' K2' F2' => ?_
    have gj21 := K2' _ _ (nm_cons (nk F1'.buf.2.choose_spec.choose_spec gj11 (by simp)) nm_nil) gj11
    have gj22 := K2' _ _ (nm_cons (nk F1'.buf.2.choose_spec.choose_spec gj12 (by simp)) nm_nil) gj12
    refine px_cons <| px_assign_name <| pv_attr <| lv I rfl rfl rfl <| ga I gj21 gj22 (a_52_start _) rfl (by simp) <| sv I rfl <| px_nil ⟨k - 1, by exact aL 0x101101011000001012511b25b371847aa1747a4032c21b10c406 (aS _ _) hkj q (aS _ _), j + 1, by exact aL 0x101000010110000010101100011000104f2c21b32b471857aa1757a4043c21b32c1b10c506 (aS _ _) (aS _ _) hkj q (aS _ _), j1, j2, j3, rfl, j5, ?_, JK.trans (K1'.trans K2'), ?_, by exact aL 0x101103f0371827aa1727a41b10c204 (aS _ _) q⟩
    · rw [e2, lastS_snoc]; rfl
    · rw [e2, gaps_snoc, ← List.append_assoc]
      simpa using F2'
  · have ej : j = n - 1 := by exact aL 0x10100100001100110112121b42b171837aa4737a49210c2305 hkj q (aS _ _)
    subst ej
    refine px_cons <| px_return <| lv I rfl (by exact j3) rfl <| h H' top (init.reverse.take (n - 1)) n JK n1 n2 ?_ n3 ⟨M, ?_⟩
    · rw [List.reverse_cons, List.take_reverse, List.reverse_reverse, hL, List.drop_append_of_le_length (by exact aL 0x10011110121002f1b01b0203 n1 (aS _ _))]
      congr 2; exact aL 0x100000010101010100110000001010100110011100000000110010110101100000000110010101101110000000011000101010110000000011000100110111104221f0b314b1b23b21b021f0c505 (aS _ _) n1 (aS _ _) (aS _ _) (aS _ _)
    · unfold frameF
      rw [show (((init.reverse.take (n - 1)).length : Nat) : Int) = (n : Int) - 1 by rw [List.length_take, List.length_reverse]; exact aL 0x1001001010100000110011000000100101010000110000000111111827a37531034071b24b130430602021b01f02605 hL n1 n2 (aN _ _) (aS _ _) (aO _ _)]
      exact JF
end
end
end Mine
end
section
open PySem PySem.W PyProof.Rows PySem.Calls
set_option maxRecDepth 100000
set_option maxHeartbeats 4000000
namespace Mine
noncomputable section
section
variable {c : Cx} {S : St} {k : Nat}
theorem sorted_runs {ns : List Int} {come : List Int} (hp : ns.Perm come) (hs : ns.Pairwise (· < ·)) : Canon (ns.foldl pushRun []) ∧ ∀ x, Mem x (ns.foldl pushRun []) ↔ x ∈ come := by
  obtain ⟨h1, h2⟩ := runs_ok ns [] hs trivial (by simp)
  refine ⟨h1, fun x => ?_⟩
  rw [h2 x, hp.mem_iff]
  simp [mem_nil]
theorem pair_new {H : HM} {t l : Addr} {as : List Addr} {rs : List (Int × Int)} {r : Int × Int} {xs ys : List TV} (ht : H t = none) (hl : H l = some (.list xs)) (ha : All2 (IsPair H) as rs) :
    All2 (IsPair (upd (upd H t (.tup [.int r.1, .int r.2])) l (.list ys))) as rs ∧ IsPair (upd (upd H t (.tup [.int r.1, .int r.2])) l (.list ys)) t r := by
  have nlt : l ≠ t := nf ht hl
  refine ⟨ha.imp fun a q h => (upd_ne (nk hl h (by simp))).trans ((upd_ne (nf ht h)).trans h), (upd_ne (Ne.symm nlt)).trans (upd_self _ _ _)⟩
theorem pushRun_snoc {rs : List (Int × Int)} {a b n : Int} : pushRun (rs ++ [(a, b)]) n = if b = n then rs ++ [(a, n + 1)] else (rs ++ [(a, b)]) ++ [(n, n + 1)] := by simp [pushRun]
theorem map_int {ns : List Int} {k : Nat} {n : Int} (h : ns[k]? = some n) : (ns.map TV.int).getD k .none = .int n := by simp [List.getD, h]
theorem sub_end {value slice : Expr} {l : Addr} {xs ys : List TV} {v : TV} {Q : TV → St → Prop} (hl : S.H l = some (.list xs)) (e : xs = ys ++ [v]) (hz : xs.length ≤ 100000) (h : Q v S)
    (hs' : ∀ t, subscripted slice false (.ref l) (.int (-1) t) = operate [.ref l, .int (-1) t] (getItem (.ref l) (.int (-1) t)) := by intro _; with_unfolding_all rfl) : SUBSCR c value slice (.ref l) (.int (-1)) Q S := by
  subst e
  refine sub_last hl (by simp) (sl_le hz) ?_ hs'
  have : (ys ++ [v]).getD ((ys ++ [v]).length - 1) .none = v := by simp [List.getD]
  rw [this]; exact h
theorem sub_p0 {value slice : Expr} {l : Addr} {x y : TV} {Q : TV → St → Prop} (hl : S.H l = some (.tup [x, y])) (h : Q x S)
    (hs' : ∀ t, subscripted slice false (.ref l) (.int 0 t) = operate [.ref l, .int 0 t] (getItem (.ref l) (.int 0 t)) := by intro _; with_unfolding_all rfl) : SUBSCR c value slice (.ref l) (.int 0) Q S :=
  sub_tup hl (Int.le_refl _) (by simp) (sl_le (Nat.le_of_ble_eq_true rfl)) h hs'
theorem sub_p1 {value slice : Expr} {l : Addr} {x y : TV} {Q : TV → St → Prop} (hl : S.H l = some (.tup [x, y])) (h : Q y S)
    (hs' : ∀ t, subscripted slice false (.ref l) (.int 1 t) = operate [.ref l, .int 1 t] (getItem (.ref l) (.int 1 t)) := by intro _; with_unfolding_all rfl) : SUBSCR c value slice (.ref l) (.int 1) Q S :=
  sub_tup hl (by decide) (by simp) (sl_le (Nat.le_of_ble_eq_true rfl)) h hs'
theorem si_end {l : Addr} {xs ys : List TV} {u v : TV} {Q : St → Prop} {m : List (Str × TV)} {H : HM} (hl : H l = some (.list xs)) (e : xs = ys ++ [u]) (hz : xs.length ≤ 100000) (h : Q ⟨m, upd H l (.list (ys ++ [v])), ()⟩) : SETITEM c (.ref l) (.int (-1)) v Q ⟨m, H, ()⟩ := by
  subst e
  refine si_last hl (sl_le hz) (by simp) ?_
  have : (ys ++ [u]).set ((ys ++ [u]).length - 1) v = ys ++ [v] := by simp
  rw [this]; exact h
theorem all2_snoc {α β : Type} {R : α → β → Prop} {as : List α} {bs : List β} {b : β} (h : All2 R as (bs ++ [b])) : ∃ as' a, as = as' ++ [a] ∧ All2 R as' bs ∧ R a b := by
  rcases List.eq_nil_or_concat as with rfl | ⟨as', a, rfl⟩
  · have := h.len; simp at this
  · rw [List.concat_eq_append] at *
    have hl := h.len
    refine ⟨as', a, rfl, (All2.del (by simpa using hl) h).1, ?_⟩
    obtain ⟨x, h1, h2⟩ := h.get (b := b) bs.length (by simp)
    rw [← (show as'.length = bs.length by simpa using hl)] at h1
    simp at h1
    rw [h1]; exact h2
structure RJ (S : St) (H₀ : HM) (r : Addr) (ns : List Int) (k : Nat) (l : Addr) (as : List Addr) : Prop where
  hm : S.m.lookup (Str.ofString "runs") = some (.ref l)
  K : Keep [] H₀ S.H
  hn : H₀ l = none
  hr : S.H r = some (.list (ns.map .int))
  hl : S.H l = some (.list (as.map TV.ref))
  A : All2 (IsPair S.H) as ((ns.take k).foldl pushRun [])
  ne : l ≠ r
theorem foldl_len : ∀ (ns : List Int) (runs : List (Int × Int)), (ns.foldl pushRun runs).length ≤ runs.length + ns.length
  | [], runs => by simp
  | n :: ns, runs => by
    have i := foldl_len ns (pushRun runs n)
    have j : (pushRun runs n).length ≤ runs.length + 1 := by
      unfold pushRun
      split
      · split
        · simp
        · simp
      · simp
    simp only [List.foldl_cons, List.length_cons]; exact aL 0x1112f3c003f1021c00204 i j
theorem spec_runs {sc : Addr} {come : List Int} {Q : TV → St → Prop} (hw : Well c) (hr : Room c.A 1) (hs : S.H sc = some (.iset come)) (hlen : come.length ≤ 4000)
    (h : ∀ l H' runs, S.H l = none → Keep [] S.H H' → PairsAt H' l runs → Canon runs → (∀ x, Mem x runs ↔ x ∈ come) → Q (.ref l) { S with H := H' }) : CALL c (.ref 416) [.ref sc] [] Q S := by
  refine call_p (k := 0) ["numbers"] hw hr rfl rfl rfl (w1 fun _ => rfl) rfl rfl rfl rfl rfl fun c' I => ?_
  refine px_cons <| px_assign_name <| pv_list <| args_nil <| nl (Nat.zero_le _) fun l hl => sv I rfl ?_
  have hs1 := (upd_ne (o := .list []) (nf hl hs)).trans hs
  refine px_cons <| px_for I.hA (pv_call <| bv I rfl (n_sorted _) b_sorted rfl rfl <| callw_bt <| args_cons <| lv I rfl rfl rfl <| args_nil <| call_sorted I.hA hs1 fun r ns hrn hp hpw => ⟨(ns.map TV.int).length, _, fun k S₂ => k ≤ ns.length ∧ ∃ l as, RJ S₂ S.H r ns k l as, _, steps_list I.hA (upd_self _ _ _) fun k S' ⟨_, l, as, J⟩ => J.hr, ⟨Nat.zero_le _, l, [], rfl, ?_, hl, upd_self _ _ _, ?_, trivial, ?_⟩, fun k S₂ b hk ⟨hk2, l, as, P⟩ hW => ?_, fun S₂ ⟨hk2, l, as, P⟩ => ?_⟩) I.w
  · exact (Keep.refl.step (.inr hl)).step (.inr (upd_none hrn).2)
  · exact (upd_ne (nf hrn (upd_self _ _ _))).trans (upd_self _ _ _)
  · exact nf hrn (upd_self _ _ _)
  · obtain ⟨m, H, _⟩ := S₂
    obtain ⟨hm, K, hn, hr', hl', A, ne⟩ := P
    dsimp only at hm K hr' hl' A
    have J := I.on (b := b)
    have hk' : k < ns.length := by simpa using hk
    obtain ⟨n, hn1⟩ : ∃ n, ns[k]? = some n := ⟨ns[k], List.getElem?_eq_getElem hk'⟩
    have eg := congrArg some (map_int hn1)
    have el := A.len
    have fl := foldl_len (ns.take k) []
    simp only [List.length_nil, List.length_take] at fl
    have hpl := hp.length_eq
    have step : (ns.take (k + 1)).foldl pushRun [] = pushRun ((ns.take k).foldl pushRun []) n := by rw [List.take_add_one, hn1, List.foldl_append]; rfl
    have app : ∀ {m2 : List (Str × TV)} {t : Addr}, H t = none → m2.lookup (Str.ofString "runs") = some (.ref l) → pushRun ((ns.take k).foldl pushRun []) n = (ns.take k).foldl pushRun [] ++ [(n, n + 1)] →
        RJ ⟨m2, upd (upd H t (.tup [.int n, .int (n + 1)])) l (.list (as.map TV.ref ++ [.ref t])), ()⟩ S.H r ns (k + 1) l (as ++ [t]) := fun {m2 t} ht hm2 e => by
      obtain ⟨p1, p2⟩ := pair_new (r := (n, n + 1)) (ys := as.map TV.ref ++ [.ref t]) ht hl' A
      refine ⟨hm2, (K.step (.inr (keepN K ht))).step (.inr hn), hn, (upd_ne (Ne.symm ne)).trans ((upd_ne (nf ht hr')).trans hr'), by rw [List.map_append]; exact upd_self _ _ _, ?_, ne⟩
      rw [step, e]
      exact All2.app (.cons p2 (show All2 _ [] [] from trivial)) p1
    refine sv J rfl ?_
    rcases List.eq_nil_or_concat ((ns.take k).foldl pushRun []) with e0 | ⟨rs, ⟨a1, b1⟩, e0⟩
    · rw [e0] at app el
      have ea : as = [] := List.length_eq_zero_iff.mp el
      subst ea
      refine px_cons <| px_if <| pt_and <| pt_plain <| lv J rfl (by exact hm) rfl <| t_list hl' (by decide) <| ite_f rfl <| ite_f rfl ?_
      refine px_cons <| xe J rfl <| pv_mcall <| lv J rfl (by exact hm) rfl <| gm_append hl' <| callw_bt <| args_cons (pv_tuple <| args_cons <| lv J rfl (by exact eg) rfl <| args_cons (pv_bin <| lv J rfl (by exact eg) rfl <| pv_int <| i_add <| args_nil <| nt (sl_le (Nat.le_of_ble_eq_true rfl)) fun t ht => ?_))
      refine args_nil <| call_append' ((upd_ne (nf ht hl')).trans hl') (sl_le (Nat.le_of_ble_eq_true rfl)) <| px_nil <| px_nil ?_
      exact ⟨hk', l, [t], app ht (by exact hm) rfl⟩
    · rw [List.concat_eq_append] at e0
      rw [e0] at app A
      obtain ⟨as', t0, ea, A1, A2⟩ := all2_snoc A
      have exs : as.map TV.ref = as'.map TV.ref ++ [.ref t0] := by rw [ea]; simp
      have hne : as.map TV.ref ≠ [] := by rw [exs]; simp
      have hlz : (as.map TV.ref).length ≤ 100000 := by rw [List.length_map]; exact aL 0x11011011038bac8b10430530604230bc202127ec8b00506 hlen el fl hpl (aN _ _)
      rw [pushRun_snoc] at app
      have t1 := decide_eq_true hne
      refine px_cons <| px_if <| pt_and <| pt_plain <| lv J rfl (by exact hm) rfl <| t_list hl' (sl_le hlz) <| ite_t t1 <| pt_and <| pt_cmp <| pv_sub <| pv_sub <| lv J rfl (by exact hm) rfl <| pv_un <| pv_int <| i_neg <| sub_end hl' exs hlz <| pv_int <| sub_p1 A2 <| lv J rfl (by exact eg) rfl <| i_eq <| t_bool <| dec_2 (fun q => pt_and_nil <| ite_t rfl ?_) fun q => ite_f rfl ?_
      · refine px_cons <| px_assign_sub <| pv_tuple <| args_cons (pv_sub <| pv_sub <| lv J rfl (by exact hm) rfl <| pv_un <| pv_int <| i_neg <| sub_end hl' exs hlz <| pv_int <| sub_p0 A2 <| args_cons <| pv_bin <| lv J rfl (by exact eg) rfl <| pv_int <| i_add <| args_nil <| nt (sl_le (Nat.le_of_ble_eq_true rfl)) fun t ht => ?_)
        refine lv J rfl (by exact hm) rfl <| pv_un <| pv_int <| i_neg <| si_end ((upd_ne (nf ht hl')).trans hl') exs hlz <| px_nil <| px_nil ⟨hk', l, as' ++ [t], hm, (K.step (.inr (keepN K ht))).step (.inr hn), hn, (upd_ne (Ne.symm ne)).trans ((upd_ne (nf ht hr')).trans hr'), ?_, ?_, ne⟩
        · rw [List.map_append]; exact upd_self _ _ _
        · obtain ⟨p1, p2⟩ := pair_new (r := (a1, n + 1)) (ys := as'.map TV.ref ++ [TV.ref t]) ht hl' A1
          rw [step, e0, pushRun_snoc, if_pos q]
          exact All2.app (.cons p2 (show All2 _ [] [] from trivial)) p1
      · refine px_cons <| xe J rfl <| pv_mcall <| lv J rfl (by exact hm) rfl <| gm_append hl' <| callw_bt <| args_cons (pv_tuple <| args_cons <| lv J rfl (by exact eg) rfl <| args_cons (pv_bin <| lv J rfl (by exact eg) rfl <| pv_int <| i_add <| args_nil <| nt (sl_le (Nat.le_of_ble_eq_true rfl)) fun t ht => ?_))
        refine args_nil <| call_append' ((upd_ne (nf ht hl')).trans hl') (sl_le hlz) <| px_nil <| px_nil ?_
        exact ⟨hk', l, as ++ [t], app ht (by exact hm) (if_neg q)⟩
  · obtain ⟨m, H, _⟩ := S₂
    obtain ⟨hm, K, hn, hr', hl', A, ne⟩ := P
    dsimp only at hm K hr' hl' A
    rw [List.length_map, List.take_length] at A
    obtain ⟨c1, c2⟩ := sorted_runs hp hpw
    exact px_cons <| px_return <| lv I rfl (by exact hm) rfl <| h l H _ hn K ⟨as, hl', A⟩ c1 c2
end
end
end Mine
end
section
open PySem PySem.W PyProof.Rows PySem.Calls
set_option maxRecDepth 100000
set_option maxHeartbeats 4000000
namespace Mine
noncomputable section
section
variable {c : Cx} {S : St} {k : Nat}
/-! the law's world -/
set_option genInjectivity false in
structure WD where
  next : Int
  known : Int
  greatest : Int
  expected : Int
  lower : Int
  sent : List (Int × Int)
  come : List Int
  acked : List Int
  received : List Int
  frames : List (List UInt8 × List (Int × Int) × Int)
  queue : List (Int × Int)
set_option genInjectivity false in
structure Ad where
  sp : Addr
  spd : Addr
  aq : Addr
  aqd : Addr
  ql : Addr
  rp : Addr
  rpd : Addr
  rs : Addr
  se : Addr
  wd : Addr
  ls : Addr
  sc : Addr
  lf : Addr
  sa : Addr
noncomputable abbrev wdD (nx kn : Int) (ls sc : Addr) (gr : Int) (lf sa : Addr) : AO := .dict [("next", .int nx), ("known", .int kn), ("sent", .ref ls), ("come", .ref sc), ("greatest", .int gr), ("frames", .ref lf), ("acked", .ref sa)]
noncomputable def FrameAt (H : HM) (X : List Addr) (f : Addr) (q : List UInt8 × List (Int × Int) × Int) : Prop := ∃ l, H f = some (.tup [.bytes q.1, .ref l, .int q.2.2]) ∧ PairsAt H l q.2.1 ∧ l ∉ X
noncomputable def FramesAt (H : HM) (X : List Addr) (lf : Addr) (fr : List (List UInt8 × List (Int × Int) × Int)) : Prop := ∃ fs : List Addr, H lf = some (.list (fs.map TV.ref)) ∧ All2 (FrameAt H X) fs fr
structure Rep (H : HM) (a : Ad) (σ : WD) : Prop where
  sp : H a.sp = some (.inst 201 a.spd)
  spd : H a.spd = some (spD a.aq a.rp a.se σ.expected)
  q : RSet H a.aq a.aqd a.ql σ.queue
  win : Win H a.rp a.rpd a.rs σ.lower σ.received
  wd : H a.wd = some (wdD σ.next σ.known a.ls a.sc σ.greatest a.lf a.sa)
  ls : PairsAt H a.ls σ.sent
  sc : H a.sc = some (.iset σ.come)
  sa : H a.sa = some (.iset σ.acked)
  lf : FramesAt H [a.ls, a.lf, a.ql] a.lf σ.frames
  n1 : a.rs ≠ a.sc
  n2 : a.rs ≠ a.sa
  n3 : a.sc ≠ a.sa
  n4 : a.ls ≠ a.lf
  n5 : a.ls ≠ a.ql
  n6 : a.lf ≠ a.ql
noncomputable def Ad.mut (a : Ad) : List Addr := [a.spd, a.aqd, a.ql, a.rpd, a.rs, a.wd, a.ls, a.sc, a.lf, a.sa]
/-- nothing that may change is a tuple -/
noncomputable def NT (H : HM) (F : List Addr) : Prop := ∀ f ∈ F, ∃ o, H f = some o ∧ ∀ xs, o ≠ .tup xs
theorem NT.nil {H : HM} : NT H [] := fun _ h => nomatch h
theorem NT.cons {H : HM} {a : Addr} {F : List Addr} {o : AO} (h : H a = some o) (n : ∀ xs, o ≠ .tup xs) (k : NT H F) : NT H (a :: F) := fun f hf => by
  rcases List.mem_cons.mp hf with rfl | hf
  · exact ⟨o, h, n⟩
  · exact k f hf
theorem nt_ne {H : HM} {F : List Addr} {a : Addr} {xs : List TV} (N : NT H F) (h : H a = some (.tup xs)) : a ∉ F := fun q => by
  obtain ⟨o, g, n⟩ := N a q
  rw [h] at g; cases g; exact n _ rfl
theorem PairsAt.keep {H H' : HM} {F : List Addr} {l : Addr} {rs : List (Int × Int)} (P : PairsAt H l rs) (k : Keep F H H') (N : NT H F) (hl : l ∉ F) : PairsAt H' l rs :=
  let ⟨as, q1, q2⟩ := P
  ⟨as, k _ _ hl q1, q2.imp fun a r h => k _ _ (nt_ne N h) h⟩
theorem FrameAt.keep {H H' : HM} {F X : List Addr} {f : Addr} {q : List UInt8 × List (Int × Int) × Int} (P : FrameAt H X f q) (k : Keep F H H') (N : NT H F) (hX : ∀ y ∈ F, y ∈ X ∨ ∀ xs, H y ≠ some (.list xs)) : FrameAt H' X f q := by
  obtain ⟨l, q1, q2, q3⟩ := P
  refine ⟨l, k _ _ (nt_ne N q1) q1, q2.keep k N fun z => ?_, q3⟩
  obtain ⟨as, r1, _⟩ := q2
  rcases hX l z with h | h
  · exact q3 h
  · exact h _ r1
theorem FramesAt.keep {H H' : HM} {F X : List Addr} {lf : Addr} {fr : List (List UInt8 × List (Int × Int) × Int)} (P : FramesAt H X lf fr) (k : Keep F H H') (N : NT H F) (hX : ∀ y ∈ F, y ∈ X ∨ ∀ xs, H y ≠ some (.list xs)) (hl : lf ∉ F) : FramesAt H' X lf fr :=
  let ⟨fs, q1, q2⟩ := P
  ⟨fs, k _ _ hl q1, q2.imp fun _ _ h => h.keep k N hX⟩
theorem Rep.keep {H H' : HM} {a : Ad} {σ : WD} (R : Rep H a σ) (k : Keep [] H H') : Rep H' a σ where
  sp := k _ _ nm_nil R.sp
  spd := k _ _ nm_nil R.spd
  q := R.q.keep k
  win := R.win.keep k
  wd := k _ _ nm_nil R.wd
  ls := R.ls.keep k .nil nm_nil
  sc := k _ _ nm_nil R.sc
  sa := k _ _ nm_nil R.sa
  lf := R.lf.keep k .nil (fun _ h => nomatch h) nm_nil
  n1 := R.n1
  n2 := R.n2
  n3 := R.n3
  n4 := R.n4
  n5 := R.n5
  n6 := R.n6
/-- an object beside the world -/
noncomputable def Mv (H : HM) (a a' : Ad) : Prop := ∀ b ∈ a'.mut, b ∈ a.mut ∨ H b = none
theorem Mv.refl {H : HM} {a : Ad} : Mv H a a := fun _ h => .inl h
theorem out_step {H H' : HM} {a a' : Ad} {z : Addr} {o : AO} (h : H z = some o) (n : z ∉ a.mut) (k : Keep a.mut H H') (m : Mv H a a') : H' z = some o ∧ z ∉ a'.mut :=
  ⟨k _ _ n h, fun q => (m z q).elim n fun e => by rw [h] at e; cases e⟩
theorem keepM {H H' H'' : HM} {a a' : Ad} (k : Keep a.mut H H') (m : Mv H a a') (k' : Keep a'.mut H' H'') : Keep a.mut H H'' := fun x o n g => by
  obtain ⟨g1, n1⟩ := out_step g n k m
  exact k' x o n1 g1
noncomputable abbrev seenB (σ : WD) (i : Int) : Prop := i < max 0 (σ.greatest - 127) ∨ i ∈ σ.come
theorem spec_seen {a : Ad} {σ : WD} {i : Int} {Q : TV → St → Prop} (hw : Well c) (hr : Room c.A 1) (R : Rep S.H a σ) (h : Q (.bool (decide (seenB σ i))) S) : CALL c (.ref 423) [.ref a.wd, .int i] [] Q S := by
  refine call_p (k := 0) ["world", "number"] hw hr rfl rfl rfl (w2 fun _ _ => rfl) rfl rfl rfl rfl rfl fun c' I => ?_
  refine px_cons <| px_return <| pv_or <| pv_cmp <| lv I rfl rfl rfl <| pv_call <| bv I rfl (n_max _) b_max rfl rfl <| callw_bt <| args_cons <| pv_int <| args_cons <| pv_bin <| pv_sub <| lv I rfl rfl rfl <| pv_str <| sub_dict R.wd rfl <| pv_int <| i_sub <| args_nil <| max2 I.hA <| i_lt <| t_bool <| dec_2 (fun q => ?_) fun q => ?_
  · simpa [q, retv, seenB] using h
  · refine pv_bool1 <| pv_cmp <| lv I rfl rfl rfl <| pv_sub <| lv I rfl rfl rfl <| pv_str <| sub_dict R.wd rfl <| set_in R.sc ?_
    simpa [q, retv, seenB] using h
end
end
end Mine
end
section
open PySem PySem.W PyProof.Rows PySem.Calls
set_option maxRecDepth 100000
set_option maxHeartbeats 4000000
namespace Mine
noncomputable section
section
variable {c : Cx} {S : St} {k : Nat}
theorem spec_lwindow {a : Ad} {σ : WD} {n : Int} {Q : TV → St → Prop} (hw : Well c) (hr : Room c.A 2) (R : Rep S.H a σ) (hW : ∀ i, (i < σ.lower ∨ i ∈ σ.received) ↔ seenB σ i) (h : ∀ H', Keep [] S.H H' → Q (.bool true) { S with H := H' }) :
    CALL c (.ref 430) [.ref a.sp, .ref a.wd, .int n] [] Q S := by
  refine call_p (k := 1) ["space", "world", "number"] hw hr rfl rfl rfl (w3 fun _ _ _ => rfl) rfl rfl rfl rfl rfl fun c' I => ?_
  obtain ⟨is, his⟩ : ∃ is, is = [n - 1, n, n + 1, σ.greatest - 128, σ.greatest - 127, σ.greatest + 1] := ⟨_, rfl⟩
  refine px_cons <| px_for I.hA (pv_tuple <| args_cons <| pv_bin <| lv I rfl rfl rfl <| pv_int <| i_sub <| args_cons <| lv I rfl rfl rfl <| args_cons <| pv_bin <| lv I rfl rfl rfl <| pv_int <| i_add <| args_cons <| pv_bin <| wsub I rfl rfl rfl R.wd rfl <| pv_int <| i_sub <| args_cons <| pv_bin <| wsub I rfl rfl rfl R.wd rfl <| pv_int <| i_sub <| args_cons <| pv_bin <| wsub I rfl rfl rfl R.wd rfl <| pv_int <| i_add <| args_nil <| nt (sl_le (Nat.le_of_ble_eq_true rfl)) fun t ht =>
    ⟨(is.map TV.int).length, _, fun k S₂ => Rep S₂.H a σ ∧ S₂.H t = some (.tup (is.map TV.int)) ∧ S₂.m.lookup (Str.ofString "space") = some (.ref a.sp) ∧ S₂.m.lookup (Str.ofString "world") = some (.ref a.wd) ∧ Keep [] S.H S₂.H, _, steps_tup I.hA ?_ (fun k S' J => J.2.1), ⟨R.keep (Keep.refl.step (.inr ht)), ?_, rfl, rfl, Keep.refl.step (.inr ht)⟩, fun k S₂ b hk ⟨R2, t2, m1, m2, K⟩ hW' => ?_, fun S₂ ⟨R2, t2, m1, m2, K⟩ => px_cons <| px_return <| pv_bool <| h _ K⟩) I.w
  · subst his; exact upd_self _ _ _
  · subst his; exact upd_self _ _ _
  · obtain ⟨m, H, _⟩ := S₂
    dsimp only at R2 t2 m1 m2 K
    have J := I.on (b := b)
    have hk' : k < is.length := by simpa using hk
    have eg := congrArg some (map_int (List.getElem?_eq_getElem hk'))
    refine sv J rfl ?_
    refine px_cons <| px_if <| pt_cmp <| pv_cmp <| lv J rfl (by exact eg) rfl <| lattr J rfl (by exact m1) rfl R2.sp R2.spd (a_201_received_packets _) rfl rfl <| inst_in J.w R2.win.x R2.win.d (sp_in _) (spec_contains J.w J.r R2.win <| t_bool <| gcall J rfl (g_L_seen _) rfl (kf_423 _) <| args_cons <| lv J rfl (by exact m2) rfl <| args_cons <| lv J rfl (by exact eg) rfl <| args_nil <| spec_seen J.w J.r R2 <| b_ne <| t_bool <| dec_2 (fun q => absurd ?_ q) fun q => px_nil <| px_nil ⟨R2, t2, m1, m2, K⟩)
    exact decide_eq_decide.mpr (hW _)
/-! a packet sent -/
theorem rep_sent {H : HM} {a : Ad} {σ : WD} {t : Addr} {r : Int × Int} (R : Rep H a σ) {as : List Addr} (hl : H a.ls = some (.list (as.map TV.ref))) (ha : All2 (IsPair H) as σ.sent) (ht : H t = some (.tup [.int r.1, .int r.2])) (nx : Int) :
    Rep (upd (upd H a.wd (wdD nx σ.known a.ls a.sc σ.greatest a.lf a.sa)) a.ls (.list ((as ++ [t]).map TV.ref))) a { σ with next := nx, sent := σ.sent ++ [r] } ∧ Keep a.mut H (upd (upd H a.wd (wdD nx σ.known a.ls a.sc σ.greatest a.lf a.sa)) a.ls (.list ((as ++ [t]).map TV.ref))) := by
  have nlw : a.ls ≠ a.wd := nk R.wd hl (by simp)
  have k : Keep [a.wd, a.ls] H (upd (upd H a.wd (wdD nx σ.known a.ls a.sc σ.greatest a.lf a.sa)) a.ls (.list ((as ++ [t]).map TV.ref))) := (Keep.refl.step (.inl (by simp))).step (.inl (by simp))
  have N : NT H [a.wd, a.ls] := .cons R.wd (by simp) (.cons hl (by simp) .nil)
  obtain ⟨qs, q1, q2⟩ := R.q.l
  obtain ⟨fs, f1, f2⟩ := R.lf
  have o1 : ∀ {x o}, H x = some o → o ≠ wdD σ.next σ.known a.ls a.sc σ.greatest a.lf a.sa → (∀ xs, o ≠ .list xs) → x ∉ [a.wd, a.ls] := fun hx e1 e2 => nm_cons (nk R.wd hx e1) (nm_cons (nk hl hx (e2 _)) nm_nil)
  have qlne : a.ql ∉ [a.wd, a.ls] := nm_cons (nk R.wd q1 (by simp)) (nm_cons (Ne.symm R.n5) nm_nil)
  refine ⟨⟨k _ _ (o1 R.sp (by simp) (by simp)) R.sp, k _ _ (o1 R.spd (by simp) (by simp)) R.spd, ⟨k _ _ (o1 R.q.x (by simp) (by simp)) R.q.x, k _ _ (o1 R.q.d (by simp) (by simp)) R.q.d, qs, k _ _ qlne q1, q2.imp fun x r ⟨d, d1, d2⟩ => ⟨d, k _ _ (o1 d1 (by simp) (by simp)) d1, k _ _ (o1 d2 (by simp) (by simp)) d2⟩⟩,
    ⟨k _ _ (o1 R.win.x (by simp) (by simp)) R.win.x, k _ _ (o1 R.win.d (by simp) (by simp)) R.win.d, k _ _ (o1 R.win.s (by simp) (by simp)) R.win.s⟩, (upd_ne (Ne.symm nlw)).trans (upd_self _ _ _), ⟨as ++ [t], upd_self _ _ _, ?_⟩, k _ _ (o1 R.sc (by simp) (by simp)) R.sc, k _ _ (o1 R.sa (by simp) (by simp)) R.sa, ?_, R.n1, R.n2, R.n3, R.n4, R.n5, R.n6⟩, k.weaken fun x hx => ?_⟩
  · exact All2.app (R := IsPair _) (.cons (k _ _ (nt_ne N ht) ht) (show All2 _ [] [] from trivial)) (ha.imp fun _ _ h => k _ _ (nt_ne N h) h)
  · refine R.lf.keep k N (fun y hy => ?_) (nm_cons (nk R.wd f1 (by simp)) (nm_cons (Ne.symm R.n4) nm_nil))
    rcases List.mem_cons.mp hy with rfl | hy
    · exact .inr fun xs => by rw [R.wd]; simp
    · rw [List.mem_singleton.mp hy]; exact .inl (.head _)
  · simp only [List.mem_cons, List.not_mem_nil, or_false] at hx
    rcases hx with rfl | rfl <;> simp [Ad.mut]
end
end
end Mine
end
section
open PySem PySem.W PyProof.Rows PySem.Calls
set_option maxRecDepth 100000
set_option maxHeartbeats 4000000
namespace Mine
noncomputable section
section
variable {c : Cx} {S : St} {k : Nat}
theorem sd {d : Addr} {l l' : List (Str × TV)} {kk : Str} {v : TV} {Q : St → Prop} {m : List (Str × TV)} {H : HM} (hd : H d = some (.dict l)) (ks : List Str) (hk : l.map (·.1) = ks) (nd : ks.Nodup) (hz : Nat.ble l.length 900 = true) (hl : setA kk v l = l')
    (h : Q ⟨m, upd H d (.dict l'), ()⟩) : SETITEM c (.ref d) (.str kk) v Q ⟨m, H, ()⟩ := si_dict hd hk nd (Nat.le_trans (Nat.le_of_ble_eq_true hz) (by decide)) hl h
noncomputable abbrev wdK : List Str := ["next", "known", "sent", "come", "greatest", "frames", "acked"]
theorem wdN : wdK.Nodup := by decide
theorem spec_send {a : Ad} {σ : WD} {jump : Int} {Q : TV → St → Prop} (hw : Well c) (hr : Room c.A 1) (R : Rep S.H a σ) (hk : σ.next + jump - σ.known ≤ 8388608) (hlen : σ.sent.length ≤ 1000)
    (h : ∀ H' bits, Rep H' a { σ with next := σ.next + jump + 1, sent := σ.sent ++ [(σ.next + jump, bits)] } → Keep a.mut S.H H' → (bits = 8 ∨ bits = 16 ∨ bits = 24) → 2 * (σ.next + jump - σ.known) ≤ 2 ^ bits.toNat → Q .none { S with H := H' }) :
    CALL c (.ref 437) [.ref a.wd, .int jump] [] Q S := by
  refine call_p (k := 0) ["world", "jump"] hw hr rfl rfl rfl (w2 fun _ _ => rfl) rfl rfl rfl rfl rfl fun c' I => ?_
  refine px_cons <| px_assign_name <| pv_bin <| pv_sub <| lv I rfl rfl rfl <| pv_str <| sub_dict R.wd rfl <| lv I rfl rfl rfl <| i_add <| sv I rfl ?_
  refine px_cons <| px_assign_sub <| pv_bin <| lv I rfl rfl rfl <| pv_int <| i_add <| lv I rfl rfl rfl <| pv_str <| sd (l' := [("next", .int (σ.next + jump + 1)), ("known", .int σ.known), ("sent", .ref a.ls), ("come", .ref a.sc), ("greatest", .int σ.greatest), ("frames", .ref a.lf), ("acked", .ref a.sa)]) R.wd wdK rfl wdN rfl rfl ?_
  have w1 : upd S.H a.wd (wdD (σ.next + jump + 1) σ.known a.ls a.sc σ.greatest a.lf a.sa) a.wd = _ := upd_self _ _ _
  obtain ⟨as, l1, l2⟩ := R.ls
  have nlw : a.ls ≠ a.wd := nk R.wd l1 (by simp)
  refine px_cons <| px_assign_name <| pv_int <| sv I rfl ?_
  refine px_seq (fun S' => S'.H = upd S.H a.wd (wdD (σ.next + jump + 1) σ.known a.ls a.sc σ.greatest a.lf a.sa) ∧ S'.m.lookup (Str.ofString "world") = some (.ref a.wd) ∧ S'.m.lookup (Str.ofString "number") = some (.int (σ.next + jump)) ∧
      ∃ sz : Int, (sz = 1 ∨ sz = 2 ∨ sz = 3) ∧ S'.m.lookup (Str.ofString "size") = some (.int sz) ∧ 2 * (σ.next + jump - σ.known) ≤ 2 ^ (8 * sz).toNat)
    (px_while (fun n S' => S'.H = upd S.H a.wd (wdD (σ.next + jump + 1) σ.known a.ls a.sc σ.greatest a.lf a.sa) ∧ S'.m.lookup (Str.ofString "world") = some (.ref a.wd) ∧ S'.m.lookup (Str.ofString "number") = some (.int (σ.next + jump)) ∧
      ∃ sz : Int, (sz = 1 ∨ sz = 2 ∨ sz = 3) ∧ S'.m.lookup (Str.ofString "size") = some (.int sz) ∧ n = (3 - sz).toNat) 2 ⟨rfl, rfl, rfl, 1, .inl rfl, rfl, rfl⟩ fun n S' ⟨eH, m1, m2, sz, hsz, m3, hn⟩ => ?_) fun S' ⟨eH, m1, m2, sz, hsz, m3, hb⟩ => ?_
  · obtain ⟨m, H, _⟩ := S'
    dsimp only at eH m1 m2 m3
    subst eH
    refine pt_cmp <| pv_bin <| pv_int <| pv_bin <| pv_int <| lv I rfl (by exact m3) rfl <| i_mul (.of_left (by decide)) <| i_shl (by rcases hsz with e | e | e <;> rw [e] <;> decide) (by exact aL 0x10181018101813ec99888018c338052805718057110 hsz) (by decide) <| pv_bin <| pv_int <| pv_bin <| lv I rfl (by exact m2) rfl <| pv_sub <| lv I rfl (by exact m1) rfl <| pv_str <| sub_dict w1 rfl <| i_sub <| i_mul (.of_left (by decide)) <| i_lt <| t_bool <| dec_2 (fun q => ?_) fun q => ?_
    · have hsz2 : sz = 1 ∨ sz = 2 := by
        rcases hsz with rfl | rfl | rfl
        · exact .inl rfl
        · exact .inr rfl
        · rw [Int.one_mul] at q
          have : (2 : Int) ^ (8 * (3 : Int)).toNat = 16777216 := by decide
          exact aL 0x21101000000100000100001283851838571888888888352109a2c344888888882109a3340 hk q this
      exact px_cons <| px_assign_name <| pv_bin <| lv I rfl (by exact m3) rfl <| pv_int <| i_add <| sv I rfl <| px_nil ⟨(3 - (sz + 1)).toNat, by exact aL 0x110100101000010001111010101021280518057080e38a30b2260e38a275717038a3102413 hn (Int.self_le_toNat _) (aT _) hsz2, rfl, m1, m2, sz + 1, by exact aL 0x10001010011110001100110011001101010001100011011380e5280e57180e57280518057110 hsz2, rfl, rfl⟩
    · rw [Int.one_mul] at q
      exact ⟨rfl, rfl, m1, m2, sz, hsz, m3, by exact aL 0x1103219a2c33219a2c049140 q⟩
  · obtain ⟨m, H, _⟩ := S'
    dsimp only at eH m1 m2 m3
    subst eH
    refine px_cons <| xe I rfl <| pv_mcall <| pv_sub <| lv I rfl (by exact m1) rfl <| pv_str <| sub_dict w1 rfl <| gm_append ((upd_ne nlw).trans l1) <| callw_bt <| args_cons (pv_tuple <| args_cons <| lv I rfl (by exact m2) rfl <| args_cons <| pv_bin <| pv_int <| lv I rfl (by exact m3) rfl <| i_mul (.of_left (by decide)) <| args_nil <| nt (sl_le (Nat.le_of_ble_eq_true rfl)) fun t ht => ?_)
    obtain ⟨ht1, ht2⟩ := upd_none ht
    have hz : (as.map TV.ref).length ≤ 100000 := by have := l2.len; simp; exact aL 0x110138bac8b100121fd8b00202 hlen this
    refine args_nil <| call_append' ((upd_ne (nf ht ((upd_ne nlw).trans l1))).trans ((upd_ne nlw).trans l1)) (sl_le hz) <| px_nil ?_
    have k0 : Keep [] S.H (upd S.H t (.tup [.int (σ.next + jump), .int (8 * sz)])) := Keep.refl.step (.inr ht2)
    obtain ⟨r1, r2⟩ := rep_sent (t := t) (r := (σ.next + jump, 8 * sz)) (R.keep k0) (k0 _ _ nm_nil l1) (l2.imp fun _ _ q => k0 _ _ nm_nil q) (upd_self _ _ _) (σ.next + jump + 1)
    have eq1 : upd (upd (upd S.H a.wd (wdD (σ.next + jump + 1) σ.known a.ls a.sc σ.greatest a.lf a.sa)) t (.tup [.int (σ.next + jump), .int (8 * sz)])) a.ls (.list (as.map TV.ref ++ [.ref t])) = upd (upd (upd S.H t (.tup [.int (σ.next + jump), .int (8 * sz)])) a.wd (wdD (σ.next + jump + 1) σ.known a.ls a.sc σ.greatest a.lf a.sa)) a.ls (.list ((as ++ [t]).map TV.ref)) := by
      rw [List.map_append]
      congr 1
      funext y
      simp only [upd]
      by_cases e1 : y = a.wd
      · subst e1; simp [Ne.symm ht1]
      · simp [e1]
    refine (show Q _ _ from ?_)
    show Q _ ⟨S.m, upd (upd (upd S.H a.wd (wdD (σ.next + jump + 1) σ.known a.ls a.sc σ.greatest a.lf a.sa)) t (.tup [.int (σ.next + jump), .int (8 * sz)])) a.ls (.list (as.map TV.ref ++ [.ref t])), ()⟩
    rw [eq1]
    refine h _ (8 * sz) r1 ((k0.weaken (by simp)).trans r2) (by exact aL 0x100018010018001018110018001001800101811100010180010180001018101100110101000118000118000118011388018c5288018c57188018c5738052805718057110 hsz) hb
end
end
end Mine
end
section
open PySem PySem.W PyProof.Rows PySem.Calls
set_option maxRecDepth 100000
set_option maxHeartbeats 4000000
namespace Mine
noncomputable section
section
variable {c : Cx} {S : St} {k : Nat}
/-- what never turns -/
noncomputable def Frz (o : AO) : Prop := (∃ C d, o = .inst C d) ∨ (∃ xs, o = .tup xs) ∨ ∃ s e, o = rgD s e
theorem Rep.mutv {H : HM} {a : Ad} {σ : WD} (R : Rep H a σ) : ∀ f ∈ a.mut, ∃ o, H f = some o ∧ ¬ Frz o := by
  obtain ⟨qs, q1, _⟩ := R.q.l
  obtain ⟨ps, p1, _⟩ := R.ls
  obtain ⟨fs, f1, _⟩ := R.lf
  intro f hf
  simp only [Ad.mut, List.mem_cons, List.not_mem_nil, or_false] at hf
  rcases hf with rfl | rfl | rfl | rfl | rfl | rfl | rfl | rfl | rfl | rfl
  · exact ⟨_, R.spd, by simp [Frz]⟩
  · exact ⟨_, R.q.d, by simp [Frz]⟩
  · exact ⟨_, q1, by simp [Frz]⟩
  · exact ⟨_, R.win.d, by simp [Frz]⟩
  · exact ⟨_, R.win.s, by simp [Frz]⟩
  · exact ⟨_, R.wd, by simp [Frz]⟩
  · exact ⟨_, p1, by simp [Frz]⟩
  · exact ⟨_, R.sc, by simp [Frz]⟩
  · exact ⟨_, f1, by simp [Frz]⟩
  · exact ⟨_, R.sa, by simp [Frz]⟩
theorem Rep.frz {H H' : HM} {a : Ad} {σ : WD} {F : List Addr} (R : Rep H a σ) (k : Keep F H H') (hF : ∀ f ∈ F, f ∈ a.mut) {x : Addr} {o : AO} (h : H x = some o) (z : Frz o) : H' x = some o :=
  k _ _ (fun q => by obtain ⟨o', g, n⟩ := R.mutv x (hF x q); rw [h] at g; cases g; exact n z) h
theorem Rep.frames {H H' : HM} {a : Ad} {σ : WD} {F : List Addr} (R : Rep H a σ) (k : Keep F H H') (hF : ∀ f ∈ F, f ∈ a.mut) {f : Addr} {q : List UInt8 × List (Int × Int) × Int} (h : FrameAt H [a.ls, a.lf, a.ql] f q) : FrameAt H' [a.ls, a.lf, a.ql] f q := by
  obtain ⟨l, q1, ⟨as, r1, r2⟩, q3⟩ := h
  refine ⟨l, R.frz k hF q1 (.inr (.inl ⟨_, rfl⟩)), ⟨as, k _ _ (fun z => ?_) r1, r2.imp fun _ _ g => R.frz k hF g (.inr (.inl ⟨_, rfl⟩))⟩, q3⟩
  have z := hF l z
  simp only [List.mem_cons, List.not_mem_nil, or_false, not_or] at q3
  simp only [Ad.mut, List.mem_cons, List.not_mem_nil, or_false] at z
  rcases z with rfl | rfl | rfl | rfl | rfl | rfl | rfl | rfl | rfl | rfl
  · rw [R.spd] at r1; cases r1
  · rw [R.q.d] at r1; cases r1
  · exact q3.2.2 rfl
  · rw [R.win.d] at r1; cases r1
  · rw [R.win.s] at r1; cases r1
  · rw [R.wd] at r1; cases r1
  · exact q3.1 rfl
  · rw [R.sc] at r1; cases r1
  · exact q3.2.1 rfl
  · rw [R.sa] at r1; cases r1
/-- the mutable places are apart -/
theorem Rep.nd {H : HM} {a : Ad} {σ : WD} (R : Rep H a σ) : a.mut.Nodup := by
  obtain ⟨qs, q1, _⟩ := R.q.l
  obtain ⟨ps, p1, _⟩ := R.ls
  obtain ⟨fs, f1, _⟩ := R.lf
  have d1 := R.spd
  have d2 := R.q.d
  have d3 := R.win.d
  have d4 := R.wd
  have s1 := R.win.s
  have s2 := R.sc
  have s3 := R.sa
  have e : ∀ {x y o o'}, H x = some o → H y = some o' → o ≠ o' → x ≠ y := fun h k n z => by subst z; rw [h] at k; cases k; exact n rfl
  refine List.nodup_cons.mpr ⟨?_, List.nodup_cons.mpr ⟨?_, List.nodup_cons.mpr ⟨?_, List.nodup_cons.mpr ⟨?_, List.nodup_cons.mpr ⟨?_, List.nodup_cons.mpr ⟨?_, List.nodup_cons.mpr ⟨?_, List.nodup_cons.mpr ⟨?_, List.nodup_cons.mpr ⟨?_, List.nodup_cons.mpr ⟨by simp, .nil⟩⟩⟩⟩⟩⟩⟩⟩⟩⟩
  · exact nm_cons (e d1 d2 (by simp)) (nm_cons (e d1 q1 (by simp)) (nm_cons (e d1 d3 (by simp)) (nm_cons (e d1 s1 (by simp)) (nm_cons (e d1 d4 (by simp)) (nm_cons (e d1 p1 (by simp)) (nm_cons (e d1 s2 (by simp)) (nm_cons (e d1 f1 (by simp)) (nm_cons (e d1 s3 (by simp)) nm_nil))))))))
  · exact nm_cons (e d2 q1 (by simp)) (nm_cons (e d2 d3 (by simp)) (nm_cons (e d2 s1 (by simp)) (nm_cons (e d2 d4 (by simp)) (nm_cons (e d2 p1 (by simp)) (nm_cons (e d2 s2 (by simp)) (nm_cons (e d2 f1 (by simp)) (nm_cons (e d2 s3 (by simp)) nm_nil)))))))
  · exact nm_cons (e q1 d3 (by simp)) (nm_cons (e q1 s1 (by simp)) (nm_cons (e q1 d4 (by simp)) (nm_cons (Ne.symm R.n5) (nm_cons (e q1 s2 (by simp)) (nm_cons (Ne.symm R.n6) (nm_cons (e q1 s3 (by simp)) nm_nil))))))
  · exact nm_cons (e d3 s1 (by simp)) (nm_cons (e d3 d4 (by simp)) (nm_cons (e d3 p1 (by simp)) (nm_cons (e d3 s2 (by simp)) (nm_cons (e d3 f1 (by simp)) (nm_cons (e d3 s3 (by simp)) nm_nil)))))
  · exact nm_cons (e s1 d4 (by simp)) (nm_cons (e s1 p1 (by simp)) (nm_cons R.n1 (nm_cons (e s1 f1 (by simp)) (nm_cons R.n2 nm_nil))))
  · exact nm_cons (e d4 p1 (by simp)) (nm_cons (e d4 s2 (by simp)) (nm_cons (e d4 f1 (by simp)) (nm_cons (e d4 s3 (by simp)) nm_nil)))
  · exact nm_cons (e p1 s2 (by simp)) (nm_cons R.n4 (nm_cons (e p1 s3 (by simp)) nm_nil))
  · exact nm_cons (e s2 f1 (by simp)) (nm_cons R.n3 nm_nil)
  · exact nm_cons (e f1 s3 (by simp)) nm_nil
/-- the parts of a world that another state keeps -/
theorem Rep.move {H H' : HM} {a : Ad} {σ σ' : WD} {F : List Addr} {rs' ls' : Addr} (R : Rep H a σ) (k : Keep F H H') (hF : ∀ f ∈ F, f ∈ a.mut)
    (h1 : H' a.spd = some (spD a.aq a.rp a.se σ'.expected)) (h2 : RSet H' a.aq a.aqd a.ql σ'.queue) (h3 : Win H' a.rp a.rpd rs' σ'.lower σ'.received) (h4 : H' a.wd = some (wdD σ'.next σ'.known ls' a.sc σ'.greatest a.lf a.sa))
    (h5 : PairsAt H' ls' σ'.sent) (h6 : H' a.sc = some (.iset σ'.come)) (h7 : H' a.sa = some (.iset σ'.acked)) (h8 : FramesAt H' [ls', a.lf, a.ql] a.lf σ'.frames) (n1 : rs' = a.rs ∨ H rs' = none) (n2 : ls' = a.ls ∨ H ls' = none) :
    Rep H' { a with rs := rs', ls := ls' } σ' := by
  obtain ⟨qs, q1, _⟩ := R.q.l
  obtain ⟨fs, f1, _⟩ := R.lf
  refine ⟨R.frz k hF R.sp (.inl ⟨_, _, rfl⟩), h1, h2, h3, h4, h5, h6, h7, h8, ?_, ?_, R.n3, ?_, ?_, R.n6⟩
  · rcases n1 with rfl | n1
    · exact R.n1
    · exact Ne.symm (nf n1 R.sc)
  · rcases n1 with rfl | n1
    · exact R.n2
    · exact Ne.symm (nf n1 R.sa)
  · rcases n2 with rfl | n2
    · exact R.n4
    · exact Ne.symm (nf n2 f1)
  · rcases n2 with rfl | n2
    · exact R.n5
    · exact Ne.symm (nf n2 q1)
end
end
end Mine
end
section
open PySem PySem.W PyProof.Rows PySem.Calls
set_option maxRecDepth 100000
set_option maxHeartbeats 4000000
namespace Mine
noncomputable section
section
variable {c : Cx} {S : St} {k : Nat}
theorem Rep.ne {H : HM} {a : Ad} {σ : WD} (R : Rep H a σ) (i j : Nat) (h : (decide (i < 10) && decide (j < 10) && decide (i ≠ j)) = true) : a.mut.getD i 0 ≠ a.mut.getD j 0 := by
  simp only [Bool.and_eq_true, decide_eq_true_eq] at h
  have nd := R.nd
  have hl : a.mut.length = 10 := rfl
  have key := List.pairwise_iff_getElem.mp nd
  rw [List.getD, List.getD, List.getElem?_eq_getElem (by exact aL 0x11101011ab121ab01202 h.1.1 hl), List.getElem?_eq_getElem (by exact aL 0x11101011ab121ab01202 h.1.2 hl)]
  rcases Nat.lt_or_ge i j with q | q
  · exact key i j (by exact aL 0x111011210211ab121ab01303 h.1.2 hl q) (by exact aL 0x11101011ab121ab01202 h.1.2 hl) q
  · exact Ne.symm (key j i (by exact aL 0x11101011ab121ab01202 h.1.2 hl) (by exact aL 0x11101011ab121ab01202 h.1.1 hl) (by exact aL 0x10101111010129100202 q h.2))
theorem Rep.qk {H H' : HM} {a : Ad} {σ : WD} {F : List Addr} (R : Rep H a σ) (k : Keep F H H') (hF : ∀ f ∈ F, f ∈ a.mut) (h1 : a.aqd ∉ F) (h2 : a.ql ∉ F) : RSet H' a.aq a.aqd a.ql σ.queue := by
  obtain ⟨qs, q1, q2⟩ := R.q.l
  exact ⟨R.frz k hF R.q.x (.inl ⟨_, _, rfl⟩), k _ _ h1 R.q.d, qs, k _ _ h2 q1, q2.imp fun x r ⟨d, d1, d2⟩ => ⟨d, R.frz k hF d1 (.inl ⟨_, _, rfl⟩), R.frz k hF d2 (.inr (.inr ⟨_, _, rfl⟩))⟩⟩
theorem Rep.wk {H H' : HM} {a : Ad} {σ : WD} {F : List Addr} (R : Rep H a σ) (k : Keep F H H') (hF : ∀ f ∈ F, f ∈ a.mut) (h1 : a.rpd ∉ F) (h2 : a.rs ∉ F) : Win H' a.rp a.rpd a.rs σ.lower σ.received :=
  ⟨R.frz k hF R.win.x (.inl ⟨_, _, rfl⟩), k _ _ h1 R.win.d, k _ _ h2 R.win.s⟩
theorem Rep.lk {H H' : HM} {a : Ad} {σ : WD} {F : List Addr} (R : Rep H a σ) (k : Keep F H H') (hF : ∀ f ∈ F, f ∈ a.mut) (h1 : a.ls ∉ F) : PairsAt H' a.ls σ.sent :=
  let ⟨as, q1, q2⟩ := R.ls
  ⟨as, k _ _ h1 q1, q2.imp fun _ _ g => R.frz k hF g (.inr (.inl ⟨_, rfl⟩))⟩
theorem Rep.fk {H H' : HM} {a : Ad} {σ : WD} {F : List Addr} (R : Rep H a σ) (k : Keep F H H') (hF : ∀ f ∈ F, f ∈ a.mut) (h1 : a.lf ∉ F) : FramesAt H' [a.ls, a.lf, a.ql] a.lf σ.frames :=
  let ⟨fs, q1, q2⟩ := R.lf
  ⟨fs, k _ _ h1 q1, q2.imp fun _ _ g => R.frames k hF g⟩
theorem sub1 {a : Ad} {x : Addr} (h : x ∈ a.mut) : ∀ f ∈ [x], f ∈ a.mut := fun f hf => by rw [List.mem_singleton.mp hf]; exact h
theorem mem_i {a : Ad} (i : Nat) (h : i < 10) : a.mut.getD i 0 ∈ a.mut := by
  have hl : a.mut.length = 10 := rfl
  rw [List.getD, List.getElem?_eq_getElem (by exact aL 0x11101011ab121ab01202 h hl)]
  exact List.getElem_mem _
theorem kmut {a : Ad} {H H' : HM} {F : List Addr} (k : Keep F H H') (hF : ∀ f ∈ F, f ∈ a.mut) : Keep a.mut H H' := k.weaken hF
/-- the window has taken a number -/
theorem Rep.u1 {H H' : HM} {a : Ad} {σ : WD} {rs' : Addr} {lo' : Int} {xs' : List Int} (R : Rep H a σ) (k : Keep [a.rpd, a.rs] H H') (W : Win H' a.rp a.rpd rs' lo' xs') (n : rs' = a.rs ∨ H rs' = none) :
    Rep H' { a with rs := rs' } { σ with lower := lo', received := xs' } ∧ Keep a.mut H H' ∧ Mv H a { a with rs := rs' } := by
  have hF : ∀ f ∈ [a.rpd, a.rs], f ∈ a.mut := fun f hf => by
    simp only [List.mem_cons, List.not_mem_nil, or_false] at hf
    rcases hf with rfl | rfl
    · exact mem_i 3 (by decide)
    · exact mem_i 4 (by decide)
  refine ⟨R.move (ls' := a.ls) k hF (k _ _ (nm_cons (R.ne 0 3 rfl) (nm_cons (R.ne 0 4 rfl) nm_nil)) R.spd) (R.qk k hF (nm_cons (R.ne 1 3 rfl) (nm_cons (R.ne 1 4 rfl) nm_nil)) (nm_cons (R.ne 2 3 rfl) (nm_cons (R.ne 2 4 rfl) nm_nil))) W
    (k _ _ (nm_cons (R.ne 5 3 rfl) (nm_cons (R.ne 5 4 rfl) nm_nil)) R.wd) (R.lk k hF (nm_cons (R.ne 6 3 rfl) (nm_cons (R.ne 6 4 rfl) nm_nil))) (k _ _ (nm_cons (R.ne 7 3 rfl) (nm_cons (R.ne 7 4 rfl) nm_nil)) R.sc) (k _ _ (nm_cons (R.ne 9 3 rfl) (nm_cons (R.ne 9 4 rfl) nm_nil)) R.sa)
    (R.fk k hF (nm_cons (R.ne 8 3 rfl) (nm_cons (R.ne 8 4 rfl) nm_nil))) n (.inl rfl), kmut k hF, fun b hb => ?_⟩
  simp only [Ad.mut, List.mem_cons, List.not_mem_nil, or_false] at hb ⊢
  rcases hb with h | h | h | h | h | h | h | h | h | h
  · simp [h]
  · simp [h]
  · simp [h]
  · simp [h]
  · rcases n with n | n
    · simp [h, n]
    · exact .inr (by rw [h]; exact n)
  · simp [h]
  · simp [h]
  · simp [h]
  · simp [h]
  · simp [h]
theorem Rep.u2 {H H' : HM} {a : Ad} {σ : WD} {q' : List (Int × Int)} (R : Rep H a σ) (k : Keep [a.ql] H H') (W : RSet H' a.aq a.aqd a.ql q') : Rep H' a { σ with queue := q' } ∧ Keep a.mut H H' := by
  have hF := sub1 (a := a) (mem_i 2 (by decide))
  exact ⟨R.move (ls' := a.ls) (rs' := a.rs) k hF (k _ _ (nm_cons (R.ne 0 2 rfl) nm_nil) R.spd) W (R.wk k hF (nm_cons (R.ne 3 2 rfl) nm_nil) (nm_cons (R.ne 4 2 rfl) nm_nil))
    (k _ _ (nm_cons (R.ne 5 2 rfl) nm_nil) R.wd) (R.lk k hF (nm_cons (R.ne 6 2 rfl) nm_nil)) (k _ _ (nm_cons (R.ne 7 2 rfl) nm_nil) R.sc) (k _ _ (nm_cons (R.ne 9 2 rfl) nm_nil) R.sa)
    (R.fk k hF (nm_cons (R.ne 8 2 rfl) nm_nil)) (.inl rfl) (.inl rfl), kmut k hF⟩
theorem Rep.u3 {H : HM} {a : Ad} {σ : WD} {xs : List Int} (R : Rep H a σ) : Rep (upd H a.sc (.iset xs)) a { σ with come := xs } ∧ Keep a.mut H (upd H a.sc (.iset xs)) := by
  have hF := sub1 (a := a) (mem_i 7 (by decide))
  have k : Keep [a.sc] H (upd H a.sc (.iset xs)) := Keep.refl.step (.inl (.head _))
  exact ⟨R.move (ls' := a.ls) (rs' := a.rs) k hF (k _ _ (nm_cons (R.ne 0 7 rfl) nm_nil) R.spd) (R.qk k hF (nm_cons (R.ne 1 7 rfl) nm_nil) (nm_cons (R.ne 2 7 rfl) nm_nil)) (R.wk k hF (nm_cons (R.ne 3 7 rfl) nm_nil) (nm_cons (R.ne 4 7 rfl) nm_nil))
    (k _ _ (nm_cons (R.ne 5 7 rfl) nm_nil) R.wd) (R.lk k hF (nm_cons (R.ne 6 7 rfl) nm_nil)) (upd_self _ _ _) (k _ _ (nm_cons (R.ne 9 7 rfl) nm_nil) R.sa)
    (R.fk k hF (nm_cons (R.ne 8 7 rfl) nm_nil)) (.inl rfl) (.inl rfl), kmut k hF⟩
theorem Rep.u4 {H : HM} {a : Ad} {σ : WD} {gr kn : Int} (R : Rep H a σ) : Rep (upd H a.wd (wdD σ.next kn a.ls a.sc gr a.lf a.sa)) a { σ with greatest := gr, known := kn } ∧ Keep a.mut H (upd H a.wd (wdD σ.next kn a.ls a.sc gr a.lf a.sa)) := by
  have hF := sub1 (a := a) (mem_i 5 (by decide))
  have k : Keep [a.wd] H (upd H a.wd (wdD σ.next kn a.ls a.sc gr a.lf a.sa)) := Keep.refl.step (.inl (.head _))
  exact ⟨R.move (ls' := a.ls) (rs' := a.rs) k hF (k _ _ (nm_cons (R.ne 0 5 rfl) nm_nil) R.spd) (R.qk k hF (nm_cons (R.ne 1 5 rfl) nm_nil) (nm_cons (R.ne 2 5 rfl) nm_nil)) (R.wk k hF (nm_cons (R.ne 3 5 rfl) nm_nil) (nm_cons (R.ne 4 5 rfl) nm_nil))
    (upd_self _ _ _) (R.lk k hF (nm_cons (R.ne 6 5 rfl) nm_nil)) (k _ _ (nm_cons (R.ne 7 5 rfl) nm_nil) R.sc) (k _ _ (nm_cons (R.ne 9 5 rfl) nm_nil) R.sa)
    (R.fk k hF (nm_cons (R.ne 8 5 rfl) nm_nil)) (.inl rfl) (.inl rfl), kmut k hF⟩
theorem Rep.u5 {H : HM} {a : Ad} {σ : WD} {ex : Int} (R : Rep H a σ) : Rep (upd H a.spd (spD a.aq a.rp a.se ex)) a { σ with expected := ex } ∧ Keep a.mut H (upd H a.spd (spD a.aq a.rp a.se ex)) := by
  have hF := sub1 (a := a) (mem_i 0 (by decide))
  have k : Keep [a.spd] H (upd H a.spd (spD a.aq a.rp a.se ex)) := Keep.refl.step (.inl (.head _))
  exact ⟨R.move (ls' := a.ls) (rs' := a.rs) k hF (upd_self _ _ _) (R.qk k hF (nm_cons (R.ne 1 0 rfl) nm_nil) (nm_cons (R.ne 2 0 rfl) nm_nil)) (R.wk k hF (nm_cons (R.ne 3 0 rfl) nm_nil) (nm_cons (R.ne 4 0 rfl) nm_nil))
    (k _ _ (nm_cons (R.ne 5 0 rfl) nm_nil) R.wd) (R.lk k hF (nm_cons (R.ne 6 0 rfl) nm_nil)) (k _ _ (nm_cons (R.ne 7 0 rfl) nm_nil) R.sc) (k _ _ (nm_cons (R.ne 9 0 rfl) nm_nil) R.sa)
    (R.fk k hF (nm_cons (R.ne 8 0 rfl) nm_nil)) (.inl rfl) (.inl rfl), kmut k hF⟩
theorem Rep.u6 {H : HM} {a : Ad} {σ : WD} {xs : List Int} (R : Rep H a σ) : Rep (upd H a.sa (.iset xs)) a { σ with acked := xs } ∧ Keep a.mut H (upd H a.sa (.iset xs)) := by
  have hF := sub1 (a := a) (mem_i 9 (by decide))
  have k : Keep [a.sa] H (upd H a.sa (.iset xs)) := Keep.refl.step (.inl (.head _))
  exact ⟨R.move (ls' := a.ls) (rs' := a.rs) k hF (k _ _ (nm_cons (R.ne 0 9 rfl) nm_nil) R.spd) (R.qk k hF (nm_cons (R.ne 1 9 rfl) nm_nil) (nm_cons (R.ne 2 9 rfl) nm_nil)) (R.wk k hF (nm_cons (R.ne 3 9 rfl) nm_nil) (nm_cons (R.ne 4 9 rfl) nm_nil))
    (k _ _ (nm_cons (R.ne 5 9 rfl) nm_nil) R.wd) (R.lk k hF (nm_cons (R.ne 6 9 rfl) nm_nil)) (k _ _ (nm_cons (R.ne 7 9 rfl) nm_nil) R.sc) (upd_self _ _ _)
    (R.fk k hF (nm_cons (R.ne 8 9 rfl) nm_nil)) (.inl rfl) (.inl rfl), kmut k hF⟩
end
end
end Mine
end
section
open PySem PySem.W PyProof.Rows PySem.Calls
set_option maxRecDepth 100000
set_option maxHeartbeats 4000000
namespace Mine
noncomputable section
section
variable {c : Cx} {S : St} {k : Nat}
noncomputable def FrOk (come : List Int) (f : List UInt8 × List (Int × Int) × Int) : Prop := ∃ top downs, f.2.1 = (top :: downs).reverse ∧ f.1 = encL (frameF top downs f.2.2) ∧ Canon f.2.1 ∧ (∀ x, Mem x f.2.1 → x ∈ come) ∧ 0 ≤ f.2.2 ∧ f.2.2 ≤ 100000 ∧ f.1.length ≤ 100000 ∧ downs.length ≤ 9000
structure Inv (σ : WD) : Prop where
  cq : Canon σ.queue
  mq : ∀ x, Mem x σ.queue ↔ x ∈ σ.come
  nc : σ.come.Nodup
  nr : σ.received.Nodup
  na : σ.acked.Nodup
  lo : σ.lower = max 0 (σ.greatest - 127)
  rc : ∀ j, σ.lower ≤ j → (j ∈ σ.received ↔ j ∈ σ.come)
  rs : ∀ j ∈ σ.received, j ∈ σ.come
  ex : σ.expected = σ.greatest + 1
  cb : ∀ j ∈ σ.come, 0 ≤ j ∧ j ≤ σ.greatest
  g0 : -1 ≤ σ.greatest
  gn : σ.greatest < σ.next
  k0 : -1 ≤ σ.known
  kg : σ.known ≤ σ.greatest
  se : ∀ p ∈ σ.sent, 0 ≤ p.1 ∧ p.1 < σ.next ∧ (p.2 = 8 ∨ p.2 = 16 ∨ p.2 = 24) ∧ 2 * (p.1 - σ.known) ≤ 2 ^ p.2.toNat
  ac : ∀ j ∈ σ.acked, j ∈ σ.come
  fr : ∀ f ∈ σ.frames, FrOk σ.come f
theorem FrOk.mono {c1 c2 : List Int} {f : List UInt8 × List (Int × Int) × Int} (h : FrOk c1 f) (s : ∀ j ∈ c1, j ∈ c2) : FrOk c2 f := by
  obtain ⟨t, d, a1, a2, a3, a4, a5⟩ := h
  exact ⟨t, d, a1, a2, a3, fun x hx => s _ (a4 x hx), a5⟩
theorem Inv.win {σ : WD} (V : Inv σ) (i : Int) : (i < σ.lower ∨ i ∈ σ.received) ↔ seenB σ i := by
  show _ ↔ (i < max 0 (σ.greatest - 127) ∨ i ∈ σ.come)
  rw [← V.lo]
  by_cases q : i < σ.lower
  · simp [q]
  · simp [q, V.rc i (by exact aL 0x110131049120 q)]
theorem Inv.seen {σ : WD} {n lo' : Int} {xs' : List Int} (V : Inv σ) (hs : seenB σ n) (hW : WinAdd σ.lower σ.received n lo' xs') (nd : xs'.Nodup) : Inv { σ with lower := lo', received := xs' } := by
  unfold WinAdd at hW
  by_cases q : n < σ.lower
  · rw [if_pos q] at hW
    obtain ⟨rfl, rfl⟩ := hW
    exact V
  · rw [if_neg q] at hW
    obtain ⟨e, h1, h2⟩ := hW
    have hn : n ∈ σ.come := by
      rcases hs with h | h
      · rw [← V.lo] at h; exact absurd h q
      · exact h
    have hr : n ∈ σ.received := (V.rc n (by exact aL 0x110131049120 q)).mpr hn
    have ei : insI n σ.received = σ.received := by unfold insI; rw [if_pos hr]
    have hg := (V.cb n hn).2
    have el : lo' = σ.lower := by rw [e, V.lo]; exact aL 0x111000110000011100001012351ff80a33233731ff80a3323621ff81a320836103440 hg (bX _ _) (bX _ _) (bV _ _)
    rw [ei] at h1 h2
    exact { V with
      nr := nd
      lo := by show lo' = _; rw [el]; exact V.lo
      rc := fun j hj => (h1 j hj).trans (V.rc j (by show σ.lower ≤ j; rw [← el]; exact hj))
      rs := fun j hj => V.rs j (h2 j hj) }
theorem Inv.unseen {σ : WD} {n lo' : Int} {xs' : List Int} (V : Inv σ) (h0 : 0 ≤ n) (hn : n < σ.next) (hs : ¬ seenB σ n) (hW : WinAdd σ.lower σ.received n lo' xs') (nd : xs'.Nodup) :
    Inv { σ with lower := lo', received := xs', queue := addR n (n + 1) σ.queue, come := insI n σ.come, greatest := max σ.greatest n, expected := max σ.greatest n + 1 } := by
  have hlo : ¬ n < σ.lower := fun q => hs (.inl (by rw [← V.lo]; exact q))
  unfold WinAdd at hW
  rw [if_neg hlo] at hW
  obtain ⟨e, h1, h2⟩ := hW
  obtain ⟨q1, q2, _⟩ := addR_ok (s := n) (e := n + 1) V.cq (by exact aL 0x10e04010)
  refine ⟨q1, fun x => ?_, nodup_insI V.nc, nd, V.na, ?_, fun j hj => ?_, fun j hj => ?_, rfl, fun j hj => ?_, ?_, ?_, V.k0, ?_, V.se, fun j hj => mem_insI.mpr (.inr (V.ac j hj)), fun f hf => (V.fr f hf).mono fun j hj => mem_insI.mpr (.inr hj)⟩
  · show Mem x (addR n (n + 1) σ.queue) ↔ x ∈ insI n σ.come
    rw [q2 x, V.mq x, mem_insI]
    constructor
    · rintro (h | h)
      · exact .inr h
      · exact .inl (by exact aL 0x10111010150e14103220 h.1 h.2)
    · rintro (rfl | h)
      · exact .inr (by exact aL 0x1110e040036010)
      · exact .inl h
  · show lo' = max 0 (max σ.greatest n - 127)
    have := V.lo
    exact aL 0x101000000101010101010000011011010101000000011101111000100000000011110100101000000011110100110000000111101001010000000111110001000000000111101001010000000111101001100000001111010010100000001111110001000000000111101001010000000111101001100000001111010010100000001111100010000000001111010010100000001111010011000000011110100101000000011111176051ff866a7630876374663566371ff85a33083371ff84a132137761ff866a376083666436653631ff85a33083611ff84a312363251051a180 e this (bX _ _) (bX _ _) (bX _ _) (bX _ _) (bV _ _) (bV _ _) (bV _ _) (bV _ _)
  · show j ∈ xs' ↔ j ∈ insI n σ.come
    have hj' : σ.lower ≤ j := by have : lo' ≤ j := hj; exact aL 0x11010123311ff84a31336203105350 e this (bX _ _)
    rw [h1 j hj, mem_insI, mem_insI, V.rc j hj']
  · rcases mem_insI.mp (h2 j hj) with rfl | h
    · exact mem_insI.mpr (.inl rfl)
    · exact mem_insI.mpr (.inr (V.rs j h))
  · show 0 ≤ j ∧ j ≤ max σ.greatest n
    rcases mem_insI.mp hj with rfl | h
    · exact aL 0x1010110012030083620321360083230 h0 (bX _ _)
    · have := V.cb j h; exact aL 0x101011100012030083623321361030083340 this.1 this.2 (bX _ _)
  · show -1 ≤ max σ.greatest n
    exact aL 0x1110218b320321360083230 h0 (bX _ _)
  · show max σ.greatest n < σ.next
    have := V.gn; exact aL 0x1101101111340332337124104340 hn this (bV _ _)
  · show σ.known ≤ max σ.greatest n
    have := V.kg; exact aL 0x11012032332136103240 this (bX _ _)
theorem nodup_len : ∀ {xs ys : List Int}, xs.Nodup → (∀ x ∈ xs, x ∈ ys) → xs.length ≤ ys.length
  | [], _, _, _ => Nat.zero_le _
  | x :: xs, ys, n, h => by
    rw [List.nodup_cons] at n
    have := nodup_len (ys := ys.erase x) n.2 fun y hy => (List.mem_erase_of_ne (by rintro rfl; exact n.1 hy)).mpr (h y (.tail _ hy))
    have h2 := List.length_erase_of_mem (h x (.head _))
    have h3 := List.length_pos_of_mem (h x (.head _))
    rw [List.length_cons]; exact aL 0x11011011101010130f01b32b30b1212100404 this h2 h3 (aS _ _)
/-- what a packet taken leaves as it was -/
structure Tk (σ σ' : WD) : Prop where
  nx : σ'.next = σ.next
  kn : σ'.known = σ.known
  se : σ'.sent = σ.sent
  fr : σ'.frames = σ.frames
  ac : σ'.acked = σ.acked
  le : σ'.come.length ≤ σ.come.length + 1
theorem Tk.refl (σ : WD) : Tk σ σ := ⟨rfl, rfl, rfl, rfl, rfl, by exact aL 0x10f00001⟩
theorem queue_len {rs : List (Int × Int)} {come : List Int} (h : Canon rs) (m : ∀ x, Mem x rs → x ∈ come) : rs.length ≤ come.length := by
  have key : ∀ rs : List (Int × Int), Canon rs → (rs.map (·.1)).Nodup ∧ ∀ x ∈ rs.map (·.1), Mem x rs := by
    intro rs
    induction rs with
    | nil => intro _; exact ⟨.nil, by simp⟩
    | cons r rs ih =>
      intro h
      obtain ⟨i1, i2⟩ := ih h.2.2
      refine ⟨List.nodup_cons.mpr ⟨fun hm => ?_, i1⟩, fun x hx => ?_⟩
      · obtain ⟨q, hq, e⟩ := List.mem_map.mp hm
        replace e : q.1 = r.1 := e
        have := h.2.1 q hq
        have := h.1
        exact aL 0x111d214024105330 e (by assumption) this
      · rcases List.mem_cons.mp hx with rfl | hx
        · exact mem_cons.mpr (.inl ⟨Int.le_refl _, h.1⟩)
        · exact mem_cons.mpr (.inr (i2 x hx))
  obtain ⟨k1, k2⟩ := key rs h
  have := nodup_len k1 fun x hx => m x (k2 x hx)
  simpa using this
end
end
end Mine
end
section
open PySem PySem.W PyProof.Rows PySem.Calls
set_option maxRecDepth 100000
set_option maxHeartbeats 4000000
namespace Mine
noncomputable section
section
variable {c : Cx} {S : St} {k : Nat}
theorem spec_take {a : Ad} {σ : WD} {n : Int} {Q : TV → St → Prop} (hw : Well c) (hr : Room c.A 5) (R : Rep S.H a σ) (V : Inv σ) (h0 : 0 ≤ n) (hn : n < σ.next) (hlen : σ.come.length ≤ 1000)
    (h : ∀ H' rs' σ', Rep H' { a with rs := rs' } σ' → Inv σ' → Tk σ σ' → Keep a.mut S.H H' → Mv S.H a { a with rs := rs' } → (∀ o, S.H a.ls = some o → H' a.ls = some o) → Q (.bool true) { S with H := H' }) : CALL c (.ref 444) [.ref a.sp, .ref a.wd, .int n] [] Q S := by
  refine call_p (k := 4) ["space", "world", "number"] hw hr rfl rfl rfl (w3 fun _ _ _ => rfl) rfl rfl rfl rfl rfl fun c' I => ?_
  have hwin : decide (n < σ.lower ∨ n ∈ σ.received) = decide (seenB σ n) := decide_eq_decide.mpr (V.win n)
  have hrl := Nat.le_trans (nodup_len V.nr V.rs) hlen
  refine px_cons <| px_assign_name <| pv_cmp <| lv I rfl rfl rfl <| lattr I rfl rfl rfl R.sp R.spd (a_201_received_packets _) rfl rfl <| inst_in I.w R.win.x R.win.d (sp_in _) (spec_contains I.w (I.r.le (by decide)) R.win <| t_bool <| sv I rfl ?_)
  rw [hwin]
  refine px_cons <| px_if <| pt_cmp <| lv I rfl rfl rfl <| gcall I rfl (g_L_seen _) rfl (kf_423 _) <| args_cons <| lv I rfl rfl rfl <| args_cons <| lv I rfl rfl rfl <| args_nil <| spec_seen I.w (I.r.le (by decide)) R <| b_ne <| t_bool <| dec_2 (fun q => absurd rfl q) fun q => px_nil ?_
  refine px_cons <| xe I rfl <| pv_mcall <| lattr I rfl rfl rfl R.sp R.spd (a_201_received_packets _) rfl rfl <| gm_inst I.w R.win.x R.win.d (m_179_add _) rfl <| callw_K I.w (kf_169 _) <| args_cons <| lv I rfl rfl rfl <| args_nil <| spec_winadd I.w (I.r.le (by decide)) R.win (by exact aL 0x117ebfb011fd8b00101 hrl) V.nr fun H1 rs' lo' xs' K1 n1 W1 nd1 A1 => ?_
  obtain ⟨R1, k1, v1⟩ := R.u1 K1 W1 n1
  refine px_cons <| px_if <| pt_not <| pt_plain <| lv I rfl rfl rfl <| t_bool ?_
  have g1 : ∀ o, S.H a.ls = some o → H1 a.ls = some o := fun o g => K1 _ _ (nm_cons (R.ne 6 3 rfl) (nm_cons (R.ne 6 4 rfl) nm_nil)) g
  by_cases q : seenB σ n
  · rw [decide_eq_true q]
    refine ite_f rfl <| px_nil <| px_cons <| px_return <| pv_bool <| h H1 rs' _ R1 (V.seen q A1 nd1) ⟨rfl, rfl, rfl, rfl, rfl, by simp⟩ k1 v1 g1
  · rw [decide_eq_false q]
    have VV := V.unseen h0 hn q A1 nd1
    refine ite_t rfl ?_
    refine px_cons <| xe I rfl <| pv_mcall <| lattr I rfl rfl rfl R1.sp R1.spd (a_201_ack_queue _) rfl rfl <| gm_inst I.w R1.q.x R1.q.d (m_146_add _) rfl <| callw_K I.w (kf_80 _) <| args_cons <| lv I rfl rfl rfl <| args_nil <| spec_add I.w (I.r.le (by decide)) R1.q (by have := queue_len V.cq fun x => (V.mq x).mp; show σ.queue.length ≤ _; exact aL 0x1112bca8b100101fd8b00202 hlen this) (show n < n + 1 by exact aL 0x10e04010) (.inr ⟨rfl, rfl⟩) (fun r hr => Int.le_of_lt (V.cq.low r hr)) fun H2 K2 Q2 => ?_
    obtain ⟨R2, k2⟩ := R1.u2 K2 Q2
    refine px_cons <| xe I rfl <| pv_mcall <| wsub I rfl rfl rfl R2.wd rfl <| gm_set_add R2.sc <| callw_bt <| args_cons <| lv I rfl rfl rfl <| args_nil <| call_setadd R2.sc (by show σ.come.length < 4000; exact aL 0x117ec8b011fd8b00101 hlen) ?_
    obtain ⟨R3, k3⟩ := R2.u3 (xs := insI n σ.come)
    show PX c' _ _ ⟨_, upd H2 a.sc (.iset (insI n σ.come)), ()⟩
    refine px_cons <| px_assign_sub <| pv_call <| bv I rfl (n_max _) b_max rfl rfl <| callw_bt <| args_cons <| wsub I rfl rfl rfl R3.wd rfl <| args_cons <| lv I rfl rfl rfl <| args_nil <| max2 I.hA <| lv I rfl rfl rfl <| pv_str <| sd (l' := [("next", .int σ.next), ("known", .int σ.known), ("sent", .ref a.ls), ("come", .ref a.sc), ("greatest", .int (max σ.greatest n)), ("frames", .ref a.lf), ("acked", .ref a.sa)]) R3.wd wdK rfl wdN rfl rfl ?_
    obtain ⟨R4, k4⟩ := R3.u4 (gr := max σ.greatest n) (kn := σ.known)
    show PX c' _ _ ⟨_, upd (upd H2 a.sc (.iset (insI n σ.come))) a.wd (wdD σ.next σ.known a.ls a.sc (max σ.greatest n) a.lf a.sa), ()⟩
    refine px_cons <| px_assign_attr <| pv_bin <| wsub I rfl rfl rfl R4.wd rfl <| pv_int <| i_add <| lv I rfl rfl rfl <| sa I R4.sp R4.spd (s_201_expected_packet_number _) rfl rfl <| px_nil ?_
    obtain ⟨R5, k5⟩ := R4.u5 (ex := max σ.greatest n + 1)
    have kk : Keep a.mut S.H (upd (upd (upd H2 a.sc (.iset (insI n σ.come))) a.wd (wdD σ.next σ.known a.ls a.sc (max σ.greatest n) a.lf a.sa)) a.spd (spD a.aq a.rp a.se (max σ.greatest n + 1))) := keepM k1 v1 (k2.trans (k3.trans (k4.trans k5)))
    exact px_cons <| px_return <| pv_bool <| h _ rs' _ R5 VV ⟨rfl, rfl, rfl, rfl, rfl, by show (insI n σ.come).length ≤ _; rw [len_insI]; split <;> (first | exact aL 0x10f00001 | exact aL 0x10f0f0001)⟩ kk v1 fun o g => (upd_ne (R4.ne 6 0 rfl)).trans ((upd_ne (R3.ne 6 5 rfl)).trans ((upd_ne (R2.ne 6 7 rfl)).trans (K2 _ _ (nm_cons (R1.ne 6 2 rfl) nm_nil) (g1 o g))))
end
end
end Mine
end
section
open PySem PySem.W PyProof.Rows PySem.Calls
set_option maxRecDepth 100000
set_option maxHeartbeats 4000000
namespace Mine
noncomputable section
section
variable {c : Cx} {S : St} {k : Nat}
theorem spec_get {a : Ad} {σ : WD} {pk : Addr} {p : Int × Int} {Q : TV → St → Prop} (hw : Well c) (hr : Room c.A 6) (R : Rep S.H a σ) (V : Inv σ) (hp : S.H pk = some (.tup [.int p.1, .int p.2])) (hm : p ∈ σ.sent) (hnx : σ.next ≤ 10000000) (hlen : σ.come.length ≤ 1000)
    (h : ∀ H' rs' σ', Rep H' { a with rs := rs' } σ' → Inv σ' → Tk σ σ' → Keep a.mut S.H H' → Mv S.H a { a with rs := rs' } → (∀ o, S.H a.ls = some o → H' a.ls = some o) → Q (.bool true) { S with H := H' }) : CALL c (.ref 451) [.ref a.sp, .ref a.wd, .ref pk] [] Q S := by
  refine call_p (k := 5) ["space", "world", "packet"] hw hr rfl rfl rfl (w3 fun _ _ _ => rfl) rfl rfl rfl rfl rfl fun c' I => ?_
  obtain ⟨n, b⟩ := p
  obtain ⟨s1, s2, s3, s4⟩ := V.se _ hm
  dsimp only at hp s1 s2 s3 s4
  have hg0 := V.g0
  have hgn := V.gn
  have hkg := V.kg
  have hex := V.ex
  obtain ⟨W, hW⟩ : ∃ W : Int, W = 2 ^ b.toNat := ⟨_, rfl⟩
  have hWv : W = 256 ∨ W = 65536 ∨ W = 16777216 := by
    rcases s3 with rfl | rfl | rfl
    · exact .inl hW
    · exact .inr (.inl hW)
    · exact .inr (.inr hW)
  obtain ⟨e, he⟩ : ∃ e, e = σ.greatest + 1 := ⟨_, rfl⟩
  have f1 : ∀ x : Int, x.fmod W = x % W := fun x => Int.fmod_eq_emod_of_nonneg _ (by exact aL 0x1101101101008318888888880528888880574888057110 hWv)
  refine px_cons <| px_assign_tup I.hA (lv I rfl rfl rfl ⟨pk, _, rfl, hp, rfl, order2 <| sv I rfl <| sv I rfl ?_⟩) asg2
  refine px_cons <| px_assign_name <| pv_bin <| pv_int <| lv I rfl rfl rfl <| i_shl (by exact aL 0x1101101101008338805288057188057110 s3) (by exact aL 0x10110110113ec998880338805288057188057110 s3) (by decide) ?_
  rw [Int.one_mul, ← hW]
  refine sv I rfl <| px_cons <| px_assign_name <| pv_bin <| wsub I rfl rfl rfl R.wd rfl <| pv_int <| i_add ?_
  rw [← he]
  refine sv I rfl <| px_cons <| px_assign_name <| pv_bin <| pv_bin <| lv I rfl rfl rfl <| lv I rfl rfl rfl <| i_sub <| lv I rfl rfl rfl <| i_mod (by exact aL 0x1100110011010805918888888880528888880574888057110 hWv) ?_
  rw [f1]
  refine sv I rfl ?_
  refine px_seq (fun S' => S'.H = S.H ∧ (S'.m.lookup (Str.ofString "space") = some (.ref a.sp) ∧ S'.m.lookup (Str.ofString "world") = some (.ref a.wd) ∧ S'.m.lookup (Str.ofString "number") = some (.int n) ∧ S'.m.lookup (Str.ofString "bits") = some (.int b) ∧
      S'.m.lookup (Str.ofString "window") = some (.int W) ∧ S'.m.lookup (Str.ofString "expected") = some (.int e)) ∧ S'.m.lookup (Str.ofString "due") = some (.int (if 2 * ((n - e) % W) ≤ W then e + (n - e) % W else e + (n - e) % W - W))) ?_ fun S' H0 => ?_
  · refine px_assign_name <| pv_ifexp <| pt_cmp <| pv_bin <| pv_int <| lv I rfl rfl rfl <| i_mul (.of_left (by decide)) <| lv I rfl rfl rfl <| i_le <| t_bool <| dec_2 (fun q => ?_) fun q => ?_
    · exact pv_bin <| lv I rfl rfl rfl <| lv I rfl rfl rfl <| i_add <| sv I rfl ⟨rfl, rfl, ⟨rfl, rfl, rfl, rfl, rfl, rfl⟩, by rw [if_pos q]; rfl⟩
    · exact pv_bin <| pv_bin <| lv I rfl rfl rfl <| lv I rfl rfl rfl <| i_add <| lv I rfl rfl rfl <| i_sub <| sv I rfl ⟨rfl, rfl, ⟨rfl, rfl, rfl, rfl, rfl, rfl⟩, by rw [if_neg q]; rfl⟩
  obtain ⟨eH, ⟨m1, m2, m3, m4, m5, m6⟩, m7⟩ := H0
  obtain ⟨m, H, _⟩ := S'
  dsimp only at eH m1 m2 m3 m4 m5 m6 m7
  subst eH
  refine px_seq (fun S' => S'.H = S.H ∧ (S'.m.lookup (Str.ofString "space") = some (.ref a.sp) ∧ S'.m.lookup (Str.ofString "world") = some (.ref a.wd) ∧ S'.m.lookup (Str.ofString "number") = some (.int n) ∧ S'.m.lookup (Str.ofString "bits") = some (.int b) ∧
      S'.m.lookup (Str.ofString "window") = some (.int W) ∧ S'.m.lookup (Str.ofString "expected") = some (.int e)) ∧ S'.m.lookup (Str.ofString "due") = some (.int (dueOf n W e))) ?_ fun S' H0 => ?_
  · refine px_if <| pt_cmp <| lv I rfl (by exact m7) rfl <| pv_int <| i_lt <| t_bool <| dec_2 (fun q => ?_) fun q => ?_
    · exact px_cons <| px_assign_name <| pv_bin <| lv I rfl (by exact m7) rfl <| lv I rfl (by exact m5) rfl <| i_add <| sv I rfl <| px_nil ⟨rfl, rfl, ⟨m1, m2, m3, m4, m5, m6⟩, by unfold dueOf; rw [if_pos q]; rfl⟩
    · exact px_nil ⟨rfl, rfl, ⟨m1, m2, m3, m4, m5, m6⟩, by unfold dueOf; rw [if_neg q]; exact m7⟩
  obtain ⟨eH, ⟨m1, m2, m3, m4, m5, m6⟩, m7⟩ := H0
  obtain ⟨m, H, _⟩ := S'
  dsimp only at eH m1 m2 m3 m4 m5 m6 m7
  subst eH
  have hdec : decodeRaw (n % W) b σ.expected = dueOf n W e := by rw [hex, ← he, hW]; exact decode_due s3 s1 (by exact aL 0x111010830e15018b3220 hg0 he) (by exact aL 0x111015fdbe8c888231e250144e99ba88803330 hnx hgn he)
  have hnear : e - n < W / 2 → dueOf n W e = n := fun q => due_near s1 (by exact aL 0x2121020201014283287647608364662c769566605a43e55245313210a2c36180 s4 hkg hW he q (aF 2 _ oY)) q (by rw [← hW] at s4; exact aL 0x12120342a2c41e45302a2c3103350 hkg s4 he)
  refine px_cons <| px_assign_name <| gcall I rfl (g_decode_packet_number _) rfl (kf_395 _) <| args_cons <| pv_bin <| lv I rfl (by exact m3) rfl <| lv I rfl (by exact m5) rfl <| i_mod (by exact aL 0x1100110011010805918888888880528888880574888057110 hWv) ?_
  rw [f1]
  refine args_cons <| lv I rfl (by exact m4) rfl <| args_cons <| lattr I rfl (by exact m1) rfl R.sp R.spd (a_201_expected_packet_number _) rfl rfl <| args_nil <| spec_decode I.w (I.r.le (by decide)) s3 ?_
  rw [hdec]
  generalize dueOf n W e = D at *
  refine sv I rfl ?_
  have hp : Builtin.divisionGoesByPylong W 2 = false := by rcases hWv with z | z | z <;> (rw [z]; rfl)
  have hdiv : W.fdiv 2 = W / 2 := Int.fdiv_eq_ediv_of_nonneg _ (by decide)
  refine px_cons <| px_ifj false ?_ (ite_f rfl <| px_nil ?_)
  · refine pt_or <| pt_cmp <| lv I rfl rfl rfl <| lv I rfl (by exact m7) rfl <| i_ne <| t_bool <| dec_2 (fun q => absurd rfl q) fun _ => pt_or <| pt_and <| pt_cmp <| pv_bin <| lv I rfl (by exact m6) rfl <| lv I rfl (by exact m3) rfl <| i_sub <| pv_bin <| lv I rfl (by exact m5) rfl <| pv_int <| i_div (by decide) hp <| i_lt <| t_bool <| dec_2 (fun q => ?_) fun q => ?_
    · rw [hdiv] at q
      have := hnear q
      exact pt_and <| pt_cmp <| lv I rfl rfl rfl <| lv I rfl (by exact m3) rfl <| i_ne <| t_bool <| dec_2 (fun z => absurd this z) fun z => ite_f rfl <| pt_or_nil ⟨rfl, rfl⟩
    · exact ite_f rfl <| pt_or_nil ⟨rfl, rfl⟩
  refine px_cons <| px_if <| pt_and <| pt_cmp <| lv I rfl rfl rfl <| lv I rfl (by exact m3) rfl <| i_eq <| t_bool <| dec_2 (fun q => ?_) fun q => ite_f rfl <| px_nil <| px_cons <| px_return <| gcall I rfl (g_L_window _) rfl (kf_430 _) <| args_cons <| lv I rfl (by exact m1) rfl <| args_cons <| lv I rfl (by exact m2) rfl <| args_cons <| lv I rfl (by exact m3) rfl <| args_nil <| spec_lwindow I.w (I.r.le (by decide)) R V.win fun H' k' => h H' a.rs σ (R.keep k') V (.refl σ) (k'.weaken (by simp)) .refl fun o g => k' _ _ nm_nil g
  refine pt_and <| pt_not <| pt_plain <| gcall I rfl (g_L_take _) rfl (kf_444 _) <| args_cons <| lv I rfl (by exact m1) rfl <| args_cons <| lv I rfl (by exact m2) rfl <| args_cons <| lv I rfl (by exact m3) rfl <| args_nil <| spec_take I.w I.r R V s1 s2 hlen fun H1 rs' σ' R1 V1 T1 k1 v1 g1 => t_bool <| ite_f rfl <| ite_f rfl <| px_nil ?_
  refine px_cons <| px_return <| gcall I rfl (g_L_window _) rfl (kf_430 _) <| args_cons <| lv I rfl (by exact m1) rfl <| args_cons <| lv I rfl (by exact m2) rfl <| args_cons <| lv I rfl (by exact m3) rfl <| args_nil <| spec_lwindow (a := { a with rs := rs' }) I.w (I.r.le (by decide)) R1 V1.win fun H' k' => h H' rs' σ' (R1.keep k') V1 T1 (k1.trans (k'.weaken (by simp))) v1 fun o g => k' _ _ nm_nil (g1 o g)
end
end
end Mine
end
section
open PySem PySem.W PyProof.Rows PySem.Calls
set_option maxRecDepth 100000
set_option maxHeartbeats 4000000
namespace Mine
noncomputable section
section
variable {c : Cx} {S : St} {k : Nat}
theorem iter_range (w : World) : ∃ oc od name params scope dV kV doc pm an cdv ct osl py p1 ap p2 yp ep fp, (KK w).lookup 136 = some ⟨oc, od, .func (fnOf name "RangeSet.__iter__" params (gloopBody "r" "self" "_ranges" py p1 ap p2 yp ep fp) scope dV kV doc pm an cdv ct), osl⟩ ∧ codeIn (KK w) cdv "RangeSet.__iter__" = true ∧
    (∀ v, bindArgs (fnOf name "RangeSet.__iter__" params (gloopBody "r" "self" "_ranges" py p1 ap p2 yp ep fp) scope dV kV doc pm an cdv ct) ⟨[v], []⟩ = pure [(Str.ofString "self", v)]) ∧ scope.names = [(Str.ofString "self", .local), (Str.ofString "r", .local)] ∧ scope.kind = .function ∧ scope.isCoroutine = false ∧ scope.isGenerator = true :=
  ⟨_, _, _, _, _, _, _, _, _, _, _, _, _, _, _, _, _, _, _, _, rfl, rfl, fun _ => rfl, rfl, rfl, rfl, rfl⟩
theorem steps_rset {x : Str} {px : Pos} {X d l : Addr} {as : List Addr} {J : Nat → St → Prop} (hw : Well c) (hr : Room c.A 1) (hx : S.H X = some (.inst 146 d)) (hd : S.H d = some (.dict [("_ranges", .ref l)]))
    (hJ : ∀ k S, J k S → S.H X = some (.inst 146 d) ∧ S.H d = some (.dict [("_ranges", .ref l)]) ∧ S.H l = some (.list (as.map TV.ref))) :
    StepsC c (.Name x px) (.ref X) (as.map TV.ref).length (fun k => .one ((as.map TV.ref).getD k .none)) J S S := by
  obtain ⟨oc, od, name, params, scope, dV, kV, doc, pm, an, cdv, ct, osl, py, p1, ap, p2, yp, ep, fp, h1, h2, h3, h4, h5, h6, h7⟩ := iter_range c.w
  obtain ⟨b1, b2⟩ := specB_of (sp_iter c.w)
  refine steps_gen hw hr h1 h2 h3 (by rw [h4]; rfl) (by rw [h4]; rfl) h5 h6 h7 (by rw [h4]; decide) (fun L => by show scope.names.lookup _ = _; rw [h4]; rfl) (fun L => by show scope.names.lookup _ = _; rw [h4]; rfl) rfl rfl (fun L => by unfold interactive envOf; rw [h5]; rfl) hx b1 b2 (a_146_ranges _) hd rfl hJ
theorem comp_pairs {X d l : Addr} {rs : List (Int × Int)} {iter : Expr} {scope : Scope} {p1 p2 p3 p4 p5 p6 p7 : Pos} {kk : Nat} {Q : TV → St → Prop} (hw : Well c) (hr : Room c.A 1) (hn : scope.names = [(Str.ofString ".0", .local), (Str.ofString "r", .local)]) (hk : scope.kind = .function) (hf : ∀ v, foldedSetIterable iter c.env v = pure v)
    (h : PV c (eval iter c.env) (fun v S₀ => v = .ref X ∧ S₀ = S) S) (R : RSet S.H X d l rs) (hlen : rs.length ≤ 10000) (hQ : ∀ l2 H', S.H l2 = none → Keep [] S.H H' → PairsAt H' l2 rs → Q (.ref l2) { S with H := H' }) :
    PV c (eval (.ListComp (.Tuple [.Attribute (.Name "r" p1) "start" p2, .Attribute (.Name "r" p3) "stop" p4] kk p5) [⟨.Name "r" p6, iter, [], 0⟩] scope p7) c.env) Q S := by
  obtain ⟨as, la, ra⟩ := R.l
  have hal := ra.len
  refine pv_lcomp hw hr.handled (by rw [hn]; decide) (by rw [hn]; decide) hk (by rw [hn]; decide) (pw_mono h fun v S₀ ⟨e1, e2⟩ => ?_) hf
  replace e2 := e2.symm
  subst e2
  rw [e1]
  refine ⟨(as.map TV.ref).length, _, fun k S₂ => Keep [] S.H S₂.H, S, steps_rset hw hr R.x R.d fun k S' K => ⟨K _ _ nm_nil R.x, K _ _ nm_nil R.d, K _ _ nm_nil la⟩, fun acc hacc => ⟨fun k S₂ => Keep [] S.H S₂.H ∧ k ≤ as.length ∧ ∃ bs : List Addr, S₂.H acc = some (.list (bs.map TV.ref)) ∧ All2 (IsPair S₂.H) bs (rs.take k), fun k S₂ J => J.1, ⟨Keep.refl.step (.inr hacc), Nat.zero_le _, [], upd_self _ _ _, trivial⟩, fun k S₂ L b hk' ⟨K, hkl, bs, h1, h2⟩ hW => ?_, fun S₂ ⟨K, hkl, bs, h1, h2⟩ => ?_⟩⟩
  · obtain ⟨m, H, _⟩ := S₂
    dsimp only at K h1 h2
    have hk2 : k < as.length := by simpa using hk'
    obtain ⟨r, hr1⟩ : ∃ r, rs[k]? = some r := ⟨rs[k]'(by exact aL 0x1011121021102203 hal hk2), List.getElem?_eq_getElem _⟩
    obtain ⟨ak, ha1, rr⟩ := ra.get k hr1
    obtain ⟨dk, g1, g2⟩ := rr.keep K
    rw [map_getD ha1]
    have kd : ({ c with env := compEnv c.env scope [] L, base := b } : Cx).env.kindOf (Str.ofString "r") = some .local := by show scope.names.lookup _ = _; rw [hn]; rfl
    refine pw_store hW ?_ kd
    refine pv_tuple <| args_cons <| pv_attr <| pv_local hW rfl (ga_own hW g1 g2 (a_52_start _) rfl (by simp) <| args_cons <| pv_attr <| pv_local hW rfl (ga_own hW g1 g2 (a_52_stop _) rfl (by simp) <| args_nil <| nt (sl_le (Nat.le_of_ble_eq_true rfl)) fun t ht => ?_) kd rfl) kd rfl
    have nat : acc ≠ t := nf ht h1
    refine ⟨bs.map TV.ref, (upd_ne nat).trans h1, sl_le (by have := h2.len; simp at this ⊢; exact aL 0x11011038bac8b1002032062122bca8b00304 hlen this (aN _ _)), (K.step (.inr (keepN K ht))).step (.inr hacc), hk2, bs ++ [t], by rw [List.map_append]; exact upd_self _ _ _, ?_⟩
    obtain ⟨p1, p2⟩ := pair_new (r := r) (ys := bs.map TV.ref ++ [TV.ref t]) ht h1 h2
    rw [List.take_add_one, hr1]
    exact All2.app (.cons p2 (show All2 _ [] [] from trivial)) p1
  · rw [List.length_map, hal, List.take_length] at h2
    exact hQ acc S₂.H hacc K ⟨bs, h1, h2⟩
end
end
end Mine
end
section
open PySem PySem.W PyProof.Rows PySem.Calls
set_option maxRecDepth 100000
set_option maxHeartbeats 4000000
namespace Mine
noncomputable section
section
variable {c : Cx} {S : St} {k : Nat}
theorem Rep.u7 {H : HM} {a : Ad} {σ : WD} {t : Addr} {f : List UInt8 × List (Int × Int) × Int} {fs : List Addr} (R : Rep H a σ) (hl : H a.lf = some (.list (fs.map TV.ref))) (hfs : All2 (FrameAt H [a.ls, a.lf, a.ql]) fs σ.frames) (hf : FrameAt H [a.ls, a.lf, a.ql] t f) :
    Rep (upd H a.lf (.list (fs.map TV.ref ++ [.ref t]))) a { σ with frames := σ.frames ++ [f] } ∧ Keep a.mut H (upd H a.lf (.list (fs.map TV.ref ++ [.ref t]))) := by
  have hF := sub1 (a := a) (mem_i 8 (by decide))
  have k : Keep [a.lf] H (upd H a.lf (.list (fs.map TV.ref ++ [.ref t]))) := Keep.refl.step (.inl (.head _))
  exact ⟨R.move (ls' := a.ls) (rs' := a.rs) k hF (k _ _ (nm_cons (R.ne 0 8 rfl) nm_nil) R.spd) (R.qk k hF (nm_cons (R.ne 1 8 rfl) nm_nil) (nm_cons (R.ne 2 8 rfl) nm_nil)) (R.wk k hF (nm_cons (R.ne 3 8 rfl) nm_nil) (nm_cons (R.ne 4 8 rfl) nm_nil))
    (k _ _ (nm_cons (R.ne 5 8 rfl) nm_nil) R.wd) (R.lk k hF (nm_cons (R.ne 6 8 rfl) nm_nil)) (k _ _ (nm_cons (R.ne 7 8 rfl) nm_nil) R.sc) (k _ _ (nm_cons (R.ne 9 8 rfl) nm_nil) R.sa)
    ⟨fs ++ [t], by rw [List.map_append]; exact upd_self _ _ _, All2.app (R := FrameAt _ _) (.cons (R.frames k hF hf) (show All2 _ [] [] from trivial)) (hfs.imp fun _ _ g => R.frames k hF g)⟩ (.inl rfl) (.inl rfl), kmut k hF⟩
theorem fits_pairs {H : HM} {l : Addr} {rs : List (Int × Int)} {xs : List TV} (P : PairsAt H l rs) (h : H l = some (.list xs)) : ∃ as : List Addr, xs = as.map TV.ref ∧ All2 (IsPair H) as rs := by
  obtain ⟨as, q1, q2⟩ := P
  rw [q1] at h; cases h
  exact ⟨as, rfl, q2⟩
theorem slice_tail {value slice : Expr} {l : Addr} {xs : List TV} {i : Int} {k : Nat} {Q : TV → St → Prop} (hi : i = k) (hk : k ≤ xs.length) (hl : S.H l = some (.list xs)) (hz : xs.length ≤ 100000) (h : ∀ a', S.H a' = none → Q (.ref a') { S with H := upd S.H a' (.list (xs.drop k)) })
    (hs' : ∀ x, subscripted slice false (.ref l) (.ref x) = operate [.ref x, .ref l] (getItem (.ref l) (.ref x)) := by intro _; with_unfolding_all rfl) : SLICE c value slice (.ref l) (some i) none Q S := by
  subst hi
  refine slice_list' (a := k) (b := xs.length) hl (sl_le hz) ?_ (List.take_of_length_le (by simp)) h hs'
  rw [kms_bounds]
  have e1 : kms_lo (some (k : Int)) xs.length = k := by
    show (if (k : Int) < 0 then xs.length - (-(k : Int)).toNat else min (k : Int).toNat xs.length) = k
    rw [if_neg (by exact aL 0x1080749001), Int.toNat_natCast]; exact aL 0x1001011001100011102221020071200206100303 hk (aN _ _) (aO _ _)
  have e2 : kms_hi none xs.length = xs.length := rfl
  rw [e1, e2]
theorem spec_write {a : Ad} {σ : WD} {cap : Nat} {Q : TV → St → Prop} (hw : Well c) (hr : Room c.A 6) (R : Rep S.H a σ) (V : Inv σ) (hne : σ.come ≠ []) (hc1 : 32 ≤ cap) (hc2 : cap ≤ 100000) (hlen : σ.come.length ≤ 1000) (hnx : σ.next ≤ 10000000) (hfl : σ.frames.length ≤ 1000)
    (h : ∀ H' f, Rep H' a { σ with frames := σ.frames ++ [f] } → Inv { σ with frames := σ.frames ++ [f] } → (16 * (σ.queue.length + 1) ≤ cap → f.2.1 = σ.queue) → Keep a.mut S.H H' → Q (.bool true) { S with H := H' }) : RCALL c (.ref 456) [.ref a.sp, .ref a.wd, .int cap] [] Q S := by
  refine rcall_p (k := 5) ["space", "world", "capacity"] hw hr rfl rfl rfl (w3 fun _ _ _ => rfl) rfl rfl rfl rfl rfl fun c' I => ?_
  have hql := queue_len V.cq fun x => (V.mq x).mp
  have hqne : σ.queue ≠ [] := fun e => by
    obtain ⟨j, hj⟩ := List.exists_mem_of_ne_nil _ hne
    exact mem_nil (e ▸ (V.mq j).mpr hj)
  refine rx_cons <| rx_of <| px_assign_name <| pv_call <| gv I rfl (g_L_runs _) rfl <| callw_K I.w (kf_416 _) <| args_cons <| pv_sub <| lv I rfl rfl rfl <| pv_str <| sub_dict R.wd rfl <| args_nil <| spec_runs I.w (I.r.le (by decide)) R.sc (by exact aL 0x117ec8b001fd8b00101 hlen) fun l H1 runs nl1 K1 P1 C1 M1 => sv I rfl ?_
  obtain rfl : runs = σ.queue := canon_eq C1 V.cq fun x => (M1 x).trans (V.mq x).symm
  have R1 := R.keep K1
  refine rx_cons <| rx_of <| px_if <| pt_cmp <| comp_pairs I.w (I.r.le (by decide)) rfl rfl (fun _ => rfl) (pv_attr <| lv I rfl rfl rfl <| ga I R1.sp R1.spd (a_201_ack_queue _) rfl (by simp) ⟨rfl, rfl⟩) R1.q (by exact aL 0x1112bca8b100101fd8b00202 hlen hql) fun l2 H2 nl2 K2 P2 => lv I rfl rfl rfl <| l_ne (by have := I.r.units; exact aL 0x111188b0c115b58d0c1102 this) P2 (P1.keep K2 .nil nm_nil) <| t_bool ?_
  rw [decide_eq_true rfl]
  refine ite_f rfl <| px_nil ?_
  have R2 := R1.keep K2
  refine rx_cons <| rx_assign_name <| rv_callkw <| gv I rfl (g_Buffer _) rfl <| rcallw_KW0 (names := ["capacity"]) I.w (kc_377 _) <| kws_cons' <| lv I rfl rfl rfl <| kws_nil' <| spec_buf (bs := List.replicate cap 0) I.w (I.r.le (by decide)) (.inl ⟨cap, by exact aL 0x107083001, by exact aL 0x1138bac8807338bac8b00101 hc2, rfl, by simp⟩) fun b bd o H3 nbd K3 B3 => sv I rfl ?_
  have R3 := R2.keep K3
  have qb : ∀ q ∈ σ.queue, 0 ≤ q.1 ∧ q.2 < 1000000000 := fun q hq => by
    have lt := V.cq.low q hq
    have m1 := (V.cb _ ((V.mq _).mp ⟨q, hq, Int.le_refl _, lt⟩)).1
    have m2 := (V.cb _ ((V.mq _).mp ⟨q, hq, show q.1 ≤ q.2 - 1 by exact aL 0x11181a03104120 lt, by exact aL 0x10180a4010⟩)).2
    have := V.gn
    exact aL 0x110111010017bcedcd888824108360343182a310834e99ba88803440 hnx m1 m2 this
  refine rx_cons <| rx_of <| px_assign_name <| pv_call <| gv I rfl (g_push_ack_frame _) rfl <| callw_K I.w (kf_409 _) <| args_cons <| lv I rfl rfl rfl <| args_cons (pv_attr <| lv I rfl rfl rfl <| ga I R3.sp R3.spd (a_201_ack_queue _) rfl (by simp) <| args_cons <| lv I rfl rfl rfl <| args_cons <| lv I rfl rfl rfl <| args_nil <| spec_pushframe I.w (I.r.le (by decide)) B3 R3.q V.cq hqne (fun q hq => (qb q hq).1) (fun q hq => (qb q hq).2) (by exact aL 0x11119e98b100101fd8b00202 hlen hql) hc1 hc2 fun H4 top downs n K4 n1 n2 e1 e2 F4 => sv I rfl ?_)
  have K24 : Keep [] H2 H4 := K3.over nbd K4
  have R4 := R2.keep K24
  obtain ⟨as, l1, l2'⟩ := P1.keep (K2.trans K24) .nil nm_nil
  have hal := l2'.len
  have hz : (as.map TV.ref).length ≤ 100000 := by simp; exact aL 0x1110138bac8b201220101fd8b00303 hlen hql hal
  refine rx_cons <| rx_of <| px_if <| pt_or <| pt_cmp <| lv I rfl rfl rfl <| pv_int <| i_lt <| t_bool <| dec_2 (fun q => absurd q (by exact aL 0x1118074901b0101 n1)) fun q => pt_or <| pt_cmp <| lv I rfl rfl rfl <| pv_call <| bv I rfl (n_len _) b_len rfl rfl <| callw_bt <| args_cons <| lv I rfl rfl rfl <| args_nil <| len_list l1 (sl_le hz) <| i_gt <| t_bool <| dec_2 (fun q => absurd q (by simp; exact aL 0x1110200122100203 n2 hal)) fun q => pt_or_nil <| ite_f rfl <| px_nil ?_
  obtain ⟨M, ⟨o4, rest, B4, hlr⟩, hsm⟩ := F4
  obtain ⟨fs, f1, f2⟩ := R4.lf
  refine rx_cons <| rx_of <| xe I rfl <| pv_mcall <| pv_sub <| lv I rfl rfl rfl <| pv_str <| sub_dict R4.wd rfl <| gm_append f1 <| callw_bt <| args_cons (pv_tuple <| args_cons (pv_attr <| lv I rfl rfl rfl <| ga_prop I.w B4.b B4.d (pr_data _) (spec_data (I.w.at _) (Room.le I.r.in1 (by decide)) B4 (by simp) (by simp; exact aL 0x110138bac8b21c0021c238bac8b00203 hc2 hlr) fun H5 K5 => ⟨by simp, ?_⟩)))
  rw [List.take_left' rfl]
  have hk : ((as.map TV.ref).length : Int) - n = ((as.length - n : Nat) : Int) := by simp; exact aL 0x100010100001111100110001011370727a5023b122100304 n2 hal (aS _ _)
  refine args_cons (pv_slice <| lv I rfl rfl rfl <| pa_some <| pv_bin <| pv_call <| bv I rfl (n_len _) b_len rfl rfl <| callw_bt <| args_cons <| lv I rfl rfl rfl <| args_nil <| len_list (K5 _ _ nm_nil l1) (sl_le hz) <| lv I rfl rfl rfl <| i_sub ⟨_, rfl, pa_none <| slice_tail hk (by simp) (K5 _ _ nm_nil l1) hz fun sl hsl => ?_⟩)
  refine args_cons <| lv I rfl rfl rfl <| args_nil <| nt (sl_le (Nat.le_of_ble_eq_true rfl)) fun t ht => ?_
  have K6 := K5.step (a := sl) (o := .list ((as.map TV.ref).drop (as.length - n))) (.inr (keepN K5 hsl))
  have nst : sl ≠ t := nf ht (upd_self _ _ _)
  have K7 := K6.step (a := t) (o := .tup [.bytes (encL (frameF top downs cap)), .ref sl, .int cap]) (.inr (keepN K6 ht))
  have R7 := R4.keep K7
  have g1 := K7 _ _ nm_nil f1
  have hfz := f2.len
  refine args_nil <| call_append' g1 (sl_le (by simp; exact aL 0x110138bac8b100121fd8b00202 hfl hfz)) ?_
  have hqd : σ.queue.drop (as.length - n) = σ.queue.drop (σ.queue.length - n) := by rw [hal]
  have hpair : PairsAt (upd (upd H5 sl (.list ((as.map TV.ref).drop (as.length - n)))) t (.tup [.bytes (encL (frameF top downs cap)), .ref sl, .int cap])) sl (σ.queue.drop (σ.queue.length - n)) :=
    ⟨as.drop (as.length - n), by rw [List.map_drop]; exact (upd_ne nst).trans (upd_self _ _ _), hqd ▸ ((l2'.drop (as.length - n)).imp fun _ _ q => K7 _ _ nm_nil q)⟩
  have hX : sl ∉ [a.ls, a.lf, a.ql] := by
    obtain ⟨ps, p1, _⟩ := R4.ls
    obtain ⟨qs, q1, _⟩ := R4.q.l
    exact nm_cons (Ne.symm (nf hsl (K5 _ _ nm_nil p1))) (nm_cons (Ne.symm (nf hsl (K5 _ _ nm_nil f1))) (nm_cons (Ne.symm (nf hsl (K5 _ _ nm_nil q1))) nm_nil))
  obtain ⟨R8, k8⟩ := R7.u7 (t := t) (f := (encL (frameF top downs cap), σ.queue.drop (σ.queue.length - n), (cap : Int))) g1 (f2.imp fun _ _ g => g.keep K7 .nil fun _ h => nomatch h) ⟨sl, upd_self _ _ _, hpair, hX⟩
  refine rx_of <| px_cons <| px_return <| pv_bool <| h _ _ R8 ?_ (fun z => ?_) ((((K1.trans K2).trans K24).trans K7 |>.weaken (by simp)).trans k8)
  · have hfr : ∀ f ∈ σ.frames ++ [(encL (frameF top downs cap), σ.queue.drop (σ.queue.length - n), (cap : Int))], FrOk σ.come f := by
      intro f hf
      rcases List.mem_append.mp hf with hf | hf
      · exact V.fr f hf
      · rw [List.mem_singleton] at hf
        subst hf
        have hcd : Canon (σ.queue.drop (σ.queue.length - n)) := by
          have := V.cq
          rw [← List.take_append_drop (σ.queue.length - n) σ.queue] at this
          exact (canon_app.mp this).2.1
        have hdl : downs.length + 1 = n := by
          have := congrArg List.length e1
          simp at this
          exact aL 0x11000110000000100011000010110111011100101010101001134f2210b312b04f2130210c505 (aS _ _) n2 this (aS _ _) (aS _ _)
        exact ⟨top, downs, e1.symm, rfl, hcd, fun x ⟨q, hq, z1⟩ => (V.mq x).mp ⟨q, List.mem_of_mem_drop hq, z1⟩, by show (0 : Int) ≤ cap; exact aL 0x107083001, by show (cap : Int) ≤ 100000; exact aL 0x1138bac8807338bac8b00101 hc2, by show (encL _).length ≤ _; exact aL 0x110138bac8b10021c238bac8b00203 hc2 hlr, by exact aL 0x11110129cd8b3023f21200101fd8b00404 hlen hql n2 hdl⟩
    exact { V with fr := hfr }
  · rw [e2 z, Nat.sub_self]; rfl
end
end
end Mine
end
section
open PySem PySem.W PyProof.Rows PySem.Calls
set_option maxRecDepth 100000
set_option maxHeartbeats 4000000
namespace Mine
noncomputable section
section
variable {c : Cx} {S : St} {k : Nat}
theorem rcallw_K1' {a : Addr} {e : Expr} {Q : TV → St → Prop} (hw : Well c) (hk : keepIn (KK c.w) (.ref a) = true)
    (h : RV c (eval e c.env) (fun v S₁ => RCALL c (.ref a) [v] [] Q S₁) S)
    (hn : ∀ pos, backTo pos (starEach [e] c.env) = [(false, eval e c.env)] := by intro _; rfl) : RCALLW c (.ref a) [] [e] [] Q S := by
  intro pos vf vfirst hf hfi s hs
  cases er_ref hf
  cases (List.map_eq_nil_iff.mp hfi)
  show wC _ _ (callWith pos (.ref a) [] (backTo pos (starEach [e] c.env)) []) _ s
  rw [hn]
  refine wC_callWith (P := fun h => (KK c.w).In h) rfl (fun h X => keeps_K hk h X) ?_
  refine wC_args1 (r1 h hs fun v S₁ s₁ hs₁ q => ⟨hw.Kin hs₁, ?_⟩)
  exact rcode_call (q _ [v] [] rfl rfl rfl) s₁ hs₁
/-- what the reader holds beside the world -/
structure Side (H : HM) (x d l lr : Addr) (as : List Addr) (runs : List (Int × Int)) : Prop where
  x : H x = some (.inst 146 d)
  d : H d = some (.dict [("_ranges", .ref l)])
  l : H l = some (.list (as.map TV.ref))
  A : All2 (RangeAt H) as runs
  p : PairsAt H lr runs
theorem Side.keep {H H' : HM} {x d l lr : Addr} {as : List Addr} {runs : List (Int × Int)} (h : Side H x d l lr as runs) (k : Keep [] H H') : Side H' x d l lr as runs :=
  ⟨k _ _ nm_nil h.x, k _ _ nm_nil h.d, k _ _ nm_nil h.l, h.A.imp fun _ _ q => q.keep k, h.p.keep k .nil nm_nil⟩
theorem Side.add {H : HM} {x d l lr z : Addr} {as : List Addr} {runs : List (Int × Int)} {xs ys : List Int} (h : Side H x d l lr as runs) (hz : H z = some (.iset xs)) : Side (upd H z (.iset ys)) x d l lr as runs := by
  obtain ⟨h1, h2, h3, h4, ps, h5, h6⟩ := h
  exact ⟨(upd_ne (nk hz h1 (by simp))).trans h1, (upd_ne (nk hz h2 (by simp))).trans h2, (upd_ne (nk hz h3 (by simp))).trans h3, h4.imp fun _ _ ⟨rd, q1, q2⟩ => ⟨rd, (upd_ne (nk hz q1 (by simp))).trans q1, (upd_ne (nk hz q2 (by simp))).trans q2⟩,
    ps, (upd_ne (nk hz h5 (by simp))).trans h5, h6.imp fun _ _ q => (upd_ne (nk hz q (by simp))).trans q⟩
structure RdJ (S : St) (H₀ : HM) (a : Ad) (σ : WD) (x d l lr : Addr) (as : List Addr) (runs : List (Int × Int)) (P : Int → Prop) (ac : List Int) : Prop where
  m1 : S.m.lookup (Str.ofString "world") = some (.ref a.wd)
  m2 : S.m.lookup (Str.ofString "runs") = some (.ref lr)
  R : Rep S.H a { σ with acked := ac }
  K : Keep a.mut H₀ S.H
  z : Side S.H x d l lr as runs
  nd : ac.Nodup
  mem : ∀ j, j ∈ ac ↔ P j
theorem spec_read {a : Ad} {σ : WD} {fa : Addr} {f : List UInt8 × List (Int × Int) × Int} {Q : TV → St → Prop} (hw : Well c) (hr : Room c.A 6) (R : Rep S.H a σ) (V : Inv σ) (hf : FrameAt S.H [a.ls, a.lf, a.ql] fa f) (hm : f ∈ σ.frames) (hlen : σ.come.length ≤ 1000) (hnx : σ.next ≤ 10000000)
    (h : ∀ H' ac kn, Rep H' a { σ with acked := ac, known := kn } → Inv { σ with acked := ac, known := kn } → (∀ j, j ∈ ac ↔ j ∈ σ.acked ∨ Mem j f.2.1) → Keep a.mut S.H H' → Q (.bool true) { S with H := H' }) : RCALL c (.ref 461) [.ref a.wd, .ref fa] [] Q S := by
  refine rcall_p (k := 5) ["world", "frame"] hw hr rfl rfl rfl (w2 fun _ _ => rfl) rfl rfl rfl rfl rfl fun c' I => ?_
  obtain ⟨lr, g1, g2, g3⟩ := hf
  obtain ⟨top, downs, e1, e2, e3, e4, e5, e6, e7, e8⟩ := V.fr f hm
  obtain ⟨oct, runs, late⟩ := f
  dsimp only at g1 g2 g3 e1 e2 e3 e4 e5 e6 e7 h
  have hin : ∀ r ∈ runs, r.1 < r.2 ∧ 0 ≤ r.1 ∧ r.2 < 1000000000 := fun r hr => by
    have lt := e3.low r hr
    have m1 := (V.cb _ (e4 _ ⟨r, hr, Int.le_refl _, lt⟩)).1
    have m2 := (V.cb _ (e4 _ ⟨r, hr, show r.1 ≤ r.2 - 1 by exact aL 0x11181a03104120 lt, by exact aL 0x10180a4010⟩)).2
    have := V.gn
    exact aL 0x11001110010010100017bcedcd8888241083621460343182a310832144e99ba88803540 hnx lt m1 m2 this
  have htop : top ∈ runs := by rw [e1]; simp
  obtain ⟨t1, t2, t3⟩ := hin top htop
  have hdesc : Desc top.1 downs := desc_of (e1 ▸ e3) fun q hq => (hin q (by rw [e1]; simp [hq])).2.1
  have hrl : runs.length = downs.length + 1 := by rw [e1]; simp
  refine rx_cons <| rx_of <| px_assign_tup I.hA (lv I rfl rfl rfl ⟨fa, _, rfl, g1, rfl, order3 <| sv I rfl <| sv I rfl <| sv I rfl ?_⟩) asg3
  refine rx_cons <| rx_assign_tup I.hA (rv_call <| gv I rfl (g_pull_ack_frame _) rfl <| rcallw_K1' I.w (kf_402 _) <| rv_callkw <| gv I rfl (g_Buffer _) rfl <| rcallw_KW0 (names := ["data"]) I.w (kc_377 _) <| kws_cons' <| lv I rfl rfl rfl <| kws_nil' <| spec_buf (bs := oct) I.w (I.r.le (by decide)) (.inr ⟨rfl, e7⟩) fun b bd o H1 nbd K1 B1 => rcall_of <| spec_pullframe I.w (I.r.le (by decide)) e2 B1 e7 t2 t1 t3 hdesc e5 (by exact aL 0x111888888888880438bac8803110 e6) e8 fun t x d l H2 K2 ht R2 => ⟨t, _, rfl, ht, rfl, order2 <| sv I rfl <| sv I rfl ?_⟩) asg2
  have K02 : Keep [] S.H H2 := K1.over nbd K2
  rw [← e1] at R2
  have P2 := g2.keep K02 .nil nm_nil
  have W2 := R.keep K02
  refine rx_cons <| rx_of <| px_if <| pt_or <| pt_cmp <| lv I rfl rfl rfl <| lv I rfl rfl rfl <| i_ne <| t_bool <| dec_2 (fun q => absurd rfl q) fun _ => pt_or <| pt_cmp <| comp_pairs I.w (I.r.le (by decide)) rfl rfl (fun _ => rfl) (lv I rfl rfl rfl ⟨rfl, rfl⟩) R2 (by exact aL 0x11012bca8b100f1229cd8b00202 e8 hrl) fun l2 H3 nl2 K3 P3 => lv I rfl rfl rfl <| l_ne (by have := I.r.units; exact aL 0x111188b0c115b58d0c1102 this) P3 (P2.keep K3 .nil nm_nil) <| t_bool ?_
  rw [decide_eq_true rfl]
  refine ite_f rfl <| pt_or_nil <| ite_f rfl <| px_nil ?_
  obtain ⟨as, l1, ra⟩ := (R2.keep K3).l
  have hal := ra.len
  have R3 := R2.keep K3
  have W3 := W2.keep K3
  have Z3 : Side H3 x d l lr as runs := ⟨R3.x, R3.d, l1, ra, P2.keep K3 .nil nm_nil⟩
  have K03 : Keep a.mut S.H H3 := (K02.trans K3).weaken (by simp)
  refine rx_cons <| rx_of <| px_for I.hA (lv I rfl rfl rfl ⟨(as.map TV.ref).length, _, fun k S₂ => ∃ ac, RdJ S₂ S.H a σ x d l lr as runs (fun j => j ∈ σ.acked ∨ Mem j (runs.take k)) ac, _, (steps_rset I.w (I.r.le (by decide)) R3.x R3.d fun k S' ⟨ac, J⟩ => ⟨J.z.x, J.z.d, J.z.l⟩).steps, ⟨σ.acked, rfl, rfl, W3, K03, Z3, V.na, fun j => by simp [mem_nil]⟩, fun k S₂ bb hk ⟨ac, P⟩ hW => ?_, fun S₂ ⟨ac, P⟩ => ?_⟩) I.w
  · have J := I.on (b := bb)
    obtain ⟨m, H, _⟩ := S₂
    obtain ⟨m1, m2, W, K, Z, nd, mem⟩ := P
    dsimp only at m1 m2 W K Z
    have hk2 : k < as.length := by simpa using hk
    obtain ⟨r, hr1⟩ : ∃ r, runs[k]? = some r := ⟨runs[k]'(by exact aL 0x1011121021102203 hal hk2), List.getElem?_eq_getElem _⟩
    obtain ⟨ak, ha1, rd, q1, q2⟩ := Z.A.get k hr1
    obtain ⟨b1, b2, b3⟩ := hin r (List.mem_of_getElem? hr1)
    rw [map_getD ha1]
    refine sv J rfl ?_
    refine px_cons <| px_for J.hA (pv_call <| bv J rfl (n_range _) b_range rfl rfl <| callw_ty <| args_cons <| pv_attr <| lv J rfl rfl rfl <| ga J q1 q2 (a_52_start _) rfl (by simp) <| args_cons <| pv_attr <| lv J rfl rfl rfl <| ga J q1 q2 (a_52_stop _) rfl (by simp) <| args_nil <| call_range2 fun ra hra => ⟨(r.2 - r.1).toNat, _, fun i S₃ => ∃ ac, RdJ S₃ S.H a σ x d l lr as runs (fun j => j ∈ σ.acked ∨ Mem j (runs.take k) ∨ (r.1 ≤ j ∧ j < r.1 + i)) ac, _, steps_range J.hA (upd_self _ _ _) (rng_small (by exact aL 0x1103debaeac8888b30083110 b2) (by exact aL 0x1113debaeac8888037bcedcd888814104220 b1 b3) (by exact aL 0x11113debaeac8888b30083104220 b1 b2) (by exact aL 0x113debaeac8888037bcedcd888804110 b3) (.inl rfl)) (rng_size (by exact aL 0x11103104120 b1)),
      ⟨ac, m1, m2, W.keep (Keep.refl.step (.inr hra)), ?_, Z.keep (Keep.refl.step (.inr hra)), nd, fun j => (mem j).trans (or_congr Iff.rfl ⟨.inl, fun q => q.elim id fun q => absurd q (by exact aL 0x110b7091410369020)⟩)⟩, fun i S₃ b3 hi ⟨ac3, P3⟩ hW3 => ?_, fun S₃ ⟨ac3, P3⟩ => px_nil ⟨ac3, P3.m1, P3.m2, P3.R, P3.K, P3.z, P3.nd, fun j => (P3.mem j).trans ?_⟩⟩) J.w
    · exact K.trans ((Keep.refl.step (.inr hra)).weaken (F := []) (by simp))
    · have J3 := J.on (b := b3)
      obtain ⟨m', H', _⟩ := S₃
      obtain ⟨m1, m2, W, K, Z, nd, mem⟩ := P3
      dsimp only at m1 m2 W K Z
      refine pw_store hW3 ?_ (J3.kd rfl)
      have hj : r.1 + (i : Int) * 1 ∈ σ.come := e4 _ ⟨r, List.mem_of_getElem? hr1, by exact aL 0x1107d0903011, by exact aL 0x1001110110107d1940810a30b12610a1757101222 hi (aT _)⟩
      have acl : ac3.length ≤ 1000 := Nat.le_trans (nodup_len nd fun j hj' => by
        rcases (mem j).mp hj' with q | ⟨q, hq, q'⟩ | q
        · exact V.ac j q
        · exact e4 j ⟨q, List.mem_of_mem_take hq, q'⟩
        · exact e4 j ⟨r, List.mem_of_getElem? hr1, by exact aL 0x11103103120 q.1, by exact aL 0x100011110112040812a30b12612a1757071904101332 hi q.2 (aT _)⟩) hlen
      refine px_cons <| px_if <| pt_cmp <| lv J3 rfl rfl rfl <| pv_sub <| lv J3 rfl (by exact m1) rfl <| pv_str <| sub_dict W.wd rfl <| set_notin W.sc <| t_bool ?_
      rw [decide_eq_true hj]
      refine ite_f rfl <| px_nil ?_
      refine px_cons <| xe J3 rfl <| pv_mcall <| pv_sub <| lv J3 rfl (by exact m1) rfl <| pv_str <| sub_dict W.wd rfl <| gm_set_add W.sa <| callw_bt <| args_cons <| lv J3 rfl rfl rfl <| args_nil <| call_setadd W.sa (Nat.lt_of_le_of_lt acl (by decide)) <| px_nil ?_
      obtain ⟨W', K'⟩ := W.u6 (xs := insI (r.1 + (i : Int) * 1) ac3)
      refine ⟨_, m1, m2, W', K.trans K', Z.add W.sa, nodup_insI nd, fun j => ?_⟩
      rw [mem_insI, mem j]
      constructor
      · rintro (rfl | q | q | q)
        · exact .inr (.inr (by exact aL 0x1110f709107d094107d09036011))
        · exact .inl q
        · exact .inr (.inl q)
        · exact .inr (.inr (by exact aL 0x10111010f709141036070914103221 q.1 q.2))
      · rintro (q | q | q)
        · exact .inr (.inl q)
        · exact .inr (.inr (.inl q))
        · by_cases z : j = r.1 + (i : Int) * 1
          · exact .inl z
          · exact .inr (.inr (.inr (by exact aL 0x1110011110010709141036107d091590f70914103321 q.1 q.2 z)))
    · rw [List.take_add_one, hr1]
      have : Mem j (runs.take k ++ (some r).toList) ↔ Mem j (runs.take k) ∨ (r.1 ≤ j ∧ j < r.1 + ((r.2 - r.1).toNat : Int)) := by
        rw [mem_app]
        have e : r.1 + ((r.2 - r.1).toNat : Int) = r.2 := by exact aL 0x10100100011101011070950801a30b02601a07570701a3104321 b1 (Int.self_le_toNat _) (aT _)
        rw [e]
        exact or_congr Iff.rfl ⟨fun ⟨q, hq, z⟩ => by simp at hq; rw [hq] at z; exact z, fun z => ⟨r, by simp, z⟩⟩
      rw [this]
  · obtain ⟨m, H, _⟩ := S₂
    obtain ⟨m1, m2, W, K, Z, nd, mem⟩ := P
    dsimp only at m1 m2 W K Z
    rw [List.length_map, hal] at mem
    simp only [List.take_length] at mem
    obtain ⟨ps, p1, p2⟩ := Z.p
    have er : runs = downs.reverse ++ [top] := by rw [e1]; simp
    rw [er] at p2
    obtain ⟨ps', pt, ep, A1, A2⟩ := all2_snoc p2
    have exs : ps.map TV.ref = ps'.map TV.ref ++ [.ref pt] := by rw [ep]; simp
    have hz : (ps.map TV.ref).length ≤ 100000 := by have := p2.len; simp at this ⊢; exact aL 0x110138bac8b100f1229cd8b00202 e8 this
    refine rx_cons <| rx_of <| px_assign_sub <| pv_call <| bv I rfl (n_max _) b_max rfl rfl <| callw_bt <| args_cons <| pv_sub <| lv I rfl (by exact m1) rfl <| pv_str <| sub_dict W.wd rfl <| args_cons <| pv_bin <| pv_sub <| pv_sub <| lv I rfl (by exact m2) rfl <| pv_un <| pv_int <| i_neg <| sub_end p1 exs hz <| pv_int <| sub_p1 A2 <| pv_int <| i_sub <| args_nil <| max2 I.hA <| lv I rfl (by exact m1) rfl <| pv_str <| sd (l' := [("next", .int σ.next), ("known", .int (max σ.known (top.2 - 1))), ("sent", .ref a.ls), ("come", .ref a.sc), ("greatest", .int σ.greatest), ("frames", .ref a.lf), ("acked", .ref a.sa)]) W.wd wdK rfl wdN rfl rfl ?_
    obtain ⟨W4, K4⟩ := W.u4 (gr := σ.greatest) (kn := max σ.known (top.2 - 1))
    have hkg : top.2 - 1 ≤ σ.greatest := (V.cb _ (e4 _ ⟨top, htop, show top.1 ≤ top.2 - 1 by exact aL 0x11181a03104120 t1, by exact aL 0x10180a4010⟩)).2
    refine rx_of <| px_cons <| px_return <| pv_bool <| h _ ac (max σ.known (top.2 - 1)) W4 ?_ mem (K.trans K4)
    have hk0 := V.k0
    have hkg' := V.kg
    refine { V with na := nd, k0 := ?_, kg := ?_, se := fun p hp => ?_, ac := fun j hj => ?_ }
    · show -1 ≤ max σ.known (top.2 - 1)
      exact aL 0x1101118b31182a31036018b3230 hk0 (bX _ _)
    · show max σ.known (top.2 - 1) ≤ σ.greatest
      exact aL 0x110110111133180a3323371231180a3340 hkg hkg' (bV _ _)
    · obtain ⟨s1, s2, s3, s4⟩ := V.se p hp
      exact ⟨s1, s2, s3, by show 2 * (p.1 - max σ.known (top.2 - 1)) ≤ _; exact aL 0x1102230a2c33184a33136210a2c3250 s4 (bX _ _)⟩
    · rcases (mem j).mp hj with q | q
      · exact V.ac j q
      · exact e4 j q
end
end
end Mine
end
section
open PySem PySem.W PyProof.Rows PySem.Calls
set_option maxRecDepth 100000
set_option maxHeartbeats 4000000
namespace Mine
noncomputable section
section
variable {c : Cx} {S : St} {k : Nat}
noncomputable def lawE := (by rfl : defOf PG PySem.Challenge.rw_ix0008_01.row.toRowW.name = some (_, _))
noncomputable def bodyOf {n : Str} {d : DefRec} {k : List (Str × Expr)} (_ : defOf PG n = some (d, k)) : List Stmt := d.body
noncomputable def scopeOf {n : Str} {d : DefRec} {k : List (Str × Expr)} (_ : defOf PG n = some (d, k)) : Scope := d.scope
noncomputable def lawBody : List Stmt := bodyOf lawE
noncomputable def lawScope : Scope := scopeOf lawE
/-! the script's list lies below the walk's own objects -/
theorem Sat.old {s : Shared} {l : Addr} {vs : Array Value} (hs : Sat c S s) (h : c.h₁.IsList l vs) : s.heap.IsList l vs := by
  obtain ⟨o, g, r⟩ := h
  obtain ⟨mm, F⟩ := hs.fr'
  exact ⟨o, F.keep _ _ g, r⟩
theorem ints_er {vs : List Value} {ns : List Int} (h : IntsAre vs ns) : vs.map er = ns.map TV.int := by
  induction h with
  | nil => rfl
  | cons n t h ih => rw [List.map_cons, List.map_cons, ih]; rfl
theorem t_old {l : Addr} {vs : Array Value} {Q : Bool → St → Prop} (hl : c.h₁.IsList l vs) (hz : vs.size ≤ 100000) (h : Q (!vs.isEmpty) S) : TRUTHY c (.ref l) Q S := by
  intro va ha s hs
  cases er_ref ha
  have z := sl_le hz
  rw [sizeLine_eq] at z
  exact wpAny_truthy_list (hs.old hl) (by exact aL 0x111888888888888888888888807438bac8b00101 hz) ⟨S, hs.tok _, h⟩
theorem slice_old {value slice : Expr} {l : Addr} {vs : Array Value} {ys : List TV} {lo hi : Option Int} {a b : Nat} {Q : TV → St → Prop} (hl : c.h₁.IsList l vs) (hz : vs.size ≤ 100000)
    (hb : sliceBounds lo hi none vs.size = ((a : Int), (b : Int), 1)) (hy : ((vs.toList.map er).drop a).take (b - a) = ys) (h : ∀ a', S.H a' = none → Q (.ref a') { S with H := upd S.H a' (.list ys) })
    (hs' : ∀ x, subscripted slice false (.ref l) (.ref x) = operate [.ref x, .ref l] (getItem (.ref l) (.ref x)) := by intro _; with_unfolding_all rfl) : SLICE c value slice (.ref l) lo hi Q S := by
  intro vo vl vu s ho pl pu hs
  cases er_ref ho
  have hL := hs.old hl
  have h1 : Sat c S { s with heap := s.heap.push { cls := .type "slice", data := .fields #[vl, vu, .none] } } := hs.ext (s' := { s with heap := s.heap.push _ }) (fun b o q => Heap.get?_push_of_some _ q) rfl rfl
  refine tail_any (Heap.IsList.typeIs (s := { s with heap := s.heap.push { cls := .type "slice", data := .fields #[vl, vu, .none] } }) (hL.push _)) list_getitem_lookup
    (wpAny_getItem_list_slice (s := { s with heap := s.heap.push { cls := .type "slice", data := .fields #[vl, vu, .none] } }) (hL.push _) (Heap.IsSliceOf.new ..) pl pu .none (by simp) ⟨_, h1.push (ao := .list ys) rfl ⟨slicePick vs lo hi none, 0, rfl, ?_⟩, ?_⟩ (sl_le hz)) (hs' _)
  · rw [kmk_pick_nat vs hb]
    simp only [List.map_take, List.map_drop, hy]
  · exact h _ h1.freshN
theorem slice_head {value slice : Expr} {l : Addr} {xs : List TV} {m : Nat} {Q : TV → St → Prop} (hm : m = xs.length - 58) (hl : S.H l = some (.list xs)) (hz : xs.length ≤ 100000) (h : ∀ a', S.H a' = none → Q (.ref a') { S with H := upd S.H a' (.list (xs.take m)) })
    (hs' : ∀ x, subscripted slice false (.ref l) (.ref x) = operate [.ref x, .ref l] (getItem (.ref l) (.ref x)) := by intro _; with_unfolding_all rfl) : SLICE c value slice (.ref l) none (some (-58)) Q S := by
  subst hm
  refine slice_list' (a := 0) (b := xs.length - 58) hl (sl_le hz) ?_ rfl h hs'
  rw [kms_bounds]
  rfl
/-! the world's own steps -/
theorem Rep.u8 {H : HM} {a : Ad} {σ : WD} {ls' : Addr} {as : List Addr} (R : Rep H a σ) (hn : H ls' = none) (hA : All2 (IsPair H) as σ.sent) (m : Nat) :
    Rep (upd (upd H ls' (.list ((as.take m).map TV.ref))) a.wd (wdD σ.next σ.known ls' a.sc σ.greatest a.lf a.sa)) { a with ls := ls' } { σ with sent := σ.sent.take m } ∧ Keep [a.wd] H (upd (upd H ls' (.list ((as.take m).map TV.ref))) a.wd (wdD σ.next σ.known ls' a.sc σ.greatest a.lf a.sa)) := by
  have hF := sub1 (a := a) (mem_i 5 (by decide))
  have k : Keep [a.wd] H (upd (upd H ls' (.list ((as.take m).map TV.ref))) a.wd (wdD σ.next σ.known ls' a.sc σ.greatest a.lf a.sa)) := (Keep.refl.step (.inr hn)).step (.inl (.head _))
  obtain ⟨fs, f1, f2⟩ := R.lf
  refine ⟨R.move (rs' := a.rs) k hF (k _ _ (nm_cons (R.ne 0 5 rfl) nm_nil) R.spd) (R.qk k hF (nm_cons (R.ne 1 5 rfl) nm_nil) (nm_cons (R.ne 2 5 rfl) nm_nil)) (R.wk k hF (nm_cons (R.ne 3 5 rfl) nm_nil) (nm_cons (R.ne 4 5 rfl) nm_nil))
    (upd_self _ _ _) ⟨as.take m, (upd_ne (nf hn R.wd).symm).trans (upd_self _ _ _), (hA.take m).imp fun _ _ g => R.frz k hF g (.inr (.inl ⟨_, rfl⟩))⟩ (k _ _ (nm_cons (R.ne 7 5 rfl) nm_nil) R.sc) (k _ _ (nm_cons (R.ne 9 5 rfl) nm_nil) R.sa)
    ⟨fs, k _ _ (nm_cons (R.ne 8 5 rfl) nm_nil) f1, f2.imp fun f q g => ?_⟩ (.inl rfl) (.inr hn), k⟩
  have gg := R.frames k hF g
  obtain ⟨l, g1, g2, g3⟩ := gg
  obtain ⟨l0, e1, ⟨b0, e2, _⟩, _⟩ := g
  have hl : l0 = l := by
    have := R.frz k hF e1 (.inr (.inl ⟨_, rfl⟩))
    rw [this] at g1; simp at g1; exact g1
  subst hl
  exact ⟨l0, g1, g2, nm_cons (nf hn e2) fun z => g3 (.tail _ z)⟩
theorem Inv.sent {σ : WD} {jump bits : Int} (V : Inv σ) (hj : 0 ≤ jump) (hb : bits = 8 ∨ bits = 16 ∨ bits = 24) (hs : 2 * (σ.next + jump - σ.known) ≤ 2 ^ bits.toNat) : Inv { σ with next := σ.next + jump + 1, sent := σ.sent ++ [(σ.next + jump, bits)] } := by
  have h0 := V.g0
  have h1 := V.gn
  refine { V with gn := ?_, se := fun p hp => ?_ }
  · show σ.greatest < σ.next + jump + 1
    exact aL 0x111029e142140083230 hj h1
  · rcases List.mem_append.mp hp with hp | hp
    · obtain ⟨s1, s2, s3⟩ := V.se p hp
      exact ⟨s1, by show p.1 < σ.next + jump + 1; exact aL 0x111029e142140083230 hj s2, s3⟩
    · rw [List.mem_singleton] at hp
      subst hp
      exact ⟨by show 0 ≤ σ.next + jump; exact aL 0x1111029083214118b30083330 hj h0 h1, by show σ.next + jump < σ.next + jump + 1; exact aL 0x1109e1094020, hb, hs⟩
theorem Inv.cut {σ : WD} (V : Inv σ) (m : Nat) : Inv { σ with sent := σ.sent.take m } := { V with se := fun p hp => V.se p (List.mem_of_mem_take hp) }
/-- between two deeds -/
structure LJ (S : St) (ns : List Int) (ln : Addr) (a : Ad) (σ : WD) (r : Int) (bs : Nat) (bc bn : Int) (bf : Nat) : Prop where
  m1 : S.m.lookup (Str.ofString "space") = some (.ref a.sp)
  m2 : S.m.lookup (Str.ofString "world") = some (.ref a.wd)
  m3 : S.m.lookup (Str.ofString "numbers") = some (.ref ln)
  m4 : S.m.lookup (Str.ofString "rows") = some (.int r)
  R : Rep S.H a σ
  V : Inv σ
  l : S.H ln = some (.list (ns.map TV.int))
  n : ln ∉ a.mut
  bs : σ.sent.length ≤ bs
  bc : (σ.come.length : Int) ≤ bc
  bn : σ.next ≤ bn
  bf : σ.frames.length ≤ bf
theorem jumps {mr : Int} (h0 : 0 ≤ mr) (h1 : mr ≤ 6) : ∃ j : Int, 0 ≤ j ∧ j ≤ 70000 ∧ [TV.int 0, .int 0, .int 1, .int 60, .int 299, .int 9000, .int 70000].getD mr.toNat .none = .int j := by
  have c0 := aC mr 0
  have c1 := aC mr 1
  have c2 := aC mr 2
  have c3 := aC mr 3
  have c4 := aC mr 4
  have c5 := aC mr 5
  have : mr = 0 ∨ mr = 1 ∨ mr = 2 ∨ mr = 3 ∨ mr = 4 ∨ mr = 5 ∨ mr = 6 := by omega
  rcases this with rfl | rfl | rfl | rfl | rfl | rfl | rfl
  · exact ⟨0, by decide, by decide, rfl⟩
  · exact ⟨0, by decide, by decide, rfl⟩
  · exact ⟨1, by decide, by decide, rfl⟩
  · exact ⟨60, by decide, by decide, rfl⟩
  · exact ⟨299, by decide, by decide, rfl⟩
  · exact ⟨9000, by decide, by decide, rfl⟩
  · exact ⟨70000, by decide, by decide, rfl⟩
end
end
end Mine
end
section
open PySem PySem.W PyProof.Rows PySem.Calls
set_option maxRecDepth 100000
set_option maxHeartbeats 4000000
namespace Mine
noncomputable section
section
variable {c : Cx} {S : St} {k : Nat}
theorem sub_listv {value slice : Expr} {l : Addr} {xs : List TV} {k : Int} {v : TV} {Q : TV → St → Prop} (hl : S.H l = some (.list xs)) (h0 : 0 ≤ k) (h1 : k < xs.length) (hz : xs.length ≤ 100000) (hv : xs.getD k.toNat .none = v) (h : Q v S)
    (hs' : ∀ t, subscripted slice false (.ref l) (.int k t) = operate [.ref l, .int k t] (getItem (.ref l) (.int k t)) := by intro _; with_unfolding_all rfl) : SUBSCR c value slice (.ref l) (.int k) Q S := by
  subst hv
  exact sub_list hl h0 h1 (sl_le hz) h hs'
theorem dp_shape {env : Env} {pos : Pos} : ∀ (ks values : List Expr), (evalEachOpt (ks.map some) env).zip ((evalEach values env).map fun v => do let x ← v; standAt pos; pure x) = (dpOf (ks.map some) values env pos).map fun p => (some p.1, p.2)
  | [], _ => rfl
  | k :: ks, [] => by simp [evalEach, dpOf]
  | k :: ks, v :: vs => by
    have := dp_shape (env := env) (pos := pos) ks vs
    simp only [dpOf] at this
    show (some (eval k env) :: evalEachOpt (ks.map some) env).zip ((eval v env :: evalEach vs env).map _) = _
    simp only [dpOf, List.map_cons, List.zip_cons_cons, List.filterMap_cons, id] 
    rw [this]
theorem swaps_dict {ks : List (Option Expr)} {vs : List Expr} {p : Pos} {t : Option Expr} {n : Nat} {env : Env} : swapsWith (.Dict ks vs p) t n env = pure false := rfl
noncomputable abbrev σ0 : WD := ⟨0, -1, -1, 0, 0, [], [], [], [], [], []⟩
theorem inv0 : Inv σ0 where
  cq := trivial
  mq := fun x => by simp [mem_nil]
  nc := .nil
  nr := .nil
  na := .nil
  lo := by decide
  rc := fun j _ => by simp
  rs := fun j h => by simp at h
  ex := rfl
  cb := fun j h => by simp at h
  g0 := by decide
  gn := by decide
  k0 := by decide
  kg := by decide
  se := fun p h => by simp at h
  ac := fun j h => by simp at h
  fr := fun f h => by simp at h
/-- a packet sent, between two deeds -/
theorem LJ.send {ns : List Int} {ln : Addr} {a : Ad} {σ : WD} {r : Int} {bs : Nat} {bc bn : Int} {bf : Nat} {jump : Int} {H' : HM} {bits : Int} {m : List (Str × TV)} (P : LJ ⟨m, S.H, ()⟩ ns ln a σ r bs bc bn bf) (hj : 0 ≤ jump)
    (R' : Rep H' a { σ with next := σ.next + jump + 1, sent := σ.sent ++ [(σ.next + jump, bits)] }) (K : Keep a.mut S.H H') (hb : bits = 8 ∨ bits = 16 ∨ bits = 24) (hs : 2 * (σ.next + jump - σ.known) ≤ 2 ^ bits.toNat) :
    LJ ⟨m, H', ()⟩ ns ln a { σ with next := σ.next + jump + 1, sent := σ.sent ++ [(σ.next + jump, bits)] } r (bs + 1) bc (bn + jump + 1) bf :=
  ⟨P.m1, P.m2, P.m3, P.m4, R', P.V.sent hj hb hs, K _ _ P.n P.l, P.n, by have := P.bs; simp; exact aL 0x11100100102 this, P.bc, by have := P.bn; show σ.next + jump + 1 ≤ _; exact aL 0x11219e209e3103130 this, P.bf⟩
theorem LJ.took {ns : List Int} {ln : Addr} {a : Ad} {σ σ' : WD} {r : Int} {bs : Nat} {bc bn : Int} {bf : Nat} {rs' : Addr} {H' : HM} {m : List (Str × TV)} (P : LJ ⟨m, S.H, ()⟩ ns ln a σ r bs bc bn bf)
    (R' : Rep H' { a with rs := rs' } σ') (V' : Inv σ') (T : Tk σ σ') (K : Keep a.mut S.H H') (M : Mv S.H a { a with rs := rs' }) : LJ ⟨m, H', ()⟩ ns ln { a with rs := rs' } σ' r bs (bc + 1) bn bf := by
  obtain ⟨g1, g2⟩ := out_step P.l P.n K M
  exact ⟨P.m1, P.m2, P.m3, P.m4, R', V', g1, g2, by rw [T.se]; exact P.bs, by have := T.le; have := P.bc; exact aL 0x1110e07301731f00212 (by assumption) this, by rw [T.nx]; exact P.bn, by rw [T.fr]; exact P.bf⟩
/-- the names alone have changed -/
theorem LJ.nm {ns : List Int} {ln : Addr} {a : Ad} {σ : WD} {r r' : Int} {bs : Nat} {bc bn : Int} {bf : Nat} {m m' : List (Str × TV)} {H : HM} (P : LJ ⟨m, H, ()⟩ ns ln a σ r bs bc bn bf) (e1 : m'.lookup (Str.ofString "space") = m.lookup (Str.ofString "space")) (e2 : m'.lookup (Str.ofString "world") = m.lookup (Str.ofString "world"))
    (e3 : m'.lookup (Str.ofString "numbers") = m.lookup (Str.ofString "numbers")) (e4 : m'.lookup (Str.ofString "rows") = some (.int r')) : LJ ⟨m', H, ()⟩ ns ln a σ r' bs bc bn bf :=
  ⟨e1.trans P.m1, e2.trans P.m2, e3.trans P.m3, e4, P.R, P.V, P.l, P.n, P.bs, P.bc, P.bn, P.bf⟩
theorem LJ.keep {ns : List Int} {ln : Addr} {a : Ad} {σ : WD} {r : Int} {bs : Nat} {bc bn : Int} {bf : Nat} {m : List (Str × TV)} {H H' : HM} (P : LJ ⟨m, H, ()⟩ ns ln a σ r bs bc bn bf) (k : Keep [] H H') : LJ ⟨m, H', ()⟩ ns ln a σ r bs bc bn bf :=
  ⟨P.m1, P.m2, P.m3, P.m4, P.R.keep k, P.V, k _ _ nm_nil P.l, P.n, P.bs, P.bc, P.bn, P.bf⟩
theorem LJ.mono {ns : List Int} {ln : Addr} {a : Ad} {σ : WD} {r : Int} {bs bs' : Nat} {bc bn bc' bn' : Int} {bf bf' : Nat} (P : LJ S ns ln a σ r bs bc bn bf) (h1 : bs ≤ bs') (h2 : bc ≤ bc') (h3 : bn ≤ bn') (h4 : bf ≤ bf') : LJ S ns ln a σ r bs' bc' bn' bf' :=
  ⟨P.m1, P.m2, P.m3, P.m4, P.R, P.V, P.l, P.n, Nat.le_trans P.bs h1, Int.le_trans P.bc h2, Int.le_trans P.bn h3, Nat.le_trans P.bf h4⟩
/-- the world at the start -/
theorem rep0 {H : HM} {d ls sc lf sa sp spd aq aqd ql rp rpd rs se : Addr} (h1 : H sp = some (.inst 201 spd)) (h2 : H spd = some (spD aq rp se 0)) (h3 : RSet H aq aqd ql []) (h4 : Win H rp rpd rs 0 [])
    (hd : H d = none) (hls : upd H d (.dict []) ls = none) (hsc : upd (upd H d (.dict [])) ls (.list []) sc = none) (hlf : upd (upd (upd H d (.dict [])) ls (.list [])) sc (.iset []) lf = none) (hsa : upd (upd (upd (upd H d (.dict [])) ls (.list [])) sc (.iset [])) lf (.list []) sa = none) :
    Rep (upd (upd (upd (upd (upd (upd H d (.dict [])) ls (.list [])) sc (.iset [])) lf (.list [])) sa (.iset [])) d (wdD 0 (-1) ls sc (-1) lf sa)) ⟨sp, spd, aq, aqd, ql, rp, rpd, rs, se, d, ls, sc, lf, sa⟩ σ0 ∧
    ∃ k : Keep [] H (upd (upd (upd (upd (upd (upd H d (.dict [])) ls (.list [])) sc (.iset [])) lf (.list [])) sa (.iset [])) d (wdD 0 (-1) ls sc (-1) lf sa)), True := by
  obtain ⟨x1, y1⟩ := upd_none hls
  obtain ⟨x2, y2⟩ := upd_none hsc
  obtain ⟨x3, y3⟩ := upd_none y2
  obtain ⟨x4, y4⟩ := upd_none hlf
  obtain ⟨x5, y5⟩ := upd_none y4
  obtain ⟨x6, y6⟩ := upd_none y5
  obtain ⟨x7, y7⟩ := upd_none hsa
  obtain ⟨x8, y8⟩ := upd_none y7
  obtain ⟨x9, y9⟩ := upd_none y8
  obtain ⟨x10, y10⟩ := upd_none y9
  have k : Keep [] H (upd (upd (upd (upd (upd (upd H d (.dict [])) ls (.list [])) sc (.iset [])) lf (.list [])) sa (.iset [])) d (wdD 0 (-1) ls sc (-1) lf sa)) :=
    (((((Keep.refl.step (.inr hd)).step (.inr y1)).step (.inr y3)).step (.inr y6)).step (.inr y10)).step (.inr hd)
  obtain ⟨qs, q1, _⟩ := h3.l
  refine ⟨⟨k _ _ nm_nil h1, k _ _ nm_nil h2, h3.keep k, h4.keep k, upd_self _ _ _, ⟨[], (by repeat (first | assumption | exact upd_self _ _ _ | refine (upd_ne (by first | assumption | exact Ne.symm (by assumption) | exact nf (by assumption) (by assumption))).trans ?_ | refine kp_get (by assumption) (by repeat (first | exact nm_nil | refine nm_cons (by first | assumption | exact Ne.symm (by assumption) | exact nf (by assumption) (by assumption)) ?_)) ?_)), trivial⟩, (by repeat (first | assumption | exact upd_self _ _ _ | refine (upd_ne (by first | assumption | exact Ne.symm (by assumption) | exact nf (by assumption) (by assumption))).trans ?_ | refine kp_get (by assumption) (by repeat (first | exact nm_nil | refine nm_cons (by first | assumption | exact Ne.symm (by assumption) | exact nf (by assumption) (by assumption)) ?_)) ?_)), (by repeat (first | assumption | exact upd_self _ _ _ | refine (upd_ne (by first | assumption | exact Ne.symm (by assumption) | exact nf (by assumption) (by assumption))).trans ?_ | refine kp_get (by assumption) (by repeat (first | exact nm_nil | refine nm_cons (by first | assumption | exact Ne.symm (by assumption) | exact nf (by assumption) (by assumption)) ?_)) ?_)), ⟨[], (by repeat (first | assumption | exact upd_self _ _ _ | refine (upd_ne (by first | assumption | exact Ne.symm (by assumption) | exact nf (by assumption) (by assumption))).trans ?_ | refine kp_get (by assumption) (by repeat (first | exact nm_nil | refine nm_cons (by first | assumption | exact Ne.symm (by assumption) | exact nf (by assumption) (by assumption)) ?_)) ?_)), trivial⟩, nf y3 h4.s, nf y10 h4.s, (by first | assumption | exact Ne.symm (by assumption) | exact nf (by assumption) (by assumption)), (by first | assumption | exact Ne.symm (by assumption) | exact nf (by assumption) (by assumption)), ?_, ?_⟩, k, trivial⟩
  · exact Ne.symm (nf y1 q1)
  · exact Ne.symm (nf y6 q1)
end
end
end Mine
end
section
open PySem PySem.W PyProof.Rows PySem.Calls
set_option maxRecDepth 100000
set_option maxHeartbeats 4000000
namespace Mine
noncomputable section
section
variable {c : Cx} {S : St} {k : Nat}
theorem spec_law {l : Addr} {vs : Array Value} {script : List Int} {Q : TF → St → Prop} (I : In c 6 lawScope) (hL : c.h₁.IsList l vs) (hv : vs.toList.map er = script.map TV.int) (hz : vs.size ≤ 63) (h : ∀ S', Q (.ret (.bool true)) S') :
    RX c (execs lawBody c.env) Q ⟨[((Str.ofString "script"), .ref l)], fun _ => none, ()⟩ := by
  unfold lawScope scopeOf at I
  dsimp only at I
  show RX c (execs lawBody c.env) Q _
  unfold lawBody bodyOf
  dsimp only
  have hsz : vs.size = script.length := by have := congrArg List.length hv; simpa using this
  refine rx_cons <| rx_of <| px_assign_name <| pv_call <| gv I rfl (g_QuicPacketSpace _) rfl <| callw_K0 I.w (kc_201 _) <| spec_space I.w (I.r.le (by decide)) fun sp spd aq aqd ql rp rpd rs se H1 h1 h2 h3 h4 K1 => sv I rfl ?_
  refine rx_cons ?_
  refine rx_of ?_
  refine px_assign_name (hw := ?hw) ?_
  case hw => exact swaps_dict
  refine pv_dict (hshape := ?hs) (h0 := ?h0) (hlen := ?hl) (fun _ _ => True) fun d hd => ?_
  case hs => exact dp_shape [_, _, _, _, _, _, _] _
  case h0 => exact List.cons_ne_nil _ _
  case hl => exact Nat.le_of_ble_eq_true rfl
  refine dp_cons <| pv_str <| pv_int <| dp_cons <| pv_str <| pv_un <| pv_int <| i_neg <| dp_cons <| pv_str <| pv_list <| args_nil <| nl (Nat.zero_le _) fun ls hls => dp_cons <| pv_str <| pv_call <| bv I rfl (n_set _) b_set rfl rfl <| callw_ty0 <| call_setnew fun sc hsc => dp_cons <| pv_str <| pv_un <| pv_int <| i_neg <| dp_cons <| pv_str <| pv_list <| args_nil <| nl (Nat.zero_le _) fun lf hlf => dp_cons <| pv_str <| pv_call <| bv I rfl (n_set _) b_set rfl rfl <| callw_ty0 <| call_setnew fun sa hsa => dp_nil ?_
  obtain ⟨R0, K2, _⟩ := rep0 h1 h2 h3 h4 hd hls hsc hlf hsa
  refine ⟨?_, [("next", .int 0), ("known", .int (-1)), ("sent", .ref ls), ("come", .ref sc), ("greatest", .int (-1)), ("frames", .ref lf), ("acked", .ref sa)], rfl, wdN, sv I rfl ?_⟩
  · obtain ⟨x1, y1⟩ := upd_none hls
    obtain ⟨x2, y2⟩ := upd_none hsc
    obtain ⟨x3, y3⟩ := upd_none y2
    obtain ⟨x4, y4⟩ := upd_none hlf
    obtain ⟨x5, y5⟩ := upd_none y4
    obtain ⟨x6, y6⟩ := upd_none y5
    obtain ⟨x7, y7⟩ := upd_none hsa
    obtain ⟨x8, y8⟩ := upd_none y7
    obtain ⟨x9, y9⟩ := upd_none y8
    obtain ⟨x10, y10⟩ := upd_none y9
    exact (by repeat (first | assumption | exact upd_self _ _ _ | refine (upd_ne (by first | assumption | exact Ne.symm (by assumption) | exact nf (by assumption) (by assumption))).trans ?_ | refine kp_get (by assumption) (by repeat (first | exact nm_nil | refine nm_cons (by first | assumption | exact Ne.symm (by assumption) | exact nf (by assumption) (by assumption)) ?_)) ?_))
  clear h1 h2 h3 h4
  show RX c _ Q ⟨[((Str.ofString "world"), .ref d), ((Str.ofString "space"), .ref sp), ((Str.ofString "script"), .ref l)], upd (upd (upd (upd (upd (upd H1 d (.dict [])) ls (.list [])) sc (.iset [])) lf (.list [])) sa (.iset [])) d (wdD 0 (-1) ls sc (-1) lf sa), ()⟩
  generalize upd (upd (upd (upd (upd (upd H1 d (.dict [])) ls (.list [])) sc (.iset [])) lf (.list [])) sa (.iset [])) d (wdD 0 (-1) ls sc (-1) lf sa) = H2 at R0 K2 ⊢
  clear hd hls hsc hlf hsa K1 K2 H1
  refine rx_seq (fun S' => ∃ ns : List Int, ∃ ln, 1 ≤ ns.length ∧ ns.length ≤ 40 ∧ H2 ln = none ∧ S'.H = upd H2 ln (.list (ns.map TV.int)) ∧ S'.m.lookup (Str.ofString "space") = some (.ref sp) ∧ S'.m.lookup (Str.ofString "world") = some (.ref d) ∧ S'.m.lookup (Str.ofString "numbers") = some (.ref ln)) (rx_of ?_) fun S' H0 => ?_
  · refine px_assign_name <| pv_ifexp <| pt_plain <| lv I rfl rfl rfl <| t_old hL (by exact aL 0x1138bac8b007fb00101 hz) ?_
    cases hvs : vs.isEmpty
    · refine ite_t rfl <| pv_slice <| lv I rfl rfl rfl <| pa_none <| pa_some <| pv_int ⟨_, rfl, slice_old (a := 0) (b := min 40 vs.size) (ys := (script.take (min 40 vs.size)).map TV.int) hL (by exact aL 0x1138bac8b007fb00101 hz) ?_ ?_ fun ln hln => sv I rfl ⟨rfl, script.take (min 40 vs.size), ln, ?_, ?_, hln, rfl, rfl, rfl, rfl⟩⟩
      · rw [kms_bounds]; rfl
      · rw [hv, List.drop_zero, Nat.sub_zero, List.map_take]
      · have : vs.size ≠ 0 := fun e => by rw [Array.isEmpty_iff_size_eq_zero.mpr e] at hvs; cases hvs
        rw [List.length_take]; exact aL 0x1001000110000000011100000111000000001111001101101000001101131b00b0293103207200258b0702058b2061027fb00604 hz hsz (aN _ _) (aO _ _) (aO _ _) this
      · rw [List.length_take]; exact aL 0x1010158b20320020610058b006204 (aN _ _) (aN _ _)
    · exact ite_f rfl <| pv_list <| args_cons <| pv_int <| args_nil <| nl (Nat.le_of_ble_eq_true rfl) fun ln hln => sv I rfl ⟨rfl, [0], ln, by decide, by decide, hln, rfl, rfl, rfl, rfl⟩
  obtain ⟨ns, ln, n1, n2, hln, eH, m1, m2, m3⟩ := H0
  obtain ⟨m, H, _⟩ := S'
  dsimp only at eH m1 m2 m3
  subst eH
  have hnl : (ns.map TV.int).length = ns.length := List.length_map _
  refine rx_cons <| rx_of <| px_assign_name <| pv_int <| sv I rfl ?_
  have P0 : LJ ⟨((Str.ofString "rows"), .int 0) :: m, upd H2 ln (.list (ns.map TV.int)), ()⟩ ns ln ⟨sp, spd, aq, aqd, ql, rp, rpd, rs, se, d, ls, sc, lf, sa⟩ σ0 0 0 0 0 0 :=
    ⟨m1, m2, m3, rfl, R0.keep (Keep.refl.step (.inr hln)), inv0, upd_self _ _ _, fun q => (by obtain ⟨o, g, _⟩ := R0.mutv ln q; rw [hln] at g; cases g), by simp, by simp, by simp, by simp⟩
  clear m1 m2 R0
  refine rx_cons <| rx_for I.hA (pv_call <| bv I rfl (n_range _) b_range rfl rfl <| callw_ty <| args_cons <| pv_int <| args_cons <| pv_call <| bv I rfl (n_len _) b_len rfl rfl <| callw_bt <| args_cons <| lv I rfl (by exact m3) rfl <| args_nil <| len_list (upd_self _ _ _) (sl_le (by exact aL 0x110138bac8b1001258b00202 n2 hnl)) <| args_cons <| pv_int <| args_nil <| call_range3 (by decide) rfl fun ra hra =>
    ⟨(ns.length + 1) / 2, _, fun k S₂ => ∃ a σ r, LJ S₂ ns ln a σ r (2 * k) (60 * r + k) (70001 * k) k ∧ 0 ≤ r ∧ r ≤ 6, _, steps_range I.hA (upd_self _ _ _) (rng_small (by decide) (by decide) (by simp <;> omega) (by simp <;> exact aL 0x113debaeac888807358b00101 n2) (.inr rfl)) ?size, ?init, fun k S₂ bb hk H0 hW => ?turn, fun S₂ H0 => ?fin⟩) I.w
  case size => rw [hnl]; exact rng_size2
  case init => exact ⟨_, _, 0, P0.keep (Keep.refl.step (.inr hra)), by decide, by decide⟩
  case turn =>
    obtain ⟨a, σ, r, P, r0, r6⟩ := H0
    have J := I.on (b := bb)
    obtain ⟨m, H, _⟩ := S₂
    have hkk : k < (ns.length + 1) / 2 := hk
    have hk2 : 2 * k < ns.length := by exact aL 0x1201202d112df2f02f12d06101203 hk (aD 2 _ oY)
    have hk20 : k < 20 := by exact aL 0x2112cb11012d158b00202 n2 hk2
    obtain ⟨n0, hn0⟩ : ∃ n0, ns[2 * k]? = some n0 := ⟨_, List.getElem?_eq_getElem hk2⟩
    have eg : (ns.map TV.int).getD (0 + (k : Int) * 2).toNat .none = .int n0 := by
      rw [show (0 + (k : Int) * 2).toNat = 2 * k from (Nat.zero_add _).trans (Nat.mul_comm _ _)]; exact map_int hn0
    obtain ⟨wh, hwh⟩ : ∃ wh : Int, 2 * k + 1 < ns.length → (ns.map TV.int).getD (0 + (k : Int) * 2 + 1).toNat .none = .int wh := by
      by_cases q : 2 * k + 1 < ns.length
      · exact ⟨ns[2 * k + 1], fun _ => by rw [show (0 + (k : Int) * 2 + 1).toNat = 2 * k + 1 from congrArg Nat.succ ((Nat.zero_add _).trans (Nat.mul_comm _ _))]; exact map_int (List.getElem?_eq_getElem q)⟩
      · exact ⟨0, fun z => absurd z q⟩
    have hz1 : (ns.map TV.int).length ≤ 100000 := by exact aL 0x110138bac8b1001258b00202 n2 hnl
    have PM := P.m3
    have PL := P.l
    dsimp only at PM PL
    refine sv J rfl ?_
    refine rx_cons <| rx_of <| px_assign_swap (hx := ?hx) (n1 := (Str.ofString "kind")) (n2 := (Str.ofString "more")) J.hA (pv_tuple <| args_cons <| pv_bin <| pv_sub <| lv J rfl (by exact PM) rfl <| lv J rfl rfl rfl <| sub_listv PL (by exact aL 0x1207d089083001) (by exact aL 0x110107227d0894122d1102203 hnl hk2) hz1 eg <| pv_int <| i_mod (by decide) <| args_cons <| pv_bin <| pv_bin <| pv_sub <| lv J rfl (by exact PM) rfl <| lv J rfl rfl rfl <| sub_listv PL (by exact aL 0x1207d089083001) (by exact aL 0x110107227d0894122d1102203 hnl hk2) hz1 eg <| pv_int <| i_div (by decide) rfl <| pv_int <| i_mod (by decide) <| args_nil <| nt (sl_le (Nat.le_of_ble_eq_true rfl)) fun t ht => ⟨t, _, _, rfl, upd_self _ _ _, sv J rfl <| sv J rfl ?_⟩)
    case hx =>
      have hs := J.s
      generalize (c.on bb).env = en at hs ⊢
      cases en
      subst hs
      rfl
    have P1 := P.keep (Keep.refl.step (.inr ht) (o := .tup [.int (n0.fmod 6), .int ((n0.fdiv 6).fmod 7)]))
    have PL1 := P1.l
    dsimp only at PL1
    have P4 := P.m4
    clear P PL
    obtain ⟨kd, hkd⟩ : ∃ kd, kd = n0.fmod 6 := ⟨_, rfl⟩
    obtain ⟨mr, hmr⟩ : ∃ mr, mr = (n0.fdiv 6).fmod 7 := ⟨_, rfl⟩
    have hm0 : 0 ≤ mr ∧ mr ≤ 6 := by
      rw [hmr, Int.fmod_eq_emod_of_nonneg _ (by decide)]
      exact aL 0x11000101001680300836780400836217c0956130 (aF 7 _ oY)
    rw [← hkd, ← hmr] at P1 PL1 ⊢
    refine rx_seq (fun S' => ∃ wh m', S' = ⟨m', upd H t (.tup [.int kd, .int mr]), ()⟩ ∧ LJ ⟨m', upd H t (.tup [.int kd, .int mr]), ()⟩ ns ln a σ r (2 * k) (60 * r + k) (70001 * k) k ∧ m'.lookup (Str.ofString "kind") = some (.int kd) ∧ m'.lookup (Str.ofString "more") = some (.int mr) ∧ m'.lookup (Str.ofString "where") = some (.int wh))
      (rx_of <| px_assign_name <| pv_ifexp <| pt_cmp <| pv_bin <| lv J rfl rfl rfl <| pv_int <| i_add <| pv_call <| bv J rfl (n_len _) b_len rfl rfl <| callw_bt <| args_cons <| lv J rfl (by exact PM) rfl <| args_nil <| len_list PL1 (sl_le hz1) <| i_lt <| t_bool <| dec_2 (fun q => pv_sub <| lv J rfl (by exact PM) rfl <| pv_bin <| lv J rfl rfl rfl <| pv_int <| i_add <| sub_listv PL1 (by exact aL 0x1207d089e083001) (by exact aL 0x1117207d089e417207d089e4102 q) hz1 (hwh (by exact aL 0x1011122df107227d089e4102203 hnl q)) <| sv J rfl ⟨rfl, wh, _, rfl, P1.nm rfl rfl rfl P4, rfl, rfl, rfl⟩) fun q => pv_int <| sv J rfl ⟨rfl, 0, _, rfl, P1.nm rfl rfl rfl P4, rfl, rfl, rfl⟩) fun S' H0 => ?_
    obtain ⟨wh, m', e, P2, mk, mm, mw⟩ := H0
    subst e
    clear P1 PL1 hwh eg hkd hmr P4
    generalize upd H t (.tup [.int kd, .int mr]) = H at P2 ⊢
    obtain ⟨m1, m2, m3', m4, R, V, hl, hn, b1, b2, b3, b4⟩ := id P2
    dsimp only at m1 m2 m3' m4 R hl
    refine rx_cons <| rx_of <| px_assign_name <| pv_bool <| sv J rfl ?_
    have P3 := P2.nm (m' := ((Str.ofString "right"), .bool true) :: m') rfl rfl rfl m4
    refine rx_seq (fun S' => ∃ a σ r', LJ S' ns ln a σ r' (2 * (k + 1)) (60 * r' + ((k + 1 : Nat) : Int)) (70001 * ((k + 1 : Nat) : Int)) (k + 1) ∧ 0 ≤ r' ∧ r' ≤ 6 ∧ S'.m.lookup (Str.ofString "right") = some (.bool true)) ?_ fun S' H0 => by
      obtain ⟨a', σ', r', P', q0, q6, mr'⟩ := H0
      exact rx_of <| px_cons <| px_if <| pt_not <| pt_plain <| lv J rfl (by exact mr') rfl <| t_bool <| ite_f rfl <| px_nil <| px_nil ⟨a', σ', r', P', q0, q6⟩
    -- a row of sixty
    refine rx_ifj (decide (kd = 1 ∧ mr = 6 ∧ r < 6)) ?_ ?_
    · refine pt_and <| pt_cmp <| lv J rfl (by exact mk) rfl <| pv_int <| i_eq <| t_bool <| dec_2 (fun c1 => pt_and <| pt_cmp <| lv J rfl (by exact mm) rfl <| pv_int <| i_eq <| t_bool <| dec_2 (fun c2 => pt_and <| pt_cmp <| lv J rfl (by exact m4) rfl <| pv_int <| i_lt <| t_bool <| dec_2 (fun c3 => pt_and_nil ⟨by simp [c1, c2, c3], rfl⟩) fun c3 => ⟨by simp [c3], rfl⟩) fun c2 => ⟨by simp [c2], rfl⟩) fun c1 => ⟨by simp [c1], rfl⟩
    by_cases cr : kd = 1 ∧ mr = 6 ∧ r < 6
    · rw [if_pos (decide_eq_true cr)]
      have hr6 := cr.2.2
      refine rx_of <| px_cons <| px_assign_name <| pv_bin <| lv J rfl (by exact m4) rfl <| pv_int <| i_add <| sv J rfl ?_
      refine px_cons <| px_for J.hA (pv_call <| bv J rfl (n_range _) b_range rfl rfl <| callw_ty <| args_cons <| pv_int <| args_nil <| call_range1 fun rb hrb => ⟨60, _, fun i S₃ => ∃ a σ, LJ S₃ ns ln a σ (r + 1) (2 * k + i) (60 * r + k + i) (70001 * k + i) k ∧ S₃.m.lookup (Str.ofString "right") = some (.bool true), _, steps_range J.hA (upd_self _ _ _) rfl rfl,
        ⟨a, σ, ((P3.nm (m' := ((Str.ofString "rows"), .int (r + 1)) :: ((Str.ofString "right"), .bool true) :: m') rfl rfl rfl rfl).keep (Keep.refl.step (.inr hrb))).mono (by exact aL 0x10b02dc02d0001) (by exact aL 0x10b70707cc990707cc93011) (by exact aL 0x10b707298de9c907298de9c3001) (by exact aL 0x1000001), rfl⟩, fun i S₃ b3 hi ⟨a, σ, P, mr'⟩ hW3 => ?_, fun S₃ ⟨a, σ, P, mr'⟩ => ?_⟩) J.w
      · have J3 := J.on (b := b3)
        obtain ⟨m, H, _⟩ := S₃
        obtain ⟨m1, m2, m3, m4, R, V, hl, hn, b1, b2, b3, b4⟩ := id P
        dsimp only at m1 m2 m3 m4 R hl mr'
        have hg0 := V.g0
        have hgn := V.gn
        have hk0 := V.k0
        refine pw_store hW3 ?_ (J3.kd rfl)
        refine px_cons <| xe J3 rfl <| pv_call <| gv J3 rfl (g_L_send _) rfl <| callw_K J3.w (kf_437 _) <| args_cons <| lv J3 rfl (by exact m2) rfl <| args_cons <| pv_int <| args_nil <| spec_send J3.w (J3.r.le (by decide)) R (by exact aL 0x1298de911148888888810809a3118b31707298de9c9037cb112cb01422 hk20 hi b3 hk0) (by exact aL 0x12111fd8b20102dc207cb112cb01303 hk20 hi b1) fun H' bits R' K' hb hs => ?_
        have P5 := (P.nm (m' := ((Str.ofString "turn"), .int (0 + (i : Int) * 1)) :: m) rfl rfl rfl m4).send (Int.le_refl 0) R' K' hb hs
        have V5 := P5.V
        have c5 := P5.bc
        have n5 := P5.bn
        obtain ⟨as, l1, l2⟩ := R'.ls
        obtain ⟨as', pt, ea, A1, A2⟩ := all2_snoc l2
        have exs : as.map TV.ref = as'.map TV.ref ++ [.ref pt] := by rw [ea]; simp
        have hzs : (as.map TV.ref).length ≤ 100000 := by have := l2.len; simp at this ⊢; exact aL 0x12110138bac8b302f32102dc207cb112cb01404 hk20 hi b1 this
        refine px_cons <| px_assign_name <| pv_and <| lv J3 rfl (by exact mr') rfl <| t_bool <| ite_t rfl <| pv_bool1 <| pv_call <| gv J3 rfl (g_L_take _) rfl <| callw_K J3.w (kf_444 _) <| args_cons <| lv J3 rfl (by exact m1) rfl <| args_cons <| lv J3 rfl (by exact m2) rfl <| args_cons <| pv_sub <| pv_sub <| pv_sub <| lv J3 rfl (by exact m2) rfl <| pv_str <| sub_dict R'.wd rfl <| pv_un <| pv_int <| i_neg <| sub_end l1 exs hzs <| pv_int <| sub_p0 A2 <| args_nil <| spec_take J3.w (J3.r.le (by decide)) R' V5 (by omega) (show σ.next + 0 < σ.next + 0 + 1 by exact aL 0x10809e08094010) (by show σ.come.length ≤ 1000; exact aL 0x117c111fd8b20170707cc992737cb1168042cb01413 hk20 cr.2.2 hi b2) fun H6 rs' σ' R6 V6 T6 K6 M6 g6 => sv J3 rfl <| px_nil ?_
        refine ⟨_, σ', ((P5.took (S := ⟨m, H', ()⟩) R6 V6 T6 K6 M6).nm (m' := ((Str.ofString "right"), .bool true) :: ((Str.ofString "turn"), .int (0 + (i : Int) * 1)) :: m) rfl rfl rfl m4).mono (by exact aL 0x11f02dc102dcf0002) (by exact aL 0x11f70707cc99170707cc99e3012) (by exact aL 0x11f707298de9c9081707298de9c99e3002) (by exact aL 0x1000001), rfl⟩
      · obtain ⟨m, H, _⟩ := S₃
        obtain ⟨m1, m2, m3, m4, R, V, hl, hn, b1, b2, b3, b4⟩ := id P
        dsimp only at m1 m2 m3 m4 R hl mr'
        obtain ⟨as, l1, l2⟩ := R.ls
        have hal := l2.len
        have hzs : (as.map TV.ref).length ≤ 100000 := by rw [List.length_map]; exact aL 0x1210138bac8b201227cb02dc102cb01303 hk20 b1 hal
        refine px_cons <| px_assign_sub <| pv_slice <| pv_sub <| lv J rfl (by exact m2) rfl <| pv_str <| sub_dict R.wd rfl <| pa_none <| pa_some <| pv_un <| pv_int <| i_neg ⟨_, rfl, slice_head rfl l1 hzs fun ls' hls' => ?_⟩
        rw [← List.map_take, List.length_map]
        obtain ⟨R7, K7⟩ := R.u8 hls' l2 (as.length - 58)
        refine lv J rfl (by exact m2) rfl <| pv_str <| sd (l' := [("next", .int σ.next), ("known", .int σ.known), ("sent", .ref ls'), ("come", .ref a.sc), ("greatest", .int σ.greatest), ("frames", .ref a.lf), ("acked", .ref a.sa)]) ((upd_ne (nf hls' R.wd)).trans R.wd) wdK rfl wdN rfl rfl <| px_nil ?_
        refine ⟨rfl, { a with ls := ls' }, { σ with sent := σ.sent.take (as.length - 58) }, r + 1, ⟨m1, m2, m3, m4, R7, V.cut _, K7 _ _ (nm_cons (nk R.wd hl (by simp)) nm_nil) hl, fun q => ?_, ?_, by show (σ.come.length : Int) ≤ _; exact aL 0x111f70e7cc90737cb71707cc99073112 b2, by show σ.next ≤ _; exact aL 0x110f7298de9c037cb707298de9c903111 b3, by show σ.frames.length ≤ _; exact aL 0x111f00100102 b4⟩, by exact aL 0x110e0830083110 r0, by exact aL 0x11680e36804110 cr.2.2, mr'⟩
        · simp only [Ad.mut, List.mem_cons, List.not_mem_nil, or_false] at q hn
          have := nf hls' hl
          grind
        · show (σ.sent.take (as.length - 58)).length ≤ _
          rw [List.length_take]; exact aL 0x100001011101011011f2d307ab24b03043060227cb12dc00405 b1 hal (aN _ _) (aS _ _)
    rw [if_neg (by simpa using cr)]
    clear cr
    -- a packet sent
    have hg0 := V.g0
    have hgn := V.gn
    have hk0 := V.k0
    refine rx_cons <| rx_ifj (decide (kd < 2)) (pt_cmp <| lv J rfl (by exact mk) rfl <| pv_int <| i_lt <| t_bool ⟨rfl, rfl⟩) ?_
    by_cases cs : kd < 2
    · rw [if_pos (decide_eq_true cs)]
      obtain ⟨j, j0, j1, hj⟩ := jumps hm0.1 hm0.2
      refine rx_of <| px_cons <| xe J rfl <| pv_call <| gv J rfl (g_L_send _) rfl <| callw_K J.w (kf_437 _) <| args_cons <| lv J rfl (by exact m2) rfl <| args_cons <| pv_sub <| pv_list <| args_cons <| pv_int <| args_cons <| pv_int <| args_cons <| pv_int <| args_cons <| pv_int <| args_cons <| pv_int <| args_cons <| pv_int <| args_cons <| pv_int <| args_nil <| nl (sl_le (Nat.le_of_ble_eq_true rfl)) fun lc hlc => lv J rfl (by exact mm) rfl <| sub_listv (upd_self _ _ _) hm0.1 (by show mr < 7; exact aL 0x1178046803110 hm0.2) (Nat.le_of_ble_eq_true rfl) hj <| args_nil <| spec_send J.w (J.r.le (by decide)) (R.keep (Keep.refl.step (.inr hlc))) (by exact aL 0x1298de91114888888881209a3298de8823118b307298de9c032cb01431 hk20 b3 hk0 j1) (by exact aL 0x1211fd8b1002d102cb01202 hk20 b1) fun H' bits R' K' hb hs => px_nil <| rx_nil ?_
      exact ⟨rfl, a, _, r, ((P3.keep (Keep.refl.step (.inr hlc))).send j0 R' K' hb hs).mono (by exact aL 0x10f2d02df0001) (by exact aL 0x10f707cc90707cc93011) (by exact aL 0x110f7298de9c007298de9c9e3298de8803111 j1) (by exact aL 0x10f00001), r0, r6, rfl⟩
    rw [if_neg (by simpa using cs)]
    clear cs
    have done : ∀ {a' : Ad} {σ' : WD} {m'' : List (Str × TV)} {H' : HM}, LJ ⟨m'', H', ()⟩ ns ln a' σ' r (2 * k) (60 * r + k + 1) (70001 * k) (k + 1) → m''.lookup (Str.ofString "right") = some (.bool true) → ∃ a σ r', LJ ⟨m'', H', ()⟩ ns ln a σ r' (2 * (k + 1)) (60 * r' + ((k + 1 : Nat) : Int)) (70001 * ((k + 1 : Nat) : Int)) (k + 1) ∧ 0 ≤ r' ∧ r' ≤ 6 ∧ m''.lookup (Str.ofString "right") = some (.bool true) :=
      fun q z => ⟨_, _, r, q.mono (by exact aL 0x10f2d02d0001) (by exact aL 0x10f707cc90707cc9e3011) (by exact aL 0x10f7298de9c07298de9c3001) (by exact aL 0x10f0f0001), r0, r6, z⟩
    -- a packet got
    obtain ⟨as, l1, l2⟩ := R.ls
    have hal := l2.len
    have hzs : (as.map TV.ref).length ≤ 100000 := by rw [List.length_map]; exact aL 0x1210138bac8b2012202d102cb01303 hk20 b1 hal
    refine rx_cons <| rx_ifj (decide (kd < 4 ∧ σ.sent ≠ [])) ?_ ?_
    · refine pt_and <| pt_cmp <| lv J rfl (by exact mk) rfl <| pv_int <| i_lt <| t_bool <| dec_2 (fun c1 => pt_and <| pt_plain <| pv_sub <| lv J rfl (by exact m2) rfl <| pv_str <| sub_dict R.wd rfl <| t_list l1 (sl_le hzs) ?_) fun c1 => ⟨by simp [c1], rfl⟩
      have e : (as.map TV.ref ≠ []) ↔ σ.sent ≠ [] := by rw [← List.length_pos_iff, ← List.length_pos_iff, List.length_map, hal]
      exact dec_2 (fun z => pt_and_nil ⟨by simp [c1, e.mp z], rfl⟩) fun z => ⟨(decide_eq_false fun q => z (e.mpr q.2)).symm, rfl⟩
    by_cases cg : kd < 4 ∧ σ.sent ≠ []
    · rw [if_pos (decide_eq_true cg)]
      have hl0 : 0 < as.length := by rw [hal]; exact List.length_pos_iff.mpr cg.2
      obtain ⟨ix, hix⟩ : ∃ ix, ix = wh.fmod ((as.map TV.ref).length : Int) := ⟨_, rfl⟩
      have hix2 : 0 ≤ ix ∧ ix < as.length := by
        rw [hix, List.length_map, Int.fmod_eq_emod_of_nonneg _ (by exact aL 0x107083001)]
        exact ⟨Int.emod_nonneg _ (by exact aL 0x1108075900b1101 hl0), Int.emod_lt_of_pos _ (by exact aL 0x110708400b1101 hl0)⟩
      obtain ⟨p, hp⟩ : ∃ p, σ.sent[ix.toNat]? = some p := ⟨_, List.getElem?_eq_getElem (by exact aL 0x101110011010101112108030b2260275707040083102413 hal hix2.1 hix2.2 (aT _))⟩
      obtain ⟨pk, hpk, hp2⟩ := l2.get _ hp
      refine rx_of <| px_cons <| px_assign_name <| pv_call <| gv J rfl (g_L_get _) rfl <| callw_K J.w (kf_451 _) <| args_cons <| lv J rfl (by exact m1) rfl <| args_cons <| lv J rfl (by exact m2) rfl <| args_cons <| pv_sub <| pv_sub <| lv J rfl (by exact m2) rfl <| pv_str <| sub_dict R.wd rfl <| pv_bin <| lv J rfl (by exact mw) rfl <| pv_call <| bv J rfl (n_len _) b_len rfl rfl <| callw_bt <| args_cons <| pv_sub <| lv J rfl (by exact m2) rfl <| pv_str <| sub_dict R.wd rfl <| args_nil <| len_list l1 (sl_le hzs) <| i_mod (by rw [List.length_map]; exact aL 0x1108075900b1101 hl0) ?_
      rw [← hix]
      refine sub_listv l1 hix2.1 (by simp; exact hix2.2) hzs (map_getD hpk) <| args_nil <| spec_get J.w J.r R V hp2 (List.mem_of_getElem? hp) (by exact aL 0x1298de914e99ba8880307298de9c032cb01211 hk20 b3) (by exact aL 0x17c111fd8b100707cc91732cb016803312 r6 hk20 b2) fun H' rs' σ' R' V' T K' M' _ => sv J rfl <| px_nil <| rx_nil <| rx_nil ⟨rfl, done (a' := { a with rs := rs' }) (σ' := σ') ?_ rfl⟩
      exact ((P3.took (S := ⟨m', H, ()⟩) R' V' T K' M').nm (m' := ((Str.ofString "right"), .bool true) :: ((Str.ofString "right"), .bool true) :: m') rfl rfl rfl m4).mono (by exact aL 0x102d02d0001) (by exact aL 0x10707cc9e0707cc9e3011) (by exact aL 0x107298de9c07298de9c3001) (by exact aL 0x10f00001)
    rw [if_neg (by simpa using cg)]
    clear cg l1 l2 hal hzs
    -- a frame written
    refine rx_cons <| rx_ifj (decide (kd = 4 ∧ σ.come ≠ [])) ?_ ?_
    · refine pt_and <| pt_cmp <| lv J rfl (by exact mk) rfl <| pv_int <| i_eq <| t_bool <| dec_2 (fun c1 => pt_and <| pt_plain <| pv_sub <| lv J rfl (by exact m2) rfl <| pv_str <| sub_dict R.wd rfl <| t_set R.sc <| dec_2 (fun z => pt_and_nil ⟨by simp [c1, z], rfl⟩) fun z => ⟨(decide_eq_false fun q => z q.2).symm, rfl⟩) fun c1 => ⟨by simp [c1], rfl⟩
    by_cases cw : kd = 4 ∧ σ.come ≠ []
    · rw [if_pos (decide_eq_true cw)]
      obtain ⟨cap, hcap⟩ : ∃ cap : Nat, (32 + wh.fmod 100 : Int) = cap ∧ 32 ≤ cap ∧ cap ≤ 132 := by
        rw [Int.fmod_eq_emod_of_nonneg _ (by decide)]
        exact ⟨(32 + wh % 100).toNat, by exact aL 0x1000010001000100100000011107048895080488930b026048890757070488931cc80400836211ccc0956331 (aF 100 _ oY) (Int.self_le_toNat _) (aT _), by exact aL 0x101001048b0070488931cc80400836211ccc0956231 (aF 100 _ oY) (Int.self_le_toNat _), by exact aL 0x1001001100001128cb00080488930b0260488907571cc80400836211ccc0956231 (aF 100 _ oY) (aT _)⟩
      refine rx_cons <| rx_assign_name <| rv_call <| gv J rfl (g_L_write _) rfl <| rcallw_K J.w (kf_456 _) <| args_cons <| lv J rfl (by exact m1) rfl <| args_cons <| lv J rfl (by exact m2) rfl <| args_cons <| pv_bin <| pv_int <| pv_bin <| lv J rfl (by exact mw) rfl <| pv_int <| i_mod (by decide) <| i_add ?_
      rw [hcap.1]
      refine args_nil <| spec_write J.w J.r R V cw.2 hcap.2.1 (by exact aL 0x1138bac8b0028cb00101 hcap.2.2) (by exact aL 0x17c111fd8b100707cc91732cb016803312 r6 hk20 b2) (by exact aL 0x1298de914e99ba8880307298de9c032cb01211 hk20 b3) (by exact aL 0x1111fd8b100102cb01202 hk20 b4) fun H' f R' V' _ K' => sv J rfl <| rx_nil <| rx_nil <| rx_nil <| rx_nil ⟨rfl, done ⟨m1, m2, m3', m4, R', V', K' _ _ hn hl, hn, b1, by show (σ.come.length : Int) ≤ _; exact aL 0x111707cc9e0731707cc9073112 b2, b3, by simp; exact aL 0x11100100102 b4⟩ rfl⟩
    rw [if_neg (by simpa using cw)]
    clear cw
    -- a frame read
    obtain ⟨fs, l1, l2⟩ := R.lf
    have hal := l2.len
    have hzs : (fs.map TV.ref).length ≤ 100000 := by rw [List.length_map]; exact aL 0x1110138bac8b201220102cb01303 hk20 b4 hal
    refine rx_cons <| rx_ifj (decide (kd = 5 ∧ σ.frames ≠ [])) ?_ ?_
    · refine pt_and <| pt_cmp <| lv J rfl (by exact mk) rfl <| pv_int <| i_eq <| t_bool <| dec_2 (fun c1 => pt_and <| pt_plain <| pv_sub <| lv J rfl (by exact m2) rfl <| pv_str <| sub_dict R.wd rfl <| t_list l1 (sl_le hzs) ?_) fun c1 => ⟨by simp [c1], rfl⟩
      have e : (fs.map TV.ref ≠ []) ↔ σ.frames ≠ [] := by rw [← List.length_pos_iff, ← List.length_pos_iff, List.length_map, hal]
      exact dec_2 (fun z => pt_and_nil ⟨by simp [c1, e.mp z], rfl⟩) fun z => ⟨(decide_eq_false fun q => z (e.mpr q.2)).symm, rfl⟩
    by_cases cf : kd = 5 ∧ σ.frames ≠ []
    · rw [if_pos (decide_eq_true cf)]
      have hl0 : 0 < fs.length := by rw [hal]; exact List.length_pos_iff.mpr cf.2
      obtain ⟨ix, hix⟩ : ∃ ix, ix = wh.fmod ((fs.map TV.ref).length : Int) := ⟨_, rfl⟩
      have hix2 : 0 ≤ ix ∧ ix < fs.length := by
        rw [hix, List.length_map, Int.fmod_eq_emod_of_nonneg _ (by exact aL 0x107083001)]
        exact ⟨Int.emod_nonneg _ (by exact aL 0x1108075900b1101 hl0), Int.emod_lt_of_pos _ (by exact aL 0x110708400b1101 hl0)⟩
      obtain ⟨p, hp⟩ : ∃ p, σ.frames[ix.toNat]? = some p := ⟨_, List.getElem?_eq_getElem (by exact aL 0x101110011010101112108030b2260275707040083102413 hal hix2.1 hix2.2 (aT _))⟩
      obtain ⟨pk, hpk, hp2⟩ := l2.get _ hp
      refine rx_cons <| rx_assign_name <| rv_call <| gv J rfl (g_L_read _) rfl <| rcallw_K J.w (kf_461 _) <| args_cons <| lv J rfl (by exact m2) rfl <| args_cons <| pv_sub <| pv_sub <| lv J rfl (by exact m2) rfl <| pv_str <| sub_dict R.wd rfl <| pv_bin <| lv J rfl (by exact mw) rfl <| pv_call <| bv J rfl (n_len _) b_len rfl rfl <| callw_bt <| args_cons <| pv_sub <| lv J rfl (by exact m2) rfl <| pv_str <| sub_dict R.wd rfl <| args_nil <| len_list l1 (sl_le hzs) <| i_mod (by rw [List.length_map]; exact aL 0x1108075900b1101 hl0) ?_
      rw [← hix]
      refine sub_listv l1 hix2.1 (by simp; exact hix2.2) hzs (map_getD hpk) <| args_nil <| spec_read J.w J.r R V hp2 (List.mem_of_getElem? hp) (by exact aL 0x17c111fd8b100707cc91732cb016803312 r6 hk20 b2) (by exact aL 0x1298de914e99ba8880307298de9c032cb01211 hk20 b3) fun H' ac kn R' V' _ K' => sv J rfl <| rx_nil <| rx_nil <| rx_nil <| rx_nil <| rx_nil ⟨rfl, done ⟨m1, m2, m3', m4, R', V', K' _ _ hn hl, hn, b1, by show (σ.come.length : Int) ≤ _; exact aL 0x111707cc9e0731707cc9073112 b2, b3, by show σ.frames.length ≤ _; exact aL 0x111f00100102 b4⟩ rfl⟩
    rw [if_neg (by simpa using cf)]
    exact rx_nil <| rx_nil <| rx_nil <| rx_nil <| rx_nil ⟨rfl, done (P3.mono (by exact aL 0x102d02d0001) (by exact aL 0x10707cc9e0707cc93011) (by exact aL 0x107298de9c07298de9c3001) (by exact aL 0x10f00001)) rfl⟩
  case fin =>
    obtain ⟨a, σ, r, P, r0, r6⟩ := H0
    obtain ⟨m, H, _⟩ := S₂
    have hN : (ns.length + 1) / 2 ≤ 20 := by exact aL 0x21012cb1012df0f00f12d0658b00202 n2 (aD 2 _ oY)
    have P := P.mono (bs' := 40) (bc' := 60 * r + 20) (bn' := 1400020) (bf' := 20) (by exact aL 0x1258b02d02cb00101 hN) (by exact aL 0x112c807cc90707cc932cb00111 hN) (by exact aL 0x1298de95adebac807298de9c32cb00101 hN) hN
    obtain ⟨m1, m2, m3', m4, R, V, hl, hn, b1, b2, b3, b4⟩ := id P
    dsimp only at m1 m2 m3' m4 R hl
    obtain ⟨as, l1, l2⟩ := R.ls
    have hal := l2.len
    refine rx_cons <| rx_of <| px_for I.hA (pv_sub <| lv I rfl (by exact m2) rfl <| pv_str <| sub_dict R.wd rfl ⟨(as.map TV.ref).length, _, fun i S₃ => i ≤ as.length ∧ ∃ a' σ', a'.ls = a.ls ∧ σ'.sent = σ.sent ∧ S₃.H a.ls = some (.list (as.map TV.ref)) ∧ LJ S₃ ns ln a' σ' r 40 (60 * r + 20 + i) 1400020 20, _, steps_list I.hA l1 (fun i S' ⟨_, _, _, _, _, q, _⟩ => q), ⟨Nat.zero_le _, a, σ, rfl, rfl, l1, P.mono (by exact aL 0x158b58b0000) (by exact aL 0x10b72c807cc992c807cc93010) (by exact aL 0x15adebac85adebac83000) (by exact aL 0x12cb2cb0000)⟩, fun i S₃ b3 hi ⟨hi2, a', σ', e1, e2, q, P3⟩ hW3 => ?_, fun S₃ ⟨hi2, a', σ', e1, e2, q, P3⟩ => ?_⟩) I.w
    · have J3 := I.on (b := b3)
      obtain ⟨m, H', _⟩ := S₃
      obtain ⟨m1, m2, m3, m4, R', V', hl', hn', c1, c2, c3, c4⟩ := id P3
      dsimp only at m1 m2 m3 m4 R' hl' q
      obtain ⟨as2, ea, A⟩ := fits_pairs R'.ls (e1 ▸ q)
      have hi3 : i < as.length := by simpa using hi
      have hal2 : as2.length = as.length := by have := congrArg List.length ea; simpa using this.symm
      have hA := A.len
      obtain ⟨p, hp⟩ : ∃ p, σ'.sent[i]? = some p := ⟨_, List.getElem?_eq_getElem (by exact aL 0x111001301322122101304 hi3 hal2 hA)⟩
      obtain ⟨pk, hpk, hp2⟩ := A.get _ hp
      have ei : (as.map TV.ref).getD i .none = .ref pk := by rw [ea]; exact map_getD hpk
      rw [ei]
      refine pw_store hW3 ?_ (J3.kd rfl)
      refine px_cons <| px_if <| pt_not <| pt_plain <| pv_call <| gv J3 rfl (g_L_get _) rfl <| callw_K J3.w (kf_451 _) <| args_cons <| lv J3 rfl (by exact m1) rfl <| args_cons <| lv J3 rfl (by exact m2) rfl <| args_cons <| lv J3 rfl rfl rfl <| args_nil <| spec_get J3.w J3.r R' V' hp2 (List.mem_of_getElem? hp) (by exact aL 0x114e99ba888035adebac803110 c3) (by exact aL 0x17c101111fd8b20131372c807cc9927301258b006803514 r6 b1 hal c2 hi3) fun H2 rs' σ2 R2 V2 T2 K2 M2 g2 => t_bool <| ite_f rfl <| px_nil <| px_nil ⟨hi3, { a' with rs := rs' }, σ2, e1, T2.se.trans e2, by rw [← e1]; exact g2 _ (e1 ▸ q), ?_⟩
      exact ((P3.took (S := ⟨m, H', ()⟩) R2 V2 T2 K2 M2).nm (m' := ((Str.ofString "packet"), .ref pk) :: m) rfl rfl rfl m4).mono (by exact aL 0x158b58b0000) (by exact aL 0x10f72c807cc99072c807cc99e3011) (by exact aL 0x15adebac85adebac83000) (by exact aL 0x12cb2cb0000)
    clear R V hl hn b1 b2 b3 b4 m1 m2 m3' m4 l1 l2 P
    obtain ⟨m, H, _⟩ := S₃
    have hc3 : (as.length : Int) ≤ 40 := by have := P3.bs; rw [e2] at this; exact aL 0x101158807358b10102202 hal this
    obtain ⟨m1, m2, m3, m4, R, V, hl, hn, b1, b2, b3, b4⟩ := P3
    dsimp only at m1 m2 m3 m4 R hl
    rw [List.length_map] at b2
    have hcl : σ'.come.length ≤ 1000 := by exact aL 0x17c111fd8b10072c807cc991735880736803312 r6 hc3 b2
    refine rx_cons <| rx_if <| rw_of <| pt_not <| pt_plain <| pv_sub <| lv I rfl (by exact m2) rfl <| pv_str <| sub_dict R.wd rfl <| t_set R.sc ?_
    by_cases hc : σ'.come = []
    · obtain ⟨n0, hn0⟩ : ∃ n0, ns[0]? = some n0 := ⟨_, List.getElem?_eq_getElem (by exact aL 0x1100b101b0101 n1)⟩
      refine ite_t (by simp [hc]) <| rx_of <| px_cons <| px_return <| pv_call <| gv I rfl (g_L_window _) rfl <| callw_K I.w (kf_430 _) <| args_cons <| lv I rfl (by exact m1) rfl <| args_cons <| lv I rfl (by exact m2) rfl <| args_cons <| pv_bin <| pv_sub <| lv I rfl (by exact m3) rfl <| pv_int <| sub_listv hl (Int.le_refl _) (by rw [hnl]; exact aL 0x110708401b0101 n1) (by exact aL 0x110138bac8b1001258b00202 n2 hnl) (map_int hn0) <| pv_int <| i_mod (by decide) <| args_nil <| spec_lwindow I.w (I.r.le (by decide)) R V.win fun H' K' => h _
    refine ite_f (by simp [hc]) <| rx_nil ?_
    refine rx_cons <| rx_if <| rt_not <| rt_plain <| rv_call <| gv I rfl (g_L_write _) rfl <| rcallw_K I.w (kf_456 _) <| args_cons <| lv I rfl (by exact m1) rfl <| args_cons <| lv I rfl (by exact m2) rfl <| args_cons <| pv_bin <| pv_int <| pv_bin <| pv_int <| pv_bin <| pv_call <| bv I rfl (n_len _) b_len rfl rfl <| callw_bt <| args_cons <| pv_sub <| lv I rfl (by exact m2) rfl <| pv_str <| sub_dict R.wd rfl <| args_nil <| len_set R.sc <| pv_int <| i_add <| i_mul (.of_left (by decide)) <| i_add ?_
    obtain ⟨cap, hcap⟩ : ∃ cap : Nat, cap = 32 + 16 * (σ'.come.length + 1) := ⟨_, rfl⟩
    rw [show (32 + 16 * ((σ'.come.length : Int) + 1)) = (cap : Int) by exact aL 0x11010110717e28c488951f28d48bc02102 hcap]
    have hql := queue_len V.cq fun x => (V.mq x).mp
    refine args_nil <| spec_write I.w I.r R V hc (by exact aL 0x110048b01f28d48bc02102 hcap) (by exact aL 0x1280138bac8b100f28d48bc121fd8b00202 hcl hcap) hcl (by exact aL 0x114e99ba888035adebac803110 b3) (by exact aL 0x111fd8b002cb00101 b4) fun H' f R' V' hf K' => t_bool <| ite_f rfl <| rx_nil ?_
    have hfq := hf (by exact aL 0x1102802f28d01201f28d48bc02203 hcap hql)
    obtain ⟨fs, f1, f2⟩ := R'.lf
    obtain ⟨fs', ft, ea, A1, A2⟩ := all2_snoc f2
    have exs : fs.map TV.ref = fs'.map TV.ref ++ [.ref ft] := by rw [ea]; simp
    have hzs : (fs.map TV.ref).length ≤ 100000 := by have := f2.len; simp at this ⊢; exact aL 0x110138bac8b100f122cb00202 b4 this
    refine rx_cons <| rx_return <| rv_and <| rv_call <| gv I rfl (g_L_read _) rfl <| rcallw_K I.w (kf_461 _) <| args_cons <| lv I rfl (by exact m2) rfl <| args_cons <| pv_sub <| pv_sub <| lv I rfl (by exact m2) rfl <| pv_str <| sub_dict R'.wd rfl <| pv_un <| pv_int <| i_neg <| sub_end f1 exs hzs <| args_nil <| spec_read I.w I.r R' V' A2 (by simp) hcl (by show σ'.next ≤ _; exact aL 0x114e99ba888035adebac803110 b3) fun H'' ac kn R'' V'' hm K'' => t_bool <| ite_t rfl <| pv_bool1 <| pv_cmp <| pv_sub <| lv I rfl (by exact m2) rfl <| pv_str <| sub_dict R''.wd rfl <| pv_sub <| lv I rfl (by exact m2) rfl <| pv_str <| sub_dict R''.wd rfl <| set_eq_true (by have := I.r.units; exact aL 0x1110116b58d0c1102 this) R''.sa R''.sc (fun i => ?_) (h _)
    show i ∈ ac ↔ i ∈ σ'.come
    rw [hm i, hfq, V.mq i]
    exact ⟨fun q => q.elim (V.ac i) id, .inr⟩
end
end
end Mine
end
section
open PySem PySem.W PyProof.Rows PySem.Calls
set_option maxRecDepth 100000
set_option maxHeartbeats 4000000
namespace Mine
noncomputable section
section
variable {c : Cx} {S : St} {k : Nat}
theorem room0 : Room callerA 7 := ⟨by decide, by decide, rfl, rfl⟩
theorem law_enter {w : World} {s₁ : Shared} {fa : Addr} {o : Obj} {fd : FuncData} {l : Addr} {vs : Array Value} {script : List Int} {mg mb : Str → Option Value} {loose : List Str} {p : Program}
    (K : (KK w).In s₁.heap) (T : TopRead p loose mg mb s₁.heap) (ho : s₁.heap.get? fa = some o) (hd : o.data = .func fd) (hcd : s₁.heap.CodeRec fd.code fd.qualname)
    (hsc : fd.scope = lawScope) (hb : fd.body = .stmts lawBody) (hgl : fd.globals = mainGlobals) (hbn : fd.builtins = builtinsNs)
    (hbind : BindsTo s₁ fd ⟨[.ref l], []⟩ [((Str.ofString "script"), .ref l)])
    (hg : s₁.gens = #[]) (hL : s₁.heap.IsList l vs) (hv : vs.toList.map er = script.map TV.int) (hz : vs.size ≤ 63) :
    wC (model PG w) callerA (PySem.call (.ref fa) [.ref l]) (fun v s' => v = .bool true ∧ (∀ b o, s₁.heap.get? b = some o → s'.heap.get? b = some o) ∧ s'.os = s₁.os ∧ AllBare s'.gens) s₁ := by
  refine wC_call ?_
  refine kC_call_def (fd := fd) (body := lawBody) (binds := [((Str.ofString "script"), .ref l)]) (by decide) ho hd T.nolimit hcd hb hbind (by rw [hsc]; decide) (fun x hx => by rw [List.mem_singleton.mp hx, hsc]; rfl) (fun h₁ hns hk₁ => ?_) (by rw [hsc]; rfl) (by rw [hsc]; rfl) (by rw [hsc]; rfl)
  let c' : Cx := ⟨w, callerA.deeper (callEnv fd s₁.heap.objs.size fa), s₁.heap, bsOf s₁ (fun _ => none), s₁.os, callEnv fd s₁.heap.objs.size fa⟩
  have W' : Well c' := ⟨K, ⟨_, _, _, _, T⟩, by show fd.scope.kind = _; rw [hsc]; rfl, hgl, hbn⟩
  have I : In c' 6 lawScope := ⟨W', room0.under _, hsc⟩
  have sat : Sat c' ⟨[((Str.ofString "script"), .ref l)], fun _ => none, ()⟩ { s₁ with heap := h₁, toks := s₁.toks + 1 } := by
    refine ⟨⟨_, ⟨hns, hk₁, Nat.le_refl _⟩, fun x => ?_⟩, fun b o q => hk₁ _ _ (baseOf_get.mp q).1, ?_, fun a o q => (nomatch q), ⟨fun _ _ h => h, ?_⟩, rfl⟩
    · show (List.lookup x [((Str.ofString "script"), Value.ref l)]).map er = List.lookup x [((Str.ofString "script"), TV.ref l)]
      simp only [List.lookup]
      split <;> rfl
    · show (bsOf s₁ fun _ => none).get? s₁.heap.objs.size = none
      cases q : (bsOf s₁ fun _ => none).get? s₁.heap.objs.size with
      | none => rfl
      | some o => exact absurd (Heap.lt_size (baseOf_get.mp q).1) (Nat.lt_irrefl _)
    · show AllBare s₁.gens
      rw [hg]; exact fun x hx => by simp at hx
  refine wC_mono (spec_law (c := c') (Q := fun f _ => f = .ret (.bool true)) I hL hv hz (fun _ => rfl) _ sat) fun fl s' ⟨S', hs', q⟩ => ⟨_, rfl, ?_⟩
  obtain ⟨mm', F', e'⟩ := hs'.fr
  refine ⟨?_, F'.keep, hs'.os, hs'.g.2⟩
  cases fl <;> simp [ef] at q
  exact er_bool q
end
end
end Mine
end
open PySem PySem.W PyProof.Rows PySem.Calls
set_option maxRecDepth 100000
set_option maxHeartbeats 4000000
namespace Mine
namespace law_holds
theorem tw17027635718292003107 : True := ⟨⟩
theorem tw653560878884961445 : True := ⟨⟩
theorem tw12663309570017281627 : True := ⟨⟩
theorem tw6934448944433832347 : True := ⟨⟩
theorem tw10968802771074238664 : True := ⟨⟩
theorem tw6677821561840896501 : True := ⟨⟩
theorem tw3028213030429885723 : True := ⟨⟩
theorem tw18221428039690301666 : True := ⟨⟩
theorem tw8763168800255643514 : True := ⟨⟩
theorem tw15140378357190847165 : True := ⟨⟩
theorem tw1496123403401453975 : True := ⟨⟩
theorem tw9317688335297629284 : True := ⟨⟩
theorem tw12291295341487003417 : True := ⟨⟩
theorem tw8835965917227929528 : True := ⟨⟩
theorem tw15759456685926392790 : True := ⟨⟩
theorem tw12394330538082041428 : True := ⟨⟩
theorem tw16674325987445784360 : True := ⟨⟩
theorem tw13478230802861573701 : True := ⟨⟩
theorem tw6765152471904792315 : True := ⟨⟩
theorem tw2055734563569237896 : True := ⟨⟩
theorem tw16935243356766158856 : True := ⟨⟩
theorem tw3595789414353437717 : True := ⟨⟩
theorem tw6674817763981286723 : True := ⟨⟩
theorem tw13158765158626397541 : True := ⟨⟩
theorem tw17598101756349436640 : True := ⟨⟩
theorem tw18006792725990754497 : True := ⟨⟩
theorem tw14997073306097389879 : True := ⟨⟩
theorem tw16381176275627223697 : True := ⟨⟩
theorem tw13392613628428298086 : True := ⟨⟩
theorem tw8860054118572591635 : True := ⟨⟩
theorem tw2667362832866536986 : True := ⟨⟩
theorem tw1376783240425437725 : True := ⟨⟩
theorem tw4008084134468147086 : True := ⟨⟩
theorem tw8472228645029834797 : True := ⟨⟩
theorem tw10441050188594101415 : True := ⟨⟩
theorem tw9606376775287448836 : True := ⟨⟩
theorem tw12874571214893485439 : True := ⟨⟩
theorem tw7910590604623066228 : True := ⟨⟩
theorem tw1186782194237197914 : True := ⟨⟩
theorem tw17264387287909652857 : True := ⟨⟩
theorem tw15154110283740273250 : True := ⟨⟩
theorem tw194939583717160490 : True := ⟨⟩
theorem tw1791086108937442324 : True := ⟨⟩
theorem tw7089819591129360890 : True := ⟨⟩
theorem tw6564709946809587534 : True := ⟨⟩
theorem tw4781243967656130014 : True := ⟨⟩
theorem tw8298017015332610266 : True := ⟨⟩
theorem tw14289194402921355359 : True := ⟨⟩
theorem tw1832781179975386347 : True := ⟨⟩
theorem tw16614716721108272449 : True := ⟨⟩
theorem tw16963379459963715452 : True := ⟨⟩
theorem tw4072507727158212662 : True := ⟨⟩
theorem tw2043166853727251185 : True := ⟨⟩
theorem tw14925382992726071281 : True := ⟨⟩
theorem tw13800757232730249582 : True := ⟨⟩
theorem tw15272395603832836080 : True := ⟨⟩
theorem tw9875236377963488844 : True := ⟨⟩
theorem tw7635358736021980338 : True := ⟨⟩
theorem tw11067727234611919522 : True := ⟨⟩
theorem tw7311554392007033315 : True := ⟨⟩
theorem tw11470271118054631628 : True := ⟨⟩
theorem tw455179833554555240 : True := ⟨⟩
theorem tw1909877003179415225 : True := ⟨⟩
theorem tw3943428198234077543 : True := ⟨⟩
theorem tw8176227357466254829 : True := ⟨⟩
theorem tw14160533322030094474 : True := ⟨⟩
theorem tw16883458599210261866 : True := ⟨⟩
theorem tw12732824653754844360 : True := ⟨⟩
theorem tw11315637435222106236 : True := ⟨⟩
theorem tw12847567107135931479 : True := ⟨⟩
theorem tw8890443458166856008 : True := ⟨⟩
theorem tw13958071646730322851 : True := ⟨⟩
theorem tw2887050238494874643 : True := ⟨⟩
theorem tw4340896793606899900 : True := ⟨⟩
theorem tw16563099163409725306 : True := ⟨⟩
theorem tw6499956759230125245 : True := ⟨⟩
theorem tw4273555757443719353 : True := ⟨⟩
theorem tw18090433342136740992 : True := ⟨⟩
theorem tw16406091861079842607 : True := ⟨⟩
theorem tw13220211186989608806 : True := ⟨⟩
theorem tw14064573792008682920 : True := ⟨⟩
theorem tw10817052189556005596 : True := ⟨⟩
theorem tw18203989763732354715 : True := ⟨⟩
theorem tw14646867148444618371 : True := ⟨⟩
theorem tw15609566024721092083 : True := ⟨⟩
theorem tw10346744231138586394 : True := ⟨⟩
theorem tw7356724547972884604 : True := ⟨⟩
theorem tw11289095316329951393 : True := ⟨⟩
theorem tw11404014056486942332 : True := ⟨⟩
theorem tw8249079356659094474 : True := ⟨⟩
theorem tw17169043682955552997 : True := ⟨⟩
theorem tw718173064312146323 : True := ⟨⟩
theorem tw12476058986133298565 : True := ⟨⟩
theorem tw10007947361888340627 : True := ⟨⟩
theorem tw15661869461025623997 : True := ⟨⟩
theorem tw7472407996622490835 : True := ⟨⟩
theorem tw12645607732203181651 : True := ⟨⟩
theorem tw14571795756577361901 : True := ⟨⟩
theorem tw17911580528928914924 : True := ⟨⟩
theorem tw16836969012518115619 : True := ⟨⟩
theorem tw6709271908398517637 : True := ⟨⟩
theorem tw6260460797876433568 : True := ⟨⟩
theorem tw2842810181116790245 : True := ⟨⟩
theorem tw8806649888931605024 : True := ⟨⟩
theorem tw8266603773606604290 : True := ⟨⟩
theorem tw3776956092104397036 : True := ⟨⟩
theorem tw12013988127634925379 : True := ⟨⟩
theorem tw11977050620070087417 : True := ⟨⟩
theorem tw15829985883664642994 : True := ⟨⟩
theorem tw7636989558263936852 : True := ⟨⟩
theorem tw6333624483447246961 : True := ⟨⟩
theorem tw14904137174637212347 : True := ⟨⟩
theorem tw7820799176418779761 : True := ⟨⟩
theorem tw14991590004735058009 : True := ⟨⟩
theorem tw447027507633508388 : True := ⟨⟩
theorem tw14228406130034108761 : True := ⟨⟩
theorem tw17993387198741990920 : True := ⟨⟩
theorem tw13301187468288870568 : True := ⟨⟩
theorem tw17237755526102222789 : True := ⟨⟩
theorem tw11347954631545130290 : True := ⟨⟩
theorem tw2152083551845799040 : True := ⟨⟩
theorem tw10954758410522031216 : True := ⟨⟩
theorem tw13882729330811710610 : True := ⟨⟩
theorem tw8652346329174877282 : True := ⟨⟩
theorem tw10296202853966499060 : True := ⟨⟩
theorem tw7495221243884187115 : True := ⟨⟩
theorem tw15694993059591697976 : True := ⟨⟩
theorem tw1385162719727133579 : True := ⟨⟩
theorem tw3955097671198598788 : True := ⟨⟩
theorem tw228058311090241170 : True := ⟨⟩
theorem tw1685627985566243432 : True := ⟨⟩
theorem tw9288214680346807717 : True := ⟨⟩
theorem tw12342728606916771844 : True := ⟨⟩
theorem tw14377833709258309704 : True := ⟨⟩
theorem tw17865009358878524859 : True := ⟨⟩
theorem tw7221428835167493151 : True := ⟨⟩
theorem tw9187647767651647856 : True := ⟨⟩
theorem tw1335265377702380343 : True := ⟨⟩
theorem tw14354538779393863138 : True := ⟨⟩
theorem tw14596297492920191028 : True := ⟨⟩
theorem tw11098625913536864229 : True := ⟨⟩
theorem tw3979707639553702691 : True := ⟨⟩
theorem tw1710076424337546998 : True := ⟨⟩
theorem tw7185456241796803578 : True := ⟨⟩
theorem tw631266038723830076 : True := ⟨⟩
theorem tw4992725456586698614 : True := ⟨⟩
theorem tw3756957479349018193 : True := ⟨⟩
theorem tw9758593294864014727 : True := ⟨⟩
theorem tw12223724995276690173 : True := ⟨⟩
theorem tw5981114437932730796 : True := ⟨⟩
theorem tw10093380194815717143 : True := ⟨⟩
theorem tw12456547296908542839 : True := ⟨⟩
theorem tw5364902710198789758 : True := ⟨⟩
theorem tw676263390381983339 : True := ⟨⟩
theorem tw4037582482628031876 : True := ⟨⟩
theorem tw4329158554759489670 : True := ⟨⟩
theorem tw14828999820898988419 : True := ⟨⟩
theorem tw1550374771381668074 : True := ⟨⟩
theorem tw3742325753681652743 : True := ⟨⟩
theorem tw4818577856007422655 : True := ⟨⟩
theorem tw3253820488102484341 : True := ⟨⟩
theorem tw1285599515219305098 : True := ⟨⟩
theorem tw6746360682218282392 : True := ⟨⟩
theorem tw2102315897755806987 : True := ⟨⟩
theorem tw16594112996363208897 : True := ⟨⟩
theorem tw13482675847692870326 : True := ⟨⟩
theorem tw4354612618955260029 : True := ⟨⟩
theorem tw12889673554181485818 : True := ⟨⟩
theorem tw18155623678392573649 : True := ⟨⟩
theorem tw3110860835449505704 : True := ⟨⟩
theorem tw9552830710289189752 : True := ⟨⟩
theorem tw2618386414584295968 : True := ⟨⟩
theorem tw4916342969005030805 : True := ⟨⟩
theorem tw14746732674962391887 : True := ⟨⟩
theorem tw2295933128562542503 : True := ⟨⟩
theorem tw9779807473162285230 : True := ⟨⟩
theorem tw16190678330180157336 : True := ⟨⟩
theorem tw9853128532771029439 : True := ⟨⟩
theorem tw16760957895259694429 : True := ⟨⟩
theorem tw8417186165934385351 : True := ⟨⟩
theorem tw4593294709026258786 : True := ⟨⟩
theorem tw17253691774821329096 : True := ⟨⟩
theorem tw15607887362523206001 : True := ⟨⟩
theorem tw9634471323475708679 : True := ⟨⟩
theorem tw3005452535816212104 : True := ⟨⟩
theorem tw12149405283708829123 : True := ⟨⟩
theorem tw9849722394096787677 : True := ⟨⟩
theorem tw8857742495270377987 : True := ⟨⟩
theorem tw3366817510852727610 : True := ⟨⟩
theorem tw13397297893571687751 : True := ⟨⟩
theorem tw15726739188670627701 : True := ⟨⟩
theorem tw12622292602297523153 : True := ⟨⟩
theorem tw7019463264422422977 : True := ⟨⟩
theorem tw17942709131360195518 : True := ⟨⟩
theorem tw11677100312832694166 : True := ⟨⟩
theorem tw4614512636035447770 : True := ⟨⟩
theorem tw11426015686315989412 : True := ⟨⟩
theorem tw602461330855297101 : True := ⟨⟩
theorem tw13650905803964671038 : True := ⟨⟩
theorem tw6317479115527610633 : True := ⟨⟩
theorem tw3033269912633744064 : True := ⟨⟩
theorem tw16106779387088534511 : True := ⟨⟩
theorem tw14545874151571354728 : True := ⟨⟩
theorem tw13431030151845061361 : True := ⟨⟩
theorem tw8514742172934523775 : True := ⟨⟩
theorem tw3307954989432871184 : True := ⟨⟩
theorem tw3426384778480675251 : True := ⟨⟩
theorem tw13190408463805328480 : True := ⟨⟩
theorem tw5989267464594152519 : True := ⟨⟩
theorem tw10242277825702978295 : True := ⟨⟩
theorem tw6719018230134327050 : True := ⟨⟩
theorem tw745255978533919091 : True := ⟨⟩
theorem tw2090888555730037645 : True := ⟨⟩
theorem tw17255088995462705879 : True := ⟨⟩
theorem tw7408322871517469003 : True := ⟨⟩
theorem tw8369274380968253667 : True := ⟨⟩
theorem tw3035144380315620824 : True := ⟨⟩
theorem tw8854015012368427407 : True := ⟨⟩
theorem tw11223184984439025696 : True := ⟨⟩
theorem tw179590077315354965 : True := ⟨⟩
theorem tw14872900085578418628 : True := ⟨⟩
theorem tw11126432536435168541 : True := ⟨⟩
theorem tw7566432030715092817 : True := ⟨⟩
theorem tw2075624079617657780 : True := ⟨⟩
theorem tw9207643191828677137 : True := ⟨⟩
theorem tw11956458263131016624 : True := ⟨⟩
theorem tw13281950902743806629 : True := ⟨⟩
theorem tw3253568177066640346 : True := ⟨⟩
theorem tw575232530192455986 : True := ⟨⟩
theorem tw15006436103509636135 : True := ⟨⟩
theorem tw5389484754426515990 : True := ⟨⟩
theorem tw6860709855171689206 : True := ⟨⟩
theorem tw12481875629721207810 : True := ⟨⟩
theorem tw6911747868599837429 : True := ⟨⟩
theorem tw18051328159682125866 : True := ⟨⟩
theorem tw14326059299131336239 : True := ⟨⟩
theorem tw160851071654074740 : True := ⟨⟩
theorem tw11966672015165255308 : True := ⟨⟩
theorem tw545109181885906688 : True := ⟨⟩
theorem tw15031514592837009168 : True := ⟨⟩
theorem tw13087128984098923117 : True := ⟨⟩
theorem tw3390839446522356110 : True := ⟨⟩
theorem tw11764581739189218997 : True := ⟨⟩
theorem tw17830944117370523080 : True := ⟨⟩
theorem tw10222300733896627045 : True := ⟨⟩
theorem tw4643041051132140158 : True := ⟨⟩
theorem tw10876394233666535175 : True := ⟨⟩
theorem tw15352839923633478061 : True := ⟨⟩
theorem tw6159533029260741167 : True := ⟨⟩
theorem tw10301956948240465243 : True := ⟨⟩
theorem tw12800644894191811977 : True := ⟨⟩
theorem tw8386679336120195906 : True := ⟨⟩
theorem tw4524032621918665186 : True := ⟨⟩
theorem tw12303009252429188658 : True := ⟨⟩
theorem tw13402424001964919149 : True := ⟨⟩
theorem tw5506821171919863439 : True := ⟨⟩
theorem tw3049941959672503198 : True := ⟨⟩
theorem tw1495482376148854502 : True := ⟨⟩
theorem tw5117662029339320154 : True := ⟨⟩
theorem tw14988988175077273356 : True := ⟨⟩
theorem tw5858263632927829637 : True := ⟨⟩
theorem tw10609929442622069884 : True := ⟨⟩
theorem tw1784627337472249616 : True := ⟨⟩
theorem tw14883556706271630602 : True := ⟨⟩
theorem tw1035469204868569938 : True := ⟨⟩
theorem tw16074064945343616743 : True := ⟨⟩
theorem tw981846192996546977 : True := ⟨⟩
theorem tw12626328134170644701 : True := ⟨⟩
theorem tw7407239408455114201 : True := ⟨⟩
theorem tw11182679623053108816 : True := ⟨⟩
theorem tw15527639110640922598 : True := ⟨⟩
theorem tw11714151634956498000 : True := ⟨⟩
theorem tw6776455111828631412 : True := ⟨⟩
theorem tw8970147916757833333 : True := ⟨⟩
theorem tw11100686419730198450 : True := ⟨⟩
theorem tw3756308257209627903 : True := ⟨⟩
theorem tw12116493165278983582 : True := ⟨⟩
theorem tw8553002610548859549 : True := ⟨⟩
theorem tw9168033884955339765 : True := ⟨⟩
theorem tw1973129929022764952 : True := ⟨⟩
theorem tw6861490101519172755 : True := ⟨⟩
theorem tw4995542688137877417 : True := ⟨⟩
theorem tw1905533677188600702 : True := ⟨⟩
theorem tw3258674603298201628 : True := ⟨⟩
theorem tw10371022188087798493 : True := ⟨⟩
theorem tw10028117763298573888 : True := ⟨⟩
theorem tw5907203647135998699 : True := ⟨⟩
theorem tw5112083995522966620 : True := ⟨⟩
theorem tw5769158387606399586 : True := ⟨⟩
theorem tw41732636909640268 : True := ⟨⟩
theorem tw7696488724909661519 : True := ⟨⟩
theorem tw4741859662064258567 : True := ⟨⟩
theorem tw8909828626151137519 : True := ⟨⟩
theorem tw2387193687640843687 : True := ⟨⟩
theorem tw1670043908289496885 : True := ⟨⟩
theorem tw15806970514647361693 : True := ⟨⟩
theorem tw123295346585929383 : True := ⟨⟩
theorem tw6553333263825352884 : True := ⟨⟩
theorem tw12134408205421670959 : True := ⟨⟩
theorem tw18234560199702728603 : True := ⟨⟩
theorem tw9255152265573255198 : True := ⟨⟩
theorem tw7769649832755249146 : True := ⟨⟩
theorem tw302768837105346163 : True := ⟨⟩
theorem tw784011647948385275 : True := ⟨⟩
theorem tw15014403891855920072 : True := ⟨⟩
theorem tw18135211599370774712 : True := ⟨⟩
theorem tw17470365217354309832 : True := ⟨⟩
theorem tw3956099054510807996 : True := ⟨⟩
theorem tw2269544990204364226 : True := ⟨⟩
theorem tw2503670479209048990 : True := ⟨⟩
theorem tw1762888911704233025 : True := ⟨⟩
theorem tw9992725586745946429 : True := ⟨⟩
theorem tw4581845663705801772 : True := ⟨⟩
theorem tw11297062200503488469 : True := ⟨⟩
theorem tw10189704592693192966 : True := ⟨⟩
theorem tw3850404396616230974 : True := ⟨⟩
theorem tw8720880381367431298 : True := ⟨⟩
theorem tw11795792742502079742 : True := ⟨⟩
theorem tw11223566071624626695 : True := ⟨⟩
theorem tw17274716441693411508 : True := ⟨⟩
theorem tw12546804030808630936 : True := ⟨⟩
theorem tw2558664710541493025 : True := ⟨⟩
theorem tw12296726922439171297 : True := ⟨⟩
theorem tw9682718004065560343 : True := ⟨⟩
theorem tw10368410895845634921 : True := ⟨⟩
theorem tw13092103797297032270 : True := ⟨⟩
theorem tw3438298445031660282 : True := ⟨⟩
theorem tw15617896438947887921 : True := ⟨⟩
theorem tw2557128651999224082 : True := ⟨⟩
theorem tw12780804625047726367 : True := ⟨⟩
theorem tw13280740594461564331 : True := ⟨⟩
theorem tw5898729028444588960 : True := ⟨⟩
theorem tw11846676642670509255 : True := ⟨⟩
theorem tw2078624436916829710 : True := ⟨⟩
theorem tw15883345262158282383 : True := ⟨⟩
theorem tw808278469055374699 : True := ⟨⟩
theorem tw10188763426450519768 : True := ⟨⟩
theorem tw11330957891505755796 : True := ⟨⟩
theorem tw12115171985352901274 : True := ⟨⟩
theorem tw12687621791434340054 : True := ⟨⟩
theorem tw7304591109411159013 : True := ⟨⟩
theorem tw16796336640093803135 : True := ⟨⟩
theorem tw5062152199769849712 : True := ⟨⟩
theorem tw15293083901398250104 : True := ⟨⟩
theorem tw13429453918920967058 : True := ⟨⟩
theorem tw10024239376800412576 : True := ⟨⟩
theorem tw6727219029552735585 : True := ⟨⟩
theorem tw10777471972969049476 : True := ⟨⟩
theorem tw16461882675039125421 : True := ⟨⟩
theorem tw7408472829698581751 : True := ⟨⟩
theorem tw11133525997344109421 : True := ⟨⟩
theorem tw5451054884063135654 : True := ⟨⟩
theorem tw18254337876149969668 : True := ⟨⟩
theorem tw3494445600050047599 : True := ⟨⟩
theorem tw1031057903888850656 : True := ⟨⟩
theorem tw7731979676555859252 : True := ⟨⟩
theorem tw1414043511812021011 : True := ⟨⟩
theorem tw18430954121086234272 : True := ⟨⟩
theorem tw2643271747718453845 : True := ⟨⟩
theorem tw13336368349410954346 : True := ⟨⟩
theorem tw4370086069003782432 : True := ⟨⟩
theorem tw9184033795430018204 : True := ⟨⟩
theorem tw9529696498207198238 : True := ⟨⟩
theorem tw10566571302883470556 : True := ⟨⟩
theorem tw8330938851228082562 : True := ⟨⟩
theorem tw14983226153234331074 : True := ⟨⟩
theorem tw16098122237329998606 : True := ⟨⟩
theorem tw18261290160731607033 : True := ⟨⟩
theorem tw1377309892636839040 : True := ⟨⟩
theorem tw8481075993509181622 : True := ⟨⟩
theorem tw9889521400790421688 : True := ⟨⟩
theorem tw17923851452625207687 : True := ⟨⟩
theorem tw7497986649931050792 : True := ⟨⟩
theorem tw16446244600992064566 : True := ⟨⟩
theorem tw16332274672890094952 : True := ⟨⟩
theorem tw9843604407834444796 : True := ⟨⟩
theorem tw9069877914133315304 : True := ⟨⟩
theorem tw10350734228115807855 : True := ⟨⟩
theorem tw3158129796062787159 : True := ⟨⟩
theorem tw12889056044993165476 : True := ⟨⟩
theorem tw13766487248619392586 : True := ⟨⟩
theorem tw3682559726232862161 : True := ⟨⟩
theorem tw11946022803392826334 : True := ⟨⟩
theorem tw2124134355350193313 : True := ⟨⟩
theorem tw13780023080261437657 : True := ⟨⟩
theorem tw6881874429007886204 : True := ⟨⟩
theorem tw11586273756423631628 : True := ⟨⟩
theorem tw6896717019858035522 : True := ⟨⟩
theorem tw11017292853192552079 : True := ⟨⟩
theorem tw2695550118857162214 : True := ⟨⟩
theorem tw850272041215511910 : True := ⟨⟩
theorem tw6667284449218939238 : True := ⟨⟩
theorem tw15802469936163623734 : True := ⟨⟩
theorem tw17713402740875732926 : True := ⟨⟩
theorem tw12831907817818079685 : True := ⟨⟩
theorem tw1989176631692091739 : True := ⟨⟩
theorem tw15522444059895599089 : True := ⟨⟩
theorem tw11484002064277903863 : True := ⟨⟩
theorem tw4889031023730116350 : True := ⟨⟩
theorem tw3572487005457819259 : True := ⟨⟩
theorem tw1767730674963353768 : True := ⟨⟩
theorem tw9403268196540146800 : True := ⟨⟩
theorem tw10465528174321978529 : True := ⟨⟩
theorem tw8804120190785687885 : True := ⟨⟩
theorem tw12977093529070104392 : True := ⟨⟩
theorem tw6265907326580845545 : True := ⟨⟩
theorem tw17499823404086765753 : True := ⟨⟩
theorem tw16009327648451700120 : True := ⟨⟩
theorem tw16978406815995349258 : True := ⟨⟩
theorem tw8040771413219435098 : True := ⟨⟩
theorem tw3186734533307500241 : True := ⟨⟩
theorem tw10812634152524527747 : True := ⟨⟩
theorem tw18340598423539479173 : True := ⟨⟩
theorem tw12419048959643632839 : True := ⟨⟩
theorem tw14385925486924208373 : True := ⟨⟩
theorem tw15557412600609386300 : True := ⟨⟩
theorem tw3974387499553966400 : True := ⟨⟩
theorem tw5037970770195530229 : True := ⟨⟩
theorem tw12684681026606017882 : True := ⟨⟩
theorem tw5640673133297012132 : True := ⟨⟩
theorem tw14789792462180790578 : True := ⟨⟩
theorem tw13028658284911697911 : True := ⟨⟩
theorem tw908389787484368193 : True := ⟨⟩
theorem tw8312341600987523519 : True := ⟨⟩
theorem tw8785698371604719795 : True := ⟨⟩
theorem tw16805829885119392726 : True := ⟨⟩
theorem tw12835091436910803158 : True := ⟨⟩
theorem tw17028624522117568015 : True := ⟨⟩
theorem tw10958410103948607464 : True := ⟨⟩
theorem tw15162217921772873613 : True := ⟨⟩
theorem tw2856731137302751260 : True := ⟨⟩
theorem tw5396443173393025938 : True := ⟨⟩
theorem tw5914491427308094424 : True := ⟨⟩
theorem tw1053317679998426468 : True := ⟨⟩
theorem tw13983371404066579822 : True := ⟨⟩
theorem tw2143268655074302082 : True := ⟨⟩
theorem tw8285764192309689115 : True := ⟨⟩
theorem tw10108825076125807744 : True := ⟨⟩
theorem tw8570087061310353148 : True := ⟨⟩
theorem tw15448297888555860652 : True := ⟨⟩
theorem tw10264638600885302300 : True := ⟨⟩
theorem tw11633083819707477107 : True := ⟨⟩
theorem tw4030767218360268280 : True := ⟨⟩
theorem tw2644310842459337959 : True := ⟨⟩
theorem tw5950301352895977177 : True := ⟨⟩
theorem tw15150646450996357022 : True := ⟨⟩
theorem tw1622690429015379626 : True := ⟨⟩
theorem tw5212653520564569363 : True := ⟨⟩
theorem tw17345407343664743607 : True := ⟨⟩
theorem tw3329330481660614911 : True := ⟨⟩
theorem tw17183477848116922584 : True := ⟨⟩
theorem tw8549365171731915398 : True := ⟨⟩
theorem tw15274831704391544125 : True := ⟨⟩
theorem tw4515466672771955728 : True := ⟨⟩
theorem tw1819975233463548508 : True := ⟨⟩
theorem tw17974257514489008736 : True := ⟨⟩
theorem tw14892801356780361778 : True := ⟨⟩
theorem tw1172607208729018732 : True := ⟨⟩
theorem tw14774650325386425613 : True := ⟨⟩
theorem tw17137235678499792623 : True := ⟨⟩
theorem tw13154458805202713791 : True := ⟨⟩
theorem tw15333956030411951890 : True := ⟨⟩
theorem tw14498155544194170393 : True := ⟨⟩
theorem tw7120836010843673076 : True := ⟨⟩
theorem tw2139172203440323022 : True := ⟨⟩
theorem tw18221580467831097590 : True := ⟨⟩
theorem tw11625900857008200698 : True := ⟨⟩
theorem tw15472126771306010800 : True := ⟨⟩
theorem tw7604666192120794032 : True := ⟨⟩
theorem tw3850375180904979519 : True := ⟨⟩
theorem tw3046938939346580660 : True := ⟨⟩
theorem tw3912811242725288453 : True := ⟨⟩
theorem tw16947615914383616782 : True := ⟨⟩
theorem tw3927331946688356228 : True := ⟨⟩
theorem tw14051398506283589457 : True := ⟨⟩
theorem tw15732109348078318572 : True := ⟨⟩
theorem tw14497384708736915567 : True := ⟨⟩
theorem tw8634839017697508684 : True := ⟨⟩
theorem tw17899081815984039989 : True := ⟨⟩
theorem tw2127001594154878533 : True := ⟨⟩
theorem tw1258919526383655059 : True := ⟨⟩
theorem tw881140697980615281 : True := ⟨⟩
theorem tw18326849912455186884 : True := ⟨⟩
theorem tw11803358882649189518 : True := ⟨⟩
theorem tw9423440377400516374 : True := ⟨⟩
theorem tw11463670642173560981 : True := ⟨⟩
theorem tw8441880690091102137 : True := ⟨⟩
theorem tw660297872995803996 : True := ⟨⟩
end law_holds
set_option Elab.async true in
theorem law_holds : PySem.Challenge.rw_ix0008_01.Holds := by
  w_on
  o_law
  k_head
  case hw => w_witness2
  intro w s₀ s₁ mg mb G Y fa o pm cd doc dV kV ho hd hcd hD hmg hg args vals as hpre hlay hrd hwl hlo
  have KX := kIn_of Y
  obtain rfl : dV = .none := by
    rcases hD.pos with ⟨_, e⟩ | ⟨z, _⟩
    · exact e
    · exact absurd rfl z
  obtain rfl : kV = .none := by
    rcases hD.kw with ⟨_, e⟩ | ⟨z, _⟩
    · exact e
    · exact absurd rfl z
  clear Y
  refine Ground.open G ?_
  intro T B D TE TW
  clear G D TE TW B
  wrow_args hpre hlay hrd hwl hlo
  case _ ns _ _ _ _ _ _ _ l vs _ hL _ _ _ hI _ hc _ =>
    have hz := IntsAre.length hI
    refine Mine.wC_mono (Mine.law_enter (w := w) (script := ns) KX (topRead_of T) ho hd hcd rfl rfl rfl rfl ?_ hg hL ?_ ?_) fun v s' ⟨e, k1, k2, k3⟩ => ?_
    · exact BindsTo.of_eq rfl
    · simpa using Mine.ints_er hI
    · simp only [List.size_toArray]
      omega
    · subst e
      refine ⟨.inl ⟨_, .bool true, [], rfl, ?_, .bool true, ?_, fun _ => ⟨.nil, by simp⟩⟩, OldK.of_keep k1, k2, k3⟩
      · exact fun cls => rfl
      · wrow_post
end Mine
theorem PySem.Challenge.cw_ix0008_01_holds : PySem.Challenge.rw_ix0008_01.Holds :=
  Mine.law_holds
