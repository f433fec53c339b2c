import PyProof.Rows.All
import Wide.All
import OpenK.AllK
import Wide.FinOn
import PySem.Challenge.RW_aj5019_01
open PySem PySem.W PyProof.Rows
set_option Elab.async false
set_option maxRecDepth 100000
set_option linter.unusedSimpArgs false
set_option linter.unusedVariables false
set_option maxHeartbeats 8000000

namespace Mine

/-! the pure side: a small tree of the fragment, and its weakest precondition over plain data -/
inductive Op where
  | add | sub | mul | fdiv | mod | shl | shr | band | bxor | pow
inductive CO where
  | eq | ne | lt | le | gt | ge | isin
inductive BI where
  | abs | len | min | max | isint | toint

inductive ME where
  | bad
  | k (d : PyData)
  | v (x : Nat)
  | bin (o : Op) (a b : ME)
  | neg (a : ME)
  | nt (a : ME)
  | cmp (o : CO) (a b : ME)
  | cmp2 (o1 o2 : CO) (a b c : ME)
  | all (l : List ME)
  | any (l : List ME)
  | ite (c a b : ME)
  | tup (l : List ME)
  | lst (l : List ME)
  | idx (a i : ME)
  | dct (t : List (Str × PyData)) (i : ME)
  | tail (a : ME)
  | call (f : Nat) (l : List ME)
  | bits (a : ME)
  | bi (b : BI) (l : List ME)
  | comp (x : Nat) (e it : ME)

inductive MS where
  | bad
  | asg (xs : List Nat) (e : ME)
  | unp (xs : List Nat) (e : ME)
  | aug (x : Nat) (o : Op) (e : ME)
  | ifs (c : ME) (a b : List MS)
  | whl (c : ME) (a : List MS)
  | forr (x : Nat) (e : ME) (a : List MS)
  | ret (e : ME)
  | asrt (e : ME)

abbrev MEnv := List (Nat × PyData)
noncomputable def lk : MEnv → Nat → Option PyData
  | [], _ => none
  | (y, d) :: r, x => match Nat.beq y x with
    | true => some d
    | false => lk r x

/-- a bound on an int's bits, never to be reckoned out -/
noncomputable def Big : Nat := 2 ^ 24
noncomputable def Sm (x : Int) : Prop := Builtin.Int.intBits x ≤ Big

inductive KK where
  | val (k : PyData → Prop)
  | cond (T F : Prop)
noncomputable def trW (d : PyData) (T F : Prop) : Prop := match d with
  | .bool b => (b = true → T) ∧ (b = false → F)
  | .int i => (i ≠ 0 → T) ∧ (i = 0 → F)
  | .none => F
  | _ => False
noncomputable def KK.go (κ : KK) (d : PyData) : Prop := match κ with
  | .val k => k d
  | .cond T F => trW d T F

noncomputable def binW (o : Op) (a b : PyData) (k : PyData → Prop) : Prop := match o, a, b with
  | .add, .int x, .int y => k (.int (x + y))
  | .add, .tuple x, .tuple y => (x ≠ [] ∧ y ≠ [] ∧ x.length + y.length ≤ 100) ∧ k (.tuple (x ++ y))
  | .sub, .int x, .int y => k (.int (x - y))
  | .mul, .int x, .int y => (Sm x ∧ Sm y) ∧ k (.int (x * y))
  | .fdiv, .int x, .int y => (y ≠ 0 ∧ Builtin.Int.intBits y ≤ 8000) ∧ k (.int (x.fdiv y))
  | .mod, .int x, .int y => y ≠ 0 ∧ k (.int (x.fmod y))
  | .shl, .int x, .int y => (0 ≤ y ∧ y ≤ 1000000 ∧ Sm x) ∧ k (.int (x * 2 ^ y.toNat))
  | .shr, .int x, .int y => 0 ≤ y ∧ k (.int (x.fdiv (2 ^ y.toNat)))
  | .band, .int x, .int y => k (.int (Builtin.bitAnd x y))
  | .bxor, .int x, .int y => k (.int (Builtin.bitXor x y))
  | .pow, .int x, .int y => (0 ≤ y ∧ (Builtin.Int.intBits x : Int) * y ≤ 2 ^ 27) ∧ k (.int (x ^ y.toNat))
  | _, _, _ => False

noncomputable def augW (o : Op) (a b : PyData) (k : PyData → Prop) : Prop := match a, b with
  | .int x, .int y => binW o (.int x) (.int y) k
  | _, _ => False

noncomputable def okEq (a : PyData) : Bool := SeqAt.shaped a
/-- a comparison, split at once -/
noncomputable def cmpT (o : CO) (a b : PyData) (T F : Prop) : Prop := match o, a, b with
  | .eq, .int x, .int y => (x = y → T) ∧ (x ≠ y → F)
  | .ne, .int x, .int y => (x ≠ y → T) ∧ (x = y → F)
  | .lt, .int x, .int y => (x < y → T) ∧ (y ≤ x → F)
  | .le, .int x, .int y => (x ≤ y → T) ∧ (y < x → F)
  | .gt, .int x, .int y => (y < x → T) ∧ (x ≤ y → F)
  | .ge, .int x, .int y => (y ≤ x → T) ∧ (x < y → F)
  | .eq, .str x, .str y => (x = y → T) ∧ (x ≠ y → F)
  | .eq, .tuple x, .tuple y => (okEq (.tuple x) = true ∧ okEq (.tuple y) = true) ∧ (PyData.eqv (.tuple x) (.tuple y) = true → T) ∧ (PyData.eqv (.tuple x) (.tuple y) = false → F)
  | .ne, .tuple x, .tuple y => (okEq (.tuple x) = true ∧ okEq (.tuple y) = true) ∧ (PyData.eqv (.tuple x) (.tuple y) = false → T) ∧ (PyData.eqv (.tuple x) (.tuple y) = true → F)
  | .isin, .str x, .str y => ((Builtin.Str.occurrences y x 0 y.length 1).isEmpty = false → T) ∧ ((Builtin.Str.occurrences y x 0 y.length 1).isEmpty = true → F)
  | _, _, _ => False
noncomputable def cmpW (o : CO) (a b : PyData) (κ : KK) : Prop := match κ with
  | .cond T F => cmpT o a b T F
  | .val k => cmpT o a b (k (.bool true)) (k (.bool false))

noncomputable def negW (a : PyData) (k : PyData → Prop) : Prop := match a with
  | .int x => k (.int (-x))
  | _ => False
noncomputable def idxW (a i : PyData) (k : PyData → Prop) : Prop := match a, i with
  | .tuple l, .int i => match i with
    | .ofNat n => n < 1000 ∧ match l[n]? with
      | some d => k d
      | none => False
    | .negSucc _ => False
  | .list l, .int i => (0 ≤ i ∧ i < 2 ^ 62) ∧ match l[i.toNat]? with
      | some d => k d
      | none => False
  | _, _ => False
noncomputable def dctW (t : List (Str × PyData)) (i : PyData) (k : PyData → Prop) : Prop := match i with
  | .str x => match t.lookup x with
    | some d => k d
    | none => False
  | _ => False
noncomputable def tailW (a : PyData) (k : PyData → Prop) : Prop := match a with
  | .list [_, b] => k (.list [b])
  | _ => False
noncomputable def bitsW (a : PyData) (k : PyData → Prop) : Prop := match a with
  | .int x => k (.int (Builtin.Int.intBits x))
  | _ => False
noncomputable def biW (b : BI) (l : List PyData) (k : PyData → Prop) : Prop := match b, l with
  | .abs, [.int x] => k (.int (if x < 0 then -x else x))
  | .len, [.list l] => l.length < 2 ^ 62 ∧ k (.int l.length)
  | .min, [.int x, .int y] => k (.int (if y < x then y else x))
  | .max, [.int x, .int y] => k (.int (if y > x then y else x))
  | .isint, [.int _] => k (.bool true)
  | .toint, [.int x] => k (.int x)
  | _, _ => False

noncomputable def flatI : List PyData → Bool
  | [] => true
  | .int _ :: r => flatI r
  | _ => false
noncomputable def flat : PyData → Bool
  | .tuple l => flatI l
  | .int _ => true
  | _ => false
noncomputable def mapW (f : PyData → (PyData → Prop) → Prop) : List PyData → (List PyData → Prop) → Prop
  | [], k => k []
  | d :: r, k => f d fun e => flat e = true ∧ mapW f r fun es => k (e :: es)
noncomputable def compW (f : PyData → (PyData → Prop) → Prop) (d : PyData) (k : PyData → Prop) : Prop := match d with
  | .tuple l => l.length ≤ 100 ∧ mapW f l fun es => k (.list es)
  | _ => False

abbrev CallW := Nat → List PyData → (PyData → Prop) → Prop

mutual
noncomputable def W (C : CallW) : ME → MEnv → KK → Prop
  | .bad, _, _ => False
  | .k d, _, κ => κ.go d
  | .v x, ρ, κ => match lk ρ x with
    | some d => κ.go d
    | none => False
  | .bin o a b, ρ, κ => W C a ρ (.val fun x => W C b ρ (.val fun y => binW o x y κ.go))
  | .neg a, ρ, κ => W C a ρ (.val fun x => negW x κ.go)
  | .nt a, ρ, .val k => W C a ρ (.val fun d => trW d (k (.bool false)) (k (.bool true)))
  | .nt a, ρ, .cond T F => W C a ρ (.cond F T)
  | .cmp o a b, ρ, κ => W C a ρ (.val fun x => W C b ρ (.val fun y => cmpW o x y κ))
  | .cmp2 o1 o2 a b c, ρ, κ => W C a ρ (.val fun x => W C b ρ (.val fun y => cmpT o1 x y (W C c ρ (.val fun z => cmpW o2 y z κ)) (κ.go (.bool false))))
  | .all l, ρ, κ => Wall C l ρ κ
  | .any l, ρ, κ => Wany C l ρ κ
  | .ite c a b, ρ, κ => W C c ρ (.cond (W C a ρ κ) (W C b ρ κ))
  | .tup l, ρ, κ => Ws C l ρ fun ds => ds.length ≤ 100 ∧ κ.go (.tuple ds)
  | .lst l, ρ, κ => Ws C l ρ fun ds => ds.length ≤ 100 ∧ κ.go (.list ds)
  | .idx a i, ρ, κ => W C a ρ (.val fun x => W C i ρ (.val fun y => idxW x y κ.go))
  | .dct t i, ρ, κ => W C i ρ (.val fun y => dctW t y κ.go)
  | .tail a, ρ, κ => W C a ρ (.val fun x => tailW x κ.go)
  | .call f l, ρ, κ => Ws C l ρ fun ds => C f ds κ.go
  | .bits a, ρ, κ => W C a ρ (.val fun x => bitsW x κ.go)
  | .bi b l, ρ, κ => Ws C l ρ fun ds => biW b ds κ.go
  | .comp x e it, ρ, κ => W C it ρ (.val fun d => compW (fun y k => W C e [(x, y)] (.val k)) d κ.go)
noncomputable def Ws (C : CallW) : List ME → MEnv → (List PyData → Prop) → Prop
  | [], _, k => k []
  | e :: r, ρ, k => W C e ρ (.val fun d => Ws C r ρ fun ds => k (d :: ds))
/-- and: as a value (the last, or the first that is false), or as a test -/
noncomputable def Wall (C : CallW) : List ME → MEnv → KK → Prop
  | [], _, .cond T _ => T
  | [], _, .val _ => False
  | e :: r, ρ, .cond T F => W C e ρ (.cond (Wall C r ρ (.cond T F)) F)
  | e :: r, ρ, .val k => match r with
    | [] => W C e ρ (.val k)
    | e' :: r' => W C e ρ (.val fun d => trW d (Wall C (e' :: r') ρ (.val k)) (k d))
noncomputable def Wany (C : CallW) : List ME → MEnv → KK → Prop
  | [], _, .cond _ F => F
  | [], _, .val _ => False
  | e :: r, ρ, .cond T F => W C e ρ (.cond T (Wany C r ρ (.cond T F)))
  | e :: r, ρ, .val k => match r with
    | [] => W C e ρ (.val k)
    | e' :: r' => W C e ρ (.val fun d => trW d (k d) (Wany C (e' :: r') ρ (.val k)))
end

noncomputable def setAll : List Nat → List PyData → MEnv → Option MEnv
  | [], [], ρ => some ρ
  | x :: xs, d :: ds, ρ => setAll xs ds ((x, d) :: ρ)
  | _, _, _ => none
noncomputable def sameAll (d : PyData) : List Nat → MEnv → MEnv
  | [], ρ => ρ
  | x :: xs, ρ => sameAll d xs ((x, d) :: ρ)
noncomputable def unpW (xs : List Nat) (d : PyData) (ρ : MEnv) (k : MEnv → Prop) : Prop := match d with
  | .tuple l => (match setAll xs l ρ with
    | some ρ' => k ρ'
    | none => False)
  | .list l => (match setAll xs l ρ with
    | some ρ' => k ρ'
    | none => False)
  | _ => False
noncomputable def whileW (t : MEnv → Prop → Prop → Prop) (b : MEnv → (MEnv → Prop) → Prop) (kn : MEnv → Prop) : Nat → MEnv → Prop
  | 0, _ => False
  | n + 1, ρ => t ρ (b ρ fun ρ' => whileW t b kn n ρ') (kn ρ)
noncomputable def forW (x : Nat) (b : MEnv → (MEnv → Prop) → Prop) (kn : MEnv → Prop) : List PyData → MEnv → Prop
  | [], ρ => kn ρ
  | d :: r, ρ => b ((x, d) :: ρ) fun ρ' => forW x b kn r ρ'
noncomputable def forWd (x : Nat) (b : MEnv → (MEnv → Prop) → Prop) (kn : MEnv → Prop) (d : PyData) (ρ : MEnv) : Prop := match d with
  | .list l => forW x b kn l ρ
  | _ => False

mutual
noncomputable def X (C : CallW) : MS → MEnv → (MEnv → Prop) → (PyData → Prop) → Prop
  | .bad, _, _, _ => False
  | .asg xs e, ρ, kn, _ => W C e ρ (.val fun d => kn (sameAll d xs ρ))
  | .unp xs e, ρ, kn, _ => W C e ρ (.val fun d => unpW xs d ρ kn)
  | .aug x o e, ρ, kn, _ => match lk ρ x with
    | some d => W C e ρ (.val fun y => augW o d y fun r => kn ((x, r) :: ρ))
    | none => False
  | .ifs c a b, ρ, kn, kr => W C c ρ (.cond (Xs C a ρ kn kr) (Xs C b ρ kn kr))
  | .whl c a, ρ, kn, kr => ∃ n, whileW (fun ρ T F => W C c ρ (.cond T F)) (fun ρ k => Xs C a ρ k kr) kn n ρ
  | .forr x e a, ρ, kn, kr => W C e ρ (.val fun d => forWd x (fun ρ k => Xs C a ρ k kr) kn d ρ)
  | .ret e, ρ, _, kr => W C e ρ (.val kr)
  | .asrt e, ρ, kn, _ => W C e ρ (.cond (kn ρ) False)
noncomputable def Xs (C : CallW) : List MS → MEnv → (MEnv → Prop) → (PyData → Prop) → Prop
  | [], ρ, kn, _ => kn ρ
  | s :: r, ρ, kn, kr => X C s ρ (fun ρ' => Xs C r ρ' kn kr) kr
end

/-- a def: its parameters, the defaults of the last ones, its body -/
structure MF where
  ps : List Nat
  df : List PyData
  body : List MS
noncomputable def bindW (ps : List Nat) (df : List PyData) (args : List PyData) : Option MEnv :=
  match Nat.ble args.length ps.length, Nat.ble ps.length (args.length + df.length) with
  | true, true => setAll ps (args ++ df.drop (args.length + df.length - ps.length)) []
  | _, _ => none
noncomputable def bodyW (f : MF) (C : CallW) (args : List PyData) (k : PyData → Prop) : Prop := match bindW f.ps f.df args with
  | some ρ => Xs C f.body ρ (fun _ => False) k
  | none => False
noncomputable def callW (T : Nat → Option MF) : Nat → CallW
  | 0 => fun _ _ _ => False
  | d + 1 => fun f args k => match T f with
    | some mf => bodyW mf (callW T d) args k
    | none => False
end Mine

namespace Mine
variable (x y : Int) (k : PyData → Prop) (T F : Prop) (s t : Str)
theorem v_add : binW .add (.int x) (.int y) k = k (.int (x + y)) := rfl
theorem v_sub : binW .sub (.int x) (.int y) k = k (.int (x - y)) := rfl
theorem v_mul : binW .mul (.int x) (.int y) k = ((Sm x ∧ Sm y) ∧ k (.int (x * y))) := rfl
theorem v_fdiv : binW .fdiv (.int x) (.int y) k = ((y ≠ 0 ∧ Builtin.Int.intBits y ≤ 8000) ∧ k (.int (x.fdiv y))) := rfl
theorem v_mod : binW .mod (.int x) (.int y) k = (y ≠ 0 ∧ k (.int (x.fmod y))) := rfl
theorem v_shl : binW .shl (.int x) (.int y) k = ((0 ≤ y ∧ y ≤ 1000000 ∧ Sm x) ∧ k (.int (x * 2 ^ y.toNat))) := rfl
theorem v_shr : binW .shr (.int x) (.int y) k = (0 ≤ y ∧ k (.int (x.fdiv (2 ^ y.toNat)))) := rfl
theorem v_band : binW .band (.int x) (.int y) k = k (.int (Builtin.bitAnd x y)) := rfl
theorem v_bxor : binW .bxor (.int x) (.int y) k = k (.int (Builtin.bitXor x y)) := rfl
theorem v_pow : binW .pow (.int x) (.int y) k = ((0 ≤ y ∧ (Builtin.Int.intBits x : Int) * y ≤ 2 ^ 27) ∧ k (.int (x ^ y.toNat))) := rfl
theorem v_aug (o : Op) : augW o (.int x) (.int y) k = binW o (.int x) (.int y) k := rfl
theorem v_cc (o : CO) (a b : PyData) : cmpW o a b (.cond T F) = cmpT o a b T F := rfl
theorem v_cv (o : CO) (a b : PyData) : cmpW o a b (.val k) = cmpT o a b (k (.bool true)) (k (.bool false)) := rfl
theorem v_eq : cmpT .eq (.int x) (.int y) T F = ((x = y → T) ∧ (x ≠ y → F)) := rfl
theorem v_ne : cmpT .ne (.int x) (.int y) T F = ((x ≠ y → T) ∧ (x = y → F)) := rfl
theorem v_lt : cmpT .lt (.int x) (.int y) T F = ((x < y → T) ∧ (y ≤ x → F)) := rfl
theorem v_le : cmpT .le (.int x) (.int y) T F = ((x ≤ y → T) ∧ (y < x → F)) := rfl
theorem v_gt : cmpT .gt (.int x) (.int y) T F = ((y < x → T) ∧ (x ≤ y → F)) := rfl
theorem v_ge : cmpT .ge (.int x) (.int y) T F = ((y ≤ x → T) ∧ (x < y → F)) := rfl
theorem v_in : cmpT .isin (.str s) (.str t) T F = (((Builtin.Str.occurrences t s 0 t.length 1).isEmpty = false → T) ∧ ((Builtin.Str.occurrences t s 0 t.length 1).isEmpty = true → F)) := rfl
theorem v_tri : trW (.int x) T F = ((x ≠ 0 → T) ∧ (x = 0 → F)) := rfl
theorem v_trb (b : Bool) : trW (.bool b) T F = ((b = true → T) ∧ (b = false → F)) := rfl
theorem v_gv : (KK.val k).go = k := rfl
theorem v_gc : (KK.cond T F).go = fun d => trW d T F := rfl
theorem v_neg : negW (.int x) k = k (.int (-x)) := rfl
theorem v_bits : bitsW (.int x) k = k (.int (Builtin.Int.intBits x)) := rfl
theorem v_max : biW .max [.int x, .int y] k = k (.int (if y > x then y else x)) := rfl
theorem v_min : biW .min [.int x, .int y] k = k (.int (if y < x then y else x)) := rfl
theorem v_abs : biW .abs [.int x] k = k (.int (if x < 0 then -x else x)) := rfl
theorem lk_hit (n : Nat) (d : PyData) (r : MEnv) : lk ((n, d) :: r) n = some d := by
  have : Nat.beq n n = true := by simp
  simp only [lk, this]
end Mine

namespace Mine

/-! numbers: the length in bits, the zeros behind, the odd part -/
noncomputable def bl (n : Nat) : Nat := if n = 0 then 0 else n.log2 + 1
theorem pp (n : Nat) : 0 < 2 ^ n := Nat.pow_pos (by decide)
theorem bl_zero : bl 0 = 0 := rfl
theorem bl_pos {n : Nat} (h : n ≠ 0) : 0 < bl n := by unfold bl; rw [if_neg h]; omega
theorem bl_lt (n : Nat) : n < 2 ^ bl n := by
  unfold bl
  split
  · rename_i h; subst h; decide
  · exact Nat.lt_log2_self
theorem bl_le {n : Nat} (h : n ≠ 0) : 2 ^ (bl n - 1) ≤ n := by
  unfold bl
  rw [if_neg h]
  exact Nat.log2_self_le h
theorem bl_le_of_lt {n b : Nat} (h : n < 2 ^ b) : bl n ≤ b := by
  unfold bl
  split
  · exact Nat.zero_le _
  · rename_i h0
    exact (Nat.log2_lt h0).mpr h
theorem le_bl_of_le {n b : Nat} (h : 2 ^ b ≤ n) : b + 1 ≤ bl n := by
  have h0 : n ≠ 0 := by have := pp b; omega
  have h1 := bl_lt n
  have : 2 ^ b < 2 ^ bl n := Nat.lt_of_le_of_lt h h1
  have := (Nat.pow_lt_pow_iff_right (by decide : 1 < 2)).mp this
  omega
theorem bl_unique {n b : Nat} (h1 : 2 ^ b ≤ n) (h2 : n < 2 ^ (b + 1)) : bl n = b + 1 :=
  Nat.le_antisymm (bl_le_of_lt h2) (le_bl_of_le h1)
theorem bl_mono {m n : Nat} (h : m ≤ n) : bl m ≤ bl n := bl_le_of_lt (Nat.lt_of_le_of_lt h (bl_lt n))
theorem bl_mul {n : Nat} (h : n ≠ 0) (j : Nat) : bl (n * 2 ^ j) = bl n + j := by
  have h1 := bl_le h
  have h2 := bl_lt n
  have h3 := bl_pos h
  have : bl n + j = (bl n - 1 + j) + 1 := by omega
  rw [this]
  refine bl_unique ?_ ?_
  · rw [Nat.pow_add]; exact Nat.mul_le_mul_right _ h1
  · have e : bl n - 1 + j + 1 = bl n + j := by omega
    rw [e, Nat.pow_add]
    exact Nat.mul_lt_mul_of_pos_right h2 (pp j)
theorem bl_pow (j : Nat) : bl (2 ^ j) = j + 1 := bl_unique (Nat.le_refl _) (Nat.pow_lt_pow_right (by decide) (by omega))
theorem bits_nat (n : Nat) : Builtin.Int.intBits (n : Int) = bl n := by
  unfold Builtin.Int.intBits bl
  by_cases h : n = 0
  · subst h; rfl
  · have : ((n : Int) == 0) = false := by simp; omega
    rw [this, if_neg h]
    simp
theorem bits_neg (x : Int) : Builtin.Int.intBits (-x) = Builtin.Int.intBits x := by
  unfold Builtin.Int.intBits
  by_cases h : x = 0
  · subst h; rfl
  · have h1 : ((-x : Int) == 0) = false := by simp; omega
    have h2 : ((x : Int) == 0) = false := by simp; omega
    rw [h1, h2, Int.natAbs_neg]

noncomputable def tz (n : Nat) : Nat := if n = 0 then 0 else if n % 2 = 1 then 0 else tz (n / 2) + 1
termination_by n
decreasing_by omega
theorem tz_odd {n : Nat} (h : n % 2 = 1) : tz n = 0 := by
  rw [tz]
  simp [h]
theorem tz_even {n : Nat} (h : n ≠ 0) : tz (2 * n) = tz n + 1 := by
  rw [tz, if_neg (by omega), if_neg (by omega)]
  congr 2
  omega
theorem tz_mul {o : Nat} (h : o % 2 = 1) : ∀ t, tz (o * 2 ^ t) = t
  | 0 => by simpa using tz_odd h
  | t + 1 => by
    have e : o * 2 ^ (t + 1) = 2 * (o * 2 ^ t) := by rw [Nat.pow_succ]; simp only [Nat.mul_comm, Nat.mul_left_comm]
    rw [e, tz_even, tz_mul h t]
    have := Nat.mul_pos (by omega : 0 < o) (pp t)
    omega
theorem tz_spec : ∀ n : Nat, n ≠ 0 → ∃ o, n = o * 2 ^ tz n ∧ o % 2 = 1 := by
  intro n
  induction n using Nat.strongRecOn with
  | ind n ih =>
    intro h
    by_cases h1 : n % 2 = 1
    · exact ⟨n, by rw [tz_odd h1]; simp, h1⟩
    · have h2 : n = 2 * (n / 2) := by omega
      have h3 : n / 2 ≠ 0 := by omega
      obtain ⟨o, e, ho⟩ := ih (n / 2) (by omega) h3
      refine ⟨o, ?_, ho⟩
      rw [h2, tz_even h3, Nat.pow_succ, ← Nat.mul_assoc, ← e]
      omega
noncomputable def od (n : Nat) : Nat := n / 2 ^ tz n
theorem od_mul {n : Nat} (h : n ≠ 0) : od n * 2 ^ tz n = n := by
  obtain ⟨o, e, ho⟩ := tz_spec n h
  unfold od
  have : n / 2 ^ tz n = o := by
    conv => lhs; lhs; rw [e]
    exact Nat.mul_div_cancel _ (pp _)
  rw [this]; exact e.symm
theorem od_odd {n : Nat} (h : n ≠ 0) : od n % 2 = 1 := by
  obtain ⟨o, e, ho⟩ := tz_spec n h
  have : od n = o := by
    unfold od
    conv => lhs; lhs; rw [e]
    exact Nat.mul_div_cancel _ (pp _)
  rw [this]; exact ho
theorem od_of {o : Nat} (h : o % 2 = 1) (t : Nat) : od (o * 2 ^ t) = o := by
  unfold od
  rw [tz_mul h]
  exact Nat.mul_div_cancel _ (pp _)
theorem od_shift {n : Nat} (h : n ≠ 0) (j : Nat) : od (n * 2 ^ j) = od n ∧ tz (n * 2 ^ j) = tz n + j := by
  have e := od_mul h
  have ho := od_odd h
  have e2 : n * 2 ^ j = od n * 2 ^ (tz n + j) := by
    rw [Nat.pow_add, ← Nat.mul_assoc, e]
  rw [e2]
  exact ⟨od_of ho _, tz_mul ho _⟩
theorem od_ne {n : Nat} (h : n ≠ 0) : od n ≠ 0 := by have := od_odd h; omega
theorem bl_od {n : Nat} (h : n ≠ 0) : bl n = bl (od n) + tz n := by
  have := bl_mul (od_ne h) (tz n)
  rw [od_mul h] at this
  exact this

theorem and_pred_odd (n : Nat) (h : n % 2 = 1) : n &&& (n - 1) = n - 1 := by
  have h1 : (n &&& (n - 1)) / 2 = (n - 1) / 2 := by
    rw [Nat.and_div_two]
    have : n / 2 = (n - 1) / 2 := by omega
    rw [this, Nat.and_self]
  have h2 : (n &&& (n - 1)) % 2 = 0 := by
    have := @Nat.and_mod_two_eq_one n (n - 1)
    omega
  omega
theorem and_pred (n : Nat) : n ≠ 0 → n &&& (n - 1) = n - 2 ^ tz n := by
  induction n using Nat.strongRecOn with
  | ind n ih =>
    intro h
    by_cases h1 : n % 2 = 1
    · rw [and_pred_odd n h1, tz_odd h1]
    · have h3 : n / 2 ≠ 0 := by omega
      have e : n = 2 * (n / 2) := by omega
      have i := ih (n / 2) (by omega) h3
      have h4 : (n &&& (n - 1)) / 2 = n / 2 - 2 ^ tz (n / 2) := by
        rw [Nat.and_div_two]
        have : (n - 1) / 2 = n / 2 - 1 := by omega
        rw [this, i]
      have h5 : (n &&& (n - 1)) % 2 = 0 := by
        have := @Nat.and_mod_two_eq_one n (n - 1)
        omega
      have h6 : tz n = tz (n / 2) + 1 := by
        have := tz_even h3
        rw [← e] at this
        exact this
      rw [h6, Nat.pow_succ]
      omega
theorem tz_le {n : Nat} (h : n ≠ 0) : 2 ^ tz n ≤ n := by
  have := od_mul h
  have := Nat.mul_le_mul_right (2 ^ tz n) (Nat.pos_of_ne_zero (od_ne h))
  omega
theorem band_neg {n : Nat} (h : n ≠ 0) : Builtin.bitAnd (n : Int) (-(n : Int)) = ((2 ^ tz n : Nat) : Int) := by
  unfold Builtin.bitAnd
  have h1 : decide ((0 : Int) ≤ n) = true := by simp
  have h2 : decide ((0 : Int) ≤ -(n : Int)) = false := by simp; omega
  rw [h1, h2]
  have h3 : (Builtin.bitNot (-(n : Int))).toNat = n - 1 := by unfold Builtin.bitNot; omega
  simp only [h3]
  have h4 : ((n : Int).toNat) = n := by omega
  rw [h4, and_pred n h]
  have := tz_le h
  omega

/-! rounding to p bits -/
noncomputable def Pb (p x : Nat) : Prop := ∃ m k, m < 2 ^ p ∧ x = m * 2 ^ k
noncomputable def Fl (p X : Nat) : Nat := X / 2 ^ (bl X - p) * 2 ^ (bl X - p)
noncomputable def Ce (p X : Nat) : Nat := (X + (2 ^ (bl X - p) - 1)) / 2 ^ (bl X - p) * 2 ^ (bl X - p)

theorem gap_down {p a n q : Nat} (hp : 1 ≤ p) (ha : 2 ^ (p - 1) ≤ a) (hq : Pb p q) (h : q < (a + 1) * 2 ^ n) : q ≤ a * 2 ^ n := by
  obtain ⟨m, k, hm, rfl⟩ := hq
  by_cases hk : n ≤ k
  · have e : m * 2 ^ k = m * 2 ^ (k - n) * 2 ^ n := by rw [Nat.mul_assoc, ← Nat.pow_add]; congr 2; omega
    rw [e] at h ⊢
    have := Nat.lt_of_mul_lt_mul_right h
    exact Nat.mul_le_mul_right _ (by omega)
  · have h1 : m * 2 ^ k ≤ 2 ^ p * 2 ^ k := Nat.mul_le_mul_right _ (by omega)
    have h2 : 2 ^ p * 2 ^ k ≤ 2 ^ (p - 1) * 2 ^ n := by
      rw [← Nat.pow_add, ← Nat.pow_add]
      exact Nat.pow_le_pow_right (by decide) (by omega)
    have h3 : 2 ^ (p - 1) * 2 ^ n ≤ a * 2 ^ n := Nat.mul_le_mul_right _ ha
    omega
theorem gap_up {p a n q : Nat} (hp : 1 ≤ p) (ha : 2 ^ (p - 1) ≤ a) (hq : Pb p q) (h : a * 2 ^ n < q) : (a + 1) * 2 ^ n ≤ q := by
  refine Nat.le_of_not_lt fun h2 => ?_
  have := gap_down hp ha hq h2
  omega
theorem top_bits {p X : Nat} (h : p ≤ bl X) (h0 : X ≠ 0) (hp : 1 ≤ p) : 2 ^ (p - 1) ≤ X / 2 ^ (bl X - p) := by
  rw [Nat.le_div_iff_mul_le (pp _), ← Nat.pow_add]
  have := bl_le h0
  have e : p - 1 + (bl X - p) = bl X - 1 := by have := bl_pos h0; omega
  rw [e]; exact this
theorem div_lt_p {p X : Nat} : X / 2 ^ (bl X - p) < 2 ^ p := by
  rw [Nat.div_lt_iff_lt_mul (pp _), ← Nat.pow_add]
  have := bl_lt X
  have h2 : 2 ^ bl X ≤ 2 ^ (p + (bl X - p)) := Nat.pow_le_pow_right (by decide) (by omega)
  omega
theorem Fl_pb {p X : Nat} : Pb p (Fl p X) := ⟨_, _, div_lt_p, rfl⟩
theorem Fl_le {p X : Nat} : Fl p X ≤ X := Nat.div_mul_le_self _ _
theorem lt_div_succ (X n : Nat) : X < (X / 2 ^ n + 1) * 2 ^ n := by
  have := Nat.lt_div_mul_add (a := X) (pp n)
  rw [Nat.add_mul]
  omega
theorem Fl_max {p X q : Nat} (hp : 1 ≤ p) (hq : Pb p q) (h : q ≤ X) : q ≤ Fl p X := by
  unfold Fl
  by_cases hb : p ≤ bl X
  · by_cases h0 : X = 0
    · subst h0; omega
    · exact gap_down hp (top_bits hb h0 hp) hq (Nat.lt_of_le_of_lt h (lt_div_succ _ _))
  · have : bl X - p = 0 := by omega
    rw [this]; simpa using h
theorem Ce_ge {p X : Nat} : X ≤ Ce p X := by
  unfold Ce
  have := lt_div_succ (X + (2 ^ (bl X - p) - 1)) (bl X - p)
  have h2 := pp (bl X - p)
  rw [Nat.add_mul] at this
  omega
theorem Ce_min {p X q : Nat} (hp : 1 ≤ p) (hq : Pb p q) (h : X ≤ q) : Ce p X ≤ q := by
  unfold Ce
  by_cases hb : p ≤ bl X
  · by_cases h0 : X = 0
    · subst h0
      have : bl 0 - p = 0 := by rw [bl_zero]; omega
      rw [this]; simp
    · have hn := pp (bl X - p)
      generalize hgn : bl X - p = n at *
      have ht : 2 ^ (p - 1) ≤ X / 2 ^ n := by rw [← hgn]; exact top_bits hb h0 hp
      by_cases hd : X = X / 2 ^ n * 2 ^ n
      · have e : (X + (2 ^ n - 1)) / 2 ^ n = X / 2 ^ n := by
          refine Nat.div_eq_of_lt_le ?_ ?_
          · omega
          · rw [Nat.add_mul]; omega
        rw [e]; omega
      · have hl : X / 2 ^ n * 2 ^ n < q := by
          have := Nat.div_mul_le_self X (2 ^ n)
          omega
        have hu := gap_up hp ht hq hl
        refine Nat.le_trans (Nat.mul_le_mul_right _ ?_) hu
        have hx := lt_div_succ X n
        refine Nat.lt_succ_iff.mp ?_
        rw [Nat.div_lt_iff_lt_mul hn]
        rw [Nat.add_mul] at hx
        rw [Nat.succ_mul, Nat.add_mul]
        omega
  · have : bl X - p = 0 := by omega
    rw [this]; simpa using h
theorem Pb_pow {p : Nat} (hp : 1 ≤ p) (h : Nat) : Pb p (2 ^ h) := ⟨1, h, by have := Nat.pow_le_pow_right (n := 2) (by decide) hp; omega, by simp⟩
theorem Ce_pb {p X : Nat} (hp : 1 ≤ p) : Pb p (Ce p X) := by
  unfold Ce
  generalize hgn : bl X - p = n
  have h1 : (X + (2 ^ n - 1)) / 2 ^ n ≤ 2 ^ p := by
    have hx : X < 2 ^ (p + n) := Nat.lt_of_lt_of_le (bl_lt X) (Nat.pow_le_pow_right (by decide) (by omega))
    rw [Nat.pow_add] at hx
    have hn := pp n
    refine Nat.lt_succ_iff.mp ?_
    rw [Nat.div_lt_iff_lt_mul hn, Nat.succ_mul]
    omega
  rcases Nat.lt_or_eq_of_le h1 with h | h
  · exact ⟨_, _, h, rfl⟩
  · rw [h, ← Nat.pow_add]
    exact Pb_pow hp _
theorem Pb_mono {p p' x : Nat} (h : p ≤ p') (hx : Pb p x) : Pb p' x := by
  obtain ⟨m, k, hm, e⟩ := hx
  exact ⟨m, k, Nat.lt_of_lt_of_le hm (Nat.pow_le_pow_right (by decide) h), e⟩
theorem Pb_of_bl {p x : Nat} (h : bl x ≤ p) : Pb p x := ⟨x, 0, Nat.lt_of_lt_of_le (bl_lt x) (Nat.pow_le_pow_right (by decide) h), by simp⟩
theorem Pb_shift {p x : Nat} (h : Pb p x) (j : Nat) : Pb p (x * 2 ^ j) := by
  obtain ⟨m, k, hm, e⟩ := h
  exact ⟨m, k + j, hm, by rw [e, Nat.pow_add, Nat.mul_assoc]⟩
theorem Fl_exact {p X : Nat} (hp : 1 ≤ p) (h : Pb p X) : Fl p X = X := Nat.le_antisymm Fl_le (Fl_max hp h (Nat.le_refl _))
theorem Ce_exact {p X : Nat} (hp : 1 ≤ p) (h : Pb p X) : Ce p X = X := Nat.le_antisymm (Ce_min hp h (Nat.le_refl _)) Ce_ge
theorem Fl_mono {p X Y : Nat} (hp : 1 ≤ p) (h : X ≤ Y) : Fl p X ≤ Fl p Y := Fl_max hp Fl_pb (Nat.le_trans Fl_le h)
theorem Ce_mono {p X Y : Nat} (hp : 1 ≤ p) (h : X ≤ Y) : Ce p X ≤ Ce p Y := Ce_min hp (Ce_pb hp) (Nat.le_trans h Ce_ge)
theorem Fl_bound {p X h : Nat} (hX : X ≤ 2 ^ h) : Fl p X ≤ 2 ^ h := Nat.le_trans Fl_le hX
theorem Ce_bound {p X h : Nat} (hp : 1 ≤ p) (hX : X ≤ 2 ^ h) : Ce p X ≤ 2 ^ h := Ce_min hp (Pb_pow hp h) hX
theorem Fl_low {p X h : Nat} (hp : 1 ≤ p) (hX : 2 ^ h ≤ X) : 2 ^ h ≤ Fl p X := Fl_max hp (Pb_pow hp h) hX
theorem Fl_dvd {p X c : Nat} (h : 2 ^ c ∣ X) : 2 ^ c ∣ Fl p X := by
  unfold Fl
  by_cases hn : c ≤ bl X - p
  · exact Nat.dvd_trans (Nat.pow_dvd_pow 2 hn) (Nat.dvd_mul_left _ _)
  · have : 2 ^ (bl X - p) ∣ X := Nat.dvd_trans (Nat.pow_dvd_pow 2 (by omega)) h
    rw [Nat.div_mul_cancel this]; exact h
theorem Ce_dvd {p X c : Nat} (h : 2 ^ c ∣ X) : 2 ^ c ∣ Ce p X := by
  unfold Ce
  by_cases hn : c ≤ bl X - p
  · exact Nat.dvd_trans (Nat.pow_dvd_pow 2 hn) (Nat.dvd_mul_left _ _)
  · have h2 : 2 ^ (bl X - p) ∣ X := Nat.dvd_trans (Nat.pow_dvd_pow 2 (by omega)) h
    obtain ⟨y, hy⟩ := h2
    have e : (X + (2 ^ (bl X - p) - 1)) / 2 ^ (bl X - p) = y := by
      generalize bl X - p = n at *
      have hn := pp n
      refine Nat.div_eq_of_lt_le ?_ ?_
      · rw [hy, Nat.mul_comm]; omega
      · rw [Nat.add_mul, hy, Nat.mul_comm]; omega
    rw [e, Nat.mul_comm, ← hy]; exact h
/-- rounded at a size, a multiple -/
theorem Fl_dvd2 {p X h c : Nat} (hX : 2 ^ h ≤ X) (hc : c + p ≤ h + 1) : 2 ^ c ∣ Fl p X := by
  unfold Fl
  have := le_bl_of_le hX
  exact Nat.dvd_trans (Nat.pow_dvd_pow 2 (by omega)) (Nat.dvd_mul_left _ _)
theorem Ce_dvd2 {p X h c : Nat} (hX : 2 ^ h ≤ X) (hc : c + p ≤ h + 1) : 2 ^ c ∣ Ce p X := by
  unfold Ce
  have := le_bl_of_le hX
  exact Nat.dvd_trans (Nat.pow_dvd_pow 2 (by omega)) (Nat.dvd_mul_left _ _)
/-- what the code reckons -/
theorem Fl_form {p m j : Nat} (h : p ≤ bl m) (h0 : m ≠ 0) : Fl p (m * 2 ^ j) = m / 2 ^ (bl m - p) * 2 ^ (bl m - p + j) := by
  unfold Fl
  have e : bl (m * 2 ^ j) - p = bl m - p + j := by rw [bl_mul h0]; omega
  rw [e]
  congr 1
  rw [Nat.pow_add, Nat.mul_div_mul_right _ _ (pp j)]
theorem Ce_form {p m j : Nat} (h : p ≤ bl m) (h0 : m ≠ 0) : Ce p (m * 2 ^ j) = (m + (2 ^ (bl m - p) - 1)) / 2 ^ (bl m - p) * 2 ^ (bl m - p + j) := by
  unfold Ce
  have e : bl (m * 2 ^ j) - p = bl m - p + j := by rw [bl_mul h0]; omega
  rw [e]
  congr 1
  generalize bl m - p = n
  have hn := pp n
  have hj := pp j
  refine Nat.div_eq_of_lt_le ?_ ?_
  · have := Nat.div_mul_le_self (m + (2 ^ n - 1)) (2 ^ n)
    rw [Nat.pow_add, ← Nat.mul_assoc]
    refine Nat.le_trans (Nat.mul_le_mul_right _ this) ?_
    rw [Nat.add_mul]
    have : (2 ^ n - 1) * 2 ^ j ≤ 2 ^ n * 2 ^ j - 1 := by rw [Nat.sub_mul]; omega
    omega
  · have := lt_div_succ (m + (2 ^ n - 1)) n
    rw [Nat.pow_add, ← Nat.mul_assoc]
    have h2 : (m + (2 ^ n - 1)) + 1 ≤ ((m + (2 ^ n - 1)) / 2 ^ n + 1) * 2 ^ n := this
    have h3 := Nat.mul_le_mul_right (2 ^ j) h2
    refine Nat.lt_of_lt_of_le ?_ h3
    have e2 : m + (2 ^ n - 1) + 1 = m + 2 ^ n := by omega
    rw [e2, Nat.add_mul]
    have := Nat.mul_pos hn hj
    omega
theorem ceil_neg (m n : Nat) : -((-(m : Int)).fdiv (2 ^ n)) = (((m + (2 ^ n - 1)) / 2 ^ n : Nat) : Int) := by
  have hn := pp n
  have e : ((2 : Int) ^ n) = ((2 ^ n : Nat) : Int) := by push_cast; rfl
  rw [e, Int.fdiv_eq_ediv_of_nonneg _ (by omega)]
  generalize 2 ^ n = d at *
  have h1 := Int.mul_ediv_add_emod (-(m : Int)) d
  have h2 := Int.emod_nonneg (-(m : Int)) (by omega : (d : Int) ≠ 0)
  have h3 := Int.emod_lt_of_pos (-(m : Int)) (by omega : (0 : Int) < d)
  generalize hq : (-(m : Int)) / d = q at *
  have h4 : ((m + (d - 1)) / d : Nat) = (-q).toNat := by
    have hq0 : q ≤ 0 := by
      refine Int.not_lt.mp fun hc => ?_
      have : (d : Int) * 1 ≤ d * q := Int.mul_le_mul_of_nonneg_left (by omega) (by omega)
      omega
    obtain ⟨u, rfl⟩ : ∃ u : Nat, q = -(u : Int) := ⟨(-q).toNat, by omega⟩
    have e2 : (d : Int) * -(u : Int) = -((d * u : Nat) : Int) := by push_cast; rw [Int.mul_neg]
    rw [e2] at h1
    have e3 : (-(-(u : Int))).toNat = u := by omega
    rw [e3]
    refine Nat.div_eq_of_lt_le ?_ ?_
    · rw [Nat.mul_comm]; omega
    · rw [Nat.add_mul, Nat.mul_comm]; omega
  rw [h4]
  have hq0 : q ≤ 0 := by
    refine Int.not_lt.mp fun hc => ?_
    have : (d : Int) * 1 ≤ d * q := Int.mul_le_mul_of_nonneg_left (by omega) (by omega)
    omega
  omega
end Mine

namespace Mine
noncomputable def b_trailing : List MS := [
  .ifs (.nt (.v 0)) [.ret (.k (.int 0))] [],
  .ret (.bin .sub (.bits (.bin .band (.v 0) (.neg (.v 0)))) (.k (.int 1)))]
noncomputable def b_isqrtqsmall : List MS := [
  .ifs (.nt (.v 1)) [.ret (.v 1)] [],
  .asg [2] (.bin .shl (.k (.int 1)) (.bin .shr (.bin .add (.bits (.v 1)) (.k (.int 1))) (.k (.int 1)))),
  .whl (.k (.int 1)) [.asg [3] (.bin .shr (.bin .add (.v 2) (.bin .fdiv (.v 1) (.v 2))) (.k (.int 1))),
    .ifs (.cmp .ge (.v 3) (.v 2)) [.ret (.v 2)] [],
    .asg [2] (.v 3)]]
noncomputable def b_sqrtrem : List MS := [
  .asg [3] (.call 28 [(.v 1)]),
  .ret (.tup [(.v 3), (.bin .sub (.v 1) (.bin .mul (.v 3) (.v 3)))])]
noncomputable def b_isqrt : List MS := [
  .ret (.idx (.call 35 [(.v 1)]) (.k (.int 0)))]
noncomputable def b_qnormalize : List MS := [
  .ifs (.nt (.v 5)) [.ret (.k (.tuple [(.int 0), (.int 0), (.int 0), (.int 0)]))] [],
  .asg [0] (.bin .sub (.v 7) (.v 8)),
  .ifs (.cmp .gt (.v 0) (.k (.int 0))) [.ifs (.cmp .eq (.v 9) (.k (.str (Str.ofString "n")))) [.asg [10] (.bin .shr (.v 5) (.bin .sub (.v 0) (.k (.int 1)))),
    .ifs (.all [(.bin .band (.v 10) (.k (.int 1))), (.any [(.bin .band (.v 10) (.k (.int 2))), (.bin .band (.v 5) (.bin .sub (.bin .shl (.k (.int 1)) (.bin .sub (.v 0) (.k (.int 1)))) (.k (.int 1))))])]) [.asg [5] (.bin .add (.bin .shr (.v 10) (.k (.int 1))) (.k (.int 1)))] [.asg [5] (.bin .shr (.v 10) (.k (.int 1)))]] [.ifs (.idx (.dct [(Str.ofString "f", (.tuple [(.int 1), (.int 0)])), (Str.ofString "c", (.tuple [(.int 0), (.int 1)])), (Str.ofString "d", (.tuple [(.int 1), (.int 1)])), (Str.ofString "u", (.tuple [(.int 0), (.int 0)]))] (.v 9)) (.v 4)) [.aug 5 .shr (.v 0)] [.asg [5] (.neg (.bin .shr (.neg (.v 5)) (.v 0)))]],
    .aug 6 .add (.v 0),
    .asg [7] (.v 8)] [],
  .ifs (.nt (.bin .band (.v 5) (.k (.int 1)))) [.asg [10] (.call 21 [(.v 5)]),
    .aug 5 .shr (.v 10),
    .aug 6 .add (.v 10),
    .aug 7 .sub (.v 10)] [],
  .ifs (.cmp .eq (.v 5) (.k (.int 1))) [.asg [7] (.k (.int 1))] [],
  .ret (.tup [(.v 4), (.v 5), (.v 6), (.v 7)])]
noncomputable def b_normalize : List MS := [
  .asrt (.cmp .eq (.v 7) (.bits (.v 5))),
  .asrt (.cmp .ge (.v 5) (.k (.int 0))),
  .ret (.call 72 [(.v 4), (.v 5), (.v 6), (.v 7), (.v 8), (.v 9)])]
noncomputable def b_fromqmanqexp : List MS := [
  .ifs (.nt (.bi .isint [(.v 5)])) [.bad] [],
  .asg [4] (.k (.int 0)),
  .ifs (.cmp .lt (.v 5) (.k (.int 0))) [.asg [4] (.k (.int 1)),
    .asg [5] (.neg (.v 5))] [],
  .asg [7] (.bits (.v 5)),
  .ifs (.nt (.v 8)) [.ifs (.nt (.v 5)) [.ret (.k (.tuple [(.int 0), (.int 0), (.int 0), (.int 0)]))] [],
    .ifs (.nt (.bin .band (.v 5) (.k (.int 1)))) [.ifs (.bin .band (.v 5) (.k (.int 2))) [.ret (.tup [(.v 4), (.bin .shr (.v 5) (.k (.int 1))), (.bin .add (.v 6) (.k (.int 1))), (.bin .sub (.v 7) (.k (.int 1)))])] [],
    .asg [10] (.call 21 [(.v 5)]),
    .aug 5 .shr (.v 10),
    .aug 6 .add (.v 10),
    .aug 7 .sub (.v 10)] [],
    .ret (.tup [(.v 4), (.v 5), (.v 6), (.v 7)])] [],
  .ret (.call 79 [(.v 4), (.v 5), (.v 6), (.v 7), (.v 8), (.v 9)])]
noncomputable def b_mpfqcmp : List MS := [
  .unp [12, 13, 14, 15] (.v 11),
  .unp [16, 17, 18, 19] (.v 10),
  .ifs (.any [(.nt (.v 13)), (.nt (.v 17))]) [.ifs (.cmp .eq (.v 11) (.k (.tuple [(.int 0), (.int 0), (.int 0), (.int 0)]))) [.ret (.neg (.call 152 [(.v 10)]))] [],
    .ifs (.cmp .eq (.v 10) (.k (.tuple [(.int 0), (.int 0), (.int 0), (.int 0)]))) [.ret (.call 152 [(.v 11)])] [],
    .ifs (.cmp .eq (.v 11) (.v 10)) [.ret (.k (.int 0))] [],
    .ifs (.cmp .eq (.v 10) (.k (.tuple [(.int 0), (.int 0), (.int (-123)), (.int (-1))]))) [.ret (.k (.int 1))] [],
    .ifs (.cmp .eq (.v 11) (.k (.tuple [(.int 0), (.int 0), (.int (-456)), (.int (-2))]))) [.ret (.k (.int 1))] [],
    .ifs (.cmp .eq (.v 10) (.k (.tuple [(.int 1), (.int 0), (.int (-789)), (.int (-3))]))) [.ret (.k (.int 1))] [],
    .ret (.neg (.k (.int 1)))] [],
  .ifs (.cmp .ne (.v 12) (.v 16)) [.ifs (.nt (.v 12)) [.ret (.k (.int 1))] [],
    .ret (.neg (.k (.int 1)))] [],
  .ifs (.cmp .eq (.v 14) (.v 18)) [.ifs (.cmp .eq (.v 13) (.v 17)) [.ret (.k (.int 0))] [],
    .ifs (.cmp .gt (.v 13) (.v 17)) [.ifs (.v 12) [.ret (.neg (.k (.int 1)))] [.ret (.k (.int 1))]] [.ifs (.v 12) [.ret (.k (.int 1))] [.ret (.neg (.k (.int 1)))]]] [],
  .asg [20] (.bin .add (.v 15) (.v 14)),
  .asg [21] (.bin .add (.v 19) (.v 18)),
  .ifs (.v 12) [.ifs (.cmp .lt (.v 20) (.v 21)) [.ret (.k (.int 1))] [],
    .ifs (.cmp .gt (.v 20) (.v 21)) [.ret (.neg (.k (.int 1)))] []] [.ifs (.cmp .lt (.v 20) (.v 21)) [.ret (.neg (.k (.int 1)))] [],
    .ifs (.cmp .gt (.v 20) (.v 21)) [.ret (.k (.int 1))] []],
  .asg [22] (.call 168 [(.v 11), (.v 10), (.k (.int 5)), (.k (.str (Str.ofString "f")))]),
  .ifs (.idx (.v 22) (.k (.int 0))) [.ret (.neg (.k (.int 1)))] [],
  .ret (.k (.int 1))]
noncomputable def b_mpfqlt : List MS := [
  .ifs (.any [(.cmp .eq (.v 11) (.k (.tuple [(.int 0), (.int 0), (.int (-123)), (.int (-1))]))), (.cmp .eq (.v 10) (.k (.tuple [(.int 0), (.int 0), (.int (-123)), (.int (-1))])))]) [.ret (.k (.bool false))] [],
  .ret (.cmp .lt (.call 94 [(.v 11), (.v 10)]) (.k (.int 0)))]
noncomputable def b_mpfqle : List MS := [
  .ifs (.any [(.cmp .eq (.v 11) (.k (.tuple [(.int 0), (.int 0), (.int (-123)), (.int (-1))]))), (.cmp .eq (.v 10) (.k (.tuple [(.int 0), (.int 0), (.int (-123)), (.int (-1))])))]) [.ret (.k (.bool false))] [],
  .ret (.cmp .le (.call 94 [(.v 11), (.v 10)]) (.k (.int 0)))]
noncomputable def b_mpfqgt : List MS := [
  .ifs (.any [(.cmp .eq (.v 11) (.k (.tuple [(.int 0), (.int 0), (.int (-123)), (.int (-1))]))), (.cmp .eq (.v 10) (.k (.tuple [(.int 0), (.int 0), (.int (-123)), (.int (-1))])))]) [.ret (.k (.bool false))] [],
  .ret (.cmp .gt (.call 94 [(.v 11), (.v 10)]) (.k (.int 0)))]
noncomputable def b_mpfqge : List MS := [
  .ifs (.any [(.cmp .eq (.v 11) (.k (.tuple [(.int 0), (.int 0), (.int (-123)), (.int (-1))]))), (.cmp .eq (.v 10) (.k (.tuple [(.int 0), (.int 0), (.int (-123)), (.int (-1))])))]) [.ret (.k (.bool false))] [],
  .ret (.cmp .ge (.call 94 [(.v 11), (.v 10)]) (.k (.int 0)))]
noncomputable def b_mpfqminqmax : List MS := [
  .asg [24, 25] (.idx (.v 23) (.k (.int 0))),
  .forr 1 (.tail (.v 23)) [.ifs (.call 101 [(.v 1), (.v 24)]) [.asg [24] (.v 1)] [],
    .ifs (.call 115 [(.v 1), (.v 25)]) [.asg [25] (.v 1)] []],
  .ret (.tup [(.v 24), (.v 25)])]
noncomputable def b_mpfqpos : List MS := [
  .ifs (.v 8) [.unp [4, 5, 6, 7] (.v 11),
    .ifs (.all [(.nt (.v 5)), (.v 6)]) [.ret (.v 11)] [],
    .ret (.call 79 [(.v 4), (.v 5), (.v 6), (.v 7), (.v 8), (.v 9)])] [],
  .ret (.v 11)]
noncomputable def b_mpfqneg : List MS := [
  .unp [4, 5, 6, 7] (.v 11),
  .ifs (.nt (.v 5)) [.ifs (.v 6) [.ifs (.cmp .eq (.v 11) (.k (.tuple [(.int 0), (.int 0), (.int (-456)), (.int (-2))]))) [.ret (.k (.tuple [(.int 1), (.int 0), (.int (-789)), (.int (-3))]))] [],
    .ifs (.cmp .eq (.v 11) (.k (.tuple [(.int 1), (.int 0), (.int (-789)), (.int (-3))]))) [.ret (.k (.tuple [(.int 0), (.int 0), (.int (-456)), (.int (-2))]))] []] [],
    .ret (.v 11)] [],
  .ifs (.nt (.v 8)) [.ret (.tup [(.bin .sub (.k (.int 1)) (.v 4)), (.v 5), (.v 6), (.v 7)])] [],
  .ret (.call 79 [(.bin .sub (.k (.int 1)) (.v 4)), (.v 5), (.v 6), (.v 7), (.v 8), (.v 9)])]
noncomputable def b_mpfqsign : List MS := [
  .unp [4, 5, 6, 7] (.v 11),
  .ifs (.nt (.v 5)) [.ifs (.cmp .eq (.v 11) (.k (.tuple [(.int 0), (.int 0), (.int (-456)), (.int (-2))]))) [.ret (.k (.int 1))] [],
    .ifs (.cmp .eq (.v 11) (.k (.tuple [(.int 1), (.int 0), (.int (-789)), (.int (-3))]))) [.ret (.neg (.k (.int 1)))] [],
    .ret (.k (.int 0))] [],
  .ret (.bin .pow (.neg (.k (.int 1))) (.v 4))]
noncomputable def b_mpfqadd : List MS := [
  .unp [12, 13, 14, 15] (.v 11),
  .unp [16, 17, 18, 19] (.v 10),
  .aug 16 .bxor (.v 26),
  .ifs (.all [(.v 13), (.v 17)]) [.asg [27] (.bin .sub (.v 14) (.v 18)),
    .ifs (.v 27) [.ifs (.cmp .gt (.v 27) (.k (.int 0))) [.ifs (.all [(.cmp .gt (.v 27) (.k (.int 100))), (.v 8)]) [.asg [22] (.bin .sub (.bin .sub (.bin .add (.v 15) (.v 14)) (.v 19)) (.v 18)),
    .ifs (.cmp .gt (.v 22) (.bin .add (.v 8) (.k (.int 4)))) [.asg [27] (.bin .add (.v 8) (.k (.int 4))),
    .aug 13 .shl (.v 27),
    .ifs (.cmp .eq (.v 16) (.v 12)) [.aug 13 .add (.k (.int 1))] [.aug 13 .sub (.k (.int 1))],
    .ret (.call 79 [(.v 12), (.v 13), (.bin .sub (.v 14) (.v 27)), (.bits (.v 13)), (.v 8), (.v 9)])] []] [],
    .ifs (.cmp .eq (.v 12) (.v 16)) [.asg [5] (.bin .add (.v 17) (.bin .shl (.v 13) (.v 27)))] [.ifs (.v 12) [.asg [5] (.bin .sub (.v 17) (.bin .shl (.v 13) (.v 27)))] [.asg [5] (.bin .sub (.bin .shl (.v 13) (.v 27)) (.v 17))],
    .ifs (.cmp .ge (.v 5) (.k (.int 0))) [.asg [12] (.k (.int 0))] [.asg [5] (.neg (.v 5)),
    .asg [12] (.k (.int 1))]],
    .asg [7] (.bits (.v 5)),
    .ret (.call 79 [(.v 12), (.v 5), (.v 18), (.v 7), (.any [(.v 8), (.v 7)]), (.v 9)])] [.ifs (.cmp .lt (.v 27) (.k (.int 0))) [.ifs (.all [(.cmp .lt (.v 27) (.neg (.k (.int 100)))), (.v 8)]) [.asg [22] (.bin .sub (.bin .sub (.bin .add (.v 19) (.v 18)) (.v 15)) (.v 14)),
    .ifs (.cmp .gt (.v 22) (.bin .add (.v 8) (.k (.int 4)))) [.asg [27] (.bin .add (.v 8) (.k (.int 4))),
    .aug 17 .shl (.v 27),
    .ifs (.cmp .eq (.v 12) (.v 16)) [.aug 17 .add (.k (.int 1))] [.aug 17 .sub (.k (.int 1))],
    .ret (.call 79 [(.v 16), (.v 17), (.bin .sub (.v 18) (.v 27)), (.bits (.v 17)), (.v 8), (.v 9)])] []] [],
    .ifs (.cmp .eq (.v 12) (.v 16)) [.asg [5] (.bin .add (.v 13) (.bin .shl (.v 17) (.neg (.v 27))))] [.ifs (.v 16) [.asg [5] (.bin .sub (.v 13) (.bin .shl (.v 17) (.neg (.v 27))))] [.asg [5] (.bin .sub (.bin .shl (.v 17) (.neg (.v 27))) (.v 13))],
    .ifs (.cmp .ge (.v 5) (.k (.int 0))) [.asg [12] (.k (.int 0))] [.asg [5] (.neg (.v 5)),
    .asg [12] (.k (.int 1))]],
    .asg [7] (.bits (.v 5)),
    .ret (.call 79 [(.v 12), (.v 5), (.v 14), (.v 7), (.any [(.v 8), (.v 7)]), (.v 9)])] []]] [],
    .ifs (.cmp .eq (.v 12) (.v 16)) [.asg [5] (.bin .add (.v 17) (.v 13))] [.ifs (.v 12) [.asg [5] (.bin .sub (.v 17) (.v 13))] [.asg [5] (.bin .sub (.v 13) (.v 17))],
    .ifs (.cmp .ge (.v 5) (.k (.int 0))) [.asg [12] (.k (.int 0))] [.asg [5] (.neg (.v 5)),
    .asg [12] (.k (.int 1))]],
    .asg [7] (.bits (.v 5)),
    .ret (.call 79 [(.v 12), (.v 5), (.v 18), (.v 7), (.any [(.v 8), (.v 7)]), (.v 9)])] [],
  .ifs (.v 26) [.asg [10] (.call 145 [(.v 10)])] [],
  .ifs (.nt (.v 13)) [.ifs (.v 14) [.ifs (.any [(.cmp .eq (.v 11) (.v 10)), (.v 17), (.nt (.v 18))]) [.ret (.v 11)] [],
    .ret (.k (.tuple [(.int 0), (.int 0), (.int (-123)), (.int (-1))]))] [],
    .ifs (.v 17) [.ret (.call 79 [(.v 16), (.v 17), (.v 18), (.v 19), (.any [(.v 8), (.v 19)]), (.v 9)])] [],
    .ret (.v 10)] [],
  .ifs (.v 18) [.ret (.v 10)] [],
  .ifs (.v 13) [.ret (.call 79 [(.v 12), (.v 13), (.v 14), (.v 15), (.any [(.v 8), (.v 15)]), (.v 9)])] [],
  .ret (.v 11)]
noncomputable def b_mpfqsub : List MS := [
  .ret (.call 160 [(.v 11), (.v 10), (.v 8), (.v 9), (.k (.int 1))])]
noncomputable def b_mpfqmul : List MS := [
  .unp [12, 13, 14, 15] (.v 11),
  .unp [16, 17, 18, 19] (.v 10),
  .asg [4] (.bin .bxor (.v 12) (.v 16)),
  .asg [5] (.bin .mul (.v 13) (.v 17)),
  .ifs (.v 5) [.asg [7] (.bits (.v 5)),
    .ifs (.v 8) [.ret (.call 79 [(.v 4), (.v 5), (.bin .add (.v 14) (.v 18)), (.v 7), (.v 8), (.v 9)])] [.ret (.tup [(.v 4), (.v 5), (.bin .add (.v 14) (.v 18)), (.v 7)])]] [],
  .asg [28] (.all [(.nt (.v 13)), (.v 14)]),
  .asg [29] (.all [(.nt (.v 17)), (.v 18)]),
  .ifs (.all [(.nt (.v 28)), (.nt (.v 29))]) [.ret (.k (.tuple [(.int 0), (.int 0), (.int 0), (.int 0)]))] [],
  .ifs (.cmp .isin (.k (.tuple [(.int 0), (.int 0), (.int (-123)), (.int (-1))])) (.tup [(.v 11), (.v 10)])) [.ret (.k (.tuple [(.int 0), (.int 0), (.int (-123)), (.int (-1))]))] [],
  .ifs (.all [(.nt (.v 17)), (.v 18)]) [.unp [11, 10] (.tup [(.v 10), (.v 11)])] [],
  .ifs (.cmp .eq (.v 10) (.k (.tuple [(.int 0), (.int 0), (.int 0), (.int 0)]))) [.ret (.k (.tuple [(.int 0), (.int 0), (.int (-123)), (.int (-1))]))] [],
  .ret (.idx .bad (.bin .mul (.call 152 [(.v 11)]) (.call 152 [(.v 10)])))]
noncomputable def b_mpfqpowqint : List MS := [
  .unp [4, 5, 6, 7] (.v 11),
  .ifs (.all [(.nt (.v 5)), (.v 6)]) [.ifs (.cmp .eq (.v 11) (.k (.tuple [(.int 0), (.int 0), (.int (-456)), (.int (-2))]))) [.ifs (.cmp .gt (.v 0) (.k (.int 0))) [.ret (.v 11)] [],
    .ifs (.cmp .eq (.v 0) (.k (.int 0))) [.ret (.k (.tuple [(.int 0), (.int 1), (.int 0), (.int 1)]))] [],
    .ret (.k (.tuple [(.int 0), (.int 0), (.int 0), (.int 0)]))] [],
    .ifs (.cmp .eq (.v 11) (.k (.tuple [(.int 1), (.int 0), (.int (-789)), (.int (-3))]))) [.ifs (.cmp .gt (.v 0) (.k (.int 0))) [.ret (.idx (.lst [(.k (.tuple [(.int 0), (.int 0), (.int (-456)), (.int (-2))])), (.k (.tuple [(.int 1), (.int 0), (.int (-789)), (.int (-3))]))]) (.bin .band (.v 0) (.k (.int 1))))] [],
    .ifs (.cmp .eq (.v 0) (.k (.int 0))) [.ret (.k (.tuple [(.int 0), (.int 1), (.int 0), (.int 1)]))] [],
    .ret (.k (.tuple [(.int 0), (.int 0), (.int 0), (.int 0)]))] [],
    .ifs (.cmp .eq (.v 0) (.k (.int 0))) [.ret (.k (.tuple [(.int 0), (.int 1), (.int 0), (.int 1)]))] [],
    .ret (.k (.tuple [(.int 0), (.int 0), (.int (-123)), (.int (-1))]))] [],
  .asg [0] (.bi .toint [(.v 0)]),
  .ifs (.cmp .eq (.v 0) (.k (.int 0))) [.ret (.k (.tuple [(.int 0), (.int 1), (.int 0), (.int 1)]))] [],
  .ifs (.cmp .eq (.v 0) (.k (.int 1))) [.ret (.call 137 [(.v 11), (.v 8), (.v 9)])] [],
  .ifs (.cmp .eq (.v 0) (.k (.int 2))) [.unp [30, 5, 6, 7] (.v 11),
    .ifs (.nt (.v 5)) [.ret (.k (.tuple [(.int 0), (.int 0), (.int 0), (.int 0)]))] [],
    .asg [5] (.bin .mul (.v 5) (.v 5)),
    .ifs (.cmp .eq (.v 5) (.k (.int 1))) [.ret (.tup [(.k (.int 0)), (.k (.int 1)), (.bin .add (.v 6) (.v 6)), (.k (.int 1))])] [],
    .asg [7] (.bin .sub (.bin .add (.v 7) (.v 7)) (.k (.int 2))),
    .aug 7 .add (.bits (.bin .shr (.v 5) (.v 7))),
    .ret (.call 79 [(.k (.int 0)), (.v 5), (.bin .add (.v 6) (.v 6)), (.v 7), (.v 8), (.v 9)])] [],
  .ifs (.cmp .eq (.v 0) (.neg (.k (.int 1)))) [.ret .bad] [],
  .ifs (.cmp .lt (.v 0) (.k (.int 0))) [.asg [31] (.call 193 [(.v 11), (.neg (.v 0)), (.bin .add (.v 8) (.k (.int 5))), .bad]),
    .ret .bad] [],
  .asg [32] (.bin .band (.v 4) (.v 0)),
  .ifs (.cmp .eq (.v 5) (.k (.int 1))) [.ret (.tup [(.v 32), (.k (.int 1)), (.bin .mul (.v 6) (.v 0)), (.k (.int 1))])] [],
  .ifs (.cmp .lt (.bin .mul (.v 7) (.v 0)) (.k (.int 1000))) [.aug 5 .pow (.v 0),
    .ret (.call 79 [(.v 32), (.v 5), (.bin .mul (.v 6) (.v 0)), (.bits (.v 5)), (.v 8), (.v 9)])] [],
  .asg [33] (.any [(.cmp .eq (.v 9) (.k (.str (Str.ofString "n")))), (.idx (.dct [(Str.ofString "f", (.tuple [(.int 1), (.int 0)])), (Str.ofString "c", (.tuple [(.int 0), (.int 1)])), (Str.ofString "d", (.tuple [(.int 1), (.int 1)])), (Str.ofString "u", (.tuple [(.int 0), (.int 0)]))] (.v 9)) (.v 32))]),
  .asg [34] (.bin .add (.bin .add (.v 8) (.bin .mul (.k (.int 4)) (.bits (.v 0)))) (.k (.int 4))),
  .unp [30, 35, 36, 37] (.k (.tuple [(.int 0), (.int 1), (.int 0), (.int 1)])),
  .whl (.k (.int 1)) [.ifs (.bin .band (.v 0) (.k (.int 1))) [.asg [35] (.bin .mul (.v 35) (.v 5)),
    .asg [36] (.bin .add (.v 36) (.v 6)),
    .aug 37 .add (.bin .sub (.v 7) (.k (.int 2))),
    .asg [37] (.bin .add (.v 37) (.bits (.bin .shr (.v 35) (.v 37)))),
    .ifs (.cmp .gt (.v 37) (.v 34)) [.ifs (.v 33) [.asg [35] (.bin .shr (.v 35) (.bin .sub (.v 37) (.v 34)))] [.asg [35] (.neg (.bin .shr (.neg (.v 35)) (.bin .sub (.v 37) (.v 34))))],
    .aug 36 .add (.bin .sub (.v 37) (.v 34)),
    .asg [37] (.v 34)] [],
    .aug 0 .sub (.k (.int 1)),
    .ifs (.nt (.v 0)) [.bad] []] [],
    .asg [5] (.bin .mul (.v 5) (.v 5)),
    .asg [6] (.bin .add (.v 6) (.v 6)),
    .asg [7] (.bin .sub (.bin .add (.v 7) (.v 7)) (.k (.int 2))),
    .asg [7] (.bin .add (.v 7) (.bits (.bin .shr (.v 5) (.v 7)))),
    .ifs (.cmp .gt (.v 7) (.v 34)) [.ifs (.v 33) [.asg [5] (.bin .shr (.v 5) (.bin .sub (.v 7) (.v 34)))] [.asg [5] (.neg (.bin .shr (.neg (.v 5)) (.bin .sub (.v 7) (.v 34))))],
    .aug 6 .add (.bin .sub (.v 7) (.v 34)),
    .asg [7] (.v 34)] [],
    .asg [0] (.bin .fdiv (.v 0) (.k (.int 2)))],
  .ret (.call 79 [(.v 32), (.v 35), (.v 36), (.v 37), (.v 8), (.v 9)])]
noncomputable def b_mpfqsqrt : List MS := [
  .unp [4, 5, 6, 7] (.v 11),
  .ifs (.v 4) [.bad] [],
  .ifs (.nt (.v 5)) [.ret (.v 11)] [],
  .ifs (.bin .band (.v 6) (.k (.int 1))) [.aug 6 .sub (.k (.int 1)),
    .aug 5 .shl (.k (.int 1)),
    .aug 7 .add (.k (.int 1))] [.ifs (.cmp .eq (.v 5) (.k (.int 1))) [.ret (.call 79 [(.v 4), (.v 5), (.bin .fdiv (.v 6) (.k (.int 2))), (.v 7), (.v 8), (.v 9)])] []],
  .asg [38] (.bi .max [(.k (.int 4)), (.bin .add (.bin .sub (.bin .mul (.k (.int 2)) (.v 8)) (.v 7)) (.k (.int 4)))]),
  .aug 38 .add (.bin .band (.v 38) (.k (.int 1))),
  .ifs (.cmp .isin (.v 9) (.k (.str (Str.ofString "fd")))) [.asg [5] (.call 42 [(.bin .shl (.v 5) (.v 38))])] [.unp [5, 39] (.call 35 [(.bin .shl (.v 5) (.v 38))]),
    .ifs (.v 39) [.asg [5] (.bin .add (.bin .shl (.v 5) (.k (.int 1))) (.k (.int 1))),
    .aug 38 .add (.k (.int 2))] []],
  .ret (.call 87 [(.v 5), (.bin .fdiv (.bin .sub (.v 6) (.v 38)) (.k (.int 2))), (.v 8), (.v 9)])]
noncomputable def b_mpiqadd : List MS := [
  .unp [40, 41] (.v 11),
  .unp [42, 43] (.v 10),
  .asg [20] (.call 160 [(.v 40), (.v 42), (.v 8), (.k (.str (Str.ofString "f")))]),
  .asg [21] (.call 160 [(.v 41), (.v 43), (.v 8), (.k (.str (Str.ofString "c")))]),
  .ifs (.cmp .eq (.v 20) (.k (.tuple [(.int 0), (.int 0), (.int (-123)), (.int (-1))]))) [.asg [20] (.k (.tuple [(.int 1), (.int 0), (.int (-789)), (.int (-3))]))] [],
  .ifs (.cmp .eq (.v 21) (.k (.tuple [(.int 0), (.int 0), (.int (-123)), (.int (-1))]))) [.asg [21] (.k (.tuple [(.int 0), (.int 0), (.int (-456)), (.int (-2))]))] [],
  .ret (.tup [(.v 20), (.v 21)])]
noncomputable def b_mpiqpos : List MS := [
  .unp [40, 41] (.v 11),
  .asg [20] (.call 137 [(.v 40), (.v 8), (.k (.str (Str.ofString "f")))]),
  .asg [21] (.call 137 [(.v 41), (.v 8), (.k (.str (Str.ofString "c")))]),
  .ret (.tup [(.v 20), (.v 21)])]
noncomputable def b_mpiqneg : List MS := [
  .unp [40, 41] (.v 11),
  .asg [20] (.call 145 [(.v 41), (.v 8), (.k (.str (Str.ofString "f")))]),
  .asg [21] (.call 145 [(.v 40), (.v 8), (.k (.str (Str.ofString "c")))]),
  .ret (.tup [(.v 20), (.v 21)])]
noncomputable def b_mpiqabs : List MS := [
  .unp [40, 41] (.v 11),
  .asg [44] (.call 152 [(.v 40)]),
  .asg [45] (.call 152 [(.v 41)]),
  .ifs (.cmp .ge (.v 44) (.k (.int 0))) [.asg [20] (.call 137 [(.v 40), (.v 8), (.k (.str (Str.ofString "f")))]),
    .asg [21] (.call 137 [(.v 41), (.v 8), (.k (.str (Str.ofString "c")))])] [.ifs (.cmp .ge (.v 45) (.k (.int 0))) [.asg [20] (.k (.tuple [(.int 0), (.int 0), (.int 0), (.int 0)])),
    .asg [46] (.call 145 [(.v 40)]),
    .ifs (.call 101 [(.v 46), (.v 41)]) [.asg [21] (.call 137 [(.v 41), (.v 8), (.k (.str (Str.ofString "c")))])] [.asg [21] (.call 137 [(.v 46), (.v 8), (.k (.str (Str.ofString "c")))])]] [.asg [20] (.call 145 [(.v 41), (.v 8), (.k (.str (Str.ofString "f")))]),
    .asg [21] (.call 145 [(.v 40), (.v 8), (.k (.str (Str.ofString "c")))])]],
  .ret (.tup [(.v 20), (.v 21)])]
noncomputable def b_mpiqmul : List MS := [
  .unp [40, 41] (.v 11),
  .unp [42, 43] (.v 10),
  .asg [44] (.call 152 [(.v 40)]),
  .asg [45] (.call 152 [(.v 41)]),
  .asg [47] (.call 152 [(.v 42)]),
  .asg [48] (.call 152 [(.v 43)]),
  .ifs (.cmp2 .eq .eq (.v 44) (.v 45) (.k (.int 0))) [.ifs (.any [(.cmp .eq (.v 42) (.k (.tuple [(.int 1), (.int 0), (.int (-789)), (.int (-3))]))), (.cmp .eq (.v 43) (.k (.tuple [(.int 0), (.int 0), (.int (-456)), (.int (-2))])))]) [.ret (.tup [(.k (.tuple [(.int 1), (.int 0), (.int (-789)), (.int (-3))])), (.k (.tuple [(.int 0), (.int 0), (.int (-456)), (.int (-2))]))])] [],
    .ret (.tup [(.k (.tuple [(.int 0), (.int 0), (.int 0), (.int 0)])), (.k (.tuple [(.int 0), (.int 0), (.int 0), (.int 0)]))])] [],
  .ifs (.cmp2 .eq .eq (.v 47) (.v 48) (.k (.int 0))) [.ifs (.any [(.cmp .eq (.v 40) (.k (.tuple [(.int 1), (.int 0), (.int (-789)), (.int (-3))]))), (.cmp .eq (.v 41) (.k (.tuple [(.int 0), (.int 0), (.int (-456)), (.int (-2))])))]) [.ret (.tup [(.k (.tuple [(.int 1), (.int 0), (.int (-789)), (.int (-3))])), (.k (.tuple [(.int 0), (.int 0), (.int (-456)), (.int (-2))]))])] [],
    .ret (.tup [(.k (.tuple [(.int 0), (.int 0), (.int 0), (.int 0)])), (.k (.tuple [(.int 0), (.int 0), (.int 0), (.int 0)]))])] [],
  .ifs (.cmp .ge (.v 44) (.k (.int 0))) [.ifs (.cmp .ge (.v 47) (.k (.int 0))) [.asg [20] (.call 176 [(.v 40), (.v 42), (.v 8), (.k (.str (Str.ofString "f")))]),
    .asg [21] (.call 176 [(.v 41), (.v 43), (.v 8), (.k (.str (Str.ofString "c")))]),
    .ifs (.cmp .eq (.v 20) (.k (.tuple [(.int 0), (.int 0), (.int (-123)), (.int (-1))]))) [.asg [20] (.k (.tuple [(.int 0), (.int 0), (.int 0), (.int 0)]))] [],
    .ifs (.cmp .eq (.v 21) (.k (.tuple [(.int 0), (.int 0), (.int (-123)), (.int (-1))]))) [.asg [21] (.k (.tuple [(.int 0), (.int 0), (.int (-456)), (.int (-2))]))] []] [.ifs (.cmp .le (.v 48) (.k (.int 0))) [.asg [20] (.call 176 [(.v 41), (.v 42), (.v 8), (.k (.str (Str.ofString "f")))]),
    .asg [21] (.call 176 [(.v 40), (.v 43), (.v 8), (.k (.str (Str.ofString "c")))]),
    .ifs (.cmp .eq (.v 20) (.k (.tuple [(.int 0), (.int 0), (.int (-123)), (.int (-1))]))) [.asg [20] (.k (.tuple [(.int 1), (.int 0), (.int (-789)), (.int (-3))]))] [],
    .ifs (.cmp .eq (.v 21) (.k (.tuple [(.int 0), (.int 0), (.int (-123)), (.int (-1))]))) [.asg [21] (.k (.tuple [(.int 0), (.int 0), (.int 0), (.int 0)]))] []] [.asg [20] (.call 176 [(.v 41), (.v 42), (.v 8), (.k (.str (Str.ofString "f")))]),
    .asg [21] (.call 176 [(.v 41), (.v 43), (.v 8), (.k (.str (Str.ofString "c")))]),
    .ifs (.cmp .eq (.v 20) (.k (.tuple [(.int 0), (.int 0), (.int (-123)), (.int (-1))]))) [.asg [20] (.k (.tuple [(.int 1), (.int 0), (.int (-789)), (.int (-3))]))] [],
    .ifs (.cmp .eq (.v 21) (.k (.tuple [(.int 0), (.int 0), (.int (-123)), (.int (-1))]))) [.asg [21] (.k (.tuple [(.int 0), (.int 0), (.int (-456)), (.int (-2))]))] []]]] [.ifs (.cmp .le (.v 45) (.k (.int 0))) [.ifs (.cmp .ge (.v 47) (.k (.int 0))) [.asg [20] (.call 176 [(.v 40), (.v 43), (.v 8), (.k (.str (Str.ofString "f")))]),
    .asg [21] (.call 176 [(.v 41), (.v 42), (.v 8), (.k (.str (Str.ofString "c")))]),
    .ifs (.cmp .eq (.v 20) (.k (.tuple [(.int 0), (.int 0), (.int (-123)), (.int (-1))]))) [.asg [20] (.k (.tuple [(.int 1), (.int 0), (.int (-789)), (.int (-3))]))] [],
    .ifs (.cmp .eq (.v 21) (.k (.tuple [(.int 0), (.int 0), (.int (-123)), (.int (-1))]))) [.asg [21] (.k (.tuple [(.int 0), (.int 0), (.int 0), (.int 0)]))] []] [.ifs (.cmp .le (.v 48) (.k (.int 0))) [.asg [20] (.call 176 [(.v 41), (.v 43), (.v 8), (.k (.str (Str.ofString "f")))]),
    .asg [21] (.call 176 [(.v 40), (.v 42), (.v 8), (.k (.str (Str.ofString "c")))]),
    .ifs (.cmp .eq (.v 20) (.k (.tuple [(.int 0), (.int 0), (.int (-123)), (.int (-1))]))) [.asg [20] (.k (.tuple [(.int 0), (.int 0), (.int 0), (.int 0)]))] [],
    .ifs (.cmp .eq (.v 21) (.k (.tuple [(.int 0), (.int 0), (.int (-123)), (.int (-1))]))) [.asg [21] (.k (.tuple [(.int 0), (.int 0), (.int (-456)), (.int (-2))]))] []] [.asg [20] (.call 176 [(.v 40), (.v 43), (.v 8), (.k (.str (Str.ofString "f")))]),
    .asg [21] (.call 176 [(.v 40), (.v 42), (.v 8), (.k (.str (Str.ofString "c")))]),
    .ifs (.cmp .eq (.v 20) (.k (.tuple [(.int 0), (.int 0), (.int (-123)), (.int (-1))]))) [.asg [20] (.k (.tuple [(.int 1), (.int 0), (.int (-789)), (.int (-3))]))] [],
    .ifs (.cmp .eq (.v 21) (.k (.tuple [(.int 0), (.int 0), (.int (-123)), (.int (-1))]))) [.asg [21] (.k (.tuple [(.int 0), (.int 0), (.int (-456)), (.int (-2))]))] []]]] [.asg [49] (.lst [(.call 176 [(.v 40), (.v 42)]), (.call 176 [(.v 40), (.v 43)]), (.call 176 [(.v 41), (.v 42)]), (.call 176 [(.v 41), (.v 43)])]),
    .ifs (.cmp .isin (.k (.tuple [(.int 0), (.int 0), (.int (-123)), (.int (-1))])) (.v 49)) [.unp [20, 21] (.tup [(.k (.tuple [(.int 1), (.int 0), (.int (-789)), (.int (-3))])), (.k (.tuple [(.int 0), (.int 0), (.int (-456)), (.int (-2))]))])] [.unp [20, 21] (.call 129 [(.v 49)]),
    .asg [20] (.call 137 [(.v 20), (.v 8), (.k (.str (Str.ofString "f")))]),
    .asg [21] (.call 137 [(.v 21), (.v 8), (.k (.str (Str.ofString "c")))])]]],
  .ret (.tup [(.v 20), (.v 21)])]
noncomputable def b_mpiqsquare : List MS := [
  .unp [40, 41] (.v 11),
  .ifs (.call 122 [(.v 40), (.k (.tuple [(.int 0), (.int 0), (.int 0), (.int 0)]))]) [.asg [20] (.call 176 [(.v 40), (.v 40), (.v 8), (.k (.str (Str.ofString "f")))]),
    .asg [21] (.call 176 [(.v 41), (.v 41), (.v 8), (.k (.str (Str.ofString "c")))])] [.ifs (.call 108 [(.v 41), (.k (.tuple [(.int 0), (.int 0), (.int 0), (.int 0)]))]) [.asg [20] (.call 176 [(.v 41), (.v 41), (.v 8), (.k (.str (Str.ofString "f")))]),
    .asg [21] (.call 176 [(.v 40), (.v 40), (.v 8), (.k (.str (Str.ofString "c")))])] [.asg [40] (.call 145 [(.v 40)]),
    .unp [40, 41] (.call 129 [(.lst [(.v 40), (.v 41)])]),
    .asg [20] (.k (.tuple [(.int 0), (.int 0), (.int 0), (.int 0)])),
    .asg [21] (.call 176 [(.v 41), (.v 41), (.v 8), (.k (.str (Str.ofString "c")))])]],
  .ret (.tup [(.v 20), (.v 21)])]
noncomputable def b_mpiqsqrt : List MS := [
  .unp [40, 41] (.v 11),
  .asg [20] (.call 201 [(.v 40), (.v 8), (.k (.str (Str.ofString "f")))]),
  .asg [21] (.call 201 [(.v 41), (.v 8), (.k (.str (Str.ofString "c")))]),
  .ret (.tup [(.v 20), (.v 21)])]
noncomputable def b_mpiqpowqint : List MS := [
  .unp [40, 41] (.v 11),
  .ifs (.cmp .lt (.v 0) (.k (.int 0))) [.ret .bad] [],
  .ifs (.cmp .eq (.v 0) (.k (.int 0))) [.ret (.tup [(.k (.tuple [(.int 0), (.int 1), (.int 0), (.int 1)])), (.k (.tuple [(.int 0), (.int 1), (.int 0), (.int 1)]))])] [],
  .ifs (.cmp .eq (.v 0) (.k (.int 1))) [.ret (.v 11)] [],
  .ifs (.cmp .eq (.v 0) (.k (.int 2))) [.ret (.call 248 [(.v 11), (.v 8)])] [],
  .ifs (.bin .band (.v 0) (.k (.int 1))) [.asg [20] (.call 193 [(.v 40), (.v 0), (.v 8), (.k (.str (Str.ofString "f")))]),
    .asg [21] (.call 193 [(.v 41), (.v 0), (.v 8), (.k (.str (Str.ofString "c")))])] [.asg [44] (.call 152 [(.v 40)]),
    .asg [45] (.call 152 [(.v 41)]),
    .ifs (.cmp .ge (.v 44) (.k (.int 0))) [.asg [20] (.call 193 [(.v 40), (.v 0), (.v 8), (.k (.str (Str.ofString "f")))]),
    .asg [21] (.call 193 [(.v 41), (.v 0), (.v 8), (.k (.str (Str.ofString "c")))])] [.ifs (.cmp .le (.v 45) (.k (.int 0))) [.asg [20] (.call 193 [(.v 41), (.v 0), (.v 8), (.k (.str (Str.ofString "f")))]),
    .asg [21] (.call 193 [(.v 40), (.v 0), (.v 8), (.k (.str (Str.ofString "c")))])] [.asg [20] (.k (.tuple [(.int 0), (.int 0), (.int 0), (.int 0)])),
    .asg [40] (.call 145 [(.v 40)]),
    .ifs (.call 122 [(.v 40), (.v 41)]) [.asg [21] (.call 193 [(.v 40), (.v 0), (.v 8), (.k (.str (Str.ofString "c")))])] [.asg [21] (.call 193 [(.v 41), (.v 0), (.v 8), (.k (.str (Str.ofString "c")))])]]]],
  .ret (.tup [(.v 20), (.v 21)])]
noncomputable def b_qlawqmixed : List MS := [
  .asg [0] (.ite (.cmp .lt (.v 51) (.bi .len [(.v 50)])) (.idx (.v 50) (.v 51)) (.k (.int 0))),
  .ifs (.cmp .ge (.v 0) (.bin .pow (.k (.int 2)) (.k (.int 64)))) [.ret (.v 0)] [],
  .ret (.bin .mod (.bin .fdiv (.bin .pow (.bin .add (.bin .mul (.v 0) (.k (.int 6364136223846793005))) (.bin .mul (.bin .add (.v 51) (.k (.int 1))) (.k (.int 1442695040888963407)))) (.k (.int 3))) (.bin .pow (.k (.int 2)) (.k (.int 40)))) (.bin .pow (.k (.int 2)) (.k (.int 190))))]
noncomputable def b_qlawqmade : List MS := [
  .unp [4, 53] (.ite (.cmp .lt (.v 0) (.k (.int 0))) (.tup [(.k (.int 1)), (.neg (.v 0))]) (.tup [(.k (.int 0)), (.v 0)])),
  .ifs (.cmp .eq (.v 53) (.k (.int 0))) [.ret (.tup [(.k (.int 0)), (.k (.int 0)), (.k (.int 0)), (.k (.int 0))])] [],
  .asg [54] (.bin .sub (.bits (.bin .band (.v 53) (.neg (.v 53)))) (.k (.int 1))),
  .asg [53] (.bin .fdiv (.v 53) (.bin .pow (.k (.int 2)) (.v 54))),
  .ret (.tup [(.v 4), (.v 53), (.bin .add (.v 52) (.v 54)), (.bits (.v 53))])]
noncomputable def b_qlawqvalue : List MS := [
  .ret (.tup [(.ite (.cmp .eq (.idx (.v 11) (.k (.int 0))) (.k (.int 1))) (.neg (.idx (.v 11) (.k (.int 1)))) (.idx (.v 11) (.k (.int 1)))), (.idx (.v 11) (.k (.int 2)))])]
noncomputable def b_qlawqtimes : List MS := [
  .ret (.tup [(.bin .mul (.idx (.v 1) (.k (.int 0))) (.idx (.v 3) (.k (.int 0)))), (.bin .add (.idx (.v 1) (.k (.int 1))) (.idx (.v 3) (.k (.int 1))))])]
noncomputable def b_qlawqless : List MS := [
  .asg [54] (.bi .min [(.idx (.v 1) (.k (.int 1))), (.idx (.v 3) (.k (.int 1)))]),
  .ret (.cmp .lt (.bin .mul (.idx (.v 1) (.k (.int 0))) (.bin .pow (.k (.int 2)) (.bin .sub (.idx (.v 1) (.k (.int 1))) (.v 54)))) (.bin .mul (.idx (.v 3) (.k (.int 0))) (.bin .pow (.k (.int 2)) (.bin .sub (.idx (.v 3) (.k (.int 1))) (.v 54)))))]
noncomputable def b_qlawqgrid : List MS := [
  .unp [56, 52, 57] (.tup [(.bin .mod (.v 55) (.k (.int 6))), (.bin .sub (.bin .mod (.bin .fdiv (.v 55) (.k (.int 6))) (.k (.int 25))) (.k (.int 12))), (.bin .add (.k (.int 1)) (.bin .mod (.bin .fdiv (.v 55) (.k (.int 150))) (.k (.int 24))))]),
  .unp [54, 58] (.tup [(.bin .sub (.bin .mod (.bin .fdiv (.v 55) (.bin .pow (.k (.int 2)) (.k (.int 13)))) (.bin .pow (.k (.int 2)) (.v 57))) (.bin .pow (.k (.int 2)) (.bin .sub (.v 57) (.k (.int 1))))), (.bin .mod (.bin .fdiv (.v 55) (.bin .pow (.k (.int 2)) (.k (.int 40)))) (.bin .pow (.k (.int 2)) (.bin .add (.k (.int 1)) (.bin .mod (.bin .fdiv (.v 55) (.bin .pow (.k (.int 2)) (.k (.int 66)))) (.k (.int 24))))))]),
  .ifs (.cmp .eq (.v 56) (.k (.int 0))) [.asg [58] (.k (.int 0))] [.ifs (.cmp .eq (.v 56) (.k (.int 1))) [.asg [54] (.k (.int 0))] [.ifs (.cmp .eq (.v 56) (.k (.int 2))) [.asg [54] (.neg (.v 58))] []]],
  .ret (.tup [(.v 54), (.bin .add (.v 54) (.v 58)), (.v 52)])]
noncomputable def b_qlawqup : List MS := [
  .unp [54, 59, 52] (.call 311 [(.v 55)]),
  .ret (.tup [(.bi .abs [(.v 54)]), (.bin .sub (.bin .add (.bi .abs [(.v 54)]) (.v 59)) (.v 54)), (.v 52)])]
noncomputable def b_qlawqspan : List MS := [
  .ret (.tup [(.call 283 [(.idx (.v 60) (.k (.int 0))), (.idx (.v 60) (.k (.int 2)))]), (.call 283 [(.idx (.v 60) (.k (.int 1))), (.idx (.v 60) (.k (.int 2)))])])]
noncomputable def b_qlawqwithin : List MS := [
  .unp [20, 21, 63, 64] (.comp 81 (.call 290 [(.v 81)]) (.bin .add (.v 61) (.v 62))),
  .ret (.all [(.nt (.call 304 [(.v 20), (.v 63)])), (.nt (.call 304 [(.v 64), (.v 21)])), (.nt (.call 304 [(.v 21), (.v 20)]))])]
noncomputable def b_qlawqrefused : List MS := [
  .bad,
  .ret (.k (.bool false))]
noncomputable def b_qlawqmost : List MS := [
  .ret (.nt (.call 304 [(.call 290 [(.v 3)]), (.call 290 [(.v 1)])]))]
noncomputable def b_law : List MS := [
  .asg [65] (.call 276 [(.v 50), (.k (.int 0))]),
  .asg [8] (.bin .add (.k (.int 1)) (.bin .mod (.v 65) (.k (.int 60)))),
  .unp [54, 59, 52] (.call 318 [(.call 276 [(.v 50), (.k (.int 1))])]),
  .unp [11, 10] (.tup [(.call 325 [(.tup [(.v 54), (.v 59), (.v 52)])]), (.call 325 [(.call 318 [(.call 276 [(.v 50), (.k (.int 2))])])])]),
  .unp [66, 67] (.tup [(.call 325 [(.call 311 [(.call 276 [(.v 50), (.k (.int 3))])])]), (.call 283 [(.k (.int 1)), (.neg (.k (.int 1)))])]),
  .unp [68, 69, 70] (.tup [(.call 262 [(.v 11), (.v 8)]), (.call 262 [(.v 10), (.v 8)]), (.call 216 [(.v 11), (.v 8)])]),
  .asg [71] (.call 248 [(.v 68), (.v 8)]),
  .ifs (.any [(.nt (.call 330 [(.v 70), (.v 71)])), (.cmp .ne (.call 240 [(.v 68), (.v 68), (.v 8)]) (.v 71)), (.nt (.call 330 [(.v 70), (.call 269 [(.call 262 [(.v 68), (.v 8)]), (.k (.int 4)), (.v 8)])]))]) [.ret (.k (.bool false))] [],
  .ifs (.any [(.cmp .ne (.call 262 [(.call 248 [(.v 66)]), (.v 8)]) (.call 232 [(.v 66), (.v 8)])), (.nt (.call 330 [(.call 262 [(.v 11), (.bin .add (.v 8) (.bin .mod (.bin .fdiv (.v 65) (.k (.int 60))) (.k (.int 30))))]), (.v 68)]))]) [.ret (.k (.bool false))] [],
  .asg [72] (.bin .add (.v 54) (.bin .fdiv (.bin .mul (.bin .sub (.v 59) (.v 54)) (.bin .mod (.bin .fdiv (.v 65) (.bin .pow (.k (.int 2)) (.k (.int 40)))) (.k (.int 9)))) (.k (.int 8)))),
  .asg [73] (.tup [(.call 283 [(.v 72), (.v 52)]), (.call 283 [(.v 72), (.v 52)])]),
  .asg [74] (.call 262 [(.v 73), (.v 8)]),
  .asg [75] (.comp 81 (.call 297 [(.call 290 [(.v 81)]), (.call 290 [(.v 81)])]) (.v 74)),
  .ifs (.any [(.nt (.call 330 [(.v 74), (.v 68)])), (.call 304 [(.tup [(.v 72), (.v 52)]), (.idx (.v 75) (.k (.int 0)))]), (.call 304 [(.idx (.v 75) (.k (.int 1))), (.tup [(.v 72), (.v 52)])])]) [.ret (.k (.bool false))] [],
  .unp [76, 77, 78] (.tup [(.call 262 [(.call 209 [(.v 11), (.v 10)]), (.v 8)]), (.call 209 [(.v 68), (.v 69), (.v 8)]), (.call 262 [(.call 240 [(.v 11), (.v 10)]), (.v 8)])]),
  .ifs (.any [(.nt (.call 344 [(.idx (.v 76) (.k (.int 1))), (.idx (.v 77) (.k (.int 1)))])), (.nt (.call 344 [(.idx (.v 68) (.k (.int 0))), (.idx (.v 76) (.k (.int 0)))])), (.nt (.call 344 [(.idx (.v 69) (.k (.int 0))), (.idx (.v 76) (.k (.int 0)))]))]) [.ret (.k (.bool false))] [],
  .asg [79] (.call 240 [(.call 209 [(.v 11), (.v 10)]), (.tup [(.v 67), (.v 67)]), (.v 8)]),
  .ifs (.any [(.nt (.call 330 [(.v 78), (.call 240 [(.v 68), (.v 69), (.v 8)])])), (.nt (.call 344 [(.idx (.v 78) (.k (.int 0))), (.idx (.v 79) (.k (.int 0)))])), (.nt (.call 344 [(.idx (.v 78) (.k (.int 1))), (.idx (.v 79) (.k (.int 1)))]))]) [.ret (.k (.bool false))] [],
  .asg [80] (.call 325 [(.tup [(.bin .sub (.neg (.k (.int 1))) (.v 54)), (.v 59), (.v 52)])]),
  .ret (.all [(.call 337 [(.v 80), (.v 8)]), (.call 337 [(.call 224 [(.tup [(.idx (.v 11) (.k (.int 1))), (.call 283 [(.bin .add (.bin .mul (.k (.int 2)) (.v 59)) (.k (.int 1))), (.v 52)])])]), (.v 8)])])]

noncomputable def f_trailing : MF := ⟨[0], [], b_trailing⟩
noncomputable def f_isqrtqsmall : MF := ⟨[1], [], b_isqrtqsmall⟩
noncomputable def f_sqrtrem : MF := ⟨[1], [], b_sqrtrem⟩
noncomputable def f_isqrt : MF := ⟨[1], [], b_isqrt⟩
noncomputable def f_qnormalize : MF := ⟨[4, 5, 6, 7, 8, 9], [], b_qnormalize⟩
noncomputable def f_normalize : MF := ⟨[4, 5, 6, 7, 8, 9], [], b_normalize⟩
noncomputable def f_fromqmanqexp : MF := ⟨[5, 6, 8, 9], [.int 0, .str (Str.ofString "d")], b_fromqmanqexp⟩
noncomputable def f_mpfqcmp : MF := ⟨[11, 10], [], b_mpfqcmp⟩
noncomputable def f_mpfqlt : MF := ⟨[11, 10], [], b_mpfqlt⟩
noncomputable def f_mpfqle : MF := ⟨[11, 10], [], b_mpfqle⟩
noncomputable def f_mpfqgt : MF := ⟨[11, 10], [], b_mpfqgt⟩
noncomputable def f_mpfqge : MF := ⟨[11, 10], [], b_mpfqge⟩
noncomputable def f_mpfqminqmax : MF := ⟨[23], [], b_mpfqminqmax⟩
noncomputable def f_mpfqpos : MF := ⟨[11, 8, 9], [.int 0, .str (Str.ofString "d")], b_mpfqpos⟩
noncomputable def f_mpfqneg : MF := ⟨[11, 8, 9], [.int 0, .str (Str.ofString "d")], b_mpfqneg⟩
noncomputable def f_mpfqsign : MF := ⟨[11], [], b_mpfqsign⟩
noncomputable def f_mpfqadd : MF := ⟨[11, 10, 8, 9, 26], [.int 0, .str (Str.ofString "d"), .int 0], b_mpfqadd⟩
noncomputable def f_mpfqsub : MF := ⟨[11, 10, 8, 9], [.int 0, .str (Str.ofString "d")], b_mpfqsub⟩
noncomputable def f_mpfqmul : MF := ⟨[11, 10, 8, 9], [.int 0, .str (Str.ofString "d")], b_mpfqmul⟩
noncomputable def f_mpfqpowqint : MF := ⟨[11, 0, 8, 9], [.str (Str.ofString "d")], b_mpfqpowqint⟩
noncomputable def f_mpfqsqrt : MF := ⟨[11, 8, 9], [.str (Str.ofString "d")], b_mpfqsqrt⟩
noncomputable def f_mpiqadd : MF := ⟨[11, 10, 8], [.int 0], b_mpiqadd⟩
noncomputable def f_mpiqpos : MF := ⟨[11, 8], [], b_mpiqpos⟩
noncomputable def f_mpiqneg : MF := ⟨[11, 8], [.int 0], b_mpiqneg⟩
noncomputable def f_mpiqabs : MF := ⟨[11, 8], [.int 0], b_mpiqabs⟩
noncomputable def f_mpiqmul : MF := ⟨[11, 10, 8], [.int 0], b_mpiqmul⟩
noncomputable def f_mpiqsquare : MF := ⟨[11, 8], [.int 0], b_mpiqsquare⟩
noncomputable def f_mpiqsqrt : MF := ⟨[11, 8], [], b_mpiqsqrt⟩
noncomputable def f_mpiqpowqint : MF := ⟨[11, 0, 8], [], b_mpiqpowqint⟩
noncomputable def f_qlawqmixed : MF := ⟨[50, 51], [], b_qlawqmixed⟩
noncomputable def f_qlawqmade : MF := ⟨[0, 52], [], b_qlawqmade⟩
noncomputable def f_qlawqvalue : MF := ⟨[11], [], b_qlawqvalue⟩
noncomputable def f_qlawqtimes : MF := ⟨[1, 3], [], b_qlawqtimes⟩
noncomputable def f_qlawqless : MF := ⟨[1, 3], [], b_qlawqless⟩
noncomputable def f_qlawqgrid : MF := ⟨[55], [], b_qlawqgrid⟩
noncomputable def f_qlawqup : MF := ⟨[55], [], b_qlawqup⟩
noncomputable def f_qlawqspan : MF := ⟨[60], [], b_qlawqspan⟩
noncomputable def f_qlawqwithin : MF := ⟨[61, 62], [], b_qlawqwithin⟩
noncomputable def f_qlawqmost : MF := ⟨[1, 3], [], b_qlawqmost⟩
noncomputable def T : Nat → Option (MF × List Nat)
  | 21 => some (f_trailing, [1])
  | 28 => some (f_isqrtqsmall, [1])
  | 35 => some (f_sqrtrem, [1])
  | 42 => some (f_isqrt, [1])
  | 72 => some (f_qnormalize, [6])
  | 79 => some (f_normalize, [6])
  | 87 => some (f_fromqmanqexp, [4])
  | 94 => some (f_mpfqcmp, [2])
  | 101 => some (f_mpfqlt, [2])
  | 108 => some (f_mpfqle, [2])
  | 115 => some (f_mpfqgt, [2])
  | 122 => some (f_mpfqge, [2])
  | 129 => some (f_mpfqminqmax, [1])
  | 137 => some (f_mpfqpos, [3])
  | 145 => some (f_mpfqneg, [1, 3])
  | 152 => some (f_mpfqsign, [1])
  | 160 => some (f_mpfqadd, [4, 5])
  | 168 => some (f_mpfqsub, [4])
  | 176 => some (f_mpfqmul, [4])
  | 193 => some (f_mpfqpowqint, [4])
  | 201 => some (f_mpfqsqrt, [3])
  | 209 => some (f_mpiqadd, [2, 3])
  | 216 => some (f_mpiqpos, [2])
  | 224 => some (f_mpiqneg, [1])
  | 232 => some (f_mpiqabs, [2])
  | 240 => some (f_mpiqmul, [2, 3])
  | 248 => some (f_mpiqsquare, [1, 2])
  | 262 => some (f_mpiqsqrt, [2])
  | 269 => some (f_mpiqpowqint, [3])
  | 276 => some (f_qlawqmixed, [2])
  | 283 => some (f_qlawqmade, [2])
  | 290 => some (f_qlawqvalue, [1])
  | 297 => some (f_qlawqtimes, [2])
  | 304 => some (f_qlawqless, [2])
  | 311 => some (f_qlawqgrid, [1])
  | 318 => some (f_qlawqup, [1])
  | 325 => some (f_qlawqspan, [1])
  | 330 => some (f_qlawqwithin, [2])
  | 344 => some (f_qlawqmost, [2])
  | _ => none
end Mine

namespace Mine

noncomputable def B : Nat := 1000
theorem B_ge : 300 ≤ B := by unfold B; decide
noncomputable def Z : PyData := .tuple [.int 0, .int 0, .int 0, .int 0]
noncomputable def enc (s : Int) (X : Nat) : PyData := if X = 0 then Z else .tuple [.int s, .int (od X), .int ((tz X : Int) - B), .int (bl (od X))]
theorem enc_zero (s : Int) : enc s 0 = Z := rfl
theorem enc_pos {s : Int} {X : Nat} (h : X ≠ 0) : enc s X = .tuple [.int s, .int (od X), .int ((tz X : Int) - B), .int (bl (od X))] := by unfold enc; rw [if_neg h]
noncomputable def rs : Bool → PyData
  | true => .str (Str.ofString "f")
  | false => .str (Str.ofString "c")
noncomputable def si : Bool → Int
  | true => 1
  | false => 0
noncomputable def Rd (down : Bool) (p X : Nat) : Nat := match down with
  | true => Fl p X
  | false => Ce p X
noncomputable def sh (e : Int) : Nat := (e + B).toNat

/-- the contracts: what a call of a def gives -/
noncomputable def SpTrail (C : CallW) : Prop := ∀ (n : Nat) (k : PyData → Prop), n ≠ 0 → k (.int (tz n)) → C 21 [.int n] k
noncomputable def SpNorm0 (C : CallW) : Prop := ∀ (f neg : Bool) (m p : Nat) (e : Int) (k : PyData → Prop), 1 ≤ p → 0 ≤ e + B → k (enc (si neg) (Rd (f ^^ neg) p (m * 2 ^ sh e))) → C 72 [.int (si neg), .int m, .int e, .int (bl m), .int p, rs f] k
noncomputable def SpNorm (C : CallW) : Prop := ∀ (f neg : Bool) (m p : Nat) (e : Int) (k : PyData → Prop), 1 ≤ p → 0 ≤ e + B → k (enc (si neg) (Rd (f ^^ neg) p (m * 2 ^ sh e))) → C 79 [.int (si neg), .int m, .int e, .int (bl m), .int p, rs f] k

theorem w_trail (C : CallW) : ∀ (n : Nat) (k : PyData → Prop), n ≠ 0 → k (.int (tz n)) → bodyW f_trailing C [.int n] k := by
  intro n k hn hk
  conv => whnf
  refine ⟨fun h => ?_, fun h => absurd h (by omega)⟩
  conv => whnf
  have e : ((Builtin.Int.intBits (Builtin.bitAnd (n : Int) (-(n : Int))) : Int)) - 1 = (tz n : Int) := by
    rw [band_neg hn, bits_nat, bl_pow]
    omega
  rw [← e] at hk
  exact hk

/-- the encoding of a mantissa that is stripped of its zeros -/
theorem enc_strip {s : Int} {M j : Nat} (h : M ≠ 0) : enc s (M * 2 ^ j) = .tuple [.int s, .int (od M), .int ((tz M : Int) + j - B), .int (bl (od M))] := by
  have h2 : M * 2 ^ j ≠ 0 := Nat.ne_of_gt (Nat.mul_pos (Nat.pos_of_ne_zero h) (pp j))
  rw [enc_pos h2, (od_shift h j).1, (od_shift h j).2]
  congr 5

/-- the tail of _normalize: zeros stripped -/
theorem norm_tail (C : CallW) (hT : SpTrail C) (s : Int) (M j : Nat) (e bc : Int) (ρ : MEnv) (k : PyData → Prop) (hM : M ≠ 0) (he : e + B = j) (hb : bc = bl M ∨ (M = 2 ^ (bl M - 1)))
    (h4 : lk ρ 4 = some (.int s)) (h5 : lk ρ 5 = some (.int M)) (h6 : lk ρ 6 = some (.int e)) (h7 : lk ρ 7 = some (.int bc)) (hk : k (enc s (M * 2 ^ j))) :
    Xs C [.ifs (.nt (.bin .band (.v 5) (.k (.int 1)))) [.asg [10] (.call 21 [(.v 5)]), .aug 5 .shr (.v 10), .aug 6 .add (.v 10), .aug 7 .sub (.v 10)] [],
      .ifs (.cmp .eq (.v 5) (.k (.int 1))) [.asg [7] (.k (.int 1))] [],
      .ret (.tup [(.v 4), (.v 5), (.v 6), (.v 7)])] ρ (fun _ => False) k := by
  simp only [Xs, X, W, Ws, KK.go, h4, h5, h6, h7, binW, trW, cmpW, cmpT, augW, sameAll, lk]
  have hs := enc_strip (s := s) (j := j) hM
  refine ⟨fun h => ?_, fun h => hT M _ hM ?_⟩
  · have hodd : M % 2 = 1 := by rw [bitAnd_m1] at h; omega
    have ht := tz_odd hodd
    have ho : od M = M := by have := od_mul hM; rw [ht] at this; simpa using this
    rw [hs, ht, ho] at hk
    have e1 : ((0 : Nat) : Int) + (j : Int) - (B : Int) = e := by omega
    rw [e1] at hk
    refine ⟨fun h1 => ⟨by simp, ?_⟩, fun h1 => ⟨by simp, ?_⟩⟩
    · have : M = 1 := by omega
      subst this
      exact hk
    · rcases hb with hb | hb
      · rw [hb]; exact hk
      · exfalso
        rcases Nat.eq_zero_or_pos (bl M - 1) with h0 | h0
        · rw [h0] at hb; omega
        · have h2 : 2 ^ (bl M - 1) = 2 * 2 ^ (bl M - 1 - 1) := by rw [← Nat.pow_succ']; congr 1; omega
          have h3 : M % 2 = 0 := by rw [hb, h2]; exact Nat.mul_mod_right _ _
          rw [h3] at hodd
          exact absurd hodd (by decide)
  · refine ⟨by omega, ?_⟩
    have e2 : ((M : Int).fdiv (2 ^ ((tz M : Int)).toNat)) = (od M : Int) := by
      have e3 : ((2 : Int) ^ ((tz M : Int)).toNat) = ((2 ^ tz M : Nat) : Int) := by push_cast; congr 1
      have := pp (tz M)
      rw [e3, Int.fdiv_eq_ediv_of_nonneg _ (by omega)]
      rfl
    rw [e2]
    rw [hs] at hk
    have e1 : (tz M : Int) + (j : Int) - (B : Int) = e + tz M := by omega
    rw [e1] at hk
    have hbl := bl_od hM
    refine ⟨fun h1 => ⟨by simp, ?_⟩, fun h1 => ⟨by simp, ?_⟩⟩
    · have h2 : od M = 1 := by omega
      rw [h2] at hk ⊢
      exact hk
    · rcases hb with hb | hb
      · have e4 : bc - (tz M : Int) = bl (od M) := by omega
        rw [e4]; exact hk
      · exfalso
        apply h1
        have h2 := tz_mul (o := 1) rfl (bl M - 1)
        have h3 := od_of (o := 1) rfl (bl M - 1)
        rw [Nat.one_mul, ← hb] at h3
        omega
theorem cn : Str.ofString "c" ≠ Str.ofString "n" := by decide
theorem fn : Str.ofString "f" ≠ Str.ofString "n" := by decide
theorem shift_nat (m n : Nat) : (m : Int).fdiv (2 ^ ((n : Nat) : Int).toNat) = ((m / 2 ^ n : Nat) : Int) := by
  have e3 : ((2 : Int) ^ ((n : Nat) : Int).toNat) = ((2 ^ n : Nat) : Int) := by push_cast; congr 1
  have := pp n
  rw [e3, Int.fdiv_eq_ediv_of_nonneg _ (by omega)]
  rfl
theorem Rd_exact {f : Bool} {p X : Nat} (hp : 1 ≤ p) (h : Pb p X) : Rd f p X = X := by
  cases f
  · exact Ce_exact hp h
  · exact Fl_exact hp h
theorem Rd_zero {f : Bool} {p : Nat} (hp : 1 ≤ p) : Rd f p 0 = 0 := Rd_exact hp ⟨0, 0, pp p, rfl⟩
theorem w_norm0 (C : CallW) (hT : SpTrail C) : ∀ (f neg : Bool) (m p : Nat) (e : Int) (k : PyData → Prop), 1 ≤ p → 0 ≤ e + B → k (enc (si neg) (Rd (f ^^ neg) p (m * 2 ^ sh e))) → bodyW f_qnormalize C [.int (si neg), .int m, .int e, .int (bl m), .int p, rs f] k := by
  intro f neg m p e k hp he hk
  have hsh : e + (B : Int) = (sh e : Nat) := by unfold sh; omega
  have main : ∀ K : MEnv → Prop, (∀ (M j : Nat) (e bc : Int) (ρ : MEnv), M ≠ 0 → e + B = j → (bc = bl M ∨ (M = 2 ^ (bl M - 1))) → lk ρ 4 = some (.int (si neg)) → lk ρ 5 = some (.int M) → lk ρ 6 = some (.int e) → lk ρ 7 = some (.int bc) → k (enc (si neg) (M * 2 ^ j)) → K ρ) →
      Xs C [b_qnormalize[0], b_qnormalize[1], b_qnormalize[2]] [(9, rs f), (8, .int p), (7, .int (bl m)), (6, .int e), (5, .int m), (4, .int (si neg))] K k := by
    intro K hK
    conv => whnf
    refine ⟨fun h => ?_, fun h => ?_⟩
    · conv => whnf
      have hm : m ≠ 0 := by omega
      refine ⟨fun h => ?_, fun h => ?_⟩
      · have en : ((bl m : Int)) - (p : Int) = ((bl m - p : Nat) : Int) := by omega
        have hpb : p ≤ bl m := by omega
        have hdn : (f ^^ neg) = true → (∀ ρ : MEnv, lk ρ 4 = some (.int (si neg)) → lk ρ 5 = some (.int ((m : Int).fdiv (2 ^ ((bl m : Int) - (p : Int)).toNat))) → lk ρ 6 = some (.int (e + ((bl m : Int) - (p : Int)))) → lk ρ 7 = some (.int p) → K ρ) := by
          intro hf ρ h4 h5 h6 h7
          rw [en, shift_nat] at h5
          have ht := top_bits hpb hm hp
          have hlt := @div_lt_p p m
          have hb : bl (m / 2 ^ (bl m - p)) = p := by
            have := bl_unique ht (by have : p - 1 + 1 = p := by omega
                                     rw [this]; exact hlt)
            omega
          refine hK _ (bl m - p + sh e) _ _ ρ (by have := pp (p - 1); omega) ?_ (.inl ?_) h4 h5 h6 h7 ?_
          · omega
          · rw [hb]
          · rw [hf] at hk
            have hk' : k (enc (si neg) (Fl p (m * 2 ^ sh e))) := hk
            rw [Fl_form hpb hm] at hk'
            exact hk'
        have hup : (f ^^ neg) = false → (∀ ρ : MEnv, lk ρ 4 = some (.int (si neg)) → lk ρ 5 = some (.int (-((-(m : Int)).fdiv (2 ^ ((bl m : Int) - (p : Int)).toNat)))) → lk ρ 6 = some (.int (e + ((bl m : Int) - (p : Int)))) → lk ρ 7 = some (.int p) → K ρ) := by
          intro hf ρ h4 h5 h6 h7
          have en2 : ((bl m : Int) - (p : Int)).toNat = bl m - p := by omega
          rw [en2, ceil_neg] at h5
          have ht := top_bits hpb hm hp
          have hlt := @div_lt_p p m
          have hge : 2 ^ (p - 1) ≤ (m + (2 ^ (bl m - p) - 1)) / 2 ^ (bl m - p) := Nat.le_trans ht (Nat.div_le_div_right (by omega))
          have hle : (m + (2 ^ (bl m - p) - 1)) / 2 ^ (bl m - p) ≤ 2 ^ p := by
            refine Nat.lt_succ_iff.mp ?_
            have hn := pp (bl m - p)
            rw [Nat.div_lt_iff_lt_mul hn, Nat.succ_mul, ← Nat.pow_add]
            have := bl_lt m
            have e5 : p + (bl m - p) = bl m := by omega
            rw [e5]
            omega
          refine hK _ (bl m - p + sh e) _ _ ρ (by have := pp (p - 1); omega) ?_ ?_ h4 h5 h6 h7 ?_
          · omega
          · rcases Nat.lt_or_eq_of_le hle with hl | hl
            · left
              have := bl_unique hge (by have : p - 1 + 1 = p := by omega
                                        rw [this]; exact hl)
              omega
            · right
              rw [hl, bl_pow]
              congr 1
          · rw [hf] at hk
            have hk' : k (enc (si neg) (Ce p (m * 2 ^ sh e))) := hk
            rw [Ce_form hpb hm] at hk'
            exact hk'
        cases f <;> cases neg
        · conv => whnf
          refine ⟨fun h => absurd h cn, fun _ => ?_⟩
          conv => whnf
          refine ⟨by decide, ?_⟩
          conv => whnf
          refine ⟨fun h => absurd rfl h, fun _ => ?_⟩
          conv => whnf
          refine ⟨by omega, ?_⟩
          conv => whnf
          exact hup rfl _ rfl rfl rfl rfl
        · conv => whnf
          refine ⟨fun h => absurd h cn, fun _ => ?_⟩
          conv => whnf
          refine ⟨by decide, ?_⟩
          conv => whnf
          refine ⟨fun _ => ?_, fun h => absurd h (by decide)⟩
          conv => whnf
          refine ⟨by omega, ?_⟩
          conv => whnf
          exact hdn rfl _ rfl rfl rfl rfl
        · conv => whnf
          refine ⟨fun h => absurd h fn, fun _ => ?_⟩
          conv => whnf
          refine ⟨by decide, ?_⟩
          conv => whnf
          refine ⟨fun _ => ?_, fun h => absurd h (by decide)⟩
          conv => whnf
          refine ⟨by omega, ?_⟩
          conv => whnf
          exact hdn rfl _ rfl rfl rfl rfl
        · conv => whnf
          refine ⟨fun h => absurd h fn, fun _ => ?_⟩
          conv => whnf
          refine ⟨by decide, ?_⟩
          conv => whnf
          refine ⟨fun h => absurd rfl h, fun _ => ?_⟩
          conv => whnf
          refine ⟨by omega, ?_⟩
          conv => whnf
          exact hup rfl _ rfl rfl rfl rfl
      · conv => whnf
        refine hK m (sh e) e (bl m) _ hm hsh (.inl rfl) rfl rfl rfl rfl ?_
        have hpb : Pb p (m * 2 ^ sh e) := Pb_shift (Pb_of_bl (by omega)) _
        rw [Rd_exact hp hpb] at hk
        exact hk
    · have : m = 0 := by omega
      subst this
      conv => whnf
      rw [Nat.zero_mul, Rd_zero hp] at hk
      exact hk
  exact main _ fun M j e bc ρ hM he hb h4 h5 h6 h7 hk => norm_tail C hT (si neg) M j e bc ρ k hM he hb h4 h5 h6 h7 hk
theorem w_norm (C : CallW) (hN : SpNorm0 C) : ∀ (f neg : Bool) (m p : Nat) (e : Int) (k : PyData → Prop), 1 ≤ p → 0 ≤ e + B → k (enc (si neg) (Rd (f ^^ neg) p (m * 2 ^ sh e))) → bodyW f_normalize C [.int (si neg), .int m, .int e, .int (bl m), .int p, rs f] k := by
  intro f neg m p e k hp he hk
  conv => whnf
  refine ⟨fun _ => ?_, fun h => absurd (congrArg Nat.cast (bits_nat m).symm) h⟩
  conv => whnf
  refine ⟨fun _ => ?_, fun h => by omega⟩
  exact hN f neg m p e k hp he hk
end Mine

namespace Mine

theorem Big_ge : 100000 ≤ Big := by unfold Big; decide
theorem Sm_of {n : Nat} (h : bl n ≤ 100000) : Sm (n : Int) := by unfold Sm; rw [bits_nat]; have := Big_ge; omega

theorem amgm (r t : Nat) : 4 * (r * t) ≤ (r + t) * (r + t) := by
  rcases Nat.le_total r t with h | h
  · obtain ⟨d, rfl⟩ := Nat.le.dest h
    have : (r + (r + d)) * (r + (r + d)) = 4 * (r * (r + d)) + d * d := by
      simp only [Nat.mul_add, Nat.add_mul]
      have : d * r = r * d := Nat.mul_comm _ _
      omega
    omega
  · obtain ⟨d, rfl⟩ := Nat.le.dest h
    have : (t + d + t) * (t + d + t) = 4 * ((t + d) * t) + d * d := by
      simp only [Nat.mul_add, Nat.add_mul]
      have : d * t = t * d := Nat.mul_comm _ _
      omega
    omega
theorem sq_lt {a b : Nat} (h : a * a < b * b) : a < b := by
  refine Nat.lt_of_not_le fun h2 => ?_
  have := Nat.mul_le_mul h2 h2
  omega
theorem sq_le {a b : Nat} (h : a * a ≤ b * b) : a ≤ b := by
  refine Nat.le_of_not_lt fun h2 => ?_
  have := Nat.mul_lt_mul'' h2 h2
  omega
theorem newton {x r : Nat} (hr : 0 < r) : x < ((r + x / r) / 2 + 1) * ((r + x / r) / 2 + 1) := by
  have h1 : x < r * (x / r + 1) := Nat.lt_mul_div_succ x hr
  have h2 := amgm r (x / r + 1)
  have h3 : r + (x / r + 1) ≤ 2 * ((r + x / r) / 2 + 1) := by omega
  have h4 := Nat.mul_le_mul h3 h3
  have e : 2 * ((r + x / r) / 2 + 1) * (2 * ((r + x / r) / 2 + 1)) = 4 * (((r + x / r) / 2 + 1) * ((r + x / r) / 2 + 1)) := by
    generalize (r + x / r) / 2 + 1 = y
    rw [Nat.mul_mul_mul_comm]
  omega

noncomputable def SpIsq (C : CallW) : Prop := ∀ (x : Nat) (k : PyData → Prop), bl x ≤ 10000 → (∀ r : Nat, r * r ≤ x → x < (r + 1) * (r + 1) → k (.int r)) → C 28 [.int x] k
noncomputable def SpRem (C : CallW) : Prop := ∀ (x : Nat) (k : PyData → Prop), bl x ≤ 10000 → (∀ r : Nat, r * r ≤ x → x < (r + 1) * (r + 1) → k (.tuple [.int r, .int ((x - r * r : Nat) : Int)])) → C 35 [.int x] k
noncomputable def SpIsqrt (C : CallW) : Prop := ∀ (x : Nat) (k : PyData → Prop), bl x ≤ 10000 → (∀ r : Nat, r * r ≤ x → x < (r + 1) * (r + 1) → k (.int r)) → C 42 [.int x] k

theorem isq_loop (C : CallW) (x : Nat) (hx : x ≠ 0) (kn : MEnv → Prop) (k : PyData → Prop) (hk : ∀ r : Nat, r * r ≤ x → x < (r + 1) * (r + 1) → k (.int r)) : ∀ (r : Nat) (ρ : MEnv), 0 < r → bl r ≤ 8000 → x < (r + 1) * (r + 1) → lk ρ 1 = some (.int x) → lk ρ 2 = some (.int r) →
    X C (.whl (.k (.int 1)) [.asg [3] (.bin .shr (.bin .add (.v 2) (.bin .fdiv (.v 1) (.v 2))) (.k (.int 1))),
    .ifs (.cmp .ge (.v 3) (.v 2)) [.ret (.v 2)] [],
    .asg [2] (.v 3)]) ρ kn k := by
  intro r
  induction r using Nat.strongRecOn with
  | ind r ih =>
    intro ρ hr hb hlt h1 h2
    have ey : ((r : Int) + (x : Int).fdiv r).fdiv (2 ^ (1 : Int).toNat) = (((r + x / r) / 2 : Nat) : Int) := by
      rw [Int.fdiv_eq_ediv_of_nonneg _ (by omega : (0 : Int) ≤ r), Int.fdiv_eq_ediv_of_nonneg _ (by decide)]
      have : ((2 : Int) ^ (1 : Int).toNat) = 2 := by decide
      rw [this]
      omega
    by_cases hy : r ≤ (r + x / r) / 2
    · have hq : r ≤ x / r := by omega
      have hqq : r * r ≤ x := by
        have := Nat.mul_le_mul_left r hq
        have := Nat.mul_div_le x r
        omega
      refine ⟨1, ?_⟩
      simp only [whileW, Xs, X, W, Ws, KK.go, h1, h2, binW, trW, cmpW, cmpT, augW, sameAll, lk, Nat.beq]
      refine ⟨fun _ => ?_, fun h => absurd h (by decide)⟩
      refine ⟨⟨by omega, by rw [bits_nat]; exact hb⟩, by decide, ?_⟩
      rw [ey]
      refine ⟨fun _ => hk r hqq hlt, fun h => by omega⟩
    · have hy2 : (r + x / r) / 2 < r := by omega
      have hpos : 0 < (r + x / r) / 2 := by
        by_cases hr1 : r = 1
        · subst hr1
          rw [Nat.div_one]
          omega
        · generalize x / r = q at *
          omega
      obtain ⟨n, hn⟩ := ih ((r + x / r) / 2) hy2 ((2, .int (((r + x / r) / 2 : Nat) : Int)) :: (3, .int (((r + x / r) / 2 : Nat) : Int)) :: ρ) hpos (Nat.le_trans (bl_mono (by omega)) hb) (newton hr) (by simp only [lk, Nat.beq, h1]) (by simp only [lk, Nat.beq])
      refine ⟨n + 1, ?_⟩
      simp only [whileW]
      simp only [Xs, X, W, Ws, KK.go, h1, h2, binW, trW, cmpW, cmpT, augW, sameAll, lk, Nat.beq] at hn ⊢
      refine ⟨fun _ => ?_, fun h => absurd h (by decide)⟩
      refine ⟨⟨by omega, by rw [bits_nat]; exact hb⟩, by decide, ?_⟩
      rw [ey]
      refine ⟨fun h => by omega, fun _ => ?_⟩
      exact hn
theorem w_isq (C : CallW) : ∀ (x : Nat) (k : PyData → Prop), bl x ≤ 10000 → (∀ r : Nat, r * r ≤ x → x < (r + 1) * (r + 1) → k (.int r)) → bodyW f_isqrtqsmall C [.int x] k := by
  intro x k hb hk
  conv => whnf
  refine ⟨fun h => ?_, fun h => ?_⟩
  · have hx : x ≠ 0 := by omega
    conv => whnf
    refine ⟨by decide, ?_⟩
    rw [bits_nat]
    have ee : (((bl x : Int) + 1).fdiv (2 ^ (Int.toNat 1))) = (((bl x + 1) / 2 : Nat) : Int) := by
      rw [Int.fdiv_eq_ediv_of_nonneg _ (by decide)]
      have : ((2 : Int) ^ (1 : Int).toNat) = 2 := by decide
      rw [this]
      omega
    have e1 : (1 : Int) * 2 ^ (((bl x : Int) + 1).fdiv (2 ^ (Int.toNat 1))).toNat = ((2 ^ ((bl x + 1) / 2) : Nat) : Int) := by
      rw [ee, Int.one_mul]; push_cast; congr 1
    have h16 : bl x ≤ 10000 := hb
    conv => whnf
    refine ⟨⟨by omega, by omega, Sm_of (n := 1) (by decide)⟩, ?_⟩
    have main := isq_loop C x hx (fun _ => False) k hk (2 ^ ((bl x + 1) / 2)) [(2, .int ((2 ^ ((bl x + 1) / 2) : Nat) : Int)), (1, .int x)] (pp _) (by rw [bl_pow]; omega) ?_ rfl rfl
    · rw [← e1] at main
      exact main
    · have h1 := bl_lt x
      have h2 : 2 ^ bl x ≤ 2 ^ ((bl x + 1) / 2 + (bl x + 1) / 2) := Nat.pow_le_pow_right (by decide) (by omega)
      rw [Nat.pow_add] at h2
      have h3 : 2 ^ ((bl x + 1) / 2) * 2 ^ ((bl x + 1) / 2) ≤ (2 ^ ((bl x + 1) / 2) + 1) * (2 ^ ((bl x + 1) / 2) + 1) := Nat.mul_le_mul (by omega) (by omega)
      omega
  · have hx : x = 0 := by omega
    subst hx
    exact hk 0 (by decide) (by decide)
theorem sq_bl {x r : Nat} (h : r * r ≤ x) (hx : bl x ≤ 10000) : bl r ≤ 10000 := by
  refine Nat.le_trans (bl_mono ?_) hx
  rcases Nat.eq_zero_or_pos r with h0 | h0
  · omega
  · have := Nat.mul_le_mul_left r h0
    omega
theorem w_rem (C : CallW) (hI : SpIsq C) : ∀ (x : Nat) (k : PyData → Prop), bl x ≤ 10000 → (∀ r : Nat, r * r ≤ x → x < (r + 1) * (r + 1) → k (.tuple [.int r, .int ((x - r * r : Nat) : Int)])) → bodyW f_sqrtrem C [.int x] k := by
  intro x k hb hk
  refine hI x _ hb fun r h1 h2 => ?_
  conv => whnf
  have hs := Sm_of (Nat.le_trans (sq_bl h1 hb) (by decide))
  refine ⟨⟨hs, hs⟩, ?_⟩
  conv => whnf
  refine ⟨by simp, ?_⟩
  have e : ((x - r * r : Nat) : Int) = (x : Int) - (r : Int) * (r : Int) := by
    rw [Int.natCast_sub h1]; push_cast; rfl
  have := hk r h1 h2
  rw [e] at this
  exact this
theorem w_isqrt (C : CallW) (hI : SpRem C) : ∀ (x : Nat) (k : PyData → Prop), bl x ≤ 10000 → (∀ r : Nat, r * r ≤ x → x < (r + 1) * (r + 1) → k (.int r)) → bodyW f_isqrt C [.int x] k := by
  intro x k hb hk
  refine hI x _ hb fun r h1 h2 => ?_
  conv => whnf
  refine ⟨by decide, ?_⟩
  exact hk r h1 h2

/-- from_man_exp, at a precision, of a number from 0 on -/
noncomputable def SpFME (C : CallW) : Prop := ∀ (f : Bool) (m p : Nat) (e : Int) (k : PyData → Prop), 1 ≤ p → 0 ≤ e + B → k (enc 0 (Rd f p (m * 2 ^ sh e))) → C 87 [.int m, .int e, .int p, rs f] k
theorem w_fme (C : CallW) (hN : SpNorm C) : ∀ (f : Bool) (m p : Nat) (e : Int) (k : PyData → Prop), 1 ≤ p → 0 ≤ e + B → k (enc 0 (Rd f p (m * 2 ^ sh e))) → bodyW f_fromqmanqexp C [.int m, .int e, .int p, rs f] k := by
  intro f m p e k hp he hk
  have e1 : rs f = rs f := rfl
  conv => whnf
  refine ⟨fun _ => ?_, fun h => absurd h (by decide)⟩
  conv => whnf
  refine ⟨fun h => by omega, fun _ => ?_⟩
  conv => whnf
  refine ⟨fun _ => ?_, fun h => by omega⟩
  have := hN f false m p e k hp he (by rw [Bool.xor_false]; exact hk)
  rw [← bits_nat] at this
  exact this
end Mine

namespace Mine

/-- the root of a scaled number, rounded -/
noncomputable def IsRt (f : Bool) (p X V : Nat) : Prop := Pb p V ∧ match f with
  | true => V * V ≤ X * 2 ^ B ∧ ∀ q, Pb p q → q * q ≤ X * 2 ^ B → q ≤ V
  | false => X * 2 ^ B ≤ V * V ∧ ∀ q, Pb p q → X * 2 ^ B ≤ q * q → V ≤ q
theorem rt_exact {f : Bool} {p X V : Nat} (hp : Pb p V) (h : X * 2 ^ B = V * V) : IsRt f p X V := by
  refine ⟨hp, ?_⟩
  cases f
  · exact ⟨by omega, fun q _ hq => sq_le (by omega)⟩
  · exact ⟨by omega, fun q _ hq => sq_le (by omega)⟩
theorem rt_f {p X N J r : Nat} (hp : 1 ≤ p) (hX : X * 2 ^ B = N * (2 ^ J * 2 ^ J)) (h1 : r * r ≤ N) (h2 : N < (r + 1) * (r + 1)) (hr : 2 ^ (p - 1) ≤ r) : IsRt true p X (Fl p (r * 2 ^ J)) := by
  refine ⟨Fl_pb, ?_, fun q hq h => ?_⟩
  · have := @Fl_le p (r * 2 ^ J)
    have h3 := Nat.mul_le_mul this this
    have h4 := Nat.mul_le_mul_right (2 ^ J * 2 ^ J) h1
    rw [Nat.mul_mul_mul_comm] at h4
    rw [hX]
    omega
  · refine Fl_max hp hq (gap_down hp hr hq (sq_lt ?_))
    have h4 := Nat.mul_lt_mul_of_pos_right h2 (Nat.mul_pos (pp J) (pp J))
    rw [Nat.mul_mul_mul_comm (r + 1) (r + 1)] at h4
    omega
theorem rt_c0 {p X N J r : Nat} (hp : 1 ≤ p) (hX : X * 2 ^ B = N * (2 ^ J * 2 ^ J)) (h1 : r * r = N) : IsRt false p X (Ce p (r * 2 ^ J)) := by
  have e : X * 2 ^ B = r * 2 ^ J * (r * 2 ^ J) := by rw [hX, ← h1, Nat.mul_mul_mul_comm]
  refine ⟨Ce_pb hp, ?_, fun q hq h => ?_⟩
  · have := @Ce_ge p (r * 2 ^ J)
    have h3 := Nat.mul_le_mul this this
    omega
  · exact Ce_min hp hq (sq_le (by omega))
theorem rt_c1 {p X N J r : Nat} (hp : 1 ≤ p) (hX : X * 2 ^ B = N * (2 ^ (J + 1) * 2 ^ (J + 1))) (h1 : r * r < N) (h2 : N < (r + 1) * (r + 1)) (hr : 2 ^ (p - 1) ≤ r) : IsRt false p X (Ce p ((2 * r + 1) * 2 ^ J)) := by
  have ep : 2 ^ (J + 1) = 2 * 2 ^ J := by rw [Nat.pow_succ, Nat.mul_comm]
  have hj := pp J
  refine ⟨Ce_pb hp, ?_, fun q hq h => ?_⟩
  · have h3 : r * 2 ^ (J + 1) < Ce p ((2 * r + 1) * 2 ^ J) := by
      refine Nat.lt_of_lt_of_le ?_ Ce_ge
      rw [ep, Nat.add_mul, ← Nat.mul_assoc, Nat.mul_comm r 2]
      omega
    have h4 := gap_up hp hr (Ce_pb hp) h3
    have h5 := Nat.mul_le_mul h4 h4
    have h6 := Nat.mul_le_mul_right (2 ^ (J + 1) * 2 ^ (J + 1)) (Nat.le_of_lt h2)
    rw [Nat.mul_mul_mul_comm (r + 1) (r + 1)] at h6
    omega
  · refine Ce_min hp hq ?_
    have h3 : r * 2 ^ (J + 1) < q := by
      refine sq_lt ?_
      have h6 := Nat.mul_lt_mul_of_pos_right h1 (Nat.mul_pos (pp (J + 1)) (pp (J + 1)))
      rw [Nat.mul_mul_mul_comm r r] at h6
      omega
    have h4 := gap_up hp hr hq h3
    refine Nat.le_trans ?_ h4
    rw [ep, Nat.add_mul, Nat.add_mul, ← Nat.mul_assoc, Nat.mul_comm r 2]
    omega

theorem in_f : (Builtin.Str.occurrences (Str.ofString "fd") (Str.ofString "f") 0 (Str.ofString "fd").length 1).isEmpty = false := by decide +kernel
theorem in_c : (Builtin.Str.occurrences (Str.ofString "fd") (Str.ofString "c") 0 (Str.ofString "fd").length 1).isEmpty = true := by decide +kernel
theorem sm1 : Sm 1 := Sm_of (n := 1) (by decide)
theorem sm2 : Sm 2 := Sm_of (n := 2) (by decide)
theorem band1 (x : Int) : Builtin.bitAnd x 1 = x % 2 := bitAnd_m1 x

theorem sqrt_tail (C : CallW) (hI : SpIsqrt C) (hR : SpRem C) (hF : SpFME C) (f : Bool) (A p m : Nat) (e : Int) (ρ : MEnv) (k : PyData → Prop) (hp : 1 ≤ p) (hp2 : p ≤ 100) (hm : m ≠ 0) (hb : bl m ≤ 5000) (he : 0 ≤ e + B + 1) (h2 : e % 2 = 0)
    (hX : ∀ j : Nat, (j : Int) = e + 2 * B → A * 2 ^ B = m * 2 ^ j)
    (h5 : lk ρ 5 = some (.int m)) (h6 : lk ρ 6 = some (.int e)) (h7 : lk ρ 7 = some (.int (bl m))) (h8 : lk ρ 8 = some (.int p)) (h9 : lk ρ 9 = some (rs f)) (hk : ∀ V, IsRt f p A V → k (enc 0 V)) :
    Xs C [.asg [38] (.bi .max [(.k (.int 4)), (.bin .add (.bin .sub (.bin .mul (.k (.int 2)) (.v 8)) (.v 7)) (.k (.int 4)))]),
  .aug 38 .add (.bin .band (.v 38) (.k (.int 1))),
  .ifs (.cmp .isin (.v 9) (.k (.str (Str.ofString "fd")))) [.asg [5] (.call 42 [(.bin .shl (.v 5) (.v 38))])] [.unp [5, 39] (.call 35 [(.bin .shl (.v 5) (.v 38))]),
    .ifs (.v 39) [.asg [5] (.bin .add (.bin .shl (.v 5) (.k (.int 1))) (.k (.int 1))),
    .aug 38 .add (.k (.int 2))] []],
  .ret (.call 87 [(.v 5), (.bin .fdiv (.bin .sub (.v 6) (.v 38)) (.k (.int 2))), (.v 8), (.v 9)])] ρ (fun _ => False) k := by
  have hB := B_ge
  have hsp : Sm (p : Int) := Sm_of (Nat.le_trans (bl_mono hp2) (by decide))
  have hs2 : Sm 2 := Sm_of (n := 2) (by decide)
  obtain ⟨t, ht, ht2, ht3, ht4⟩ : ∃ t : Nat, (if 2 * (p : Int) - (bl m : Int) + 4 > 4 then 2 * (p : Int) - (bl m : Int) + 4 else 4) + (if 2 * (p : Int) - (bl m : Int) + 4 > 4 then 2 * (p : Int) - (bl m : Int) + 4 else 4) % 2 = (t : Int) ∧ t % 2 = 0 ∧ 4 ≤ t ∧ (2 * p + 4 ≤ bl m + t ∧ t ≤ 2 * p + 8) := by
    refine ⟨((if 2 * (p : Int) - (bl m : Int) + 4 > 4 then 2 * (p : Int) - (bl m : Int) + 4 else 4) + (if 2 * (p : Int) - (bl m : Int) + 4 > 4 then 2 * (p : Int) - (bl m : Int) + 4 else 4) % 2).toNat, ?_⟩
    split <;> omega
  have hsm : Sm (m : Int) := Sm_of (by omega)
  have eN : (m : Int) * 2 ^ ((t : Nat) : Int).toNat = ((m * 2 ^ t : Nat) : Int) := by push_cast; congr 1
  have hbN : bl (m * 2 ^ t) ≤ 10000 := by rw [bl_mul hm]; omega
  obtain ⟨J, hJ⟩ : ∃ J : Nat, (J : Int) = (e - t) / 2 + B := ⟨((e - t) / 2 + B).toNat, by omega⟩
  have hJ1 : 1 ≤ J := by omega
  have hXN : A * 2 ^ B = m * 2 ^ t * (2 ^ J * 2 ^ J) := by
    rw [hX (t + J + J) (by omega), Nat.pow_add, Nat.pow_add]
    simp only [Nat.mul_assoc]
  have hbig : ∀ r : Nat, m * 2 ^ t < (r + 1) * (r + 1) → 2 ^ (p - 1) ≤ r := by
    intro r hr
    have h3 : 2 ^ (bl m - 1) * 2 ^ t ≤ m * 2 ^ t := Nat.mul_le_mul_right _ (bl_le hm)
    have hbp := bl_pos hm
    have h4 : 2 ^ p * 2 ^ p ≤ 2 ^ (bl m - 1) * 2 ^ t := by
      rw [← Nat.pow_add, ← Nat.pow_add]
      exact Nat.pow_le_pow_right (by decide) (by omega)
    have h5 : 2 ^ p < r + 1 := sq_lt (by omega)
    have h6 : 2 ^ (p - 1) ≤ 2 ^ p := Nat.pow_le_pow_right (by decide) (by omega)
    omega
  have hfin : ∀ (j : Nat) (E : Int), (j : Int) = E / 2 + B → E % 2 = 0 → sh (E.fdiv 2) = j ∧ 0 ≤ E.fdiv 2 + B := by
    intro j E h _
    rw [Int.fdiv_eq_ediv_of_nonneg _ (by decide)]
    unfold sh
    omega
  simp only [Xs, X, W, Ws, h5, h6, h7, h8, h9, sameAll, lk, Nat.beq, v_add, v_sub, v_mul, v_fdiv, v_shl, v_shr, v_band, v_aug, v_cc, v_gv, v_gc, v_tri, v_max]
  refine ⟨⟨hs2, hsp⟩, ?_⟩
  rw [band1, ht]
  have hE : (e - (t : Int)) % 2 = 0 := by omega
  have hF0 := hfin J (e - t) hJ hE
  have g2 : (2 : Int) ≠ 0 ∧ Builtin.Int.intBits 2 ≤ 8000 := by decide
  have gs : 0 ≤ (t : Int) ∧ (t : Int) ≤ 1000000 ∧ Sm (m : Int) := ⟨by omega, by omega, hsm⟩
  cases f
  · refine ⟨fun h => absurd (h.symm.trans in_c) (by decide), fun _ => ⟨gs, ?_⟩⟩
    rw [eN]
    refine hR _ _ hbN fun r h1 h2 => ?_
    simp only [unpW, setAll, lk, Nat.beq, v_tri, h5, h6, h7, h8, h9, v_add, v_sub, v_mul, v_fdiv, v_shl, v_aug]
    refine ⟨fun hne => ⟨⟨by decide, by decide, Sm_of ?_⟩, g2, ?_⟩, fun h0 => ⟨g2, ?_⟩⟩
    · exact Nat.le_trans (sq_bl h1 hbN) (by decide)
    · obtain ⟨J', rfl⟩ : ∃ J', J = J' + 1 := ⟨J - 1, by omega⟩
      have e7 : (r : Int) * 2 ^ (1 : Int).toNat + 1 = ((2 * r + 1 : Nat) : Int) := by
        have : (1 : Int).toNat = 1 := rfl
        rw [this]; omega
      rw [e7]
      have hF1 := hfin J' (e - (t + 2)) (by omega) (by omega)
      refine hF false _ p _ k hp hF1.2 ?_
      rw [hF1.1]
      refine hk _ (rt_c1 hp hXN ?_ h2 (hbig r h2))
      omega
    · refine hF false r p _ k hp hF0.2 ?_
      rw [hF0.1]
      refine hk _ (rt_c0 hp hXN ?_)
      omega
  · refine ⟨fun _ => ⟨gs, ?_⟩, fun h => absurd (h.symm.trans in_f) (by decide)⟩
    rw [eN]
    refine hI _ _ hbN fun r h1 h2 => ⟨g2, ?_⟩
    refine hF true r p _ k hp hF0.2 ?_
    rw [hF0.1]
    exact hk _ (rt_f hp hXN h1 h2 (hbig r h2))

noncomputable def SpSqrt (C : CallW) : Prop := ∀ (f : Bool) (A p : Nat) (k : PyData → Prop), 1 ≤ p → p ≤ 100 → bl A ≤ 4000 → (∀ V, IsRt f p A V → k (enc 0 V)) → C 201 [enc 0 A, .int p, rs f] k
theorem w_sqrt (C : CallW) (hI : SpIsqrt C) (hR : SpRem C) (hF : SpFME C) (hN : SpNorm C) : ∀ (f : Bool) (A p : Nat) (k : PyData → Prop), 1 ≤ p → p ≤ 100 → bl A ≤ 4000 → (∀ V, IsRt f p A V → k (enc 0 V)) → bodyW f_mpfqsqrt C [enc 0 A, .int p, rs f] k := by
  intro f A p k hp hp2 hb hk
  have hB := B_ge
  by_cases h0 : A = 0
  · subst h0
    rw [enc_zero]
    conv => whnf
    refine ⟨fun h => absurd rfl h, fun _ => ?_⟩
    conv => whnf
    refine ⟨fun h => absurd rfl h, fun _ => ?_⟩
    conv => whnf
    exact hk 0 (rt_exact (Pb_of_bl (by rw [bl_zero]; omega)) (by simp))
  · rw [enc_pos h0]
    have ho := od_ne h0
    have hbo := bl_od h0
    have hA := od_mul h0
    conv => whnf
    refine ⟨fun h => absurd rfl h, fun _ => ?_⟩
    conv => whnf
    refine ⟨fun _ => ?_, fun h => by omega⟩
    conv => whnf
    rw [band1]
    refine ⟨fun h => ?_, fun h => ?_⟩
    · conv => whnf
      refine ⟨⟨by decide, by decide, Sm_of (by omega)⟩, ?_⟩
      have e1 : (od A : Int) * 2 ^ (Int.toNat 1) = ((2 * od A : Nat) : Int) := by
        have : (1 : Int).toNat = 1 := rfl
        rw [this]; omega
      have e2 : bl (2 * od A) = bl (od A) + 1 := by
        have := bl_mul ho 1
        rw [Nat.mul_comm 2]; simpa using this
      have := sqrt_tail C hI hR hF f A p (2 * od A) ((tz A : Int) - B - 1) [(7, .int (bl (2 * od A))), (5, .int ((2 * od A : Nat) : Int)), (6, .int ((tz A : Int) - B - 1)), (7, .int (bl (od A))), (6, .int ((tz A : Int) - B)), (5, .int (od A)), (4, .int 0), (9, rs f), (8, .int p), (11, .tuple [.int 0, .int (od A), .int ((tz A : Int) - B), .int (bl (od A))])] k hp hp2 (by omega) (by omega) (by omega) (by omega) ?_ rfl rfl rfl rfl rfl hk
      · rw [e2, ← e1] at this
        exact this
      · intro j hj
        obtain rfl : j = tz A + B - 1 := by omega
        conv => lhs; rw [← hA]
        rw [Nat.mul_assoc, ← Nat.pow_add, Nat.mul_comm 2, Nat.mul_assoc, ← Nat.pow_succ']
        congr 2 <;> omega
    · conv => whnf
      refine ⟨fun h1 => ⟨by decide, ?_⟩, fun _ => ?_⟩
      · have ho1 : od A = 1 := by omega
        rw [ho1] at hA ⊢
        have hh : sh (((tz A : Int) - B).fdiv 2) + sh (((tz A : Int) - B).fdiv 2) = tz A + B := by
          rw [Int.fdiv_eq_ediv_of_nonneg _ (by decide)]
          unfold sh
          omega
        refine hN f false 1 p _ k hp ?_ ?_
        · rw [Int.fdiv_eq_ediv_of_nonneg _ (by decide)]; omega
        · rw [Bool.xor_false, Rd_exact hp (by rw [Nat.one_mul]; exact Pb_pow hp _), Nat.one_mul]
          refine hk _ (rt_exact (Pb_pow hp _) ?_)
          have e9 : 2 ^ tz A = A := by omega
          rw [← Nat.pow_add, hh, Nat.pow_add, e9]
      · have := sqrt_tail C hI hR hF f A p (od A) ((tz A : Int) - B) [(7, .int (bl (od A))), (6, .int ((tz A : Int) - B)), (5, .int (od A)), (4, .int 0), (9, rs f), (8, .int p), (11, .tuple [.int 0, .int (od A), .int ((tz A : Int) - B), .int (bl (od A))])] k hp hp2 ho (by omega) (by omega) (by omega) ?_ rfl rfl rfl rfl rfl hk
        · exact this
        · intro j hj
          obtain rfl : j = tz A + B := by omega
          conv => lhs; rw [← hA]
          rw [Nat.mul_assoc, ← Nat.pow_add]
end Mine

namespace Mine

theorem B_le : B ≤ 1000 := by unfold B; decide
theorem eqv4 (a b c d a' b' c' d' : Int) : PyData.eqv (.tuple [.int a, .int b, .int c, .int d]) (.tuple [.int a', .int b', .int c', .int d']) = (a == a' && (b == b' && (c == c' && d == d'))) := by
  simp [PyData.eqv, PyData.eqvAll]
theorem eqvB {a b c d a' b' c' d' : Int} (h : b ≠ b') : PyData.eqv (.tuple [.int a, .int b, .int c, .int d]) (.tuple [.int a', .int b', .int c', .int d']) = false := by
  rw [eqv4]
  have : (b == b') = false := by simpa using h
  rw [this]; simp
theorem ok4 (a b c d : Int) : okEq (.tuple [.int a, .int b, .int c, .int d]) = true := by
  simp [okEq, SeqAt.shaped, PyData.canLay0, PyData.depth, PyData.canLayAll0, PyData.depthAll]

/-- a signed number, normal, at a precision -/
theorem od_sh {A : Nat} (h : A ≠ 0) : od A * 2 ^ sh ((tz A : Int) - B) = A := by
  have : sh ((tz A : Int) - B) = tz A := by unfold sh; omega
  rw [this]; exact od_mul h
theorem enc_si (s : Int) : enc s 0 = Z := rfl

noncomputable def SpPos (C : CallW) : Prop := ∀ (f neg : Bool) (A p : Nat) (k : PyData → Prop), 1 ≤ p → k (enc (si neg) (Rd (f ^^ neg) p A)) → C 137 [enc (si neg) A, .int p, rs f] k
theorem w_pos (C : CallW) (hN : SpNorm C) : ∀ (f neg : Bool) (A p : Nat) (k : PyData → Prop), 1 ≤ p → k (enc (si neg) (Rd (f ^^ neg) p A)) → bodyW f_mpfqpos C [enc (si neg) A, .int p, rs f] k := by
  intro f neg A p k hp hk
  by_cases h0 : A = 0
  · subst h0
    rw [Rd_zero hp] at hk
    rw [enc_zero] at hk ⊢
    conv => whnf
    refine ⟨fun _ => ?_, fun h => by omega⟩
    conv => whnf
    refine ⟨fun h => absurd rfl h, fun _ => ?_⟩
    conv => whnf
    refine ⟨fun h => absurd rfl h, fun _ => ?_⟩
    have := hN f false 0 p 0 k hp (by omega) (by rw [Nat.zero_mul, Rd_zero hp]; exact hk)
    exact this
  · rw [enc_pos h0]
    have ho := od_ne h0
    conv => whnf
    refine ⟨fun _ => ?_, fun h => by omega⟩
    conv => whnf
    refine ⟨fun _ => ?_, fun h => by omega⟩
    conv => whnf
    refine hN f neg (od A) p _ k hp (by omega) ?_
    rw [od_sh h0]
    exact hk

noncomputable def SpNeg1 (C : CallW) : Prop := ∀ (neg : Bool) (A : Nat) (k : PyData → Prop), k (enc (si (!neg)) A) → C 145 [enc (si neg) A] k
theorem w_neg1 (C : CallW) : ∀ (neg : Bool) (A : Nat) (k : PyData → Prop), k (enc (si (!neg)) A) → bodyW f_mpfqneg C [enc (si neg) A] k := by
  intro neg A k hk
  by_cases h0 : A = 0
  · subst h0
    rw [enc_zero] at hk ⊢
    conv => whnf
    refine ⟨fun h => absurd rfl h, fun _ => ?_⟩
    conv => whnf
    refine ⟨fun h => absurd rfl h, fun _ => ?_⟩
    exact hk
  · rw [enc_pos h0] at hk ⊢
    have ho := od_ne h0
    conv => whnf
    refine ⟨fun _ => ?_, fun h => by omega⟩
    conv => whnf
    refine ⟨fun h => absurd rfl h, fun _ => ?_⟩
    conv => whnf
    refine ⟨by simp, ?_⟩
    cases neg <;> exact hk
noncomputable def SpNeg3 (C : CallW) : Prop := ∀ (f neg : Bool) (A p : Nat) (k : PyData → Prop), 1 ≤ p → k (enc (si (!neg)) (Rd (f ^^ !neg) p A)) → C 145 [enc (si neg) A, .int p, rs f] k
theorem w_neg3 (C : CallW) (hN : SpNorm C) : ∀ (f neg : Bool) (A p : Nat) (k : PyData → Prop), 1 ≤ p → k (enc (si (!neg)) (Rd (f ^^ !neg) p A)) → bodyW f_mpfqneg C [enc (si neg) A, .int p, rs f] k := by
  intro f neg A p k hp hk
  by_cases h0 : A = 0
  · subst h0
    rw [Rd_zero hp] at hk
    rw [enc_zero] at hk ⊢
    conv => whnf
    refine ⟨fun h => absurd rfl h, fun _ => ?_⟩
    conv => whnf
    refine ⟨fun h => absurd rfl h, fun _ => ?_⟩
    exact hk
  · rw [enc_pos h0]
    have ho := od_ne h0
    conv => whnf
    refine ⟨fun _ => ?_, fun h => by omega⟩
    conv => whnf
    refine ⟨fun _ => ?_, fun h => by omega⟩
    conv => whnf
    have := hN f (!neg) (od A) p ((tz A : Int) - B) k hp (by omega) (by rw [od_sh h0]; exact hk)
    cases neg <;> exact this

noncomputable def sgn (neg : Bool) (A : Nat) : Int := if A = 0 then 0 else if neg then -1 else 1
noncomputable def SpSign (C : CallW) : Prop := ∀ (neg : Bool) (A : Nat) (k : PyData → Prop), k (.int (sgn neg A)) → C 152 [enc (si neg) A] k
theorem w_sign (C : CallW) : ∀ (neg : Bool) (A : Nat) (k : PyData → Prop), k (.int (sgn neg A)) → bodyW f_mpfqsign C [enc (si neg) A] k := by
  intro neg A k hk
  by_cases h0 : A = 0
  · subst h0
    rw [enc_zero]
    conv => whnf
    refine ⟨fun h => absurd rfl h, fun _ => ?_⟩
    conv => whnf
    refine ⟨⟨by decide, by decide⟩, fun h => absurd h (by decide), fun _ => ?_⟩
    conv => whnf
    refine ⟨⟨by decide, by decide⟩, fun h => absurd h (by decide), fun _ => ?_⟩
    exact hk
  · rw [enc_pos h0]
    have ho := od_ne h0
    unfold sgn at hk
    rw [if_neg h0] at hk
    conv => whnf
    refine ⟨fun _ => ?_, fun h => by omega⟩
    conv => whnf
    cases neg
    · exact ⟨⟨by decide, by decide⟩, hk⟩
    · exact ⟨⟨by decide, by decide⟩, hk⟩
end Mine

namespace Mine

noncomputable def Rd0 (f : Bool) (p A : Nat) : Nat := if p = 0 then A else Rd f p A
theorem mul_odtz {A D : Nat} (hA : A ≠ 0) (hD : D ≠ 0) : A * D = od A * od D * 2 ^ (tz A + tz D) := by
  conv => lhs; rw [← od_mul hA, ← od_mul hD]
  rw [Nat.mul_mul_mul_comm, ← Nat.pow_add]
theorem odd_mul {a b : Nat} (ha : a % 2 = 1) (hb : b % 2 = 1) : (a * b) % 2 = 1 := by
  rw [Nat.mul_mod, ha, hb]
theorem dvd_tz {A c : Nat} (h : A ≠ 0) (hd : 2 ^ c ∣ A) : c ≤ tz A := by
  obtain ⟨q, rfl⟩ := hd
  have hq : q ≠ 0 := by rintro rfl; simp at h
  rw [Nat.mul_comm, (od_shift hq c).2]
  omega
theorem mul_scaled {A D : Nat} (hA : A ≠ 0) (hD : D ≠ 0) (hd : 2 ^ B ∣ A * D) : B ≤ tz A + tz D ∧ A * D / 2 ^ B = od A * od D * 2 ^ (tz A + tz D - B) ∧ od (A * D / 2 ^ B) = od A * od D ∧ tz (A * D / 2 ^ B) = tz A + tz D - B := by
  have hodd := odd_mul (od_odd hA) (od_odd hD)
  have e := mul_odtz hA hD
  have ht : tz (A * D) = tz A + tz D := by rw [e]; exact tz_mul hodd _
  have hle : B ≤ tz A + tz D := by
    rw [← ht]; exact dvd_tz (Nat.mul_ne_zero hA hD) hd
  have e2 : A * D / 2 ^ B = od A * od D * 2 ^ (tz A + tz D - B) := by
    rw [e]
    have : 2 ^ (tz A + tz D) = 2 ^ (tz A + tz D - B) * 2 ^ B := by rw [← Nat.pow_add]; congr 1; omega
    rw [this, ← Nat.mul_assoc]
    exact Nat.mul_div_cancel _ (pp B)
  refine ⟨hle, e2, ?_, ?_⟩
  · rw [e2]; exact od_of hodd _
  · rw [e2]; exact tz_mul hodd _

noncomputable def SpMul (C : CallW) : Prop := ∀ (f neg : Bool) (A D p : Nat) (k : PyData → Prop), bl A ≤ 10000 → bl D ≤ 10000 → 2 ^ B ∣ A * D → k (enc 0 (Rd0 f p (A * D / 2 ^ B))) → C 176 [enc (si neg) A, enc (si neg) D, .int p, rs f] k
theorem w_mul (C : CallW) (hN : SpNorm C) : ∀ (f neg : Bool) (A D p : Nat) (k : PyData → Prop), bl A ≤ 10000 → bl D ≤ 10000 → 2 ^ B ∣ A * D → k (enc 0 (Rd0 f p (A * D / 2 ^ B))) → bodyW f_mpfqmul C [enc (si neg) A, enc (si neg) D, .int p, rs f] k := by
  intro f neg A D p k hbA hbD hd hk
  have hx : Builtin.bitXor (si neg) (si neg) = 0 := by cases neg <;> decide
  have hz : A * D = 0 → k Z := by
    intro h
    have : Rd0 f p (A * D / 2 ^ B) = 0 := by
      rw [h, Nat.zero_div]
      unfold Rd0
      split
      · rfl
      · exact Rd_zero (by omega)
    rw [this] at hk
    exact hk
  have sm0 : Sm 0 := Sm_of (n := 0) (by decide)
  by_cases hA : A = 0
  · have hk' := hz (by rw [hA, Nat.zero_mul])
    subst hA
    by_cases hD : D = 0
    · subst hD
      rw [enc_zero]
      repeat (
        conv => whnf
        first
          | refine ⟨fun hs_ => ?_, fun hs_ => by first | (exfalso; omega) | exact absurd hs_ (by decide) | exact absurd rfl hs_ | exact absurd ((eqvB (by omega)).symm.trans hs_) (by decide)⟩
          | refine ⟨fun hs_ => by first | (exfalso; omega) | exact absurd hs_ (by decide) | exact absurd rfl hs_ | exact absurd ((eqvB (by omega)).symm.trans hs_) (by decide), fun hs_ => ?_⟩
          | refine ⟨by first | decide | omega | assumption | exact ⟨ok4 _ _ _ _, ok4 _ _ _ _⟩ | exact ⟨by assumption, by assumption⟩ | exact ⟨by omega, by omega, by assumption⟩ | exact ⟨sm0, by assumption⟩ | exact ⟨by assumption, sm0⟩ | simp, ?_⟩)
      exact hk'
    · rw [enc_zero, enc_pos hD]
      have hs := Sm_of (n := od D) (by have := bl_od hD; omega)
      have hn := od_ne hD
      repeat (
        conv => whnf
        first
          | refine ⟨fun hs_ => ?_, fun hs_ => by first | (exfalso; omega) | exact absurd hs_ (by decide) | exact absurd rfl hs_ | exact absurd ((eqvB (by omega)).symm.trans hs_) (by decide)⟩
          | refine ⟨fun hs_ => by first | (exfalso; omega) | exact absurd hs_ (by decide) | exact absurd rfl hs_ | exact absurd ((eqvB (by omega)).symm.trans hs_) (by decide), fun hs_ => ?_⟩
          | refine ⟨by first | decide | omega | assumption | exact ⟨ok4 _ _ _ _, ok4 _ _ _ _⟩ | exact ⟨by assumption, by assumption⟩ | exact ⟨by omega, by omega, by assumption⟩ | exact ⟨sm0, by assumption⟩ | exact ⟨by assumption, sm0⟩ | simp, ?_⟩)
      exact hk'
  · by_cases hD : D = 0
    · have hk' := hz (by rw [hD, Nat.mul_zero])
      subst hD
      rw [enc_zero, enc_pos hA]
      have hs := Sm_of (n := od A) (by have := bl_od hA; omega)
      have hn := od_ne hA
      repeat (
        conv => whnf
        first
          | refine ⟨fun hs_ => ?_, fun hs_ => by first | (exfalso; omega) | exact absurd hs_ (by decide) | exact absurd rfl hs_ | exact absurd ((eqvB (by omega)).symm.trans hs_) (by decide)⟩
          | refine ⟨fun hs_ => by first | (exfalso; omega) | exact absurd hs_ (by decide) | exact absurd rfl hs_ | exact absurd ((eqvB (by omega)).symm.trans hs_) (by decide), fun hs_ => ?_⟩
          | refine ⟨by first | decide | omega | assumption | exact ⟨ok4 _ _ _ _, ok4 _ _ _ _⟩ | exact ⟨by assumption, by assumption⟩ | exact ⟨by omega, by omega, by assumption⟩ | exact ⟨sm0, by assumption⟩ | exact ⟨by assumption, sm0⟩ | simp, ?_⟩)
      exact hk'
    · obtain ⟨hle, e2, e3, e4⟩ := mul_scaled hA hD hd
      have hs := Sm_of (n := od A) (by have := bl_od hA; omega)
      have hs2 := Sm_of (n := od D) (by have := bl_od hD; omega)
      have hm : od A * od D ≠ 0 := Nat.mul_ne_zero (od_ne hA) (od_ne hD)
      rw [enc_pos hA, enc_pos hD]
      conv => whnf
      refine ⟨⟨hs, hs2⟩, ?_⟩
      conv => whnf
      have ep : (od A : Int) * (od D : Int) = ((od A * od D : Nat) : Int) := by push_cast; rfl
      rw [ep, hx]
      refine ⟨fun _ => ?_, fun h => by omega⟩
      conv => whnf
      rw [bits_nat]
      have esh : sh ((tz A : Int) - B + ((tz D : Int) - B)) = tz A + tz D - B := by unfold sh; omega
      refine ⟨fun hp => ?_, fun hp => ?_⟩
      · have hp : p ≠ 0 := by omega
        unfold Rd0 at hk
        rw [if_neg hp, e2] at hk
        refine hN f false (od A * od D) p _ k (by omega) (by omega) ?_
        rw [esh, Bool.xor_false]
        exact hk
      · have hp : p = 0 := by omega
        unfold Rd0 at hk
        have hne : A * D / 2 ^ B ≠ 0 := by rw [e2]; exact Nat.mul_ne_zero hm (Nat.ne_of_gt (pp _))
        rw [if_pos hp, enc_pos hne, e3, e4] at hk
        conv => whnf
        refine ⟨by simp, ?_⟩
        have ee : (((tz A + tz D - B : Nat) : Int) - B) = (tz A : Int) - B + ((tz D : Int) - B) := by omega
        rw [ee] at hk
        exact hk
end Mine

namespace Mine

theorem shl_nat (m : Nat) (o : Int) (j : Nat) (h : o = j) : (m : Int) * 2 ^ o.toNat = ((m * 2 ^ j : Nat) : Int) := by
  subst h; push_cast; congr 1
theorem add_scaled {A D : Nat} (hA : A ≠ 0) (hD : D ≠ 0) (h : tz D ≤ tz A) : (od D + od A * 2 ^ (tz A - tz D)) * 2 ^ tz D = A + D := by
  rw [Nat.add_mul, od_mul hD, Nat.mul_assoc, ← Nat.pow_add]
  have : tz A - tz D + tz D = tz A := by omega
  rw [this, od_mul hA, Nat.add_comm]
theorem shtz (A : Nat) : sh ((tz A : Int) - B) = tz A := by unfold sh; omega

noncomputable def SpAdd (C : CallW) : Prop := ∀ (f : Bool) (A D p : Nat) (k : PyData → Prop), bl A ≤ 10000 → bl D ≤ 10000 → (p = 0 ∨ A = 0 ∨ D = 0 ∨ (tz A ≤ tz D + 100 ∧ tz D ≤ tz A + 100)) → k (enc 0 (Rd0 f p (A + D))) → C 160 [enc 0 A, enc 0 D, .int p, rs f] k
theorem w_add (C : CallW) (hN : SpNorm C) : ∀ (f : Bool) (A D p : Nat) (k : PyData → Prop), bl A ≤ 10000 → bl D ≤ 10000 → (p = 0 ∨ A = 0 ∨ D = 0 ∨ (tz A ≤ tz D + 100 ∧ tz D ≤ tz A + 100)) → k (enc 0 (Rd0 f p (A + D))) → bodyW f_mpfqadd C [enc 0 A, enc 0 D, .int p, rs f] k := by
  intro f A D p k hbA hbD hoff hk
  have sm0 : Sm 0 := Sm_of (n := 0) (by decide)
  have fin : ∀ (m : Nat) (E : Int), m * 2 ^ sh E = A + D → 0 ≤ E + B → m ≠ 0 →
      (p ≠ 0 → C 79 [.int 0, .int m, .int E, .int (Builtin.Int.intBits m), .int p, rs f] k) ∧ (p = 0 → C 79 [.int 0, .int m, .int E, .int (Builtin.Int.intBits m), .int (Builtin.Int.intBits m), rs f] k) := by
    intro m E hm hE h0
    refine ⟨fun hp => ?_, fun hp => ?_⟩
    · rw [bits_nat]
      refine hN f false m p E k (by omega) hE ?_
      rw [Bool.xor_false, hm]
      unfold Rd0 at hk
      rw [if_neg hp] at hk
      exact hk
    · rw [bits_nat]
      have hb := bl_pos h0
      refine hN f false m (bl m) E k hb hE ?_
      rw [Bool.xor_false, Rd_exact hb (Pb_shift (Pb_of_bl (Nat.le_refl _)) _), hm]
      unfold Rd0 at hk
      rw [if_pos hp] at hk
      exact hk
  by_cases hA : A = 0
  · subst hA
    by_cases hD : D = 0
    · subst hD
      have hk' : k Z := by
        have : Rd0 f p (0 + 0) = 0 := by
          unfold Rd0
          split
          · rfl
          · exact Rd_zero (by omega)
        rw [this] at hk
        exact hk
      rw [enc_zero]
      repeat (
        conv => whnf
        first
          | refine ⟨fun hs_ => ?_, fun hs_ => by first | (exfalso; omega) | exact absurd hs_ (by decide) | exact absurd rfl hs_ | exact absurd ((eqvB (by omega)).symm.trans hs_) (by decide)⟩
          | refine ⟨fun hs_ => by first | (exfalso; omega) | exact absurd hs_ (by decide) | exact absurd rfl hs_ | exact absurd ((eqvB (by omega)).symm.trans hs_) (by decide), fun hs_ => ?_⟩
          | refine ⟨by first | decide | omega | assumption | exact ⟨ok4 _ _ _ _, ok4 _ _ _ _⟩ | exact ⟨by assumption, by assumption⟩ | exact ⟨by omega, by omega, by assumption⟩ | exact ⟨sm0, by assumption⟩ | exact ⟨by assumption, sm0⟩ | simp, ?_⟩)
      exact hk'
    · have hn := od_ne hD
      have hF := fin (od D) ((tz D : Int) - B) (by rw [shtz, od_mul hD, Nat.zero_add]) (by omega) hn
      rw [enc_zero, enc_pos hD]
      by_cases hp : p = 0
      · have hF := hF.2 hp
        rw [bits_nat] at hF
        repeat (
          conv => whnf
          first
            | refine ⟨fun hs_ => ?_, fun hs_ => by first | (exfalso; omega) | exact absurd hs_ (by decide) | exact absurd rfl hs_ | exact absurd ((eqvB (by omega)).symm.trans hs_) (by decide)⟩
            | refine ⟨fun hs_ => by first | (exfalso; omega) | exact absurd hs_ (by decide) | exact absurd rfl hs_ | exact absurd ((eqvB (by omega)).symm.trans hs_) (by decide), fun hs_ => ?_⟩
            | refine ⟨by first | decide | omega | assumption | exact ⟨ok4 _ _ _ _, ok4 _ _ _ _⟩ | exact ⟨by assumption, by assumption⟩ | exact ⟨by omega, by omega, by assumption⟩ | exact ⟨sm0, by assumption⟩ | exact ⟨by assumption, sm0⟩ | simp, ?_⟩)
        exact hF
      · have hF := hF.1 hp
        rw [bits_nat] at hF
        repeat (
          conv => whnf
          first
            | refine ⟨fun hs_ => ?_, fun hs_ => by first | (exfalso; omega) | exact absurd hs_ (by decide) | exact absurd rfl hs_ | exact absurd ((eqvB (by omega)).symm.trans hs_) (by decide)⟩
            | refine ⟨fun hs_ => by first | (exfalso; omega) | exact absurd hs_ (by decide) | exact absurd rfl hs_ | exact absurd ((eqvB (by omega)).symm.trans hs_) (by decide), fun hs_ => ?_⟩
            | refine ⟨by first | decide | omega | assumption | exact ⟨ok4 _ _ _ _, ok4 _ _ _ _⟩ | exact ⟨by assumption, by assumption⟩ | exact ⟨by omega, by omega, by assumption⟩ | exact ⟨sm0, by assumption⟩ | exact ⟨by assumption, sm0⟩ | simp, ?_⟩)
        exact hF
  · by_cases hD : D = 0
    · subst hD
      have hn := od_ne hA
      have hF := fin (od A) ((tz A : Int) - B) (by rw [shtz, od_mul hA, Nat.add_zero]) (by omega) hn
      rw [enc_zero, enc_pos hA]
      by_cases hp : p = 0
      · have hF := hF.2 hp
        rw [bits_nat] at hF
        repeat (
          conv => whnf
          first
            | refine ⟨fun hs_ => ?_, fun hs_ => by first | (exfalso; omega) | exact absurd hs_ (by decide) | exact absurd rfl hs_ | exact absurd ((eqvB (by omega)).symm.trans hs_) (by decide)⟩
            | refine ⟨fun hs_ => by first | (exfalso; omega) | exact absurd hs_ (by decide) | exact absurd rfl hs_ | exact absurd ((eqvB (by omega)).symm.trans hs_) (by decide), fun hs_ => ?_⟩
            | refine ⟨by first | decide | omega | assumption | exact ⟨ok4 _ _ _ _, ok4 _ _ _ _⟩ | exact ⟨by assumption, by assumption⟩ | exact ⟨by omega, by omega, by assumption⟩ | exact ⟨sm0, by assumption⟩ | exact ⟨by assumption, sm0⟩ | simp, ?_⟩)
        exact hF
      · have hF := hF.1 hp
        rw [bits_nat] at hF
        repeat (
          conv => whnf
          first
            | refine ⟨fun hs_ => ?_, fun hs_ => by first | (exfalso; omega) | exact absurd hs_ (by decide) | exact absurd rfl hs_ | exact absurd ((eqvB (by omega)).symm.trans hs_) (by decide)⟩
            | refine ⟨fun hs_ => by first | (exfalso; omega) | exact absurd hs_ (by decide) | exact absurd rfl hs_ | exact absurd ((eqvB (by omega)).symm.trans hs_) (by decide), fun hs_ => ?_⟩
            | refine ⟨by first | decide | omega | assumption | exact ⟨ok4 _ _ _ _, ok4 _ _ _ _⟩ | exact ⟨by assumption, by assumption⟩ | exact ⟨by omega, by omega, by assumption⟩ | exact ⟨sm0, by assumption⟩ | exact ⟨by assumption, sm0⟩ | simp, ?_⟩)
        exact hF
    · have hn1 := od_ne hA
      have hn2 := od_ne hD
      have hs := Sm_of (n := od A) (by have := bl_od hA; omega)
      have hs2 := Sm_of (n := od D) (by have := bl_od hD; omega)
      have hbA2 := bl_od hA
      have hbD2 := bl_od hD
      have hoff : p = 0 ∨ (tz A ≤ tz D + 100 ∧ tz D ≤ tz A + 100) := by omega
      rw [enc_pos hA, enc_pos hD]
      rcases Nat.lt_trichotomy (tz A) (tz D) with h | h | h
      · have hF := fin _ ((tz A : Int) - B) (by rw [shtz]; rw [Nat.add_comm A D]; exact add_scaled hD hA (by omega)) (by omega) (by omega)
        rw [Int.natCast_add, ← shl_nat (od D) (-((tz A : Int) - B - ((tz D : Int) - B))) (tz D - tz A) (by omega)] at hF
        by_cases hp : p = 0
        · have hF := hF.2 hp
          by_cases h1 : (tz A : Int) - B - ((tz D : Int) - B) < -100
          · repeat (
              conv => whnf
              first
                | refine ⟨fun hs_ => ?_, fun hs_ => by first | (exfalso; omega) | exact absurd hs_ (by decide) | exact absurd rfl hs_ | exact absurd ((eqvB (by omega)).symm.trans hs_) (by decide)⟩
                | refine ⟨fun hs_ => by first | (exfalso; omega) | exact absurd hs_ (by decide) | exact absurd rfl hs_ | exact absurd ((eqvB (by omega)).symm.trans hs_) (by decide), fun hs_ => ?_⟩
                | refine ⟨by first | decide | omega | assumption | exact ⟨ok4 _ _ _ _, ok4 _ _ _ _⟩ | exact ⟨by assumption, by assumption⟩ | exact ⟨by omega, by omega, by assumption⟩ | exact ⟨sm0, by assumption⟩ | exact ⟨by assumption, sm0⟩ | simp, ?_⟩)
            exact hF
          · repeat (
              conv => whnf
              first
                | refine ⟨fun hs_ => ?_, fun hs_ => by first | (exfalso; omega) | exact absurd hs_ (by decide) | exact absurd rfl hs_ | exact absurd ((eqvB (by omega)).symm.trans hs_) (by decide)⟩
                | refine ⟨fun hs_ => by first | (exfalso; omega) | exact absurd hs_ (by decide) | exact absurd rfl hs_ | exact absurd ((eqvB (by omega)).symm.trans hs_) (by decide), fun hs_ => ?_⟩
                | refine ⟨by first | decide | omega | assumption | exact ⟨ok4 _ _ _ _, ok4 _ _ _ _⟩ | exact ⟨by assumption, by assumption⟩ | exact ⟨by omega, by omega, by assumption⟩ | exact ⟨sm0, by assumption⟩ | exact ⟨by assumption, sm0⟩ | simp, ?_⟩)
            exact hF
        · have hF := hF.1 hp
          repeat (
            conv => whnf
            first
              | refine ⟨fun hs_ => ?_, fun hs_ => by first | (exfalso; omega) | exact absurd hs_ (by decide) | exact absurd rfl hs_ | exact absurd ((eqvB (by omega)).symm.trans hs_) (by decide)⟩
              | refine ⟨fun hs_ => by first | (exfalso; omega) | exact absurd hs_ (by decide) | exact absurd rfl hs_ | exact absurd ((eqvB (by omega)).symm.trans hs_) (by decide), fun hs_ => ?_⟩
              | refine ⟨by first | decide | omega | assumption | exact ⟨ok4 _ _ _ _, ok4 _ _ _ _⟩ | exact ⟨by assumption, by assumption⟩ | exact ⟨by omega, by omega, by assumption⟩ | exact ⟨sm0, by assumption⟩ | exact ⟨by assumption, sm0⟩ | simp, ?_⟩)
          exact hF
      · have hF := fin (od D + od A) ((tz D : Int) - B) (by have := add_scaled hA hD (by omega); rw [h] at this; rw [shtz]; simpa using this) (by omega) (by omega)
        by_cases hp : p = 0
        · have hF := hF.2 hp
          repeat (
            conv => whnf
            first
              | refine ⟨fun hs_ => ?_, fun hs_ => by first | (exfalso; omega) | exact absurd hs_ (by decide) | exact absurd rfl hs_ | exact absurd ((eqvB (by omega)).symm.trans hs_) (by decide)⟩
              | refine ⟨fun hs_ => by first | (exfalso; omega) | exact absurd hs_ (by decide) | exact absurd rfl hs_ | exact absurd ((eqvB (by omega)).symm.trans hs_) (by decide), fun hs_ => ?_⟩
              | refine ⟨by first | decide | omega | assumption | exact ⟨ok4 _ _ _ _, ok4 _ _ _ _⟩ | exact ⟨by assumption, by assumption⟩ | exact ⟨by omega, by omega, by assumption⟩ | exact ⟨sm0, by assumption⟩ | exact ⟨by assumption, sm0⟩ | simp, ?_⟩)
          exact hF
        · have hF := hF.1 hp
          repeat (
            conv => whnf
            first
              | refine ⟨fun hs_ => ?_, fun hs_ => by first | (exfalso; omega) | exact absurd hs_ (by decide) | exact absurd rfl hs_ | exact absurd ((eqvB (by omega)).symm.trans hs_) (by decide)⟩
              | refine ⟨fun hs_ => by first | (exfalso; omega) | exact absurd hs_ (by decide) | exact absurd rfl hs_ | exact absurd ((eqvB (by omega)).symm.trans hs_) (by decide), fun hs_ => ?_⟩
              | refine ⟨by first | decide | omega | assumption | exact ⟨ok4 _ _ _ _, ok4 _ _ _ _⟩ | exact ⟨by assumption, by assumption⟩ | exact ⟨by omega, by omega, by assumption⟩ | exact ⟨sm0, by assumption⟩ | exact ⟨by assumption, sm0⟩ | simp, ?_⟩)
          exact hF
      · have hF := fin _ ((tz D : Int) - B) (by rw [shtz]; exact add_scaled hA hD (by omega)) (by omega) (by omega)
        rw [Int.natCast_add, ← shl_nat (od A) ((tz A : Int) - B - ((tz D : Int) - B)) (tz A - tz D) (by omega)] at hF
        by_cases hp : p = 0
        · have hF := hF.2 hp
          by_cases h1 : (tz A : Int) - B - ((tz D : Int) - B) > 100
          · repeat (
              conv => whnf
              first
                | refine ⟨fun hs_ => ?_, fun hs_ => by first | (exfalso; omega) | exact absurd hs_ (by decide) | exact absurd rfl hs_ | exact absurd ((eqvB (by omega)).symm.trans hs_) (by decide)⟩
                | refine ⟨fun hs_ => by first | (exfalso; omega) | exact absurd hs_ (by decide) | exact absurd rfl hs_ | exact absurd ((eqvB (by omega)).symm.trans hs_) (by decide), fun hs_ => ?_⟩
                | refine ⟨by first | decide | omega | assumption | exact ⟨ok4 _ _ _ _, ok4 _ _ _ _⟩ | exact ⟨by assumption, by assumption⟩ | exact ⟨by omega, by omega, by assumption⟩ | exact ⟨sm0, by assumption⟩ | exact ⟨by assumption, sm0⟩ | simp, ?_⟩)
            exact hF
          · repeat (
              conv => whnf
              first
                | refine ⟨fun hs_ => ?_, fun hs_ => by first | (exfalso; omega) | exact absurd hs_ (by decide) | exact absurd rfl hs_ | exact absurd ((eqvB (by omega)).symm.trans hs_) (by decide)⟩
                | refine ⟨fun hs_ => by first | (exfalso; omega) | exact absurd hs_ (by decide) | exact absurd rfl hs_ | exact absurd ((eqvB (by omega)).symm.trans hs_) (by decide), fun hs_ => ?_⟩
                | refine ⟨by first | decide | omega | assumption | exact ⟨ok4 _ _ _ _, ok4 _ _ _ _⟩ | exact ⟨by assumption, by assumption⟩ | exact ⟨by omega, by omega, by assumption⟩ | exact ⟨sm0, by assumption⟩ | exact ⟨by assumption, sm0⟩ | simp, ?_⟩)
            exact hF
        · have hF := hF.1 hp
          repeat (
            conv => whnf
            first
              | refine ⟨fun hs_ => ?_, fun hs_ => by first | (exfalso; omega) | exact absurd hs_ (by decide) | exact absurd rfl hs_ | exact absurd ((eqvB (by omega)).symm.trans hs_) (by decide)⟩
              | refine ⟨fun hs_ => by first | (exfalso; omega) | exact absurd hs_ (by decide) | exact absurd rfl hs_ | exact absurd ((eqvB (by omega)).symm.trans hs_) (by decide), fun hs_ => ?_⟩
              | refine ⟨by first | decide | omega | assumption | exact ⟨ok4 _ _ _ _, ok4 _ _ _ _⟩ | exact ⟨by assumption, by assumption⟩ | exact ⟨by omega, by omega, by assumption⟩ | exact ⟨sm0, by assumption⟩ | exact ⟨by assumption, sm0⟩ | simp, ?_⟩)
          exact hF
end Mine

namespace Mine

theorem lt_scaled {A D : Nat} (hA : A ≠ 0) (hD : D ≠ 0) (h : tz D ≤ tz A) : (A < D ↔ od A * 2 ^ (tz A - tz D) < od D) ∧ (D < A ↔ od D < od A * 2 ^ (tz A - tz D)) := by
  have e : A = od A * 2 ^ (tz A - tz D) * 2 ^ tz D := by
    rw [Nat.mul_assoc, ← Nat.pow_add]
    have : tz A - tz D + tz D = tz A := by omega
    rw [this, od_mul hA]
  have e2 := od_mul hD
  have hp := pp (tz D)
  generalize 2 ^ tz D = P at *
  generalize od A * 2 ^ (tz A - tz D) = a at *
  generalize od D = d at *
  constructor
  · rw [e, ← e2]
    exact Nat.mul_lt_mul_right hp
  · rw [e, ← e2]
    exact Nat.mul_lt_mul_right hp

noncomputable def SpAdd5 (C : CallW) : Prop := ∀ (A D : Nat) (k : PyData → Prop), A ≠ 0 → D ≠ 0 → bl A ≤ 10000 → bl A = bl D → (A < D → ∀ V, V ≠ 0 → k (enc 1 V)) → (D ≤ A → ∀ V, k (enc 0 V)) → C 160 [enc 0 A, enc 0 D, .int 5, rs true, .int 1] k
theorem w_add5 (C : CallW) (hN : SpNorm C) : ∀ (A D : Nat) (k : PyData → Prop), A ≠ 0 → D ≠ 0 → bl A ≤ 10000 → bl A = bl D → (A < D → ∀ V, V ≠ 0 → k (enc 1 V)) → (D ≤ A → ∀ V, k (enc 0 V)) → bodyW f_mpfqadd C [enc 0 A, enc 0 D, .int 5, rs true, .int 1] k := by
  intro A D k hA hD hbA hbD hk1 hk0
  have f1 : ∀ (M E : Int), A < D → 0 < M → 0 ≤ E + B → C 79 [.int 1, .int M, .int E, .int (Builtin.Int.intBits M), .int 5, rs true] k := by
    intro M E hlt hM hE
    obtain ⟨m, rfl⟩ : ∃ m : Nat, M = m := ⟨M.toNat, by omega⟩
    rw [bits_nat]
    refine hN true true m 5 E k (by decide) hE (hk1 hlt _ ?_)
    have h1 := @Ce_ge 5 (m * 2 ^ sh E)
    have h2 := Nat.mul_pos (by omega : 0 < m) (pp (sh E))
    show Ce 5 _ ≠ 0
    omega
  have f0 : ∀ (M E : Int), D ≤ A → 0 ≤ M → 0 ≤ E + B → C 79 [.int 0, .int M, .int E, .int (Builtin.Int.intBits M), .int 5, rs true] k := by
    intro M E hlt hM hE
    obtain ⟨m, rfl⟩ : ∃ m : Nat, M = m := ⟨M.toNat, by omega⟩
    rw [bits_nat]
    exact hN true false m 5 E k (by decide) hE (hk0 hlt _)
  have hn1 := od_ne hA
  have hn2 := od_ne hD
  have hbA2 := bl_od hA
  have hbD2 := bl_od hD
  have hs := Sm_of (n := od A) (by omega)
  have hs2 := Sm_of (n := od D) (by omega)
  rw [enc_pos hA, enc_pos hD]
  rcases Nat.lt_trichotomy (tz A) (tz D) with h | h | h
  · have hl := lt_scaled hD hA (by omega)
    have hsh := shl_nat (od D) (-((tz A : Int) - B - ((tz D : Int) - B))) (tz D - tz A) (by omega)
    by_cases hlt : A < D
    · have hl2 := hl.2.mp hlt
      by_cases h1 : (tz A : Int) - B - ((tz D : Int) - B) < -100
      · repeat (
          conv => whnf
          first
            | refine ⟨fun hs_ => ?_, fun hs_ => by first | (exfalso; omega) | exact absurd hs_ (by decide) | exact absurd rfl hs_ | exact absurd ((eqvB (by omega)).symm.trans hs_) (by decide)⟩
            | refine ⟨fun hs_ => by first | (exfalso; omega) | exact absurd hs_ (by decide) | exact absurd rfl hs_ | exact absurd ((eqvB (by omega)).symm.trans hs_) (by decide), fun hs_ => ?_⟩
            | refine ⟨by first | decide | omega | assumption | exact ⟨ok4 _ _ _ _, ok4 _ _ _ _⟩ | exact ⟨by assumption, by assumption⟩ | exact ⟨by omega, by omega, by assumption⟩ | exact ⟨sm0, by assumption⟩ | exact ⟨by assumption, sm0⟩ | simp, ?_⟩)
        exact f1 _ _ hlt (by omega) (by omega)
      · repeat (
          conv => whnf
          first
            | refine ⟨fun hs_ => ?_, fun hs_ => by first | (exfalso; omega) | exact absurd hs_ (by decide) | exact absurd rfl hs_ | exact absurd ((eqvB (by omega)).symm.trans hs_) (by decide)⟩
            | refine ⟨fun hs_ => by first | (exfalso; omega) | exact absurd hs_ (by decide) | exact absurd rfl hs_ | exact absurd ((eqvB (by omega)).symm.trans hs_) (by decide), fun hs_ => ?_⟩
            | refine ⟨by first | decide | omega | assumption | exact ⟨ok4 _ _ _ _, ok4 _ _ _ _⟩ | exact ⟨by assumption, by assumption⟩ | exact ⟨by omega, by omega, by assumption⟩ | exact ⟨sm0, by assumption⟩ | exact ⟨by assumption, sm0⟩ | simp, ?_⟩)
        exact f1 _ _ hlt (by omega) (by omega)
    · have hl2 : ¬ (od A < od D * 2 ^ (tz D - tz A)) := fun hc => hlt (hl.2.mpr hc)
      by_cases h1 : (tz A : Int) - B - ((tz D : Int) - B) < -100
      · repeat (
          conv => whnf
          first
            | refine ⟨fun hs_ => ?_, fun hs_ => by first | (exfalso; omega) | exact absurd hs_ (by decide) | exact absurd rfl hs_ | exact absurd ((eqvB (by omega)).symm.trans hs_) (by decide)⟩
            | refine ⟨fun hs_ => by first | (exfalso; omega) | exact absurd hs_ (by decide) | exact absurd rfl hs_ | exact absurd ((eqvB (by omega)).symm.trans hs_) (by decide), fun hs_ => ?_⟩
            | refine ⟨by first | decide | omega | assumption | exact ⟨ok4 _ _ _ _, ok4 _ _ _ _⟩ | exact ⟨by assumption, by assumption⟩ | exact ⟨by omega, by omega, by assumption⟩ | exact ⟨sm0, by assumption⟩ | exact ⟨by assumption, sm0⟩ | simp, ?_⟩)
        exact f0 _ _ (by omega) (by omega) (by omega)
      · repeat (
          conv => whnf
          first
            | refine ⟨fun hs_ => ?_, fun hs_ => by first | (exfalso; omega) | exact absurd hs_ (by decide) | exact absurd rfl hs_ | exact absurd ((eqvB (by omega)).symm.trans hs_) (by decide)⟩
            | refine ⟨fun hs_ => by first | (exfalso; omega) | exact absurd hs_ (by decide) | exact absurd rfl hs_ | exact absurd ((eqvB (by omega)).symm.trans hs_) (by decide), fun hs_ => ?_⟩
            | refine ⟨by first | decide | omega | assumption | exact ⟨ok4 _ _ _ _, ok4 _ _ _ _⟩ | exact ⟨by assumption, by assumption⟩ | exact ⟨by omega, by omega, by assumption⟩ | exact ⟨sm0, by assumption⟩ | exact ⟨by assumption, sm0⟩ | simp, ?_⟩)
        exact f0 _ _ (by omega) (by omega) (by omega)
  · have hl := lt_scaled hA hD (by omega)
    rw [h, Nat.sub_self, Nat.pow_zero, Nat.mul_one] at hl
    by_cases hlt : A < D
    · have hl2 := hl.1.mp hlt
      repeat (
        conv => whnf
        first
          | refine ⟨fun hs_ => ?_, fun hs_ => by first | (exfalso; omega) | exact absurd hs_ (by decide) | exact absurd rfl hs_ | exact absurd ((eqvB (by omega)).symm.trans hs_) (by decide)⟩
          | refine ⟨fun hs_ => by first | (exfalso; omega) | exact absurd hs_ (by decide) | exact absurd rfl hs_ | exact absurd ((eqvB (by omega)).symm.trans hs_) (by decide), fun hs_ => ?_⟩
          | refine ⟨by first | decide | omega | assumption | exact ⟨ok4 _ _ _ _, ok4 _ _ _ _⟩ | exact ⟨by assumption, by assumption⟩ | exact ⟨by omega, by omega, by assumption⟩ | exact ⟨sm0, by assumption⟩ | exact ⟨by assumption, sm0⟩ | simp, ?_⟩)
      exact f1 _ _ hlt (by omega) (by omega)
    · have hl2 : ¬ (od A < od D) := fun hc => hlt (hl.1.mpr hc)
      repeat (
        conv => whnf
        first
          | refine ⟨fun hs_ => ?_, fun hs_ => by first | (exfalso; omega) | exact absurd hs_ (by decide) | exact absurd rfl hs_ | exact absurd ((eqvB (by omega)).symm.trans hs_) (by decide)⟩
          | refine ⟨fun hs_ => by first | (exfalso; omega) | exact absurd hs_ (by decide) | exact absurd rfl hs_ | exact absurd ((eqvB (by omega)).symm.trans hs_) (by decide), fun hs_ => ?_⟩
          | refine ⟨by first | decide | omega | assumption | exact ⟨ok4 _ _ _ _, ok4 _ _ _ _⟩ | exact ⟨by assumption, by assumption⟩ | exact ⟨by omega, by omega, by assumption⟩ | exact ⟨sm0, by assumption⟩ | exact ⟨by assumption, sm0⟩ | simp, ?_⟩)
      exact f0 _ _ (by omega) (by omega) (by omega)
  · have hl := lt_scaled hA hD (by omega)
    have hsh := shl_nat (od A) ((tz A : Int) - B - ((tz D : Int) - B)) (tz A - tz D) (by omega)
    by_cases hlt : A < D
    · have hl2 := hl.1.mp hlt
      by_cases h1 : (tz A : Int) - B - ((tz D : Int) - B) > 100
      · repeat (
          conv => whnf
          first
            | refine ⟨fun hs_ => ?_, fun hs_ => by first | (exfalso; omega) | exact absurd hs_ (by decide) | exact absurd rfl hs_ | exact absurd ((eqvB (by omega)).symm.trans hs_) (by decide)⟩
            | refine ⟨fun hs_ => by first | (exfalso; omega) | exact absurd hs_ (by decide) | exact absurd rfl hs_ | exact absurd ((eqvB (by omega)).symm.trans hs_) (by decide), fun hs_ => ?_⟩
            | refine ⟨by first | decide | omega | assumption | exact ⟨ok4 _ _ _ _, ok4 _ _ _ _⟩ | exact ⟨by assumption, by assumption⟩ | exact ⟨by omega, by omega, by assumption⟩ | exact ⟨sm0, by assumption⟩ | exact ⟨by assumption, sm0⟩ | simp, ?_⟩)
        exact f1 _ _ hlt (by omega) (by omega)
      · repeat (
          conv => whnf
          first
            | refine ⟨fun hs_ => ?_, fun hs_ => by first | (exfalso; omega) | exact absurd hs_ (by decide) | exact absurd rfl hs_ | exact absurd ((eqvB (by omega)).symm.trans hs_) (by decide)⟩
            | refine ⟨fun hs_ => by first | (exfalso; omega) | exact absurd hs_ (by decide) | exact absurd rfl hs_ | exact absurd ((eqvB (by omega)).symm.trans hs_) (by decide), fun hs_ => ?_⟩
            | refine ⟨by first | decide | omega | assumption | exact ⟨ok4 _ _ _ _, ok4 _ _ _ _⟩ | exact ⟨by assumption, by assumption⟩ | exact ⟨by omega, by omega, by assumption⟩ | exact ⟨sm0, by assumption⟩ | exact ⟨by assumption, sm0⟩ | simp, ?_⟩)
        exact f1 _ _ hlt (by omega) (by omega)
    · have hl2 : ¬ (od A * 2 ^ (tz A - tz D) < od D) := fun hc => hlt (hl.1.mpr hc)
      by_cases h1 : (tz A : Int) - B - ((tz D : Int) - B) > 100
      · repeat (
          conv => whnf
          first
            | refine ⟨fun hs_ => ?_, fun hs_ => by first | (exfalso; omega) | exact absurd hs_ (by decide) | exact absurd rfl hs_ | exact absurd ((eqvB (by omega)).symm.trans hs_) (by decide)⟩
            | refine ⟨fun hs_ => by first | (exfalso; omega) | exact absurd hs_ (by decide) | exact absurd rfl hs_ | exact absurd ((eqvB (by omega)).symm.trans hs_) (by decide), fun hs_ => ?_⟩
            | refine ⟨by first | decide | omega | assumption | exact ⟨ok4 _ _ _ _, ok4 _ _ _ _⟩ | exact ⟨by assumption, by assumption⟩ | exact ⟨by omega, by omega, by assumption⟩ | exact ⟨sm0, by assumption⟩ | exact ⟨by assumption, sm0⟩ | simp, ?_⟩)
        exact f0 _ _ (by omega) (by omega) (by omega)
      · repeat (
          conv => whnf
          first
            | refine ⟨fun hs_ => ?_, fun hs_ => by first | (exfalso; omega) | exact absurd hs_ (by decide) | exact absurd rfl hs_ | exact absurd ((eqvB (by omega)).symm.trans hs_) (by decide)⟩
            | refine ⟨fun hs_ => by first | (exfalso; omega) | exact absurd hs_ (by decide) | exact absurd rfl hs_ | exact absurd ((eqvB (by omega)).symm.trans hs_) (by decide), fun hs_ => ?_⟩
            | refine ⟨by first | decide | omega | assumption | exact ⟨ok4 _ _ _ _, ok4 _ _ _ _⟩ | exact ⟨by assumption, by assumption⟩ | exact ⟨by omega, by omega, by assumption⟩ | exact ⟨sm0, by assumption⟩ | exact ⟨by assumption, sm0⟩ | simp, ?_⟩)
        exact f0 _ _ (by omega) (by omega) (by omega)

noncomputable def SpSub5 (C : CallW) : Prop := ∀ (A D : Nat) (k : PyData → Prop), A ≠ 0 → D ≠ 0 → bl A ≤ 10000 → bl A = bl D → (A < D → ∀ V, V ≠ 0 → k (enc 1 V)) → (D ≤ A → ∀ V, k (enc 0 V)) → C 168 [enc 0 A, enc 0 D, .int 5, rs true] k
theorem w_sub5 (C : CallW) (hS : SpAdd5 C) : ∀ (A D : Nat) (k : PyData → Prop), A ≠ 0 → D ≠ 0 → bl A ≤ 10000 → bl A = bl D → (A < D → ∀ V, V ≠ 0 → k (enc 1 V)) → (D ≤ A → ∀ V, k (enc 0 V)) → bodyW f_mpfqsub C [enc 0 A, enc 0 D, .int 5, rs true] k := by
  intro A D k hA hD hbA hbD hk1 hk0
  exact hS A D k hA hD hbA hbD hk1 hk0

/-- numbers above 0 compared -/
noncomputable def SpCmp (C : CallW) : Prop := ∀ (A D : Nat) (k : PyData → Prop), A ≠ 0 → D ≠ 0 → bl A ≤ 10000 → bl D ≤ 10000 → (A < D → k (.int (-1))) → (A = D → k (.int 0)) → (D < A → k (.int 1)) → C 94 [enc 0 A, enc 0 D] k
theorem w_cmp (C : CallW) (hS : SpSub5 C) : ∀ (A D : Nat) (k : PyData → Prop), A ≠ 0 → D ≠ 0 → bl A ≤ 10000 → bl D ≤ 10000 → (A < D → k (.int (-1))) → (A = D → k (.int 0)) → (D < A → k (.int 1)) → bodyW f_mpfqcmp C [enc 0 A, enc 0 D] k := by
  intro A D k hA hD hbA hbD hk1 hk0 hk2
  have hn1 := od_ne hA
  have hn2 := od_ne hD
  have hbA2 := bl_od hA
  have hbD2 := bl_od hD
  have hS2 := hS A D
  have hm1 := @bl_mono A D
  have hm2 := @bl_mono D A
  rw [enc_pos hA, enc_pos hD] at hS2 ⊢
  by_cases he : tz A = tz D
  · have hl := lt_scaled hA hD (by omega)
    rw [he, Nat.sub_self, Nat.pow_zero, Nat.mul_one] at hl
    rcases Nat.lt_trichotomy (od A) (od D) with h | h | h
    · have := hk1 (hl.1.mpr h)
      repeat (
        conv => whnf
        first
          | refine ⟨fun hs_ => ?_, fun hs_ => by first | (exfalso; omega) | exact absurd hs_ (by decide) | exact absurd rfl hs_ | exact absurd ((eqvB (by omega)).symm.trans hs_) (by decide)⟩
          | refine ⟨fun hs_ => by first | (exfalso; omega) | exact absurd hs_ (by decide) | exact absurd rfl hs_ | exact absurd ((eqvB (by omega)).symm.trans hs_) (by decide), fun hs_ => ?_⟩
          | refine ⟨by first | decide | omega | assumption | exact ⟨ok4 _ _ _ _, ok4 _ _ _ _⟩ | exact ⟨by assumption, by assumption⟩ | exact ⟨by omega, by omega, by assumption⟩ | exact ⟨sm0, by assumption⟩ | exact ⟨by assumption, sm0⟩ | simp, ?_⟩)
      exact this
    · have := hk0 (by rw [← od_mul hA, ← od_mul hD, h, he])
      repeat (
        conv => whnf
        first
          | refine ⟨fun hs_ => ?_, fun hs_ => by first | (exfalso; omega) | exact absurd hs_ (by decide) | exact absurd rfl hs_ | exact absurd ((eqvB (by omega)).symm.trans hs_) (by decide)⟩
          | refine ⟨fun hs_ => by first | (exfalso; omega) | exact absurd hs_ (by decide) | exact absurd rfl hs_ | exact absurd ((eqvB (by omega)).symm.trans hs_) (by decide), fun hs_ => ?_⟩
          | refine ⟨by first | decide | omega | assumption | exact ⟨ok4 _ _ _ _, ok4 _ _ _ _⟩ | exact ⟨by assumption, by assumption⟩ | exact ⟨by omega, by omega, by assumption⟩ | exact ⟨sm0, by assumption⟩ | exact ⟨by assumption, sm0⟩ | simp, ?_⟩)
      exact this
    · have := hk2 (hl.2.mpr h)
      repeat (
        conv => whnf
        first
          | refine ⟨fun hs_ => ?_, fun hs_ => by first | (exfalso; omega) | exact absurd hs_ (by decide) | exact absurd rfl hs_ | exact absurd ((eqvB (by omega)).symm.trans hs_) (by decide)⟩
          | refine ⟨fun hs_ => by first | (exfalso; omega) | exact absurd hs_ (by decide) | exact absurd rfl hs_ | exact absurd ((eqvB (by omega)).symm.trans hs_) (by decide), fun hs_ => ?_⟩
          | refine ⟨by first | decide | omega | assumption | exact ⟨ok4 _ _ _ _, ok4 _ _ _ _⟩ | exact ⟨by assumption, by assumption⟩ | exact ⟨by omega, by omega, by assumption⟩ | exact ⟨sm0, by assumption⟩ | exact ⟨by assumption, sm0⟩ | simp, ?_⟩)
      exact this
  · have hne : A ≠ D := fun h => he (by rw [h])
    rcases Nat.lt_trichotomy (bl A) (bl D) with h | h | h
    · have := hk1 (by omega)
      repeat (
        conv => whnf
        first
          | refine ⟨fun hs_ => ?_, fun hs_ => by first | (exfalso; omega) | exact absurd hs_ (by decide) | exact absurd rfl hs_ | exact absurd ((eqvB (by omega)).symm.trans hs_) (by decide)⟩
          | refine ⟨fun hs_ => by first | (exfalso; omega) | exact absurd hs_ (by decide) | exact absurd rfl hs_ | exact absurd ((eqvB (by omega)).symm.trans hs_) (by decide), fun hs_ => ?_⟩
          | refine ⟨by first | decide | omega | assumption | exact ⟨ok4 _ _ _ _, ok4 _ _ _ _⟩ | exact ⟨by assumption, by assumption⟩ | exact ⟨by omega, by omega, by assumption⟩ | exact ⟨sm0, by assumption⟩ | exact ⟨by assumption, sm0⟩ | simp, ?_⟩)
      exact this
    · repeat (
        conv => whnf
        first
          | refine ⟨fun hs_ => ?_, fun hs_ => by first | (exfalso; omega) | exact absurd hs_ (by decide) | exact absurd rfl hs_ | exact absurd ((eqvB (by omega)).symm.trans hs_) (by decide)⟩
          | refine ⟨fun hs_ => by first | (exfalso; omega) | exact absurd hs_ (by decide) | exact absurd rfl hs_ | exact absurd ((eqvB (by omega)).symm.trans hs_) (by decide), fun hs_ => ?_⟩
          | refine ⟨by first | decide | omega | assumption | exact ⟨ok4 _ _ _ _, ok4 _ _ _ _⟩ | exact ⟨by assumption, by assumption⟩ | exact ⟨by omega, by omega, by assumption⟩ | exact ⟨sm0, by assumption⟩ | exact ⟨by assumption, sm0⟩ | simp, ?_⟩)
      refine hS2 _ hA hD hbA h (fun hlt V hV => ?_) (fun hle V => ?_)
      · have := hk1 hlt
        rw [enc_pos hV]
        repeat (
          conv => whnf
          first
            | refine ⟨fun hs_ => ?_, fun hs_ => by first | (exfalso; omega) | exact absurd hs_ (by decide) | exact absurd rfl hs_ | exact absurd ((eqvB (by omega)).symm.trans hs_) (by decide)⟩
            | refine ⟨fun hs_ => by first | (exfalso; omega) | exact absurd hs_ (by decide) | exact absurd rfl hs_ | exact absurd ((eqvB (by omega)).symm.trans hs_) (by decide), fun hs_ => ?_⟩
            | refine ⟨by first | decide | omega | assumption | exact ⟨ok4 _ _ _ _, ok4 _ _ _ _⟩ | exact ⟨by assumption, by assumption⟩ | exact ⟨by omega, by omega, by assumption⟩ | exact ⟨sm0, by assumption⟩ | exact ⟨by assumption, sm0⟩ | simp, ?_⟩)
        exact this
      · have := hk2 (by omega)
        by_cases hV : V = 0
        · subst hV
          rw [enc_zero]
          repeat (
            conv => whnf
            first
              | refine ⟨fun hs_ => ?_, fun hs_ => by first | (exfalso; omega) | exact absurd hs_ (by decide) | exact absurd rfl hs_ | exact absurd ((eqvB (by omega)).symm.trans hs_) (by decide)⟩
              | refine ⟨fun hs_ => by first | (exfalso; omega) | exact absurd hs_ (by decide) | exact absurd rfl hs_ | exact absurd ((eqvB (by omega)).symm.trans hs_) (by decide), fun hs_ => ?_⟩
              | refine ⟨by first | decide | omega | assumption | exact ⟨ok4 _ _ _ _, ok4 _ _ _ _⟩ | exact ⟨by assumption, by assumption⟩ | exact ⟨by omega, by omega, by assumption⟩ | exact ⟨sm0, by assumption⟩ | exact ⟨by assumption, sm0⟩ | simp, ?_⟩)
          exact this
        · rw [enc_pos hV]
          repeat (
            conv => whnf
            first
              | refine ⟨fun hs_ => ?_, fun hs_ => by first | (exfalso; omega) | exact absurd hs_ (by decide) | exact absurd rfl hs_ | exact absurd ((eqvB (by omega)).symm.trans hs_) (by decide)⟩
              | refine ⟨fun hs_ => by first | (exfalso; omega) | exact absurd hs_ (by decide) | exact absurd rfl hs_ | exact absurd ((eqvB (by omega)).symm.trans hs_) (by decide), fun hs_ => ?_⟩
              | refine ⟨by first | decide | omega | assumption | exact ⟨ok4 _ _ _ _, ok4 _ _ _ _⟩ | exact ⟨by assumption, by assumption⟩ | exact ⟨by omega, by omega, by assumption⟩ | exact ⟨sm0, by assumption⟩ | exact ⟨by assumption, sm0⟩ | simp, ?_⟩)
          exact this
    · have := hk2 (by omega)
      repeat (
        conv => whnf
        first
          | refine ⟨fun hs_ => ?_, fun hs_ => by first | (exfalso; omega) | exact absurd hs_ (by decide) | exact absurd rfl hs_ | exact absurd ((eqvB (by omega)).symm.trans hs_) (by decide)⟩
          | refine ⟨fun hs_ => by first | (exfalso; omega) | exact absurd hs_ (by decide) | exact absurd rfl hs_ | exact absurd ((eqvB (by omega)).symm.trans hs_) (by decide), fun hs_ => ?_⟩
          | refine ⟨by first | decide | omega | assumption | exact ⟨ok4 _ _ _ _, ok4 _ _ _ _⟩ | exact ⟨by assumption, by assumption⟩ | exact ⟨by omega, by omega, by assumption⟩ | exact ⟨sm0, by assumption⟩ | exact ⟨by assumption, sm0⟩ | simp, ?_⟩)
      exact this
/-- a number against 0 -/
noncomputable def SpCmp0 (C : CallW) : Prop := ∀ (neg : Bool) (A : Nat) (k : PyData → Prop), k (.int (sgn neg A)) → C 94 [enc (si neg) A, Z] k
theorem ZZ : PyData.eqv (.tuple [.int 0, .int 0, .int 0, .int 0]) (.tuple [.int 0, .int 0, .int 0, .int 0]) = true := by decide
theorem w_cmp0 (C : CallW) (hS : SpSign C) : ∀ (neg : Bool) (A : Nat) (k : PyData → Prop), k (.int (sgn neg A)) → bodyW f_mpfqcmp C [enc (si neg) A, Z] k := by
  intro neg A k hk
  by_cases hA : A = 0
  · subst hA
    rw [enc_zero]
    repeat (
      conv => whnf
      first
        | refine ⟨fun hs_ => ?_, fun hs_ => by first | (exfalso; omega) | exact absurd hs_ (by decide) | exact absurd rfl hs_ | exact absurd ((eqvB (by omega)).symm.trans hs_) (by decide)⟩
        | refine ⟨fun hs_ => by first | (exfalso; omega) | exact absurd hs_ (by decide) | exact absurd rfl hs_ | exact absurd ((eqvB (by omega)).symm.trans hs_) (by decide), fun hs_ => ?_⟩
        | refine ⟨by first | decide | omega | assumption | exact ⟨ok4 _ _ _ _, ok4 _ _ _ _⟩ | exact ⟨by assumption, by assumption⟩ | exact ⟨by omega, by omega, by assumption⟩ | exact ⟨sm0, by assumption⟩ | exact ⟨by assumption, sm0⟩ | simp, ?_⟩)
    refine hS false 0 _ ?_
    exact hk
  · have hn1 := od_ne hA
    have hS2 := hS neg A
    rw [enc_pos hA] at hS2 ⊢
    repeat (
      conv => whnf
      first
        | refine ⟨fun hs_ => ?_, fun hs_ => by first | (exfalso; omega) | exact absurd hs_ (by decide) | exact absurd rfl hs_ | exact absurd ((eqvB (by omega)).symm.trans hs_) (by decide)⟩
        | refine ⟨fun hs_ => by first | (exfalso; omega) | exact absurd hs_ (by decide) | exact absurd rfl hs_ | exact absurd ((eqvB (by omega)).symm.trans hs_) (by decide), fun hs_ => ?_⟩
        | refine ⟨by first | decide | omega | assumption | exact ⟨ok4 _ _ _ _, ok4 _ _ _ _⟩ | exact ⟨by assumption, by assumption⟩ | exact ⟨by omega, by omega, by assumption⟩ | exact ⟨sm0, by assumption⟩ | exact ⟨by assumption, sm0⟩ | simp, ?_⟩)
    exact hS2 _ hk

theorem w_lt (C : CallW) (hC : SpCmp C) : ∀ (A D : Nat) (k : PyData → Prop), A ≠ 0 → D ≠ 0 → bl A ≤ 10000 → bl D ≤ 10000 → (A < D → k (.bool true)) → (D ≤ A → k (.bool false)) → bodyW f_mpfqlt C [enc 0 A, enc 0 D] k := by
  intro A D k hA hD hbA hbD h1 h2
  have hn1 := od_ne hA
  have hn2 := od_ne hD
  have hC2 := hC A D
  rw [enc_pos hA, enc_pos hD] at hC2 ⊢
  repeat (
    conv => whnf
    first
      | refine ⟨fun hs_ => ?_, fun hs_ => by first | (exfalso; omega) | exact absurd hs_ (by decide) | exact absurd rfl hs_ | exact absurd ((eqvB (by omega)).symm.trans hs_) (by decide)⟩
      | refine ⟨fun hs_ => by first | (exfalso; omega) | exact absurd hs_ (by decide) | exact absurd rfl hs_ | exact absurd ((eqvB (by omega)).symm.trans hs_) (by decide), fun hs_ => ?_⟩
      | refine ⟨by first | decide | omega | assumption | exact ⟨ok4 _ _ _ _, ok4 _ _ _ _⟩ | exact ⟨by assumption, by assumption⟩ | exact ⟨by omega, by omega, by assumption⟩ | exact ⟨sm0, by assumption⟩ | exact ⟨by assumption, sm0⟩ | simp, ?_⟩)
  refine hC2 _ hA hD hbA hbD (fun h => ?_) (fun h => ?_) (fun h => ?_)
  · have := h1 h
    repeat (
      conv => whnf
      first
        | refine ⟨fun hs_ => ?_, fun hs_ => by first | (exfalso; omega) | exact absurd hs_ (by decide) | exact absurd rfl hs_ | exact absurd ((eqvB (by omega)).symm.trans hs_) (by decide)⟩
        | refine ⟨fun hs_ => by first | (exfalso; omega) | exact absurd hs_ (by decide) | exact absurd rfl hs_ | exact absurd ((eqvB (by omega)).symm.trans hs_) (by decide), fun hs_ => ?_⟩
        | refine ⟨by first | decide | omega | assumption | exact ⟨ok4 _ _ _ _, ok4 _ _ _ _⟩ | exact ⟨by assumption, by assumption⟩ | exact ⟨by omega, by omega, by assumption⟩ | exact ⟨sm0, by assumption⟩ | exact ⟨by assumption, sm0⟩ | simp, ?_⟩)
    exact this
  · have := h2 (by omega)
    repeat (
      conv => whnf
      first
        | refine ⟨fun hs_ => ?_, fun hs_ => by first | (exfalso; omega) | exact absurd hs_ (by decide) | exact absurd rfl hs_ | exact absurd ((eqvB (by omega)).symm.trans hs_) (by decide)⟩
        | refine ⟨fun hs_ => by first | (exfalso; omega) | exact absurd hs_ (by decide) | exact absurd rfl hs_ | exact absurd ((eqvB (by omega)).symm.trans hs_) (by decide), fun hs_ => ?_⟩
        | refine ⟨by first | decide | omega | assumption | exact ⟨ok4 _ _ _ _, ok4 _ _ _ _⟩ | exact ⟨by assumption, by assumption⟩ | exact ⟨by omega, by omega, by assumption⟩ | exact ⟨sm0, by assumption⟩ | exact ⟨by assumption, sm0⟩ | simp, ?_⟩)
    exact this
  · have := h2 (by omega)
    repeat (
      conv => whnf
      first
        | refine ⟨fun hs_ => ?_, fun hs_ => by first | (exfalso; omega) | exact absurd hs_ (by decide) | exact absurd rfl hs_ | exact absurd ((eqvB (by omega)).symm.trans hs_) (by decide)⟩
        | refine ⟨fun hs_ => by first | (exfalso; omega) | exact absurd hs_ (by decide) | exact absurd rfl hs_ | exact absurd ((eqvB (by omega)).symm.trans hs_) (by decide), fun hs_ => ?_⟩
        | refine ⟨by first | decide | omega | assumption | exact ⟨ok4 _ _ _ _, ok4 _ _ _ _⟩ | exact ⟨by assumption, by assumption⟩ | exact ⟨by omega, by omega, by assumption⟩ | exact ⟨sm0, by assumption⟩ | exact ⟨by assumption, sm0⟩ | simp, ?_⟩)
    exact this
theorem w_gt (C : CallW) (hC : SpCmp C) : ∀ (A D : Nat) (k : PyData → Prop), A ≠ 0 → D ≠ 0 → bl A ≤ 10000 → bl D ≤ 10000 → (D < A → k (.bool true)) → (A ≤ D → k (.bool false)) → bodyW f_mpfqgt C [enc 0 A, enc 0 D] k := by
  intro A D k hA hD hbA hbD h1 h2
  have hn1 := od_ne hA
  have hn2 := od_ne hD
  have hC2 := hC A D
  rw [enc_pos hA, enc_pos hD] at hC2 ⊢
  repeat (
    conv => whnf
    first
      | refine ⟨fun hs_ => ?_, fun hs_ => by first | (exfalso; omega) | exact absurd hs_ (by decide) | exact absurd rfl hs_ | exact absurd ((eqvB (by omega)).symm.trans hs_) (by decide)⟩
      | refine ⟨fun hs_ => by first | (exfalso; omega) | exact absurd hs_ (by decide) | exact absurd rfl hs_ | exact absurd ((eqvB (by omega)).symm.trans hs_) (by decide), fun hs_ => ?_⟩
      | refine ⟨by first | decide | omega | assumption | exact ⟨ok4 _ _ _ _, ok4 _ _ _ _⟩ | exact ⟨by assumption, by assumption⟩ | exact ⟨by omega, by omega, by assumption⟩ | exact ⟨sm0, by assumption⟩ | exact ⟨by assumption, sm0⟩ | simp, ?_⟩)
  refine hC2 _ hA hD hbA hbD (fun h => ?_) (fun h => ?_) (fun h => ?_)
  · have := h2 (by omega)
    repeat (
      conv => whnf
      first
        | refine ⟨fun hs_ => ?_, fun hs_ => by first | (exfalso; omega) | exact absurd hs_ (by decide) | exact absurd rfl hs_ | exact absurd ((eqvB (by omega)).symm.trans hs_) (by decide)⟩
        | refine ⟨fun hs_ => by first | (exfalso; omega) | exact absurd hs_ (by decide) | exact absurd rfl hs_ | exact absurd ((eqvB (by omega)).symm.trans hs_) (by decide), fun hs_ => ?_⟩
        | refine ⟨by first | decide | omega | assumption | exact ⟨ok4 _ _ _ _, ok4 _ _ _ _⟩ | exact ⟨by assumption, by assumption⟩ | exact ⟨by omega, by omega, by assumption⟩ | exact ⟨sm0, by assumption⟩ | exact ⟨by assumption, sm0⟩ | simp, ?_⟩)
    exact this
  · have := h2 (by omega)
    repeat (
      conv => whnf
      first
        | refine ⟨fun hs_ => ?_, fun hs_ => by first | (exfalso; omega) | exact absurd hs_ (by decide) | exact absurd rfl hs_ | exact absurd ((eqvB (by omega)).symm.trans hs_) (by decide)⟩
        | refine ⟨fun hs_ => by first | (exfalso; omega) | exact absurd hs_ (by decide) | exact absurd rfl hs_ | exact absurd ((eqvB (by omega)).symm.trans hs_) (by decide), fun hs_ => ?_⟩
        | refine ⟨by first | decide | omega | assumption | exact ⟨ok4 _ _ _ _, ok4 _ _ _ _⟩ | exact ⟨by assumption, by assumption⟩ | exact ⟨by omega, by omega, by assumption⟩ | exact ⟨sm0, by assumption⟩ | exact ⟨by assumption, sm0⟩ | simp, ?_⟩)
    exact this
  · have := h1 h
    repeat (
      conv => whnf
      first
        | refine ⟨fun hs_ => ?_, fun hs_ => by first | (exfalso; omega) | exact absurd hs_ (by decide) | exact absurd rfl hs_ | exact absurd ((eqvB (by omega)).symm.trans hs_) (by decide)⟩
        | refine ⟨fun hs_ => by first | (exfalso; omega) | exact absurd hs_ (by decide) | exact absurd rfl hs_ | exact absurd ((eqvB (by omega)).symm.trans hs_) (by decide), fun hs_ => ?_⟩
        | refine ⟨by first | decide | omega | assumption | exact ⟨ok4 _ _ _ _, ok4 _ _ _ _⟩ | exact ⟨by assumption, by assumption⟩ | exact ⟨by omega, by omega, by assumption⟩ | exact ⟨sm0, by assumption⟩ | exact ⟨by assumption, sm0⟩ | simp, ?_⟩)
    exact this
noncomputable def SpLt (C : CallW) : Prop := ∀ (A D : Nat) (k : PyData → Prop), A ≠ 0 → D ≠ 0 → bl A ≤ 10000 → bl D ≤ 10000 → (A < D → k (.bool true)) → (D ≤ A → k (.bool false)) → C 101 [enc 0 A, enc 0 D] k
noncomputable def SpGt (C : CallW) : Prop := ∀ (A D : Nat) (k : PyData → Prop), A ≠ 0 → D ≠ 0 → bl A ≤ 10000 → bl D ≤ 10000 → (D < A → k (.bool true)) → (A ≤ D → k (.bool false)) → C 115 [enc 0 A, enc 0 D] k
noncomputable def SpGe0 (C : CallW) : Prop := ∀ (neg : Bool) (A : Nat) (k : PyData → Prop), k (.bool (decide (0 ≤ sgn neg A))) → C 122 [enc (si neg) A, Z] k
noncomputable def SpLe0 (C : CallW) : Prop := ∀ (neg : Bool) (A : Nat) (k : PyData → Prop), k (.bool (decide (sgn neg A ≤ 0))) → C 108 [enc (si neg) A, Z] k
theorem w_ge0 (C : CallW) (hC : SpCmp0 C) : ∀ (neg : Bool) (A : Nat) (k : PyData → Prop), k (.bool (decide (0 ≤ sgn neg A))) → bodyW f_mpfqge C [enc (si neg) A, Z] k := by
  intro neg A k hk
  have hC2 := hC neg A
  by_cases hA : A = 0
  · subst hA
    rw [enc_zero] at hC2 ⊢
    repeat (
      conv => whnf
      first
        | refine ⟨fun hs_ => ?_, fun hs_ => by first | (exfalso; omega) | exact absurd hs_ (by decide) | exact absurd rfl hs_ | exact absurd ((eqvB (by omega)).symm.trans hs_) (by decide)⟩
        | refine ⟨fun hs_ => by first | (exfalso; omega) | exact absurd hs_ (by decide) | exact absurd rfl hs_ | exact absurd ((eqvB (by omega)).symm.trans hs_) (by decide), fun hs_ => ?_⟩
        | refine ⟨by first | decide | omega | assumption | exact ⟨ok4 _ _ _ _, ok4 _ _ _ _⟩ | exact ⟨by assumption, by assumption⟩ | exact ⟨by omega, by omega, by assumption⟩ | exact ⟨sm0, by assumption⟩ | exact ⟨by assumption, sm0⟩ | simp, ?_⟩)
    refine hC2 _ ?_
    have hs : sgn neg 0 = 0 := rfl
    rw [hs] at hk ⊢
    repeat (
      conv => whnf
      first
        | refine ⟨fun hs_ => ?_, fun hs_ => by first | (exfalso; omega) | exact absurd hs_ (by decide) | exact absurd rfl hs_ | exact absurd ((eqvB (by omega)).symm.trans hs_) (by decide)⟩
        | refine ⟨fun hs_ => by first | (exfalso; omega) | exact absurd hs_ (by decide) | exact absurd rfl hs_ | exact absurd ((eqvB (by omega)).symm.trans hs_) (by decide), fun hs_ => ?_⟩
        | refine ⟨by first | decide | omega | assumption | exact ⟨ok4 _ _ _ _, ok4 _ _ _ _⟩ | exact ⟨by assumption, by assumption⟩ | exact ⟨by omega, by omega, by assumption⟩ | exact ⟨sm0, by assumption⟩ | exact ⟨by assumption, sm0⟩ | simp, ?_⟩)
    exact hk
  · have hn1 := od_ne hA
    rw [enc_pos hA] at hC2 ⊢
    repeat (
      conv => whnf
      first
        | refine ⟨fun hs_ => ?_, fun hs_ => by first | (exfalso; omega) | exact absurd hs_ (by decide) | exact absurd rfl hs_ | exact absurd ((eqvB (by omega)).symm.trans hs_) (by decide)⟩
        | refine ⟨fun hs_ => by first | (exfalso; omega) | exact absurd hs_ (by decide) | exact absurd rfl hs_ | exact absurd ((eqvB (by omega)).symm.trans hs_) (by decide), fun hs_ => ?_⟩
        | refine ⟨by first | decide | omega | assumption | exact ⟨ok4 _ _ _ _, ok4 _ _ _ _⟩ | exact ⟨by assumption, by assumption⟩ | exact ⟨by omega, by omega, by assumption⟩ | exact ⟨sm0, by assumption⟩ | exact ⟨by assumption, sm0⟩ | simp, ?_⟩)
    refine hC2 _ ?_
    by_cases hs : 0 ≤ sgn neg A
    · rw [decide_eq_true hs] at hk
      repeat (
        conv => whnf
        first
          | refine ⟨fun hs_ => ?_, fun hs_ => by first | (exfalso; omega) | exact absurd hs_ (by decide) | exact absurd rfl hs_ | exact absurd ((eqvB (by omega)).symm.trans hs_) (by decide)⟩
          | refine ⟨fun hs_ => by first | (exfalso; omega) | exact absurd hs_ (by decide) | exact absurd rfl hs_ | exact absurd ((eqvB (by omega)).symm.trans hs_) (by decide), fun hs_ => ?_⟩
          | refine ⟨by first | decide | omega | assumption | exact ⟨ok4 _ _ _ _, ok4 _ _ _ _⟩ | exact ⟨by assumption, by assumption⟩ | exact ⟨by omega, by omega, by assumption⟩ | exact ⟨sm0, by assumption⟩ | exact ⟨by assumption, sm0⟩ | simp, ?_⟩)
      exact hk
    · rw [decide_eq_false hs] at hk
      repeat (
        conv => whnf
        first
          | refine ⟨fun hs_ => ?_, fun hs_ => by first | (exfalso; omega) | exact absurd hs_ (by decide) | exact absurd rfl hs_ | exact absurd ((eqvB (by omega)).symm.trans hs_) (by decide)⟩
          | refine ⟨fun hs_ => by first | (exfalso; omega) | exact absurd hs_ (by decide) | exact absurd rfl hs_ | exact absurd ((eqvB (by omega)).symm.trans hs_) (by decide), fun hs_ => ?_⟩
          | refine ⟨by first | decide | omega | assumption | exact ⟨ok4 _ _ _ _, ok4 _ _ _ _⟩ | exact ⟨by assumption, by assumption⟩ | exact ⟨by omega, by omega, by assumption⟩ | exact ⟨sm0, by assumption⟩ | exact ⟨by assumption, sm0⟩ | simp, ?_⟩)
      exact hk
theorem w_le0 (C : CallW) (hC : SpCmp0 C) : ∀ (neg : Bool) (A : Nat) (k : PyData → Prop), k (.bool (decide (sgn neg A ≤ 0))) → bodyW f_mpfqle C [enc (si neg) A, Z] k := by
  intro neg A k hk
  have hC2 := hC neg A
  by_cases hA : A = 0
  · subst hA
    rw [enc_zero] at hC2 ⊢
    repeat (
      conv => whnf
      first
        | refine ⟨fun hs_ => ?_, fun hs_ => by first | (exfalso; omega) | exact absurd hs_ (by decide) | exact absurd rfl hs_ | exact absurd ((eqvB (by omega)).symm.trans hs_) (by decide)⟩
        | refine ⟨fun hs_ => by first | (exfalso; omega) | exact absurd hs_ (by decide) | exact absurd rfl hs_ | exact absurd ((eqvB (by omega)).symm.trans hs_) (by decide), fun hs_ => ?_⟩
        | refine ⟨by first | decide | omega | assumption | exact ⟨ok4 _ _ _ _, ok4 _ _ _ _⟩ | exact ⟨by assumption, by assumption⟩ | exact ⟨by omega, by omega, by assumption⟩ | exact ⟨sm0, by assumption⟩ | exact ⟨by assumption, sm0⟩ | simp, ?_⟩)
    refine hC2 _ ?_
    have hs : sgn neg 0 = 0 := rfl
    rw [hs] at hk ⊢
    repeat (
      conv => whnf
      first
        | refine ⟨fun hs_ => ?_, fun hs_ => by first | (exfalso; omega) | exact absurd hs_ (by decide) | exact absurd rfl hs_ | exact absurd ((eqvB (by omega)).symm.trans hs_) (by decide)⟩
        | refine ⟨fun hs_ => by first | (exfalso; omega) | exact absurd hs_ (by decide) | exact absurd rfl hs_ | exact absurd ((eqvB (by omega)).symm.trans hs_) (by decide), fun hs_ => ?_⟩
        | refine ⟨by first | decide | omega | assumption | exact ⟨ok4 _ _ _ _, ok4 _ _ _ _⟩ | exact ⟨by assumption, by assumption⟩ | exact ⟨by omega, by omega, by assumption⟩ | exact ⟨sm0, by assumption⟩ | exact ⟨by assumption, sm0⟩ | simp, ?_⟩)
    exact hk
  · have hn1 := od_ne hA
    rw [enc_pos hA] at hC2 ⊢
    repeat (
      conv => whnf
      first
        | refine ⟨fun hs_ => ?_, fun hs_ => by first | (exfalso; omega) | exact absurd hs_ (by decide) | exact absurd rfl hs_ | exact absurd ((eqvB (by omega)).symm.trans hs_) (by decide)⟩
        | refine ⟨fun hs_ => by first | (exfalso; omega) | exact absurd hs_ (by decide) | exact absurd rfl hs_ | exact absurd ((eqvB (by omega)).symm.trans hs_) (by decide), fun hs_ => ?_⟩
        | refine ⟨by first | decide | omega | assumption | exact ⟨ok4 _ _ _ _, ok4 _ _ _ _⟩ | exact ⟨by assumption, by assumption⟩ | exact ⟨by omega, by omega, by assumption⟩ | exact ⟨sm0, by assumption⟩ | exact ⟨by assumption, sm0⟩ | simp, ?_⟩)
    refine hC2 _ ?_
    by_cases hs : sgn neg A ≤ 0
    · rw [decide_eq_true hs] at hk
      repeat (
        conv => whnf
        first
          | refine ⟨fun hs_ => ?_, fun hs_ => by first | (exfalso; omega) | exact absurd hs_ (by decide) | exact absurd rfl hs_ | exact absurd ((eqvB (by omega)).symm.trans hs_) (by decide)⟩
          | refine ⟨fun hs_ => by first | (exfalso; omega) | exact absurd hs_ (by decide) | exact absurd rfl hs_ | exact absurd ((eqvB (by omega)).symm.trans hs_) (by decide), fun hs_ => ?_⟩
          | refine ⟨by first | decide | omega | assumption | exact ⟨ok4 _ _ _ _, ok4 _ _ _ _⟩ | exact ⟨by assumption, by assumption⟩ | exact ⟨by omega, by omega, by assumption⟩ | exact ⟨sm0, by assumption⟩ | exact ⟨by assumption, sm0⟩ | simp, ?_⟩)
      exact hk
    · rw [decide_eq_false hs] at hk
      repeat (
        conv => whnf
        first
          | refine ⟨fun hs_ => ?_, fun hs_ => by first | (exfalso; omega) | exact absurd hs_ (by decide) | exact absurd rfl hs_ | exact absurd ((eqvB (by omega)).symm.trans hs_) (by decide)⟩
          | refine ⟨fun hs_ => by first | (exfalso; omega) | exact absurd hs_ (by decide) | exact absurd rfl hs_ | exact absurd ((eqvB (by omega)).symm.trans hs_) (by decide), fun hs_ => ?_⟩
          | refine ⟨by first | decide | omega | assumption | exact ⟨ok4 _ _ _ _, ok4 _ _ _ _⟩ | exact ⟨by assumption, by assumption⟩ | exact ⟨by omega, by omega, by assumption⟩ | exact ⟨sm0, by assumption⟩ | exact ⟨by assumption, sm0⟩ | simp, ?_⟩)
      exact hk
noncomputable def SpMM (C : CallW) : Prop := ∀ (A D : Nat) (k : PyData → Prop), A ≠ 0 → D ≠ 0 → bl A ≤ 10000 → bl D ≤ 10000 → k (.tuple [enc 0 (Nat.min A D), enc 0 (Nat.max A D)]) → C 129 [.list [enc 0 A, enc 0 D]] k
theorem w_mm (C : CallW) (hL : SpLt C) (hG : SpGt C) : ∀ (A D : Nat) (k : PyData → Prop), A ≠ 0 → D ≠ 0 → bl A ≤ 10000 → bl D ≤ 10000 → k (.tuple [enc 0 (Nat.min A D), enc 0 (Nat.max A D)]) → bodyW f_mpfqminqmax C [.list [enc 0 A, enc 0 D]] k := by
  intro A D k hA hD hbA hbD hk
  repeat (
    conv => whnf
    first
      | refine ⟨fun hs_ => ?_, fun hs_ => by first | (exfalso; omega) | exact absurd hs_ (by decide) | exact absurd rfl hs_ | exact absurd ((eqvB (by omega)).symm.trans hs_) (by decide)⟩
      | refine ⟨fun hs_ => by first | (exfalso; omega) | exact absurd hs_ (by decide) | exact absurd rfl hs_ | exact absurd ((eqvB (by omega)).symm.trans hs_) (by decide), fun hs_ => ?_⟩
      | refine ⟨by first | decide | omega | assumption | exact ⟨ok4 _ _ _ _, ok4 _ _ _ _⟩ | exact ⟨by assumption, by assumption⟩ | exact ⟨by omega, by omega, by assumption⟩ | exact ⟨sm0, by assumption⟩ | exact ⟨by assumption, sm0⟩ | simp, ?_⟩)
  refine hL _ _ _ hD hA hbD hbA (fun h => ?_) (fun h => ?_)
  · repeat (
      conv => whnf
      first
        | refine ⟨fun hs_ => ?_, fun hs_ => by first | (exfalso; omega) | exact absurd hs_ (by decide) | exact absurd rfl hs_ | exact absurd ((eqvB (by omega)).symm.trans hs_) (by decide)⟩
        | refine ⟨fun hs_ => by first | (exfalso; omega) | exact absurd hs_ (by decide) | exact absurd rfl hs_ | exact absurd ((eqvB (by omega)).symm.trans hs_) (by decide), fun hs_ => ?_⟩
        | refine ⟨by first | decide | omega | assumption | exact ⟨ok4 _ _ _ _, ok4 _ _ _ _⟩ | exact ⟨by assumption, by assumption⟩ | exact ⟨by omega, by omega, by assumption⟩ | exact ⟨sm0, by assumption⟩ | exact ⟨by assumption, sm0⟩ | simp, ?_⟩)
    refine hG _ _ _ hD hA hbD hbA (fun h => by omega) (fun h2 => ?_)
    have e1 : Nat.min A D = D := Nat.min_eq_right (by omega)
    have e2 : Nat.max A D = A := Nat.max_eq_left (by omega)
    rw [e1, e2] at hk
    repeat (
      conv => whnf
      first
        | refine ⟨fun hs_ => ?_, fun hs_ => by first | (exfalso; omega) | exact absurd hs_ (by decide) | exact absurd rfl hs_ | exact absurd ((eqvB (by omega)).symm.trans hs_) (by decide)⟩
        | refine ⟨fun hs_ => by first | (exfalso; omega) | exact absurd hs_ (by decide) | exact absurd rfl hs_ | exact absurd ((eqvB (by omega)).symm.trans hs_) (by decide), fun hs_ => ?_⟩
        | refine ⟨by first | decide | omega | assumption | exact ⟨ok4 _ _ _ _, ok4 _ _ _ _⟩ | exact ⟨by assumption, by assumption⟩ | exact ⟨by omega, by omega, by assumption⟩ | exact ⟨sm0, by assumption⟩ | exact ⟨by assumption, sm0⟩ | simp, ?_⟩)
    exact hk
  · repeat (
      conv => whnf
      first
        | refine ⟨fun hs_ => ?_, fun hs_ => by first | (exfalso; omega) | exact absurd hs_ (by decide) | exact absurd rfl hs_ | exact absurd ((eqvB (by omega)).symm.trans hs_) (by decide)⟩
        | refine ⟨fun hs_ => by first | (exfalso; omega) | exact absurd hs_ (by decide) | exact absurd rfl hs_ | exact absurd ((eqvB (by omega)).symm.trans hs_) (by decide), fun hs_ => ?_⟩
        | refine ⟨by first | decide | omega | assumption | exact ⟨ok4 _ _ _ _, ok4 _ _ _ _⟩ | exact ⟨by assumption, by assumption⟩ | exact ⟨by omega, by omega, by assumption⟩ | exact ⟨sm0, by assumption⟩ | exact ⟨by assumption, sm0⟩ | simp, ?_⟩)
    have e1 : Nat.min A D = A := Nat.min_eq_left (by omega)
    have e2 : Nat.max A D = D := Nat.max_eq_right (by omega)
    rw [e1, e2] at hk
    refine hG _ _ _ hD hA hbD hbA (fun h => ?_) (fun h2 => ?_)
    · repeat (
        conv => whnf
        first
          | refine ⟨fun hs_ => ?_, fun hs_ => by first | (exfalso; omega) | exact absurd hs_ (by decide) | exact absurd rfl hs_ | exact absurd ((eqvB (by omega)).symm.trans hs_) (by decide)⟩
          | refine ⟨fun hs_ => by first | (exfalso; omega) | exact absurd hs_ (by decide) | exact absurd rfl hs_ | exact absurd ((eqvB (by omega)).symm.trans hs_) (by decide), fun hs_ => ?_⟩
          | refine ⟨by first | decide | omega | assumption | exact ⟨ok4 _ _ _ _, ok4 _ _ _ _⟩ | exact ⟨by assumption, by assumption⟩ | exact ⟨by omega, by omega, by assumption⟩ | exact ⟨sm0, by assumption⟩ | exact ⟨by assumption, sm0⟩ | simp, ?_⟩)
      exact hk
    · have : A = D := by omega
      subst this
      repeat (
        conv => whnf
        first
          | refine ⟨fun hs_ => ?_, fun hs_ => by first | (exfalso; omega) | exact absurd hs_ (by decide) | exact absurd rfl hs_ | exact absurd ((eqvB (by omega)).symm.trans hs_) (by decide)⟩
          | refine ⟨fun hs_ => by first | (exfalso; omega) | exact absurd hs_ (by decide) | exact absurd rfl hs_ | exact absurd ((eqvB (by omega)).symm.trans hs_) (by decide), fun hs_ => ?_⟩
          | refine ⟨by first | decide | omega | assumption | exact ⟨ok4 _ _ _ _, ok4 _ _ _ _⟩ | exact ⟨by assumption, by assumption⟩ | exact ⟨by omega, by omega, by assumption⟩ | exact ⟨sm0, by assumption⟩ | exact ⟨by assumption, sm0⟩ | simp, ?_⟩)
      exact hk
end Mine

namespace Mine

theorem Sm_abs {x : Int} {n : Nat} (h : x.natAbs ≤ n) (hn : bl n ≤ 100000) : Sm x := by
  rcases Int.natAbs_eq x with e | e
  · rw [e]; exact Sm_of (Nat.le_trans (bl_mono h) hn)
  · rw [e]
    unfold Sm
    rw [bits_neg]
    exact Sm_of (Nat.le_trans (bl_mono h) hn)
theorem bl_lin : ∀ n : Nat, bl n ≤ n := fun n => bl_le_of_lt Nat.lt_two_pow_self
theorem pow4_scaled {A : Nat} (hA : A ≠ 0) (hd : 2 ^ (3 * B) ∣ A ^ 4) : 3 * B ≤ 4 * tz A ∧ A ^ 4 / 2 ^ (3 * B) = od A ^ 4 * 2 ^ (4 * tz A - 3 * B) := by
  have e : A ^ 4 = od A ^ 4 * 2 ^ (4 * tz A) := by
    conv => lhs; rw [← od_mul hA]
    rw [Nat.mul_pow, ← Nat.pow_mul, Nat.mul_comm (tz A) 4]
  have hodd : (od A ^ 4) % 2 = 1 := by rw [Nat.pow_mod, od_odd hA]
  have ht : tz (A ^ 4) = 4 * tz A := by rw [e]; exact tz_mul hodd _
  have hle : 3 * B ≤ 4 * tz A := by
    rw [← ht]; exact dvd_tz (Nat.pos_iff_ne_zero.mp (Nat.pow_pos (Nat.pos_of_ne_zero hA))) hd
  refine ⟨hle, ?_⟩
  rw [e]
  have : 2 ^ (4 * tz A) = 2 ^ (4 * tz A - 3 * B) * 2 ^ (3 * B) := by rw [← Nat.pow_add]; congr 1; omega
  rw [this, ← Nat.mul_assoc]
  exact Nat.mul_div_cancel _ (pp _)

noncomputable def SpPow (C : CallW) : Prop := ∀ (f : Bool) (A p : Nat) (k : PyData → Prop), 1 ≤ p → bl A ≤ 10000 → bl (od A) ≤ 249 → 2 ^ (3 * B) ∣ A ^ 4 → k (enc 0 (Rd f p (A ^ 4 / 2 ^ (3 * B)))) → C 193 [enc 0 A, .int 4, .int p, rs f] k
theorem w_pow (C : CallW) (hN : SpNorm C) : ∀ (f : Bool) (A p : Nat) (k : PyData → Prop), 1 ≤ p → bl A ≤ 10000 → bl (od A) ≤ 249 → 2 ^ (3 * B) ∣ A ^ 4 → k (enc 0 (Rd f p (A ^ 4 / 2 ^ (3 * B)))) → bodyW f_mpfqpowqint C [enc 0 A, .int 4, .int p, rs f] k := by
  intro f A p k hp hbA hbo hd hk
  have sm0 : Sm 0 := Sm_of (n := 0) (by decide)
  have sm4 : Sm 4 := Sm_of (n := 4) (by decide)
  have hB := B_le
  by_cases hA : A = 0
  · subst hA
    have hk' : k Z := by
      have : (0 : Nat) ^ 4 / 2 ^ (3 * B) = 0 := by rw [Nat.zero_pow (by decide), Nat.zero_div]
      rw [this, Rd_zero hp] at hk
      exact hk
    have := hN f false 0 p 0 k hp (by omega) (by rw [Nat.zero_mul, Rd_zero hp]; exact hk')
    rw [enc_zero]
    repeat (
      conv => whnf
      first
        | refine ⟨fun hs_ => ?_, fun hs_ => by first | (exfalso; omega) | exact absurd hs_ (by decide) | exact absurd rfl hs_ | exact absurd ((eqvB (by omega)).symm.trans hs_) (by decide)⟩
        | refine ⟨fun hs_ => by first | (exfalso; omega) | exact absurd hs_ (by decide) | exact absurd rfl hs_ | exact absurd ((eqvB (by omega)).symm.trans hs_) (by decide), fun hs_ => ?_⟩
        | refine ⟨by first | decide | omega | assumption | exact ⟨ok4 _ _ _ _, ok4 _ _ _ _⟩ | exact ⟨by assumption, by assumption⟩ | exact ⟨by omega, by omega, by assumption⟩ | exact ⟨sm0, by assumption⟩ | exact ⟨by assumption, sm0⟩ | simp, ?_⟩)
    exact this
  · have hn := od_ne hA
    obtain ⟨hle, e2⟩ := pow4_scaled hA hd
    have hbo2 := bl_od hA
    have smE : Sm ((tz A : Int) - B) := Sm_abs (n := 20000) (by omega) (Nat.le_trans (bl_lin _) (by decide))
    have smb : Sm (bl (od A) : Int) := Sm_of (Nat.le_trans (bl_lin _) (by omega))
    rw [enc_pos hA]
    have gpow : 0 ≤ (4 : Int) ∧ (Builtin.Int.intBits (od A : Int) : Int) * 4 ≤ 2 ^ 27 := by rw [bits_nat]; omega
    have esh : sh (((tz A : Int) - B) * 4) = 4 * tz A - 3 * B := by unfold sh; omega
    by_cases h1 : od A = 1
    · have e3 : A ^ 4 / 2 ^ (3 * B) = 2 ^ (4 * tz A - 3 * B) := by rw [e2, h1]; simp
      rw [e3, Rd_exact hp (Pb_pow hp _), enc_pos (Nat.ne_of_gt (pp _))] at hk
      have h3 := od_of (o := 1) rfl (4 * tz A - 3 * B)
      have h4 := tz_mul (o := 1) rfl (4 * tz A - 3 * B)
      rw [Nat.one_mul] at h3 h4
      rw [h3, h4] at hk
      have e5 : ((4 * tz A - 3 * B : Nat) : Int) - B = ((tz A : Int) - B) * 4 := by omega
      rw [e5] at hk
      repeat (
        conv => whnf
        first
          | refine ⟨fun hs_ => ?_, fun hs_ => by first | (exfalso; omega) | exact absurd hs_ (by decide) | exact absurd rfl hs_ | exact absurd ((eqvB (by omega)).symm.trans hs_) (by decide)⟩
          | refine ⟨fun hs_ => by first | (exfalso; omega) | exact absurd hs_ (by decide) | exact absurd rfl hs_ | exact absurd ((eqvB (by omega)).symm.trans hs_) (by decide), fun hs_ => ?_⟩
          | refine ⟨by first | decide | omega | assumption | exact ⟨ok4 _ _ _ _, ok4 _ _ _ _⟩ | exact ⟨by assumption, by assumption⟩ | exact ⟨by omega, by omega, by assumption⟩ | exact ⟨sm0, by assumption⟩ | exact ⟨by assumption, sm0⟩ | simp, ?_⟩)
      exact hk
    · have e6 : (od A : Int) ^ (Int.toNat 4) = ((od A ^ 4 : Nat) : Int) := by push_cast; rfl
      have hF := hN f false (od A ^ 4) p (((tz A : Int) - B) * 4) k hp (by omega) (by rw [esh, Bool.xor_false, ← e2]; exact hk)
      rw [← bits_nat, ← e6] at hF
      repeat (
        conv => whnf
        first
          | refine ⟨fun hs_ => ?_, fun hs_ => by first | (exfalso; omega) | exact absurd hs_ (by decide) | exact absurd rfl hs_ | exact absurd ((eqvB (by omega)).symm.trans hs_) (by decide)⟩
          | refine ⟨fun hs_ => by first | (exfalso; omega) | exact absurd hs_ (by decide) | exact absurd rfl hs_ | exact absurd ((eqvB (by omega)).symm.trans hs_) (by decide), fun hs_ => ?_⟩
          | refine ⟨by first | decide | omega | assumption | exact ⟨ok4 _ _ _ _, ok4 _ _ _ _⟩ | exact ⟨by assumption, by assumption⟩ | exact ⟨by omega, by omega, by assumption⟩ | exact ⟨sm0, by assumption⟩ | exact ⟨by assumption, sm0⟩ | simp, ?_⟩)
      exact hF
end Mine

namespace Mine

theorem eqvS {a b c d a' c' d' : Int} (h : b ≠ 0 ∨ c = 0) (hc : c' ≠ 0) : PyData.eqv (.tuple [.int a, .int b, .int c, .int d]) (.tuple [.int a', .int 0, .int c', .int d']) = false := by
  rw [eqv4]
  rcases h with h | h
  · have : (b == 0) = false := by simpa using h
    rw [this]; simp
  · subst h
    have : ((0 : Int) == c') = false := by simpa using fun h => hc h.symm
    rw [this]; simp
theorem enc_shape (s : Int) (A : Nat) : ∃ a b c d : Int, enc s A = .tuple [.int a, .int b, .int c, .int d] ∧ (b ≠ 0 ∨ c = 0) := by
  by_cases h : A = 0
  · subst h
    exact ⟨0, 0, 0, 0, rfl, .inr rfl⟩
  · exact ⟨_, _, _, _, enc_pos h, .inl (by have := od_ne h; omega)⟩
noncomputable def pr (a b : Nat) : PyData := .tuple [enc 0 a, enc 0 b]

noncomputable def SpNeg30 (C : CallW) : Prop := ∀ (f neg : Bool) (A : Nat) (k : PyData → Prop), k (enc (si (!neg)) A) → C 145 [enc (si neg) A, .int 0, rs f] k
theorem w_neg30 (C : CallW) : ∀ (f neg : Bool) (A : Nat) (k : PyData → Prop), k (enc (si (!neg)) A) → bodyW f_mpfqneg C [enc (si neg) A, .int 0, rs f] k := by
  intro f neg A k hk
  by_cases h0 : A = 0
  · subst h0
    rw [enc_zero] at hk ⊢
    repeat (
      conv => whnf
      first
        | refine ⟨fun hs_ => ?_, fun hs_ => by first | (exfalso; omega) | exact absurd hs_ (by decide) | exact absurd rfl hs_ | exact absurd ((eqvB (by omega)).symm.trans hs_) (by decide) | exact absurd ((eqvS (by assumption) (by decide)).symm.trans hs_) (by decide)⟩
        | refine ⟨fun hs_ => by first | (exfalso; omega) | exact absurd hs_ (by decide) | exact absurd rfl hs_ | exact absurd ((eqvB (by omega)).symm.trans hs_) (by decide) | exact absurd ((eqvS (by assumption) (by decide)).symm.trans hs_) (by decide), fun hs_ => ?_⟩
        | refine ⟨by first | decide | omega | assumption | exact ⟨ok4 _ _ _ _, ok4 _ _ _ _⟩ | exact ⟨by assumption, by assumption⟩ | exact ⟨by omega, by omega, by assumption⟩ | exact ⟨sm0, by assumption⟩ | exact ⟨by assumption, sm0⟩ | simp, ?_⟩)
    exact hk
  · rw [enc_pos h0] at hk ⊢
    have ho := od_ne h0
    repeat (
      conv => whnf
      first
        | refine ⟨fun hs_ => ?_, fun hs_ => by first | (exfalso; omega) | exact absurd hs_ (by decide) | exact absurd rfl hs_ | exact absurd ((eqvB (by omega)).symm.trans hs_) (by decide) | exact absurd ((eqvS (by assumption) (by decide)).symm.trans hs_) (by decide)⟩
        | refine ⟨fun hs_ => by first | (exfalso; omega) | exact absurd hs_ (by decide) | exact absurd rfl hs_ | exact absurd ((eqvB (by omega)).symm.trans hs_) (by decide) | exact absurd ((eqvS (by assumption) (by decide)).symm.trans hs_) (by decide), fun hs_ => ?_⟩
        | refine ⟨by first | decide | omega | assumption | exact ⟨ok4 _ _ _ _, ok4 _ _ _ _⟩ | exact ⟨by assumption, by assumption⟩ | exact ⟨by omega, by omega, by assumption⟩ | exact ⟨sm0, by assumption⟩ | exact ⟨by assumption, sm0⟩ | simp, ?_⟩)
    cases neg <;> exact hk
noncomputable def SpLt0 (C : CallW) : Prop := ∀ (neg : Bool) (A : Nat) (k : PyData → Prop), k (.bool (decide (sgn neg A < 0))) → C 101 [enc (si neg) A, Z] k
theorem w_lt0 (C : CallW) (hC : SpCmp0 C) : ∀ (neg : Bool) (A : Nat) (k : PyData → Prop), k (.bool (decide (sgn neg A < 0))) → bodyW f_mpfqlt C [enc (si neg) A, Z] k := by
  intro neg A k hk
  have hC2 := hC neg A
  by_cases hA : A = 0
  · subst hA
    rw [enc_zero] at hC2 ⊢
    repeat (
      conv => whnf
      first
        | refine ⟨fun hs_ => ?_, fun hs_ => by first | (exfalso; omega) | exact absurd hs_ (by decide) | exact absurd rfl hs_ | exact absurd ((eqvB (by omega)).symm.trans hs_) (by decide) | exact absurd ((eqvS (by assumption) (by decide)).symm.trans hs_) (by decide)⟩
        | refine ⟨fun hs_ => by first | (exfalso; omega) | exact absurd hs_ (by decide) | exact absurd rfl hs_ | exact absurd ((eqvB (by omega)).symm.trans hs_) (by decide) | exact absurd ((eqvS (by assumption) (by decide)).symm.trans hs_) (by decide), fun hs_ => ?_⟩
        | refine ⟨by first | decide | omega | assumption | exact ⟨ok4 _ _ _ _, ok4 _ _ _ _⟩ | exact ⟨by assumption, by assumption⟩ | exact ⟨by omega, by omega, by assumption⟩ | exact ⟨sm0, by assumption⟩ | exact ⟨by assumption, sm0⟩ | simp, ?_⟩)
    refine hC2 _ ?_
    have hs : sgn neg 0 = 0 := rfl
    rw [hs] at hk ⊢
    repeat (
      conv => whnf
      first
        | refine ⟨fun hs_ => ?_, fun hs_ => by first | (exfalso; omega) | exact absurd hs_ (by decide) | exact absurd rfl hs_ | exact absurd ((eqvB (by omega)).symm.trans hs_) (by decide) | exact absurd ((eqvS (by assumption) (by decide)).symm.trans hs_) (by decide)⟩
        | refine ⟨fun hs_ => by first | (exfalso; omega) | exact absurd hs_ (by decide) | exact absurd rfl hs_ | exact absurd ((eqvB (by omega)).symm.trans hs_) (by decide) | exact absurd ((eqvS (by assumption) (by decide)).symm.trans hs_) (by decide), fun hs_ => ?_⟩
        | refine ⟨by first | decide | omega | assumption | exact ⟨ok4 _ _ _ _, ok4 _ _ _ _⟩ | exact ⟨by assumption, by assumption⟩ | exact ⟨by omega, by omega, by assumption⟩ | exact ⟨sm0, by assumption⟩ | exact ⟨by assumption, sm0⟩ | simp, ?_⟩)
    exact hk
  · have hn1 := od_ne hA
    rw [enc_pos hA] at hC2 ⊢
    repeat (
      conv => whnf
      first
        | refine ⟨fun hs_ => ?_, fun hs_ => by first | (exfalso; omega) | exact absurd hs_ (by decide) | exact absurd rfl hs_ | exact absurd ((eqvB (by omega)).symm.trans hs_) (by decide) | exact absurd ((eqvS (by assumption) (by decide)).symm.trans hs_) (by decide)⟩
        | refine ⟨fun hs_ => by first | (exfalso; omega) | exact absurd hs_ (by decide) | exact absurd rfl hs_ | exact absurd ((eqvB (by omega)).symm.trans hs_) (by decide) | exact absurd ((eqvS (by assumption) (by decide)).symm.trans hs_) (by decide), fun hs_ => ?_⟩
        | refine ⟨by first | decide | omega | assumption | exact ⟨ok4 _ _ _ _, ok4 _ _ _ _⟩ | exact ⟨by assumption, by assumption⟩ | exact ⟨by omega, by omega, by assumption⟩ | exact ⟨sm0, by assumption⟩ | exact ⟨by assumption, sm0⟩ | simp, ?_⟩)
    refine hC2 _ ?_
    by_cases hs : sgn neg A < 0
    · rw [decide_eq_true hs] at hk
      repeat (
        conv => whnf
        first
          | refine ⟨fun hs_ => ?_, fun hs_ => by first | (exfalso; omega) | exact absurd hs_ (by decide) | exact absurd rfl hs_ | exact absurd ((eqvB (by omega)).symm.trans hs_) (by decide) | exact absurd ((eqvS (by assumption) (by decide)).symm.trans hs_) (by decide)⟩
          | refine ⟨fun hs_ => by first | (exfalso; omega) | exact absurd hs_ (by decide) | exact absurd rfl hs_ | exact absurd ((eqvB (by omega)).symm.trans hs_) (by decide) | exact absurd ((eqvS (by assumption) (by decide)).symm.trans hs_) (by decide), fun hs_ => ?_⟩
          | refine ⟨by first | decide | omega | assumption | exact ⟨ok4 _ _ _ _, ok4 _ _ _ _⟩ | exact ⟨by assumption, by assumption⟩ | exact ⟨by omega, by omega, by assumption⟩ | exact ⟨sm0, by assumption⟩ | exact ⟨by assumption, sm0⟩ | simp, ?_⟩)
      exact hk
    · rw [decide_eq_false hs] at hk
      repeat (
        conv => whnf
        first
          | refine ⟨fun hs_ => ?_, fun hs_ => by first | (exfalso; omega) | exact absurd hs_ (by decide) | exact absurd rfl hs_ | exact absurd ((eqvB (by omega)).symm.trans hs_) (by decide) | exact absurd ((eqvS (by assumption) (by decide)).symm.trans hs_) (by decide)⟩
          | refine ⟨fun hs_ => by first | (exfalso; omega) | exact absurd hs_ (by decide) | exact absurd rfl hs_ | exact absurd ((eqvB (by omega)).symm.trans hs_) (by decide) | exact absurd ((eqvS (by assumption) (by decide)).symm.trans hs_) (by decide), fun hs_ => ?_⟩
          | refine ⟨by first | decide | omega | assumption | exact ⟨ok4 _ _ _ _, ok4 _ _ _ _⟩ | exact ⟨by assumption, by assumption⟩ | exact ⟨by omega, by omega, by assumption⟩ | exact ⟨sm0, by assumption⟩ | exact ⟨by assumption, sm0⟩ | simp, ?_⟩)
      exact hk

/-- intervals -/
noncomputable def OkOff (p a c : Nat) : Prop := p = 0 ∨ a = 0 ∨ c = 0 ∨ (tz a ≤ tz c + 100 ∧ tz c ≤ tz a + 100)
theorem iadd_tail (C : CallW) (V W : Nat) (x1 x2 x3 x4 x5 x6 x7 : PyData) (k : PyData → Prop) (hk : k (pr V W)) :
    Xs C [.ifs (.cmp .eq (.v 20) (.k (.tuple [(.int 0), (.int 0), (.int (-123)), (.int (-1))]))) [.asg [20] (.k (.tuple [(.int 1), (.int 0), (.int (-789)), (.int (-3))]))] [],
  .ifs (.cmp .eq (.v 21) (.k (.tuple [(.int 0), (.int 0), (.int (-123)), (.int (-1))]))) [.asg [21] (.k (.tuple [(.int 0), (.int 0), (.int (-456)), (.int (-2))]))] [],
  .ret (.tup [(.v 20), (.v 21)])] [(21, enc 0 W), (20, enc 0 V), (43, x1), (42, x2), (41, x3), (40, x4), (8, x5), (10, x6), (11, x7)] (fun _ => False) k := by
  unfold pr at hk
  obtain ⟨a, b, c, d, e, h⟩ := enc_shape 0 V
  obtain ⟨a', b', c', d', e', h'⟩ := enc_shape 0 W
  rw [e, e'] at hk ⊢
  repeat (
    conv => whnf
    first
      | refine ⟨fun hs_ => ?_, fun hs_ => by first | (exfalso; omega) | exact absurd hs_ (by decide) | exact absurd rfl hs_ | exact absurd ((eqvB (by omega)).symm.trans hs_) (by decide) | exact absurd ((eqvS (by assumption) (by decide)).symm.trans hs_) (by decide)⟩
      | refine ⟨fun hs_ => by first | (exfalso; omega) | exact absurd hs_ (by decide) | exact absurd rfl hs_ | exact absurd ((eqvB (by omega)).symm.trans hs_) (by decide) | exact absurd ((eqvS (by assumption) (by decide)).symm.trans hs_) (by decide), fun hs_ => ?_⟩
      | refine ⟨by first | decide | omega | assumption | exact ⟨ok4 _ _ _ _, ok4 _ _ _ _⟩ | exact ⟨by assumption, by assumption⟩ | exact ⟨by omega, by omega, by assumption⟩ | exact ⟨sm0, by assumption⟩ | exact ⟨by assumption, sm0⟩ | simp, ?_⟩)
  exact hk
noncomputable def SpIAdd (C : CallW) : Prop := ∀ (a b c d p : Nat) (k : PyData → Prop), bl a ≤ 10000 → bl b ≤ 10000 → bl c ≤ 10000 → bl d ≤ 10000 → OkOff p a c → OkOff p b d → k (pr (Rd0 true p (a + c)) (Rd0 false p (b + d))) → C 209 [pr a b, pr c d, .int p] k
theorem w_iadd (C : CallW) (hA : SpAdd C) : ∀ (a b c d p : Nat) (k : PyData → Prop), bl a ≤ 10000 → bl b ≤ 10000 → bl c ≤ 10000 → bl d ≤ 10000 → OkOff p a c → OkOff p b d → k (pr (Rd0 true p (a + c)) (Rd0 false p (b + d))) → bodyW f_mpiqadd C [pr a b, pr c d, .int p] k := by
  intro a b c d p k ha hb hc hd o1 o2 hk
  refine hA true a c p _ ha hc o1 ?_
  refine hA false b d p _ hb hd o2 ?_
  exact iadd_tail C _ _ _ _ _ _ _ _ _ k hk
noncomputable def SpIAdd2 (C : CallW) : Prop := ∀ (a b c d : Nat) (k : PyData → Prop), bl a ≤ 10000 → bl b ≤ 10000 → bl c ≤ 10000 → bl d ≤ 10000 → k (pr (a + c) (b + d)) → C 209 [pr a b, pr c d] k
theorem w_iadd2 (C : CallW) (hA : SpAdd C) : ∀ (a b c d : Nat) (k : PyData → Prop), bl a ≤ 10000 → bl b ≤ 10000 → bl c ≤ 10000 → bl d ≤ 10000 → k (pr (a + c) (b + d)) → bodyW f_mpiqadd C [pr a b, pr c d] k := by
  intro a b c d k ha hb hc hd hk
  refine hA true a c 0 _ ha hc (.inl rfl) ?_
  refine hA false b d 0 _ hb hd (.inl rfl) ?_
  exact iadd_tail C _ _ _ _ _ _ _ _ _ k hk
noncomputable def SpIPos (C : CallW) : Prop := ∀ (a b p : Nat) (k : PyData → Prop), 1 ≤ p → k (pr (Fl p a) (Ce p b)) → C 216 [pr a b, .int p] k
theorem w_ipos (C : CallW) (hP : SpPos C) : ∀ (a b p : Nat) (k : PyData → Prop), 1 ≤ p → k (pr (Fl p a) (Ce p b)) → bodyW f_mpiqpos C [pr a b, .int p] k := by
  intro a b p k hp hk
  refine hP true false a p _ hp ?_
  refine hP false false b p _ hp ?_
  repeat (
    conv => whnf
    first
      | refine ⟨fun hs_ => ?_, fun hs_ => by first | (exfalso; omega) | exact absurd hs_ (by decide) | exact absurd rfl hs_ | exact absurd ((eqvB (by omega)).symm.trans hs_) (by decide) | exact absurd ((eqvS (by assumption) (by decide)).symm.trans hs_) (by decide)⟩
      | refine ⟨fun hs_ => by first | (exfalso; omega) | exact absurd hs_ (by decide) | exact absurd rfl hs_ | exact absurd ((eqvB (by omega)).symm.trans hs_) (by decide) | exact absurd ((eqvS (by assumption) (by decide)).symm.trans hs_) (by decide), fun hs_ => ?_⟩
      | refine ⟨by first | decide | omega | assumption | exact ⟨ok4 _ _ _ _, ok4 _ _ _ _⟩ | exact ⟨by assumption, by assumption⟩ | exact ⟨by omega, by omega, by assumption⟩ | exact ⟨sm0, by assumption⟩ | exact ⟨by assumption, sm0⟩ | simp, ?_⟩)
  exact hk
noncomputable def SpISqrt (C : CallW) : Prop := ∀ (a b p : Nat) (k : PyData → Prop), 1 ≤ p → p ≤ 100 → bl a ≤ 4000 → bl b ≤ 4000 → (∀ u v, IsRt true p a u → IsRt false p b v → k (pr u v)) → C 262 [pr a b, .int p] k
theorem w_isqrt2 (C : CallW) (hS : SpSqrt C) : ∀ (a b p : Nat) (k : PyData → Prop), 1 ≤ p → p ≤ 100 → bl a ≤ 4000 → bl b ≤ 4000 → (∀ u v, IsRt true p a u → IsRt false p b v → k (pr u v)) → bodyW f_mpiqsqrt C [pr a b, .int p] k := by
  intro a b p k hp hp2 ha hb hk
  refine hS true a p _ hp hp2 ha fun u hu => ?_
  refine hS false b p _ hp hp2 hb fun v hv => ?_
  have := hk u v hu hv
  repeat (
    conv => whnf
    first
      | refine ⟨fun hs_ => ?_, fun hs_ => by first | (exfalso; omega) | exact absurd hs_ (by decide) | exact absurd rfl hs_ | exact absurd ((eqvB (by omega)).symm.trans hs_) (by decide) | exact absurd ((eqvS (by assumption) (by decide)).symm.trans hs_) (by decide)⟩
      | refine ⟨fun hs_ => by first | (exfalso; omega) | exact absurd hs_ (by decide) | exact absurd rfl hs_ | exact absurd ((eqvB (by omega)).symm.trans hs_) (by decide) | exact absurd ((eqvS (by assumption) (by decide)).symm.trans hs_) (by decide), fun hs_ => ?_⟩
      | refine ⟨by first | decide | omega | assumption | exact ⟨ok4 _ _ _ _, ok4 _ _ _ _⟩ | exact ⟨by assumption, by assumption⟩ | exact ⟨by omega, by omega, by assumption⟩ | exact ⟨sm0, by assumption⟩ | exact ⟨by assumption, sm0⟩ | simp, ?_⟩)
  exact this
noncomputable def SpINeg (C : CallW) : Prop := ∀ (na nb : Bool) (a b : Nat) (k : PyData → Prop), k (.tuple [enc (si (!nb)) b, enc (si (!na)) a]) → C 224 [.tuple [enc (si na) a, enc (si nb) b]] k
theorem w_ineg (C : CallW) (hN : SpNeg30 C) : ∀ (na nb : Bool) (a b : Nat) (k : PyData → Prop), k (.tuple [enc (si (!nb)) b, enc (si (!na)) a]) → bodyW f_mpiqneg C [.tuple [enc (si na) a, enc (si nb) b]] k := by
  intro na nb a b k hk
  refine hN true nb b _ ?_
  refine hN false na a _ ?_
  repeat (
    conv => whnf
    first
      | refine ⟨fun hs_ => ?_, fun hs_ => by first | (exfalso; omega) | exact absurd hs_ (by decide) | exact absurd rfl hs_ | exact absurd ((eqvB (by omega)).symm.trans hs_) (by decide) | exact absurd ((eqvS (by assumption) (by decide)).symm.trans hs_) (by decide)⟩
      | refine ⟨fun hs_ => by first | (exfalso; omega) | exact absurd hs_ (by decide) | exact absurd rfl hs_ | exact absurd ((eqvB (by omega)).symm.trans hs_) (by decide) | exact absurd ((eqvS (by assumption) (by decide)).symm.trans hs_) (by decide), fun hs_ => ?_⟩
      | refine ⟨by first | decide | omega | assumption | exact ⟨ok4 _ _ _ _, ok4 _ _ _ _⟩ | exact ⟨by assumption, by assumption⟩ | exact ⟨by omega, by omega, by assumption⟩ | exact ⟨sm0, by assumption⟩ | exact ⟨by assumption, sm0⟩ | simp, ?_⟩)
  exact hk
end Mine

namespace Mine

theorem sgn_f (A : Nat) : 0 ≤ sgn false A ∧ (A = 0 → sgn false A = 0) ∧ (A ≠ 0 → sgn false A = 1) := by
  unfold sgn
  by_cases h : A = 0 <;> simp [h]
theorem sgn_t (A : Nat) : sgn true A ≤ 0 ∧ (A = 0 → sgn true A = 0) ∧ (A ≠ 0 → sgn true A = -1) := by
  unfold sgn
  by_cases h : A = 0 <;> simp [h]
theorem Rd0_zero (f : Bool) (p : Nat) : Rd0 f p 0 = 0 := by
  unfold Rd0
  split
  · rfl
  · exact Rd_zero (by omega)

noncomputable def SpIMul (C : CallW) : Prop := ∀ (a b c d p : Nat) (k : PyData → Prop), bl a ≤ 10000 → bl b ≤ 10000 → bl c ≤ 10000 → bl d ≤ 10000 → 2 ^ B ∣ a * c → 2 ^ B ∣ b * d → k (pr (Rd0 true p (a * c / 2 ^ B)) (Rd0 false p (b * d / 2 ^ B))) → C 240 [pr a b, pr c d, .int p] k
noncomputable def SpIMul2 (C : CallW) : Prop := ∀ (a b c d : Nat) (k : PyData → Prop), bl a ≤ 10000 → bl b ≤ 10000 → bl c ≤ 10000 → bl d ≤ 10000 → 2 ^ B ∣ a * c → 2 ^ B ∣ b * d → k (pr (Rd0 true 0 (a * c / 2 ^ B)) (Rd0 false 0 (b * d / 2 ^ B))) → C 240 [pr a b, pr c d] k
theorem w_imul (C : CallW) (hS : SpSign C) (hM : SpMul C) : ∀ (a b c d p : Nat) (k : PyData → Prop), bl a ≤ 10000 → bl b ≤ 10000 → bl c ≤ 10000 → bl d ≤ 10000 → 2 ^ B ∣ a * c → 2 ^ B ∣ b * d → k (pr (Rd0 true p (a * c / 2 ^ B)) (Rd0 false p (b * d / 2 ^ B))) → bodyW f_mpiqmul C [pr a b, pr c d, .int p] k := by
  intro a b c d p k ha hb hc hd h1 h2 hk
  have ga := sgn_f a
  have gb := sgn_f b
  have gc := sgn_f c
  have gd := sgn_f d
  refine hS false a _ ?_
  refine hS false b _ ?_
  refine hS false c _ ?_
  refine hS false d _ ?_
  have fin : ∀ x1 x2 x3 x4 x5 x6 x7 x8 x9 x10 x11 : PyData, Xs C [.ifs (.cmp .eq (.v 20) (.k (.tuple [(.int 0), (.int 0), (.int (-123)), (.int (-1))]))) [.asg [20] (.k (.tuple [(.int 0), (.int 0), (.int 0), (.int 0)]))] [],
    .ifs (.cmp .eq (.v 21) (.k (.tuple [(.int 0), (.int 0), (.int (-123)), (.int (-1))]))) [.asg [21] (.k (.tuple [(.int 0), (.int 0), (.int (-456)), (.int (-2))]))] [],
    .ret (.tup [(.v 20), (.v 21)])] [(21, enc 0 (Rd0 false p (b * d / 2 ^ B))), (20, enc 0 (Rd0 true p (a * c / 2 ^ B))), (48, x1), (47, x2), (45, x3), (44, x4), (43, x5), (42, x6), (41, x7), (40, x8), (8, x9), (10, x10), (11, x11)] (fun _ => False) k := by
    intro x1 x2 x3 x4 x5 x6 x7 x8 x9 x10 x11
    unfold pr at hk
    obtain ⟨a1, b1, c1, d1, e, h⟩ := enc_shape 0 (Rd0 true p (a * c / 2 ^ B))
    obtain ⟨a1', b1', c1', d1', e', h'⟩ := enc_shape 0 (Rd0 false p (b * d / 2 ^ B))
    rw [e, e'] at hk ⊢
    repeat (
      conv => whnf
      first
        | refine ⟨fun hs_ => ?_, fun hs_ => by first | (exfalso; omega) | exact absurd hs_ (by decide) | exact absurd rfl hs_ | exact absurd ((eqvB (by omega)).symm.trans hs_) (by decide) | exact absurd ((eqvS (by assumption) (by decide)).symm.trans hs_) (by decide)⟩
        | refine ⟨fun hs_ => by first | (exfalso; omega) | exact absurd hs_ (by decide) | exact absurd rfl hs_ | exact absurd ((eqvB (by omega)).symm.trans hs_) (by decide) | exact absurd ((eqvS (by assumption) (by decide)).symm.trans hs_) (by decide), fun hs_ => ?_⟩
        | refine ⟨by first | decide | omega | assumption | exact ⟨ok4 _ _ _ _, ok4 _ _ _ _⟩ | exact ⟨by assumption, by assumption⟩ | exact ⟨by omega, by omega, by assumption⟩ | exact ⟨sm0, by assumption⟩ | exact ⟨by assumption, sm0⟩ | simp, ?_⟩)
    exact hk
  have z0 : a = 0 → b = 0 → k (.tuple [Z, Z]) := by
    intro e1 e2
    subst e1 e2
    rw [Nat.zero_mul, Nat.zero_mul, Nat.zero_div, Rd0_zero, Rd0_zero] at hk
    exact hk
  have z1 : c = 0 → d = 0 → k (.tuple [Z, Z]) := by
    intro e1 e2
    subst e1 e2
    rw [Nat.mul_zero, Nat.mul_zero, Nat.zero_div, Rd0_zero, Rd0_zero] at hk
    exact hk
  have main : ¬ (a = 0 ∧ b = 0) → ¬ (c = 0 ∧ d = 0) → Xs C (b_mpiqmul.drop 6) [(48, .int (sgn false d)), (47, .int (sgn false c)), (45, .int (sgn false b)), (44, .int (sgn false a)), (43, enc 0 d), (42, enc 0 c), (41, enc 0 b), (40, enc 0 a), (8, .int p), (10, pr c d), (11, pr a b)] (fun _ => False) k := by
    intro n1 n2
    by_cases hab : sgn false a = sgn false b
    · by_cases hcd : sgn false c = sgn false d
      · repeat (
          conv => whnf
          first
            | refine ⟨fun hs_ => ?_, fun hs_ => by first | (exfalso; omega) | exact absurd hs_ (by decide) | exact absurd rfl hs_ | exact absurd ((eqvB (by omega)).symm.trans hs_) (by decide) | exact absurd ((eqvS (by assumption) (by decide)).symm.trans hs_) (by decide)⟩
            | refine ⟨fun hs_ => by first | (exfalso; omega) | exact absurd hs_ (by decide) | exact absurd rfl hs_ | exact absurd ((eqvB (by omega)).symm.trans hs_) (by decide) | exact absurd ((eqvS (by assumption) (by decide)).symm.trans hs_) (by decide), fun hs_ => ?_⟩
            | refine ⟨by first | decide | omega | assumption | exact ⟨ok4 _ _ _ _, ok4 _ _ _ _⟩ | exact ⟨by assumption, by assumption⟩ | exact ⟨by omega, by omega, by assumption⟩ | exact ⟨sm0, by assumption⟩ | exact ⟨by assumption, sm0⟩ | simp, ?_⟩)
        refine hM true false a c p _ ha hc h1 ?_
        refine hM false false b d p _ hb hd h2 ?_
        exact fin _ _ _ _ _ _ _ _ _ _ _
      · repeat (
          conv => whnf
          first
            | refine ⟨fun hs_ => ?_, fun hs_ => by first | (exfalso; omega) | exact absurd hs_ (by decide) | exact absurd rfl hs_ | exact absurd ((eqvB (by omega)).symm.trans hs_) (by decide) | exact absurd ((eqvS (by assumption) (by decide)).symm.trans hs_) (by decide)⟩
            | refine ⟨fun hs_ => by first | (exfalso; omega) | exact absurd hs_ (by decide) | exact absurd rfl hs_ | exact absurd ((eqvB (by omega)).symm.trans hs_) (by decide) | exact absurd ((eqvS (by assumption) (by decide)).symm.trans hs_) (by decide), fun hs_ => ?_⟩
            | refine ⟨by first | decide | omega | assumption | exact ⟨ok4 _ _ _ _, ok4 _ _ _ _⟩ | exact ⟨by assumption, by assumption⟩ | exact ⟨by omega, by omega, by assumption⟩ | exact ⟨sm0, by assumption⟩ | exact ⟨by assumption, sm0⟩ | simp, ?_⟩)
        refine hM true false a c p _ ha hc h1 ?_
        refine hM false false b d p _ hb hd h2 ?_
        exact fin _ _ _ _ _ _ _ _ _ _ _
    · by_cases hcd : sgn false c = sgn false d
      · repeat (
          conv => whnf
          first
            | refine ⟨fun hs_ => ?_, fun hs_ => by first | (exfalso; omega) | exact absurd hs_ (by decide) | exact absurd rfl hs_ | exact absurd ((eqvB (by omega)).symm.trans hs_) (by decide) | exact absurd ((eqvS (by assumption) (by decide)).symm.trans hs_) (by decide)⟩
            | refine ⟨fun hs_ => by first | (exfalso; omega) | exact absurd hs_ (by decide) | exact absurd rfl hs_ | exact absurd ((eqvB (by omega)).symm.trans hs_) (by decide) | exact absurd ((eqvS (by assumption) (by decide)).symm.trans hs_) (by decide), fun hs_ => ?_⟩
            | refine ⟨by first | decide | omega | assumption | exact ⟨ok4 _ _ _ _, ok4 _ _ _ _⟩ | exact ⟨by assumption, by assumption⟩ | exact ⟨by omega, by omega, by assumption⟩ | exact ⟨sm0, by assumption⟩ | exact ⟨by assumption, sm0⟩ | simp, ?_⟩)
        refine hM true false a c p _ ha hc h1 ?_
        refine hM false false b d p _ hb hd h2 ?_
        exact fin _ _ _ _ _ _ _ _ _ _ _
      · repeat (
          conv => whnf
          first
            | refine ⟨fun hs_ => ?_, fun hs_ => by first | (exfalso; omega) | exact absurd hs_ (by decide) | exact absurd rfl hs_ | exact absurd ((eqvB (by omega)).symm.trans hs_) (by decide) | exact absurd ((eqvS (by assumption) (by decide)).symm.trans hs_) (by decide)⟩
            | refine ⟨fun hs_ => by first | (exfalso; omega) | exact absurd hs_ (by decide) | exact absurd rfl hs_ | exact absurd ((eqvB (by omega)).symm.trans hs_) (by decide) | exact absurd ((eqvS (by assumption) (by decide)).symm.trans hs_) (by decide), fun hs_ => ?_⟩
            | refine ⟨by first | decide | omega | assumption | exact ⟨ok4 _ _ _ _, ok4 _ _ _ _⟩ | exact ⟨by assumption, by assumption⟩ | exact ⟨by omega, by omega, by assumption⟩ | exact ⟨sm0, by assumption⟩ | exact ⟨by assumption, sm0⟩ | simp, ?_⟩)
        refine hM true false a c p _ ha hc h1 ?_
        refine hM false false b d p _ hb hd h2 ?_
        exact fin _ _ _ _ _ _ _ _ _ _ _
  by_cases n1 : a = 0 ∧ b = 0
  · obtain ⟨rfl, rfl⟩ := n1
    obtain ⟨a1, b1, c1, d1, e, h⟩ := enc_shape 0 c
    obtain ⟨a1', b1', c1', d1', e', h'⟩ := enc_shape 0 d
    have z := z0 rfl rfl
    unfold pr
    rw [e, e', enc_zero]
    repeat (
      conv => whnf
      first
        | refine ⟨fun hs_ => ?_, fun hs_ => by first | (exfalso; omega) | exact absurd hs_ (by decide) | exact absurd rfl hs_ | exact absurd ((eqvB (by omega)).symm.trans hs_) (by decide) | exact absurd ((eqvS (by assumption) (by decide)).symm.trans hs_) (by decide)⟩
        | refine ⟨fun hs_ => by first | (exfalso; omega) | exact absurd hs_ (by decide) | exact absurd rfl hs_ | exact absurd ((eqvB (by omega)).symm.trans hs_) (by decide) | exact absurd ((eqvS (by assumption) (by decide)).symm.trans hs_) (by decide), fun hs_ => ?_⟩
        | refine ⟨by first | decide | omega | assumption | exact ⟨ok4 _ _ _ _, ok4 _ _ _ _⟩ | exact ⟨by assumption, by assumption⟩ | exact ⟨by omega, by omega, by assumption⟩ | exact ⟨sm0, by assumption⟩ | exact ⟨by assumption, sm0⟩ | simp, ?_⟩)
    exact z
  · by_cases n2 : c = 0 ∧ d = 0
    · obtain ⟨rfl, rfl⟩ := n2
      obtain ⟨a1, b1, c1, d1, e, h⟩ := enc_shape 0 a
      obtain ⟨a1', b1', c1', d1', e', h'⟩ := enc_shape 0 b
      have z := z1 rfl rfl
      unfold pr
      rw [e, e', enc_zero]
      by_cases hab : sgn false a = sgn false b
      · repeat (
          conv => whnf
          first
            | refine ⟨fun hs_ => ?_, fun hs_ => by first | (exfalso; omega) | exact absurd hs_ (by decide) | exact absurd rfl hs_ | exact absurd ((eqvB (by omega)).symm.trans hs_) (by decide) | exact absurd ((eqvS (by assumption) (by decide)).symm.trans hs_) (by decide)⟩
            | refine ⟨fun hs_ => by first | (exfalso; omega) | exact absurd hs_ (by decide) | exact absurd rfl hs_ | exact absurd ((eqvB (by omega)).symm.trans hs_) (by decide) | exact absurd ((eqvS (by assumption) (by decide)).symm.trans hs_) (by decide), fun hs_ => ?_⟩
            | refine ⟨by first | decide | omega | assumption | exact ⟨ok4 _ _ _ _, ok4 _ _ _ _⟩ | exact ⟨by assumption, by assumption⟩ | exact ⟨by omega, by omega, by assumption⟩ | exact ⟨sm0, by assumption⟩ | exact ⟨by assumption, sm0⟩ | simp, ?_⟩)
        exact z
      · repeat (
          conv => whnf
          first
            | refine ⟨fun hs_ => ?_, fun hs_ => by first | (exfalso; omega) | exact absurd hs_ (by decide) | exact absurd rfl hs_ | exact absurd ((eqvB (by omega)).symm.trans hs_) (by decide) | exact absurd ((eqvS (by assumption) (by decide)).symm.trans hs_) (by decide)⟩
            | refine ⟨fun hs_ => by first | (exfalso; omega) | exact absurd hs_ (by decide) | exact absurd rfl hs_ | exact absurd ((eqvB (by omega)).symm.trans hs_) (by decide) | exact absurd ((eqvS (by assumption) (by decide)).symm.trans hs_) (by decide), fun hs_ => ?_⟩
            | refine ⟨by first | decide | omega | assumption | exact ⟨ok4 _ _ _ _, ok4 _ _ _ _⟩ | exact ⟨by assumption, by assumption⟩ | exact ⟨by omega, by omega, by assumption⟩ | exact ⟨sm0, by assumption⟩ | exact ⟨by assumption, sm0⟩ | simp, ?_⟩)
        exact z
    · exact main n1 n2
theorem w_imul2 (C : CallW) (hS : SpSign C) (hM : SpMul C) : ∀ (a b c d : Nat) (k : PyData → Prop), bl a ≤ 10000 → bl b ≤ 10000 → bl c ≤ 10000 → bl d ≤ 10000 → 2 ^ B ∣ a * c → 2 ^ B ∣ b * d → k (pr (Rd0 true 0 (a * c / 2 ^ B)) (Rd0 false 0 (b * d / 2 ^ B))) → bodyW f_mpiqmul C [pr a b, pr c d] k := by
  intro a b c d k ha hb hc hd h1 h2 hk
  exact w_imul C hS hM a b c d 0 k ha hb hc hd h1 h2 hk

noncomputable def SpISq (C : CallW) : Prop := ∀ (a b p : Nat) (k : PyData → Prop), bl a ≤ 10000 → bl b ≤ 10000 → 2 ^ B ∣ a * a → 2 ^ B ∣ b * b → k (pr (Rd0 true p (a * a / 2 ^ B)) (Rd0 false p (b * b / 2 ^ B))) → C 248 [pr a b, .int p] k
theorem w_isq2 (C : CallW) (hG : SpGe0 C) (hM : SpMul C) : ∀ (a b p : Nat) (k : PyData → Prop), bl a ≤ 10000 → bl b ≤ 10000 → 2 ^ B ∣ a * a → 2 ^ B ∣ b * b → k (pr (Rd0 true p (a * a / 2 ^ B)) (Rd0 false p (b * b / 2 ^ B))) → bodyW f_mpiqsquare C [pr a b, .int p] k := by
  intro a b p k ha hb h1 h2 hk
  refine hG false a _ ?_
  rw [decide_eq_true (sgn_f a).1]
  repeat (
    conv => whnf
    first
      | refine ⟨fun hs_ => ?_, fun hs_ => by first | (exfalso; omega) | exact absurd hs_ (by decide) | exact absurd rfl hs_ | exact absurd ((eqvB (by omega)).symm.trans hs_) (by decide) | exact absurd ((eqvS (by assumption) (by decide)).symm.trans hs_) (by decide)⟩
      | refine ⟨fun hs_ => by first | (exfalso; omega) | exact absurd hs_ (by decide) | exact absurd rfl hs_ | exact absurd ((eqvB (by omega)).symm.trans hs_) (by decide) | exact absurd ((eqvS (by assumption) (by decide)).symm.trans hs_) (by decide), fun hs_ => ?_⟩
      | refine ⟨by first | decide | omega | assumption | exact ⟨ok4 _ _ _ _, ok4 _ _ _ _⟩ | exact ⟨by assumption, by assumption⟩ | exact ⟨by omega, by omega, by assumption⟩ | exact ⟨sm0, by assumption⟩ | exact ⟨by assumption, sm0⟩ | simp, ?_⟩)
  refine hM true false a a p _ ha ha h1 ?_
  refine hM false false b b p _ hb hb h2 ?_
  repeat (
    conv => whnf
    first
      | refine ⟨fun hs_ => ?_, fun hs_ => by first | (exfalso; omega) | exact absurd hs_ (by decide) | exact absurd rfl hs_ | exact absurd ((eqvB (by omega)).symm.trans hs_) (by decide) | exact absurd ((eqvS (by assumption) (by decide)).symm.trans hs_) (by decide)⟩
      | refine ⟨fun hs_ => by first | (exfalso; omega) | exact absurd hs_ (by decide) | exact absurd rfl hs_ | exact absurd ((eqvB (by omega)).symm.trans hs_) (by decide) | exact absurd ((eqvS (by assumption) (by decide)).symm.trans hs_) (by decide), fun hs_ => ?_⟩
      | refine ⟨by first | decide | omega | assumption | exact ⟨ok4 _ _ _ _, ok4 _ _ _ _⟩ | exact ⟨by assumption, by assumption⟩ | exact ⟨by omega, by omega, by assumption⟩ | exact ⟨sm0, by assumption⟩ | exact ⟨by assumption, sm0⟩ | simp, ?_⟩)
  exact hk
/-- an interval on any side of 0 -/
noncomputable def sprd (na : Bool) (a : Nat) (nb : Bool) (b : Nat) : PyData := .tuple [enc (si na) a, enc (si nb) b]
/-- the least and the greatest size -/
noncomputable def amin (na : Bool) (a : Nat) (nb : Bool) (b : Nat) : Nat := if na = false then a else if nb = true then b else 0
noncomputable def amax (na : Bool) (a : Nat) (nb : Bool) (b : Nat) : Nat := if na = false then b else if nb = true then a else Nat.max a b
/-- signs as the numbers have them: below 0 only where not 0 -/
noncomputable def Sok (n : Bool) (a : Nat) : Prop := n = true → a ≠ 0
noncomputable def SpISqS (C : CallW) : Prop := ∀ (na nb : Bool) (a b : Nat) (k : PyData → Prop), bl a ≤ 10000 → bl b ≤ 10000 → Sok na a → Sok nb b → (na = false → nb = false) → 2 ^ B ∣ a * a → 2 ^ B ∣ b * b → k (pr (amin na a nb b * amin na a nb b / 2 ^ B) (amax na a nb b * amax na a nb b / 2 ^ B)) → C 248 [sprd na a nb b] k
theorem w_isqs (C : CallW) (hG : SpGe0 C) (hL : SpLe0 C) (hN : SpNeg1 C) (hMM : SpMM C) (hM : SpMul C) : ∀ (na nb : Bool) (a b : Nat) (k : PyData → Prop), bl a ≤ 10000 → bl b ≤ 10000 → Sok na a → Sok nb b → (na = false → nb = false) → 2 ^ B ∣ a * a → 2 ^ B ∣ b * b → k (pr (amin na a nb b * amin na a nb b / 2 ^ B) (amax na a nb b * amax na a nb b / 2 ^ B)) → bodyW f_mpiqsquare C [sprd na a nb b] k := by
  intro na nb a b k ha hb sa sb hab h1 h2 hk
  have ga := sgn_f a
  have gb := sgn_f b
  have ga' := sgn_t a
  have gb' := sgn_t b
  refine hG na a _ ?_
  cases na
  · obtain rfl := hab rfl
    rw [decide_eq_true ga.1]
    repeat (
      conv => whnf
      first
        | refine ⟨fun hs_ => ?_, fun hs_ => by first | (exfalso; omega) | exact absurd hs_ (by decide) | exact absurd rfl hs_ | exact absurd ((eqvB (by omega)).symm.trans hs_) (by decide) | exact absurd ((eqvS (by assumption) (by decide)).symm.trans hs_) (by decide)⟩
        | refine ⟨fun hs_ => by first | (exfalso; omega) | exact absurd hs_ (by decide) | exact absurd rfl hs_ | exact absurd ((eqvB (by omega)).symm.trans hs_) (by decide) | exact absurd ((eqvS (by assumption) (by decide)).symm.trans hs_) (by decide), fun hs_ => ?_⟩
        | refine ⟨by first | decide | omega | assumption | exact ⟨ok4 _ _ _ _, ok4 _ _ _ _⟩ | exact ⟨by assumption, by assumption⟩ | exact ⟨by omega, by omega, by assumption⟩ | exact ⟨sm0, by assumption⟩ | exact ⟨by assumption, sm0⟩ | simp, ?_⟩)
    refine hM true false a a 0 _ ha ha h1 ?_
    refine hM false false b b 0 _ hb hb h2 ?_
    repeat (
      conv => whnf
      first
        | refine ⟨fun hs_ => ?_, fun hs_ => by first | (exfalso; omega) | exact absurd hs_ (by decide) | exact absurd rfl hs_ | exact absurd ((eqvB (by omega)).symm.trans hs_) (by decide) | exact absurd ((eqvS (by assumption) (by decide)).symm.trans hs_) (by decide)⟩
        | refine ⟨fun hs_ => by first | (exfalso; omega) | exact absurd hs_ (by decide) | exact absurd rfl hs_ | exact absurd ((eqvB (by omega)).symm.trans hs_) (by decide) | exact absurd ((eqvS (by assumption) (by decide)).symm.trans hs_) (by decide), fun hs_ => ?_⟩
        | refine ⟨by first | decide | omega | assumption | exact ⟨ok4 _ _ _ _, ok4 _ _ _ _⟩ | exact ⟨by assumption, by assumption⟩ | exact ⟨by omega, by omega, by assumption⟩ | exact ⟨sm0, by assumption⟩ | exact ⟨by assumption, sm0⟩ | simp, ?_⟩)
    exact hk
  · have ha0 := sa rfl
    rw [decide_eq_false (by have := ga'.2.2 ha0; omega)]
    repeat (
      conv => whnf
      first
        | refine ⟨fun hs_ => ?_, fun hs_ => by first | (exfalso; omega) | exact absurd hs_ (by decide) | exact absurd rfl hs_ | exact absurd ((eqvB (by omega)).symm.trans hs_) (by decide) | exact absurd ((eqvS (by assumption) (by decide)).symm.trans hs_) (by decide)⟩
        | refine ⟨fun hs_ => by first | (exfalso; omega) | exact absurd hs_ (by decide) | exact absurd rfl hs_ | exact absurd ((eqvB (by omega)).symm.trans hs_) (by decide) | exact absurd ((eqvS (by assumption) (by decide)).symm.trans hs_) (by decide), fun hs_ => ?_⟩
        | refine ⟨by first | decide | omega | assumption | exact ⟨ok4 _ _ _ _, ok4 _ _ _ _⟩ | exact ⟨by assumption, by assumption⟩ | exact ⟨by omega, by omega, by assumption⟩ | exact ⟨sm0, by assumption⟩ | exact ⟨by assumption, sm0⟩ | simp, ?_⟩)
    refine hL nb b _ ?_
    cases nb
    · by_cases hb0 : b = 0
      · subst hb0
        rw [decide_eq_true (by have := gb.2.1 rfl; omega)]
        repeat (
          conv => whnf
          first
            | refine ⟨fun hs_ => ?_, fun hs_ => by first | (exfalso; omega) | exact absurd hs_ (by decide) | exact absurd rfl hs_ | exact absurd ((eqvB (by omega)).symm.trans hs_) (by decide) | exact absurd ((eqvS (by assumption) (by decide)).symm.trans hs_) (by decide)⟩
            | refine ⟨fun hs_ => by first | (exfalso; omega) | exact absurd hs_ (by decide) | exact absurd rfl hs_ | exact absurd ((eqvB (by omega)).symm.trans hs_) (by decide) | exact absurd ((eqvS (by assumption) (by decide)).symm.trans hs_) (by decide), fun hs_ => ?_⟩
            | refine ⟨by first | decide | omega | assumption | exact ⟨ok4 _ _ _ _, ok4 _ _ _ _⟩ | exact ⟨by assumption, by assumption⟩ | exact ⟨by omega, by omega, by assumption⟩ | exact ⟨sm0, by assumption⟩ | exact ⟨by assumption, sm0⟩ | simp, ?_⟩)
        refine hM true false 0 0 0 _ hb hb h2 ?_
        refine hM false true a a 0 _ ha ha h1 ?_
        have e1 : amin true a false 0 = 0 := rfl
        have e2 : amax true a false 0 = a := Nat.max_eq_left (Nat.zero_le _)
        rw [e1, e2] at hk
        repeat (
          conv => whnf
          first
            | refine ⟨fun hs_ => ?_, fun hs_ => by first | (exfalso; omega) | exact absurd hs_ (by decide) | exact absurd rfl hs_ | exact absurd ((eqvB (by omega)).symm.trans hs_) (by decide) | exact absurd ((eqvS (by assumption) (by decide)).symm.trans hs_) (by decide)⟩
            | refine ⟨fun hs_ => by first | (exfalso; omega) | exact absurd hs_ (by decide) | exact absurd rfl hs_ | exact absurd ((eqvB (by omega)).symm.trans hs_) (by decide) | exact absurd ((eqvS (by assumption) (by decide)).symm.trans hs_) (by decide), fun hs_ => ?_⟩
            | refine ⟨by first | decide | omega | assumption | exact ⟨ok4 _ _ _ _, ok4 _ _ _ _⟩ | exact ⟨by assumption, by assumption⟩ | exact ⟨by omega, by omega, by assumption⟩ | exact ⟨sm0, by assumption⟩ | exact ⟨by assumption, sm0⟩ | simp, ?_⟩)
        exact hk
      · rw [decide_eq_false (by have := gb.2.2 hb0; omega)]
        repeat (
          conv => whnf
          first
            | refine ⟨fun hs_ => ?_, fun hs_ => by first | (exfalso; omega) | exact absurd hs_ (by decide) | exact absurd rfl hs_ | exact absurd ((eqvB (by omega)).symm.trans hs_) (by decide) | exact absurd ((eqvS (by assumption) (by decide)).symm.trans hs_) (by decide)⟩
            | refine ⟨fun hs_ => by first | (exfalso; omega) | exact absurd hs_ (by decide) | exact absurd rfl hs_ | exact absurd ((eqvB (by omega)).symm.trans hs_) (by decide) | exact absurd ((eqvS (by assumption) (by decide)).symm.trans hs_) (by decide), fun hs_ => ?_⟩
            | refine ⟨by first | decide | omega | assumption | exact ⟨ok4 _ _ _ _, ok4 _ _ _ _⟩ | exact ⟨by assumption, by assumption⟩ | exact ⟨by omega, by omega, by assumption⟩ | exact ⟨sm0, by assumption⟩ | exact ⟨by assumption, sm0⟩ | simp, ?_⟩)
        refine hN true a _ ?_
        repeat (
          conv => whnf
          first
            | refine ⟨fun hs_ => ?_, fun hs_ => by first | (exfalso; omega) | exact absurd hs_ (by decide) | exact absurd rfl hs_ | exact absurd ((eqvB (by omega)).symm.trans hs_) (by decide) | exact absurd ((eqvS (by assumption) (by decide)).symm.trans hs_) (by decide)⟩
            | refine ⟨fun hs_ => by first | (exfalso; omega) | exact absurd hs_ (by decide) | exact absurd rfl hs_ | exact absurd ((eqvB (by omega)).symm.trans hs_) (by decide) | exact absurd ((eqvS (by assumption) (by decide)).symm.trans hs_) (by decide), fun hs_ => ?_⟩
            | refine ⟨by first | decide | omega | assumption | exact ⟨ok4 _ _ _ _, ok4 _ _ _ _⟩ | exact ⟨by assumption, by assumption⟩ | exact ⟨by omega, by omega, by assumption⟩ | exact ⟨sm0, by assumption⟩ | exact ⟨by assumption, sm0⟩ | simp, ?_⟩)
        refine hMM a b _ ha0 hb0 ha hb ?_
        repeat (
          conv => whnf
          first
            | refine ⟨fun hs_ => ?_, fun hs_ => by first | (exfalso; omega) | exact absurd hs_ (by decide) | exact absurd rfl hs_ | exact absurd ((eqvB (by omega)).symm.trans hs_) (by decide) | exact absurd ((eqvS (by assumption) (by decide)).symm.trans hs_) (by decide)⟩
            | refine ⟨fun hs_ => by first | (exfalso; omega) | exact absurd hs_ (by decide) | exact absurd rfl hs_ | exact absurd ((eqvB (by omega)).symm.trans hs_) (by decide) | exact absurd ((eqvS (by assumption) (by decide)).symm.trans hs_) (by decide), fun hs_ => ?_⟩
            | refine ⟨by first | decide | omega | assumption | exact ⟨ok4 _ _ _ _, ok4 _ _ _ _⟩ | exact ⟨by assumption, by assumption⟩ | exact ⟨by omega, by omega, by assumption⟩ | exact ⟨sm0, by assumption⟩ | exact ⟨by assumption, sm0⟩ | simp, ?_⟩)
        have e1 : amin true a false b = 0 := rfl
        have e2 : amax true a false b = Nat.max a b := rfl
        rw [e1, e2, Nat.zero_mul, Nat.zero_div] at hk
        refine hM false false (Nat.max a b) (Nat.max a b) 0 _ ?_ ?_ ?_ ?_
        · rcases Nat.le_total a b with h | h
          · rw [show Nat.max a b = b from Nat.max_eq_right h]; exact hb
          · rw [show Nat.max a b = a from Nat.max_eq_left h]; exact ha
        · rcases Nat.le_total a b with h | h
          · rw [show Nat.max a b = b from Nat.max_eq_right h]; exact hb
          · rw [show Nat.max a b = a from Nat.max_eq_left h]; exact ha
        · rcases Nat.le_total a b with h | h
          · rw [show Nat.max a b = b from Nat.max_eq_right h]; exact h2
          · rw [show Nat.max a b = a from Nat.max_eq_left h]; exact h1
        · repeat (
            conv => whnf
            first
              | refine ⟨fun hs_ => ?_, fun hs_ => by first | (exfalso; omega) | exact absurd hs_ (by decide) | exact absurd rfl hs_ | exact absurd ((eqvB (by omega)).symm.trans hs_) (by decide) | exact absurd ((eqvS (by assumption) (by decide)).symm.trans hs_) (by decide)⟩
              | refine ⟨fun hs_ => by first | (exfalso; omega) | exact absurd hs_ (by decide) | exact absurd rfl hs_ | exact absurd ((eqvB (by omega)).symm.trans hs_) (by decide) | exact absurd ((eqvS (by assumption) (by decide)).symm.trans hs_) (by decide), fun hs_ => ?_⟩
              | refine ⟨by first | decide | omega | assumption | exact ⟨ok4 _ _ _ _, ok4 _ _ _ _⟩ | exact ⟨by assumption, by assumption⟩ | exact ⟨by omega, by omega, by assumption⟩ | exact ⟨sm0, by assumption⟩ | exact ⟨by assumption, sm0⟩ | simp, ?_⟩)
          exact hk
    · have hb0 := sb rfl
      rw [decide_eq_true gb'.1]
      repeat (
        conv => whnf
        first
          | refine ⟨fun hs_ => ?_, fun hs_ => by first | (exfalso; omega) | exact absurd hs_ (by decide) | exact absurd rfl hs_ | exact absurd ((eqvB (by omega)).symm.trans hs_) (by decide) | exact absurd ((eqvS (by assumption) (by decide)).symm.trans hs_) (by decide)⟩
          | refine ⟨fun hs_ => by first | (exfalso; omega) | exact absurd hs_ (by decide) | exact absurd rfl hs_ | exact absurd ((eqvB (by omega)).symm.trans hs_) (by decide) | exact absurd ((eqvS (by assumption) (by decide)).symm.trans hs_) (by decide), fun hs_ => ?_⟩
          | refine ⟨by first | decide | omega | assumption | exact ⟨ok4 _ _ _ _, ok4 _ _ _ _⟩ | exact ⟨by assumption, by assumption⟩ | exact ⟨by omega, by omega, by assumption⟩ | exact ⟨sm0, by assumption⟩ | exact ⟨by assumption, sm0⟩ | simp, ?_⟩)
      refine hM true true b b 0 _ hb hb h2 ?_
      refine hM false true a a 0 _ ha ha h1 ?_
      repeat (
        conv => whnf
        first
          | refine ⟨fun hs_ => ?_, fun hs_ => by first | (exfalso; omega) | exact absurd hs_ (by decide) | exact absurd rfl hs_ | exact absurd ((eqvB (by omega)).symm.trans hs_) (by decide) | exact absurd ((eqvS (by assumption) (by decide)).symm.trans hs_) (by decide)⟩
          | refine ⟨fun hs_ => by first | (exfalso; omega) | exact absurd hs_ (by decide) | exact absurd rfl hs_ | exact absurd ((eqvB (by omega)).symm.trans hs_) (by decide) | exact absurd ((eqvS (by assumption) (by decide)).symm.trans hs_) (by decide), fun hs_ => ?_⟩
          | refine ⟨by first | decide | omega | assumption | exact ⟨ok4 _ _ _ _, ok4 _ _ _ _⟩ | exact ⟨by assumption, by assumption⟩ | exact ⟨by omega, by omega, by assumption⟩ | exact ⟨sm0, by assumption⟩ | exact ⟨by assumption, sm0⟩ | simp, ?_⟩)
      exact hk

noncomputable def SpIAbs (C : CallW) : Prop := ∀ (na nb : Bool) (a b p : Nat) (k : PyData → Prop), 1 ≤ p → bl a ≤ 10000 → bl b ≤ 10000 → Sok na a → Sok nb b → (na = false → nb = false) → k (pr (Fl p (amin na a nb b)) (Ce p (amax na a nb b))) → C 232 [sprd na a nb b, .int p] k
theorem w_iabs (C : CallW) (hS : SpSign C) (hP : SpPos C) (hN : SpNeg1 C) (hN3 : SpNeg3 C) (hL : SpLt C) (hL0 : SpLt0 C) : ∀ (na nb : Bool) (a b p : Nat) (k : PyData → Prop), 1 ≤ p → bl a ≤ 10000 → bl b ≤ 10000 → Sok na a → Sok nb b → (na = false → nb = false) → k (pr (Fl p (amin na a nb b)) (Ce p (amax na a nb b))) → bodyW f_mpiqabs C [sprd na a nb b, .int p] k := by
  intro na nb a b p k hp ha hb sa sb hab hk
  have ga := sgn_f a
  have gb := sgn_f b
  have ga' := sgn_t a
  have gb' := sgn_t b
  refine hS na a _ ?_
  refine hS nb b _ ?_
  cases na
  · obtain rfl := hab rfl
    repeat (
      conv => whnf
      first
        | refine ⟨fun hs_ => ?_, fun hs_ => by first | (exfalso; omega) | exact absurd hs_ (by decide) | exact absurd rfl hs_ | exact absurd ((eqvB (by omega)).symm.trans hs_) (by decide) | exact absurd ((eqvS (by assumption) (by decide)).symm.trans hs_) (by decide)⟩
        | refine ⟨fun hs_ => by first | (exfalso; omega) | exact absurd hs_ (by decide) | exact absurd rfl hs_ | exact absurd ((eqvB (by omega)).symm.trans hs_) (by decide) | exact absurd ((eqvS (by assumption) (by decide)).symm.trans hs_) (by decide), fun hs_ => ?_⟩
        | refine ⟨by first | decide | omega | assumption | exact ⟨ok4 _ _ _ _, ok4 _ _ _ _⟩ | exact ⟨by assumption, by assumption⟩ | exact ⟨by omega, by omega, by assumption⟩ | exact ⟨sm0, by assumption⟩ | exact ⟨by assumption, sm0⟩ | simp, ?_⟩)
    refine hP true false a p _ hp ?_
    refine hP false false b p _ hp ?_
    repeat (
      conv => whnf
      first
        | refine ⟨fun hs_ => ?_, fun hs_ => by first | (exfalso; omega) | exact absurd hs_ (by decide) | exact absurd rfl hs_ | exact absurd ((eqvB (by omega)).symm.trans hs_) (by decide) | exact absurd ((eqvS (by assumption) (by decide)).symm.trans hs_) (by decide)⟩
        | refine ⟨fun hs_ => by first | (exfalso; omega) | exact absurd hs_ (by decide) | exact absurd rfl hs_ | exact absurd ((eqvB (by omega)).symm.trans hs_) (by decide) | exact absurd ((eqvS (by assumption) (by decide)).symm.trans hs_) (by decide), fun hs_ => ?_⟩
        | refine ⟨by first | decide | omega | assumption | exact ⟨ok4 _ _ _ _, ok4 _ _ _ _⟩ | exact ⟨by assumption, by assumption⟩ | exact ⟨by omega, by omega, by assumption⟩ | exact ⟨sm0, by assumption⟩ | exact ⟨by assumption, sm0⟩ | simp, ?_⟩)
    exact hk
  · have ha0 := sa rfl
    have gaa := ga'.2.2 ha0
    cases nb
    · repeat (
        conv => whnf
        first
          | refine ⟨fun hs_ => ?_, fun hs_ => by first | (exfalso; omega) | exact absurd hs_ (by decide) | exact absurd rfl hs_ | exact absurd ((eqvB (by omega)).symm.trans hs_) (by decide) | exact absurd ((eqvS (by assumption) (by decide)).symm.trans hs_) (by decide)⟩
          | refine ⟨fun hs_ => by first | (exfalso; omega) | exact absurd hs_ (by decide) | exact absurd rfl hs_ | exact absurd ((eqvB (by omega)).symm.trans hs_) (by decide) | exact absurd ((eqvS (by assumption) (by decide)).symm.trans hs_) (by decide), fun hs_ => ?_⟩
          | refine ⟨by first | decide | omega | assumption | exact ⟨ok4 _ _ _ _, ok4 _ _ _ _⟩ | exact ⟨by assumption, by assumption⟩ | exact ⟨by omega, by omega, by assumption⟩ | exact ⟨sm0, by assumption⟩ | exact ⟨by assumption, sm0⟩ | simp, ?_⟩)
      refine hN true a _ ?_
      by_cases hb0 : b = 0
      · subst hb0
        have e1 : amin true a false 0 = 0 := rfl
        have e2 : amax true a false 0 = a := Nat.max_eq_left (Nat.zero_le _)
        rw [e1, e2, show Fl p 0 = 0 from Rd_zero (f := true) hp] at hk
        refine hL0 false a _ ?_
        rw [decide_eq_false (by omega)]
        repeat (
          conv => whnf
          first
            | refine ⟨fun hs_ => ?_, fun hs_ => by first | (exfalso; omega) | exact absurd hs_ (by decide) | exact absurd rfl hs_ | exact absurd ((eqvB (by omega)).symm.trans hs_) (by decide) | exact absurd ((eqvS (by assumption) (by decide)).symm.trans hs_) (by decide)⟩
            | refine ⟨fun hs_ => by first | (exfalso; omega) | exact absurd hs_ (by decide) | exact absurd rfl hs_ | exact absurd ((eqvB (by omega)).symm.trans hs_) (by decide) | exact absurd ((eqvS (by assumption) (by decide)).symm.trans hs_) (by decide), fun hs_ => ?_⟩
            | refine ⟨by first | decide | omega | assumption | exact ⟨ok4 _ _ _ _, ok4 _ _ _ _⟩ | exact ⟨by assumption, by assumption⟩ | exact ⟨by omega, by omega, by assumption⟩ | exact ⟨sm0, by assumption⟩ | exact ⟨by assumption, sm0⟩ | simp, ?_⟩)
        refine hP false false a p _ hp ?_
        repeat (
          conv => whnf
          first
            | refine ⟨fun hs_ => ?_, fun hs_ => by first | (exfalso; omega) | exact absurd hs_ (by decide) | exact absurd rfl hs_ | exact absurd ((eqvB (by omega)).symm.trans hs_) (by decide) | exact absurd ((eqvS (by assumption) (by decide)).symm.trans hs_) (by decide)⟩
            | refine ⟨fun hs_ => by first | (exfalso; omega) | exact absurd hs_ (by decide) | exact absurd rfl hs_ | exact absurd ((eqvB (by omega)).symm.trans hs_) (by decide) | exact absurd ((eqvS (by assumption) (by decide)).symm.trans hs_) (by decide), fun hs_ => ?_⟩
            | refine ⟨by first | decide | omega | assumption | exact ⟨ok4 _ _ _ _, ok4 _ _ _ _⟩ | exact ⟨by assumption, by assumption⟩ | exact ⟨by omega, by omega, by assumption⟩ | exact ⟨sm0, by assumption⟩ | exact ⟨by assumption, sm0⟩ | simp, ?_⟩)
        exact hk
      · have e1 : amin true a false b = 0 := rfl
        have e2 : amax true a false b = Nat.max a b := rfl
        rw [e1, e2, show Fl p 0 = 0 from Rd_zero (f := true) hp] at hk
        refine hL a b _ ha0 hb0 ha hb (fun h => ?_) (fun h => ?_)
        · rw [show Nat.max a b = b from Nat.max_eq_right (by omega)] at hk
          repeat (
            conv => whnf
            first
              | refine ⟨fun hs_ => ?_, fun hs_ => by first | (exfalso; omega) | exact absurd hs_ (by decide) | exact absurd rfl hs_ | exact absurd ((eqvB (by omega)).symm.trans hs_) (by decide) | exact absurd ((eqvS (by assumption) (by decide)).symm.trans hs_) (by decide)⟩
              | refine ⟨fun hs_ => by first | (exfalso; omega) | exact absurd hs_ (by decide) | exact absurd rfl hs_ | exact absurd ((eqvB (by omega)).symm.trans hs_) (by decide) | exact absurd ((eqvS (by assumption) (by decide)).symm.trans hs_) (by decide), fun hs_ => ?_⟩
              | refine ⟨by first | decide | omega | assumption | exact ⟨ok4 _ _ _ _, ok4 _ _ _ _⟩ | exact ⟨by assumption, by assumption⟩ | exact ⟨by omega, by omega, by assumption⟩ | exact ⟨sm0, by assumption⟩ | exact ⟨by assumption, sm0⟩ | simp, ?_⟩)
          refine hP false false b p _ hp ?_
          repeat (
            conv => whnf
            first
              | refine ⟨fun hs_ => ?_, fun hs_ => by first | (exfalso; omega) | exact absurd hs_ (by decide) | exact absurd rfl hs_ | exact absurd ((eqvB (by omega)).symm.trans hs_) (by decide) | exact absurd ((eqvS (by assumption) (by decide)).symm.trans hs_) (by decide)⟩
              | refine ⟨fun hs_ => by first | (exfalso; omega) | exact absurd hs_ (by decide) | exact absurd rfl hs_ | exact absurd ((eqvB (by omega)).symm.trans hs_) (by decide) | exact absurd ((eqvS (by assumption) (by decide)).symm.trans hs_) (by decide), fun hs_ => ?_⟩
              | refine ⟨by first | decide | omega | assumption | exact ⟨ok4 _ _ _ _, ok4 _ _ _ _⟩ | exact ⟨by assumption, by assumption⟩ | exact ⟨by omega, by omega, by assumption⟩ | exact ⟨sm0, by assumption⟩ | exact ⟨by assumption, sm0⟩ | simp, ?_⟩)
          exact hk
        · rw [show Nat.max a b = a from Nat.max_eq_left (by omega)] at hk
          repeat (
            conv => whnf
            first
              | refine ⟨fun hs_ => ?_, fun hs_ => by first | (exfalso; omega) | exact absurd hs_ (by decide) | exact absurd rfl hs_ | exact absurd ((eqvB (by omega)).symm.trans hs_) (by decide) | exact absurd ((eqvS (by assumption) (by decide)).symm.trans hs_) (by decide)⟩
              | refine ⟨fun hs_ => by first | (exfalso; omega) | exact absurd hs_ (by decide) | exact absurd rfl hs_ | exact absurd ((eqvB (by omega)).symm.trans hs_) (by decide) | exact absurd ((eqvS (by assumption) (by decide)).symm.trans hs_) (by decide), fun hs_ => ?_⟩
              | refine ⟨by first | decide | omega | assumption | exact ⟨ok4 _ _ _ _, ok4 _ _ _ _⟩ | exact ⟨by assumption, by assumption⟩ | exact ⟨by omega, by omega, by assumption⟩ | exact ⟨sm0, by assumption⟩ | exact ⟨by assumption, sm0⟩ | simp, ?_⟩)
          refine hP false false a p _ hp ?_
          repeat (
            conv => whnf
            first
              | refine ⟨fun hs_ => ?_, fun hs_ => by first | (exfalso; omega) | exact absurd hs_ (by decide) | exact absurd rfl hs_ | exact absurd ((eqvB (by omega)).symm.trans hs_) (by decide) | exact absurd ((eqvS (by assumption) (by decide)).symm.trans hs_) (by decide)⟩
              | refine ⟨fun hs_ => by first | (exfalso; omega) | exact absurd hs_ (by decide) | exact absurd rfl hs_ | exact absurd ((eqvB (by omega)).symm.trans hs_) (by decide) | exact absurd ((eqvS (by assumption) (by decide)).symm.trans hs_) (by decide), fun hs_ => ?_⟩
              | refine ⟨by first | decide | omega | assumption | exact ⟨ok4 _ _ _ _, ok4 _ _ _ _⟩ | exact ⟨by assumption, by assumption⟩ | exact ⟨by omega, by omega, by assumption⟩ | exact ⟨sm0, by assumption⟩ | exact ⟨by assumption, sm0⟩ | simp, ?_⟩)
          exact hk
    · have hb0 := sb rfl
      have gbb := gb'.2.2 hb0
      repeat (
        conv => whnf
        first
          | refine ⟨fun hs_ => ?_, fun hs_ => by first | (exfalso; omega) | exact absurd hs_ (by decide) | exact absurd rfl hs_ | exact absurd ((eqvB (by omega)).symm.trans hs_) (by decide) | exact absurd ((eqvS (by assumption) (by decide)).symm.trans hs_) (by decide)⟩
          | refine ⟨fun hs_ => by first | (exfalso; omega) | exact absurd hs_ (by decide) | exact absurd rfl hs_ | exact absurd ((eqvB (by omega)).symm.trans hs_) (by decide) | exact absurd ((eqvS (by assumption) (by decide)).symm.trans hs_) (by decide), fun hs_ => ?_⟩
          | refine ⟨by first | decide | omega | assumption | exact ⟨ok4 _ _ _ _, ok4 _ _ _ _⟩ | exact ⟨by assumption, by assumption⟩ | exact ⟨by omega, by omega, by assumption⟩ | exact ⟨sm0, by assumption⟩ | exact ⟨by assumption, sm0⟩ | simp, ?_⟩)
      refine hN3 true true b p _ hp ?_
      refine hN3 false true a p _ hp ?_
      repeat (
        conv => whnf
        first
          | refine ⟨fun hs_ => ?_, fun hs_ => by first | (exfalso; omega) | exact absurd hs_ (by decide) | exact absurd rfl hs_ | exact absurd ((eqvB (by omega)).symm.trans hs_) (by decide) | exact absurd ((eqvS (by assumption) (by decide)).symm.trans hs_) (by decide)⟩
          | refine ⟨fun hs_ => by first | (exfalso; omega) | exact absurd hs_ (by decide) | exact absurd rfl hs_ | exact absurd ((eqvB (by omega)).symm.trans hs_) (by decide) | exact absurd ((eqvS (by assumption) (by decide)).symm.trans hs_) (by decide), fun hs_ => ?_⟩
          | refine ⟨by first | decide | omega | assumption | exact ⟨ok4 _ _ _ _, ok4 _ _ _ _⟩ | exact ⟨by assumption, by assumption⟩ | exact ⟨by omega, by omega, by assumption⟩ | exact ⟨sm0, by assumption⟩ | exact ⟨by assumption, sm0⟩ | simp, ?_⟩)
      exact hk

noncomputable def SpIPow (C : CallW) : Prop := ∀ (a b p : Nat) (k : PyData → Prop), 1 ≤ p → bl a ≤ 10000 → bl b ≤ 10000 → bl (od a) ≤ 249 → bl (od b) ≤ 249 → 2 ^ (3 * B) ∣ a ^ 4 → 2 ^ (3 * B) ∣ b ^ 4 → k (pr (Fl p (a ^ 4 / 2 ^ (3 * B))) (Ce p (b ^ 4 / 2 ^ (3 * B)))) → C 269 [pr a b, .int 4, .int p] k
theorem w_ipow (C : CallW) (hS : SpSign C) (hP : SpPow C) : ∀ (a b p : Nat) (k : PyData → Prop), 1 ≤ p → bl a ≤ 10000 → bl b ≤ 10000 → bl (od a) ≤ 249 → bl (od b) ≤ 249 → 2 ^ (3 * B) ∣ a ^ 4 → 2 ^ (3 * B) ∣ b ^ 4 → k (pr (Fl p (a ^ 4 / 2 ^ (3 * B))) (Ce p (b ^ 4 / 2 ^ (3 * B)))) → bodyW f_mpiqpowqint C [pr a b, .int 4, .int p] k := by
  intro a b p k hp ha hb ha2 hb2 h1 h2 hk
  have ga := sgn_f a
  have gb := sgn_f b
  repeat (
    conv => whnf
    first
      | refine ⟨fun hs_ => ?_, fun hs_ => by first | (exfalso; omega) | exact absurd hs_ (by decide) | exact absurd rfl hs_ | exact absurd ((eqvB (by omega)).symm.trans hs_) (by decide) | exact absurd ((eqvS (by assumption) (by decide)).symm.trans hs_) (by decide)⟩
      | refine ⟨fun hs_ => by first | (exfalso; omega) | exact absurd hs_ (by decide) | exact absurd rfl hs_ | exact absurd ((eqvB (by omega)).symm.trans hs_) (by decide) | exact absurd ((eqvS (by assumption) (by decide)).symm.trans hs_) (by decide), fun hs_ => ?_⟩
      | refine ⟨by first | decide | omega | assumption | exact ⟨ok4 _ _ _ _, ok4 _ _ _ _⟩ | exact ⟨by assumption, by assumption⟩ | exact ⟨by omega, by omega, by assumption⟩ | exact ⟨sm0, by assumption⟩ | exact ⟨by assumption, sm0⟩ | simp, ?_⟩)
  refine hS false a _ ?_
  refine hS false b _ ?_
  repeat (
    conv => whnf
    first
      | refine ⟨fun hs_ => ?_, fun hs_ => by first | (exfalso; omega) | exact absurd hs_ (by decide) | exact absurd rfl hs_ | exact absurd ((eqvB (by omega)).symm.trans hs_) (by decide) | exact absurd ((eqvS (by assumption) (by decide)).symm.trans hs_) (by decide)⟩
      | refine ⟨fun hs_ => by first | (exfalso; omega) | exact absurd hs_ (by decide) | exact absurd rfl hs_ | exact absurd ((eqvB (by omega)).symm.trans hs_) (by decide) | exact absurd ((eqvS (by assumption) (by decide)).symm.trans hs_) (by decide), fun hs_ => ?_⟩
      | refine ⟨by first | decide | omega | assumption | exact ⟨ok4 _ _ _ _, ok4 _ _ _ _⟩ | exact ⟨by assumption, by assumption⟩ | exact ⟨by omega, by omega, by assumption⟩ | exact ⟨sm0, by assumption⟩ | exact ⟨by assumption, sm0⟩ | simp, ?_⟩)
  refine hP true a p _ hp ha ha2 h1 ?_
  refine hP false b p _ hp hb hb2 h2 ?_
  repeat (
    conv => whnf
    first
      | refine ⟨fun hs_ => ?_, fun hs_ => by first | (exfalso; omega) | exact absurd hs_ (by decide) | exact absurd rfl hs_ | exact absurd ((eqvB (by omega)).symm.trans hs_) (by decide) | exact absurd ((eqvS (by assumption) (by decide)).symm.trans hs_) (by decide)⟩
      | refine ⟨fun hs_ => by first | (exfalso; omega) | exact absurd hs_ (by decide) | exact absurd rfl hs_ | exact absurd ((eqvB (by omega)).symm.trans hs_) (by decide) | exact absurd ((eqvS (by assumption) (by decide)).symm.trans hs_) (by decide), fun hs_ => ?_⟩
      | refine ⟨by first | decide | omega | assumption | exact ⟨ok4 _ _ _ _, ok4 _ _ _ _⟩ | exact ⟨by assumption, by assumption⟩ | exact ⟨by omega, by omega, by assumption⟩ | exact ⟨sm0, by assumption⟩ | exact ⟨by assumption, sm0⟩ | simp, ?_⟩)
  exact hk
end Mine

namespace Mine

theorem intBits_abs (x : Int) : Builtin.Int.intBits x = bl x.natAbs := by
  rcases Int.natAbs_eq x with e | e
  · conv => lhs; rw [e]
    exact bits_nat _
  · conv => lhs; rw [e]
    rw [bits_neg]
    exact bits_nat _
theorem bits_lt {x : Int} {b : Nat} (h : x.natAbs < 2 ^ b) : Builtin.Int.intBits x ≤ b := by
  rw [intBits_abs]; exact bl_le_of_lt h
theorem bits_spec (x : Int) : x.natAbs < 2 ^ Builtin.Int.intBits x := by rw [intBits_abs]; exact bl_lt _
theorem Big_eq : Big = 16777216 := by unfold Big; rfl

noncomputable def SpMix (C : CallW) : Prop := ∀ (ns : List Int) (i : Nat) (k : PyData → Prop), ns.length ≤ 63 → (∀ n ∈ ns, Builtin.Int.intBits n ≤ 2000000) → i ≤ 10 → (∀ r : Nat, k (.int r)) → C 276 [.list (ns.map PyData.int), .int i] k
theorem w_mix (C : CallW) : ∀ (ns : List Int) (i : Nat) (k : PyData → Prop), ns.length ≤ 63 → (∀ n ∈ ns, Builtin.Int.intBits n ≤ 2000000) → i ≤ 10 → (∀ r : Nat, k (.int r)) → bodyW f_qlawqmixed C [.list (ns.map PyData.int), .int i] k := by
  intro ns i k hl hb hi hk
  have main : ∀ (n : Int) (ρ : MEnv), Builtin.Int.intBits n ≤ 2000000 → lk ρ 51 = some (.int i) → Xs C (b_qlawqmixed.drop 1) ((0, .int n) :: ρ) (fun _ => False) k := by
    intro n ρ hn h51
    have hB := Big_eq
    have sn : Sm n := by unfold Sm; rw [hB]; omega
    have s1 : Sm 6364136223846793005 := Sm_of (n := 6364136223846793005) (by decide +kernel)
    have s2 : Sm 1442695040888963407 := Sm_of (n := 1442695040888963407) (by decide +kernel)
    have s3 : Sm ((i : Int) + 1) := by
      have := Sm_of (n := i + 1) (Nat.le_trans (bl_mono (by omega : i + 1 ≤ 11)) (by decide))
      exact this
    have hx := bits_spec n
    have hsz : Builtin.Int.intBits (n * 6364136223846793005 + ((i : Int) + 1) * 1442695040888963407) ≤ 2000100 := by
      obtain ⟨N, hN⟩ : ∃ N : Nat, N = 2000000 := ⟨_, rfl⟩
      have e0 : 2000100 = N + 100 := by omega
      rw [e0]
      refine bits_lt ?_
      rw [← hN] at hn
      have h1 : n.natAbs < 2 ^ N := Nat.lt_of_lt_of_le hx (Nat.pow_le_pow_right (by decide) hn)
      have h2 : 2 ^ (N + 100) = 2 ^ N * 2 ^ 100 := by rw [← Nat.pow_add]
      have h3 : (2 : Nat) ^ 100 = 1267650600228229401496703205376 := by decide
      have h4 : 0 < 2 ^ N := pp _
      rw [h2, h3]
      generalize 2 ^ N = P at *
      omega
    simp only [b_qlawqmixed, List.drop, Xs, X, W, Ws, lk, Nat.beq, h51, v_pow, v_cc, v_gv, v_gc, v_ge, v_mul, v_add, v_fdiv, v_mod, sameAll]
    refine ⟨⟨by decide, by decide +kernel⟩, fun h => ?_, fun _ => ?_⟩
    · have h0 : (0 : Int) ≤ n := by
        have : (0 : Int) ≤ 2 ^ (Int.toNat 64) := by decide
        omega
      obtain ⟨r, rfl⟩ : ∃ r : Nat, n = r := ⟨n.toNat, by omega⟩
      exact hk r
    · refine ⟨⟨sn, s1⟩, ⟨s3, s2⟩, ⟨by decide, by omega⟩, ⟨by decide, by decide +kernel⟩, ⟨by decide +kernel, by decide +kernel⟩, ⟨by decide, by decide +kernel⟩, by decide +kernel, ?_⟩
      have hp : (0 : Int) < 2 ^ (Int.toNat 190) := by decide +kernel
      have := Int.fmod_nonneg_of_pos (((n * 6364136223846793005 + ((i : Int) + 1) * 1442695040888963407) ^ (Int.toNat 3)).fdiv (2 ^ (Int.toNat 40))) hp
      have e := Int.toNat_of_nonneg this
      rw [← e]
      exact hk _
  have hlen : (ns.map PyData.int).length < 2 ^ 62 := by rw [List.length_map]; omega
  by_cases hlt : i < ns.length
  · conv => whnf
    refine ⟨hlen, ?_⟩
    conv => whnf
    refine ⟨fun _ => ?_, fun h => by rw [List.length_map] at h; omega⟩
    conv => whnf
    refine ⟨⟨by omega, by omega⟩, ?_⟩
    have e : (ns.map PyData.int)[((i : Nat) : Int).toNat]? = some (.int ns[i]) := by
      have : ((i : Nat) : Int).toNat = i := rfl
      rw [this, List.getElem?_map, List.getElem?_eq_getElem hlt]; rfl
    rw [e]
    exact main _ [(51, .int i), (50, .list (ns.map PyData.int))] (hb _ (List.getElem_mem hlt)) rfl
  · conv => whnf
    refine ⟨hlen, ?_⟩
    conv => whnf
    refine ⟨fun h => by rw [List.length_map] at h; omega, fun _ => ?_⟩
    exact main 0 [(51, .int i), (50, .list (ns.map PyData.int))] (by decide) rfl

noncomputable def SpMade (C : CallW) : Prop := ∀ (n e : Int) (k : PyData → Prop), n.natAbs ≤ 2 ^ 40 → 0 ≤ e + B → k (enc (si (decide (n < 0))) (n.natAbs * 2 ^ sh e)) → C 283 [.int n, .int e] k
theorem w_made (C : CallW) : ∀ (n e : Int) (k : PyData → Prop), n.natAbs ≤ 2 ^ 40 → 0 ≤ e + B → k (enc (si (decide (n < 0))) (n.natAbs * 2 ^ sh e)) → bodyW f_qlawqmade C [.int n, .int e] k := by
  intro n e k hn he hk
  have main : ∀ (m : Nat) (s : Int) (ρ : MEnv), m ≤ 2 ^ 40 → lk ρ 52 = some (.int e) → k (enc s (m * 2 ^ sh e)) → Xs C (b_qlawqmade.drop 1) ((53, .int m) :: (4, .int s) :: ρ) (fun _ => False) k := by
    intro m s ρ hm h52 hk
    have g0 : 0 ≤ (tz m : Int) ∧ (Builtin.Int.intBits 2 : Int) * (tz m : Int) ≤ 2 ^ 27 := by
      have h2 : Builtin.Int.intBits 2 = 2 := by decide
      rw [h2]
      by_cases h0 : m = 0
      · subst h0
        have : tz 0 = 0 := by rw [tz]; simp
        rw [this]; decide
      · have := bl_od h0
        have := bl_mono hm
        have := bl_pow 40
        omega
    simp only [b_qlawqmade, List.drop, Xs, X, W, Ws, lk, Nat.beq, h52, v_pow, v_cc, v_gv, v_gc, v_eq, v_sub, v_add, v_fdiv, v_band, v_neg, v_bits, sameAll]
    refine ⟨fun h => ⟨by decide, ?_⟩, fun h => ?_⟩
    · have : m = 0 := by omega
      subst this
      rw [Nat.zero_mul] at hk
      exact hk
    · have h0 : m ≠ 0 := by omega
      rw [band_neg h0, bits_nat, bl_pow]
      have e1 : ((tz m + 1 : Nat) : Int) - 1 = (tz m : Int) := by omega
      rw [e1]
      have e2 : (m : Int).fdiv (2 ^ ((tz m : Nat) : Int).toNat) = (od m : Int) := shift_nat m (tz m)
      have e3 : ((2 : Int) ^ ((tz m : Nat) : Int).toNat) = ((2 ^ tz m : Nat) : Int) := by push_cast; congr 1
      rw [e2]
      refine ⟨g0, ⟨?_, ?_⟩, by simp, ?_⟩
      · rw [e3]; have := pp (tz m); omega
      · rw [e3, bits_nat, bl_pow]
        have := bl_od h0
        have := bl_mono hm
        have := bl_pow 40
        omega
      · rw [enc_strip h0] at hk
        have e4 : (tz m : Int) + (sh e : Int) - B = e + (tz m : Int) := by unfold sh; omega
        rw [e4, ← bits_nat] at hk
        exact hk
  by_cases h : n < 0
  · obtain ⟨m, rfl⟩ : ∃ m : Nat, n = -(m : Int) := ⟨n.natAbs, by omega⟩
    rw [decide_eq_true h] at hk
    have e1 : (-(m : Int)).natAbs = m := by omega
    have e2 : -(-(m : Int)) = (m : Int) := by omega
    rw [e1] at hk hn
    have := main m 1 [(52, .int e), (0, .int (-(m : Int)))] hn rfl hk
    conv => whnf
    refine ⟨fun _ => ⟨by simp, ?_⟩, fun h2 => by omega⟩
    rw [← e2] at this
    exact this
  · obtain ⟨m, rfl⟩ : ∃ m : Nat, n = (m : Int) := ⟨n.natAbs, by omega⟩
    rw [decide_eq_false h] at hk
    have e1 : ((m : Int)).natAbs = m := by omega
    rw [e1] at hk hn
    have := main m 0 [(52, .int e), (0, .int (m : Int))] hn rfl hk
    conv => whnf
    refine ⟨fun h2 => by omega, fun _ => ⟨by simp, ?_⟩⟩
    exact this

/-- a number as the law's value -/
noncomputable def val (A : Nat) : PyData := .tuple [.int (od A), .int (if A = 0 then 0 else (tz A : Int) - B)]
theorem od0 : od 0 = 0 := by unfold od; simp
noncomputable def SpVal (C : CallW) : Prop := ∀ (A : Nat) (k : PyData → Prop), k (val A) → C 290 [enc 0 A] k
theorem w_val (C : CallW) : ∀ (A : Nat) (k : PyData → Prop), k (val A) → bodyW f_qlawqvalue C [enc 0 A] k := by
  intro A k hk
  unfold val at hk
  by_cases h : A = 0
  · subst h
    rw [if_pos rfl, od0] at hk
    rw [enc_zero]
    repeat (
      conv => whnf
      first
        | refine ⟨fun hs_ => ?_, fun hs_ => by first | (exfalso; omega) | exact absurd hs_ (by decide) | exact absurd rfl hs_ | exact absurd ((eqvB (by omega)).symm.trans hs_) (by decide) | exact absurd ((eqvS (by assumption) (by decide)).symm.trans hs_) (by decide)⟩
        | refine ⟨fun hs_ => by first | (exfalso; omega) | exact absurd hs_ (by decide) | exact absurd rfl hs_ | exact absurd ((eqvB (by omega)).symm.trans hs_) (by decide) | exact absurd ((eqvS (by assumption) (by decide)).symm.trans hs_) (by decide), fun hs_ => ?_⟩
        | refine ⟨by first | decide | omega | assumption | exact ⟨ok4 _ _ _ _, ok4 _ _ _ _⟩ | exact ⟨by assumption, by assumption⟩ | exact ⟨by omega, by omega, by assumption⟩ | exact ⟨sm0, by assumption⟩ | exact ⟨by assumption, sm0⟩ | simp, ?_⟩)
    exact hk
  · rw [if_neg h] at hk
    rw [enc_pos h]
    repeat (
      conv => whnf
      first
        | refine ⟨fun hs_ => ?_, fun hs_ => by first | (exfalso; omega) | exact absurd hs_ (by decide) | exact absurd rfl hs_ | exact absurd ((eqvB (by omega)).symm.trans hs_) (by decide) | exact absurd ((eqvS (by assumption) (by decide)).symm.trans hs_) (by decide)⟩
        | refine ⟨fun hs_ => by first | (exfalso; omega) | exact absurd hs_ (by decide) | exact absurd rfl hs_ | exact absurd ((eqvB (by omega)).symm.trans hs_) (by decide) | exact absurd ((eqvS (by assumption) (by decide)).symm.trans hs_) (by decide), fun hs_ => ?_⟩
        | refine ⟨by first | decide | omega | assumption | exact ⟨ok4 _ _ _ _, ok4 _ _ _ _⟩ | exact ⟨by assumption, by assumption⟩ | exact ⟨by omega, by omega, by assumption⟩ | exact ⟨sm0, by assumption⟩ | exact ⟨by assumption, sm0⟩ | simp, ?_⟩)
    exact hk
noncomputable def SpTimes (C : CallW) : Prop := ∀ (a b c d : Int) (k : PyData → Prop), Sm a → Sm c → k (.tuple [.int (a * c), .int (b + d)]) → C 297 [.tuple [.int a, .int b], .tuple [.int c, .int d]] k
theorem w_times (C : CallW) : ∀ (a b c d : Int) (k : PyData → Prop), Sm a → Sm c → k (.tuple [.int (a * c), .int (b + d)]) → bodyW f_qlawqtimes C [.tuple [.int a, .int b], .tuple [.int c, .int d]] k := by
  intro a b c d k ha hc hk
  repeat (
    conv => whnf
    first
      | refine ⟨fun hs_ => ?_, fun hs_ => by first | (exfalso; omega) | exact absurd hs_ (by decide) | exact absurd rfl hs_ | exact absurd ((eqvB (by omega)).symm.trans hs_) (by decide) | exact absurd ((eqvS (by assumption) (by decide)).symm.trans hs_) (by decide)⟩
      | refine ⟨fun hs_ => by first | (exfalso; omega) | exact absurd hs_ (by decide) | exact absurd rfl hs_ | exact absurd ((eqvB (by omega)).symm.trans hs_) (by decide) | exact absurd ((eqvS (by assumption) (by decide)).symm.trans hs_) (by decide), fun hs_ => ?_⟩
      | refine ⟨by first | decide | omega | assumption | exact ⟨ok4 _ _ _ _, ok4 _ _ _ _⟩ | exact ⟨by assumption, by assumption⟩ | exact ⟨by omega, by omega, by assumption⟩ | exact ⟨sm0, by assumption⟩ | exact ⟨by assumption, sm0⟩ | simp, ?_⟩)
  exact hk
noncomputable def SpLess (C : CallW) : Prop := ∀ (a c i j : Nat) (b d K : Int) (k : PyData → Prop), b + K = i → d + K = j → bl a ≤ 50000 → bl c ≤ 50000 → i ≤ 20000 → j ≤ 20000 → k (.bool (decide (a * 2 ^ i < c * 2 ^ j))) → C 304 [.tuple [.int a, .int b], .tuple [.int c, .int d]] k
theorem w_less (C : CallW) : ∀ (a c i j : Nat) (b d K : Int) (k : PyData → Prop), b + K = i → d + K = j → bl a ≤ 50000 → bl c ≤ 50000 → i ≤ 20000 → j ≤ 20000 → k (.bool (decide (a * 2 ^ i < c * 2 ^ j))) → bodyW f_qlawqless C [.tuple [.int a, .int b], .tuple [.int c, .int d]] k := by
  intro a c i j b d K k hi hj ha hc hi2 hj2 hk
  have sa : Sm (a : Int) := Sm_of (by omega)
  have sc : Sm (c : Int) := Sm_of (by omega)
  obtain ⟨l, hl⟩ : ∃ l : Nat, (l : Int) = (if d < b then d else b) + K ∧ l ≤ i ∧ l ≤ j := by
    refine ⟨((if d < b then d else b) + K).toNat, ?_⟩
    split <;> omega
  have e1 : b - (if d < b then d else b) = ((i - l : Nat) : Int) := by omega
  have e2 : d - (if d < b then d else b) = ((j - l : Nat) : Int) := by omega
  have g1 : 0 ≤ b - (if d < b then d else b) ∧ (Builtin.Int.intBits 2 : Int) * (b - (if d < b then d else b)) ≤ 2 ^ 27 := by
    have h2 : Builtin.Int.intBits 2 = 2 := by decide
    rw [h2, e1]; omega
  have g2 : 0 ≤ d - (if d < b then d else b) ∧ (Builtin.Int.intBits 2 : Int) * (d - (if d < b then d else b)) ≤ 2 ^ 27 := by
    have h2 : Builtin.Int.intBits 2 = 2 := by decide
    rw [h2, e2]; omega
  have p1 : ((2 : Int) ^ (b - (if d < b then d else b)).toNat) = ((2 ^ (i - l) : Nat) : Int) := by rw [e1]; push_cast; congr 1
  have p2 : ((2 : Int) ^ (d - (if d < b then d else b)).toNat) = ((2 ^ (j - l) : Nat) : Int) := by rw [e2]; push_cast; congr 1
  have s1 : Sm ((2 : Int) ^ (b - (if d < b then d else b)).toNat) := by rw [p1]; exact Sm_of (by rw [bl_pow]; omega)
  have s2 : Sm ((2 : Int) ^ (d - (if d < b then d else b)).toNat) := by rw [p2]; exact Sm_of (by rw [bl_pow]; omega)
  have hiff : (a * 2 ^ i < c * 2 ^ j) ↔ (a * 2 ^ (i - l) < c * 2 ^ (j - l)) := by
    have q1 : a * 2 ^ i = a * 2 ^ (i - l) * 2 ^ l := by
      rw [Nat.mul_assoc, ← Nat.pow_add]
      congr 2; omega
    have q2 : c * 2 ^ j = c * 2 ^ (j - l) * 2 ^ l := by
      rw [Nat.mul_assoc, ← Nat.pow_add]
      congr 2; omega
    rw [q1, q2]
    exact Nat.mul_lt_mul_right (pp l)
  have c1 : ((a * 2 ^ (i - l) : Nat) : Int) = (a : Int) * 2 ^ (b - (if d < b then d else b)).toNat := by rw [p1]; push_cast; rfl
  have c2 : ((c * 2 ^ (j - l) : Nat) : Int) = (c : Int) * 2 ^ (d - (if d < b then d else b)).toNat := by rw [p2]; push_cast; rfl
  by_cases hlt : a * 2 ^ i < c * 2 ^ j
  · rw [decide_eq_true hlt] at hk
    have := hiff.mp hlt
    repeat (
      conv => whnf
      first
        | refine ⟨fun hs_ => ?_, fun hs_ => by first | (exfalso; omega) | exact absurd hs_ (by decide) | exact absurd rfl hs_ | exact absurd ((eqvB (by omega)).symm.trans hs_) (by decide) | exact absurd ((eqvS (by assumption) (by decide)).symm.trans hs_) (by decide)⟩
        | refine ⟨fun hs_ => by first | (exfalso; omega) | exact absurd hs_ (by decide) | exact absurd rfl hs_ | exact absurd ((eqvB (by omega)).symm.trans hs_) (by decide) | exact absurd ((eqvS (by assumption) (by decide)).symm.trans hs_) (by decide), fun hs_ => ?_⟩
        | refine ⟨by first | decide | omega | assumption | exact ⟨ok4 _ _ _ _, ok4 _ _ _ _⟩ | exact ⟨by assumption, by assumption⟩ | exact ⟨by omega, by omega, by assumption⟩ | exact ⟨sm0, by assumption⟩ | exact ⟨by assumption, sm0⟩ | simp, ?_⟩)
    exact hk
  · rw [decide_eq_false hlt] at hk
    have : ¬ _ := fun h => hlt (hiff.mpr h)
    repeat (
      conv => whnf
      first
        | refine ⟨fun hs_ => ?_, fun hs_ => by first | (exfalso; omega) | exact absurd hs_ (by decide) | exact absurd rfl hs_ | exact absurd ((eqvB (by omega)).symm.trans hs_) (by decide) | exact absurd ((eqvS (by assumption) (by decide)).symm.trans hs_) (by decide)⟩
        | refine ⟨fun hs_ => by first | (exfalso; omega) | exact absurd hs_ (by decide) | exact absurd rfl hs_ | exact absurd ((eqvB (by omega)).symm.trans hs_) (by decide) | exact absurd ((eqvS (by assumption) (by decide)).symm.trans hs_) (by decide), fun hs_ => ?_⟩
        | refine ⟨by first | decide | omega | assumption | exact ⟨ok4 _ _ _ _, ok4 _ _ _ _⟩ | exact ⟨by assumption, by assumption⟩ | exact ⟨by omega, by omega, by assumption⟩ | exact ⟨sm0, by assumption⟩ | exact ⟨by assumption, sm0⟩ | simp, ?_⟩)
    exact hk
noncomputable def SpLessV (C : CallW) : Prop := ∀ (A D : Nat) (k : PyData → Prop), bl A ≤ 10000 → bl D ≤ 10000 → k (.bool (decide (A < D))) → C 304 [val A, val D] k
theorem less_v (C : CallW) (hL : SpLess C) : SpLessV C := by
  intro A D k hA hD hk
  have hB := B_le
  have key : ∀ X : Nat, bl X ≤ 10000 → ∃ i : Nat, (if X = 0 then 0 else (tz X : Int) - B) + B = i ∧ i ≤ 20000 ∧ bl (od X) ≤ 50000 ∧ od X * 2 ^ i = X := by
    intro X hX
    by_cases h : X = 0
    · subst h
      exact ⟨B, by simp, by omega, by rw [od0]; decide, by rw [od0, Nat.zero_mul]⟩
    · have := bl_od h
      exact ⟨tz X, by rw [if_neg h]; omega, by omega, by omega, od_mul h⟩
  obtain ⟨i, i1, i2, i3, i4⟩ := key A hA
  obtain ⟨j, j1, j2, j3, j4⟩ := key D hD
  refine hL (od A) (od D) i j _ _ B k i1 j1 i3 j3 i2 j2 ?_
  rw [i4, j4]
  exact hk
noncomputable def SpMost (C : CallW) : Prop := ∀ (A D : Nat) (k : PyData → Prop), bl A ≤ 10000 → bl D ≤ 10000 → A ≤ D → k (.bool true) → C 344 [enc 0 A, enc 0 D] k
theorem w_most (C : CallW) (hV : SpVal C) (hL : SpLessV C) : ∀ (A D : Nat) (k : PyData → Prop), bl A ≤ 10000 → bl D ≤ 10000 → A ≤ D → k (.bool true) → bodyW f_qlawqmost C [enc 0 A, enc 0 D] k := by
  intro A D k hA hD hle hk
  refine hV D _ ?_
  refine hV A _ ?_
  refine hL D A _ hD hA ?_
  rw [decide_eq_false (by omega)]
  repeat (
    conv => whnf
    first
      | refine ⟨fun hs_ => ?_, fun hs_ => by first | (exfalso; omega) | exact absurd hs_ (by decide) | exact absurd rfl hs_ | exact absurd ((eqvB (by omega)).symm.trans hs_) (by decide) | exact absurd ((eqvS (by assumption) (by decide)).symm.trans hs_) (by decide)⟩
      | refine ⟨fun hs_ => by first | (exfalso; omega) | exact absurd hs_ (by decide) | exact absurd rfl hs_ | exact absurd ((eqvB (by omega)).symm.trans hs_) (by decide) | exact absurd ((eqvS (by assumption) (by decide)).symm.trans hs_) (by decide), fun hs_ => ?_⟩
      | refine ⟨by first | decide | omega | assumption | exact ⟨ok4 _ _ _ _, ok4 _ _ _ _⟩ | exact ⟨by assumption, by assumption⟩ | exact ⟨by omega, by omega, by assumption⟩ | exact ⟨sm0, by assumption⟩ | exact ⟨by assumption, sm0⟩ | simp, ?_⟩)
  exact hk
noncomputable def SpWithin (C : CallW) : Prop := ∀ (a b c d : Nat) (k : PyData → Prop), bl a ≤ 10000 → bl b ≤ 10000 → bl c ≤ 10000 → bl d ≤ 10000 → c ≤ a → b ≤ d → a ≤ b → k (.bool true) → C 330 [pr a b, pr c d] k
theorem w_within (C : CallW) (hV : SpVal C) (hL : SpLessV C) : ∀ (a b c d : Nat) (k : PyData → Prop), bl a ≤ 10000 → bl b ≤ 10000 → bl c ≤ 10000 → bl d ≤ 10000 → c ≤ a → b ≤ d → a ≤ b → k (.bool true) → bodyW f_qlawqwithin C [pr a b, pr c d] k := by
  intro a b c d k ha hb hc hd h1 h2 h3 hk
  have g0 : ([enc 0 a, enc 0 b] ≠ [] ∧ [enc 0 c, enc 0 d] ≠ [] ∧ [enc 0 a, enc 0 b].length + [enc 0 c, enc 0 d].length ≤ 100) := ⟨by simp, by simp, by simp⟩
  conv => whnf
  refine ⟨g0, ?_⟩
  conv => whnf
  refine ⟨by simp, ?_⟩
  refine hV a _ ⟨rfl, ?_⟩
  refine hV b _ ⟨rfl, ?_⟩
  refine hV c _ ⟨rfl, ?_⟩
  refine hV d _ ⟨rfl, ?_⟩
  refine hL a c _ ha hc ?_
  rw [decide_eq_false (by omega)]
  repeat (
    conv => whnf
    first
      | refine ⟨fun hs_ => ?_, fun hs_ => by first | (exfalso; omega) | exact absurd hs_ (by decide) | exact absurd rfl hs_ | exact absurd ((eqvB (by omega)).symm.trans hs_) (by decide) | exact absurd ((eqvS (by assumption) (by decide)).symm.trans hs_) (by decide)⟩
      | refine ⟨fun hs_ => by first | (exfalso; omega) | exact absurd hs_ (by decide) | exact absurd rfl hs_ | exact absurd ((eqvB (by omega)).symm.trans hs_) (by decide) | exact absurd ((eqvS (by assumption) (by decide)).symm.trans hs_) (by decide), fun hs_ => ?_⟩
      | refine ⟨by first | decide | omega | assumption | exact ⟨ok4 _ _ _ _, ok4 _ _ _ _⟩ | exact ⟨by assumption, by assumption⟩ | exact ⟨by omega, by omega, by assumption⟩ | exact ⟨sm0, by assumption⟩ | exact ⟨by assumption, sm0⟩ | simp, ?_⟩)
  refine hL d b _ hd hb ?_
  rw [decide_eq_false (by omega)]
  repeat (
    conv => whnf
    first
      | refine ⟨fun hs_ => ?_, fun hs_ => by first | (exfalso; omega) | exact absurd hs_ (by decide) | exact absurd rfl hs_ | exact absurd ((eqvB (by omega)).symm.trans hs_) (by decide) | exact absurd ((eqvS (by assumption) (by decide)).symm.trans hs_) (by decide)⟩
      | refine ⟨fun hs_ => by first | (exfalso; omega) | exact absurd hs_ (by decide) | exact absurd rfl hs_ | exact absurd ((eqvB (by omega)).symm.trans hs_) (by decide) | exact absurd ((eqvS (by assumption) (by decide)).symm.trans hs_) (by decide), fun hs_ => ?_⟩
      | refine ⟨by first | decide | omega | assumption | exact ⟨ok4 _ _ _ _, ok4 _ _ _ _⟩ | exact ⟨by assumption, by assumption⟩ | exact ⟨by omega, by omega, by assumption⟩ | exact ⟨sm0, by assumption⟩ | exact ⟨by assumption, sm0⟩ | simp, ?_⟩)
  refine hL b a _ hb ha ?_
  rw [decide_eq_false (by omega)]
  repeat (
    conv => whnf
    first
      | refine ⟨fun hs_ => ?_, fun hs_ => by first | (exfalso; omega) | exact absurd hs_ (by decide) | exact absurd rfl hs_ | exact absurd ((eqvB (by omega)).symm.trans hs_) (by decide) | exact absurd ((eqvS (by assumption) (by decide)).symm.trans hs_) (by decide)⟩
      | refine ⟨fun hs_ => by first | (exfalso; omega) | exact absurd hs_ (by decide) | exact absurd rfl hs_ | exact absurd ((eqvB (by omega)).symm.trans hs_) (by decide) | exact absurd ((eqvS (by assumption) (by decide)).symm.trans hs_) (by decide), fun hs_ => ?_⟩
      | refine ⟨by first | decide | omega | assumption | exact ⟨ok4 _ _ _ _, ok4 _ _ _ _⟩ | exact ⟨by assumption, by assumption⟩ | exact ⟨by omega, by omega, by assumption⟩ | exact ⟨sm0, by assumption⟩ | exact ⟨by assumption, sm0⟩ | simp, ?_⟩)
  exact hk
noncomputable def SpSpan (C : CallW) : Prop := ∀ (x y e : Int) (k : PyData → Prop), x.natAbs ≤ 2 ^ 40 → y.natAbs ≤ 2 ^ 40 → 0 ≤ e + B → k (sprd (decide (x < 0)) (x.natAbs * 2 ^ sh e) (decide (y < 0)) (y.natAbs * 2 ^ sh e)) → C 325 [.tuple [.int x, .int y, .int e]] k
theorem w_span (C : CallW) (hM : SpMade C) : ∀ (x y e : Int) (k : PyData → Prop), x.natAbs ≤ 2 ^ 40 → y.natAbs ≤ 2 ^ 40 → 0 ≤ e + B → k (sprd (decide (x < 0)) (x.natAbs * 2 ^ sh e) (decide (y < 0)) (y.natAbs * 2 ^ sh e)) → bodyW f_qlawqspan C [.tuple [.int x, .int y, .int e]] k := by
  intro x y e k hx hy he hk
  repeat (
    conv => whnf
    first
      | refine ⟨fun hs_ => ?_, fun hs_ => by first | (exfalso; omega) | exact absurd hs_ (by decide) | exact absurd rfl hs_ | exact absurd ((eqvB (by omega)).symm.trans hs_) (by decide) | exact absurd ((eqvS (by assumption) (by decide)).symm.trans hs_) (by decide)⟩
      | refine ⟨fun hs_ => by first | (exfalso; omega) | exact absurd hs_ (by decide) | exact absurd rfl hs_ | exact absurd ((eqvB (by omega)).symm.trans hs_) (by decide) | exact absurd ((eqvS (by assumption) (by decide)).symm.trans hs_) (by decide), fun hs_ => ?_⟩
      | refine ⟨by first | decide | omega | assumption | exact ⟨ok4 _ _ _ _, ok4 _ _ _ _⟩ | exact ⟨by assumption, by assumption⟩ | exact ⟨by omega, by omega, by assumption⟩ | exact ⟨sm0, by assumption⟩ | exact ⟨by assumption, sm0⟩ | simp, ?_⟩)
  refine hM x e _ hx he ?_
  repeat (
    conv => whnf
    first
      | refine ⟨fun hs_ => ?_, fun hs_ => by first | (exfalso; omega) | exact absurd hs_ (by decide) | exact absurd rfl hs_ | exact absurd ((eqvB (by omega)).symm.trans hs_) (by decide) | exact absurd ((eqvS (by assumption) (by decide)).symm.trans hs_) (by decide)⟩
      | refine ⟨fun hs_ => by first | (exfalso; omega) | exact absurd hs_ (by decide) | exact absurd rfl hs_ | exact absurd ((eqvB (by omega)).symm.trans hs_) (by decide) | exact absurd ((eqvS (by assumption) (by decide)).symm.trans hs_) (by decide), fun hs_ => ?_⟩
      | refine ⟨by first | decide | omega | assumption | exact ⟨ok4 _ _ _ _, ok4 _ _ _ _⟩ | exact ⟨by assumption, by assumption⟩ | exact ⟨by omega, by omega, by assumption⟩ | exact ⟨sm0, by assumption⟩ | exact ⟨by assumption, sm0⟩ | simp, ?_⟩)
  refine hM y e _ hy he ?_
  repeat (
    conv => whnf
    first
      | refine ⟨fun hs_ => ?_, fun hs_ => by first | (exfalso; omega) | exact absurd hs_ (by decide) | exact absurd rfl hs_ | exact absurd ((eqvB (by omega)).symm.trans hs_) (by decide) | exact absurd ((eqvS (by assumption) (by decide)).symm.trans hs_) (by decide)⟩
      | refine ⟨fun hs_ => by first | (exfalso; omega) | exact absurd hs_ (by decide) | exact absurd rfl hs_ | exact absurd ((eqvB (by omega)).symm.trans hs_) (by decide) | exact absurd ((eqvS (by assumption) (by decide)).symm.trans hs_) (by decide), fun hs_ => ?_⟩
      | refine ⟨by first | decide | omega | assumption | exact ⟨ok4 _ _ _ _, ok4 _ _ _ _⟩ | exact ⟨by assumption, by assumption⟩ | exact ⟨by omega, by omega, by assumption⟩ | exact ⟨sm0, by assumption⟩ | exact ⟨by assumption, sm0⟩ | simp, ?_⟩)
  exact hk
end Mine

namespace Mine

noncomputable def SpGrid (C : CallW) : Prop := ∀ (g : Nat) (k : PyData → Prop), (∀ (n e : Int) (w : Nat), n.natAbs ≤ 2 ^ 24 → w ≤ 2 ^ 24 → -12 ≤ e → e ≤ 12 → k (.tuple [.int n, .int (n + w), .int e])) → C 311 [.int g] k
theorem pow_nat (x : Int) (w : Nat) (h : x = w) : (2 : Int) ^ x.toNat = ((2 ^ w : Nat) : Int) := by subst h; push_cast; congr 1
theorem w_grid (C : CallW) : ∀ (g : Nat) (k : PyData → Prop), (∀ (n e : Int) (w : Nat), n.natAbs ≤ 2 ^ 24 → w ≤ 2 ^ 24 → -12 ≤ e → e ≤ 12 → k (.tuple [.int n, .int (n + w), .int e])) → bodyW f_qlawqgrid C [.int g] k := by
  intro g k hk
  have i2 : Builtin.Int.intBits 2 = 2 := by decide
  have h1 := Int.fmod_nonneg_of_pos (((g : Int)).fdiv 6) (by decide : (0 : Int) < 25)
  have h2 := Int.fmod_lt_of_pos (((g : Int)).fdiv 6) (by decide : (0 : Int) < 25)
  have h3 := Int.fmod_nonneg_of_pos (((g : Int)).fdiv 150) (by decide : (0 : Int) < 24)
  have h4 := Int.fmod_lt_of_pos (((g : Int)).fdiv 150) (by decide : (0 : Int) < 24)
  have h5 := Int.fmod_nonneg_of_pos (((g : Int)).fdiv (2 ^ (Int.toNat 66))) (by decide : (0 : Int) < 24)
  have h6 := Int.fmod_lt_of_pos (((g : Int)).fdiv (2 ^ (Int.toNat 66))) (by decide : (0 : Int) < 24)
  obtain ⟨w, hw⟩ : ∃ w : Nat, 1 + (((g : Int)).fdiv 150).fmod 24 = w := ⟨(1 + (((g : Int)).fdiv 150).fmod 24).toNat, by omega⟩
  obtain ⟨v, hv⟩ : ∃ v : Nat, 1 + (((g : Int)).fdiv (2 ^ (Int.toNat 66))).fmod 24 = v := ⟨(1 + (((g : Int)).fdiv (2 ^ (Int.toNat 66))).fmod 24).toNat, by omega⟩
  have pw := pow_nat _ w hw
  have pw1 := pow_nat ((1 + (((g : Int)).fdiv 150).fmod 24) - 1) (w - 1) (by omega)
  have pv := pow_nat _ v hv
  have bw : 2 ^ w = 2 * 2 ^ (w - 1) := by rw [← Nat.pow_succ']; congr 1; omega
  have bw2 : 2 ^ (w - 1) ≤ 2 ^ 23 := Nat.pow_le_pow_right (by decide) (by omega)
  have bv2 : 2 ^ v ≤ 2 ^ 24 := Nat.pow_le_pow_right (by decide) (by omega)
  have h7 := Int.fmod_nonneg_of_pos (((g : Int)).fdiv (2 ^ (Int.toNat 13))) (by have := pp w; omega : (0 : Int) < ((2 ^ w : Nat) : Int))
  have h8 := Int.fmod_lt_of_pos (((g : Int)).fdiv (2 ^ (Int.toNat 13))) (by have := pp w; omega : (0 : Int) < ((2 ^ w : Nat) : Int))
  have h9 := Int.fmod_nonneg_of_pos (((g : Int)).fdiv (2 ^ (Int.toNat 40))) (by have := pp v; omega : (0 : Int) < ((2 ^ v : Nat) : Int))
  have h10 := Int.fmod_lt_of_pos (((g : Int)).fdiv (2 ^ (Int.toNat 40))) (by have := pp v; omega : (0 : Int) < ((2 ^ v : Nat) : Int))
  conv => whnf
  refine ⟨by decide, ?_⟩
  conv => whnf
  refine ⟨by decide, ?_⟩
  conv => whnf
  refine ⟨by decide, ?_⟩
  conv => whnf
  refine ⟨by decide, ?_⟩
  conv => whnf
  refine ⟨by decide, ?_⟩
  conv => whnf
  refine ⟨by simp, ?_⟩
  simp only [unpW, setAll, Xs, X, W, Ws, lk, Nat.beq, v_pow, v_cc, v_gv, v_gc, v_eq, v_sub, v_add, v_fdiv, v_mod, v_neg, sameAll]
  rw [pw, pw1, pv, i2, hw, hv]
  generalize ((g : Int).fdiv (2 ^ (Int.toNat 13))).fmod ((2 ^ w : Nat) : Int) = x at *
  generalize ((g : Int).fdiv (2 ^ (Int.toNat 40))).fmod ((2 ^ v : Nat) : Int) = y at *
  generalize ((g : Int).fdiv 6).fmod 25 = z at *
  generalize (g : Int).fmod 6 = t at *
  have hpw := pp w
  have hpv := pp v
  have kk : ∀ n d : Int, n.natAbs ≤ 2 ^ 24 → 0 ≤ d → d ≤ 2 ^ 24 → k (.tuple [.int n, .int (n + d), .int (z - 12)]) := by
    intro n d hn hd hd2
    obtain ⟨m, rfl⟩ : ∃ m : Nat, d = m := ⟨d.toNat, by omega⟩
    exact hk n (z - 12) m hn (by omega) (by omega) (by omega)
  refine ⟨by decide, ⟨by decide, by decide⟩, ⟨by omega, by omega⟩, by omega, ⟨by omega, by omega⟩, by decide, ⟨by decide, by decide⟩, by decide, ⟨by decide, by decide⟩, by decide, ⟨by omega, by omega⟩, by omega, ?_⟩
  refine ⟨by simp, fun _ => ⟨by simp, kk _ _ (by omega) (by omega) (by omega)⟩, fun _ => ⟨fun _ => ⟨by simp, kk _ _ (by omega) (by omega) (by omega)⟩, fun _ => ⟨fun _ => ⟨by simp, kk _ _ (by omega) (by omega) (by omega)⟩, fun _ => ⟨by simp, kk _ _ (by omega) (by omega) (by omega)⟩⟩⟩⟩
noncomputable def SpUp (C : CallW) : Prop := ∀ (g : Nat) (k : PyData → Prop), (∀ (n w : Nat) (e : Int), n ≤ 2 ^ 24 → w ≤ 2 ^ 24 → -12 ≤ e → e ≤ 12 → k (.tuple [.int n, .int ((n + w : Nat) : Int), .int e])) → C 318 [.int g] k
theorem w_up (C : CallW) (hG : SpGrid C) : ∀ (g : Nat) (k : PyData → Prop), (∀ (n w : Nat) (e : Int), n ≤ 2 ^ 24 → w ≤ 2 ^ 24 → -12 ≤ e → e ≤ 12 → k (.tuple [.int n, .int ((n + w : Nat) : Int), .int e])) → bodyW f_qlawqup C [.int g] k := by
  intro g k hk
  refine hG g _ fun n e w hn hw he he2 => ?_
  have ea : (if n < 0 then -n else n) = ((n.natAbs : Nat) : Int) := by split <;> omega
  have := hk n.natAbs w e hn hw he he2
  have e2 : ((n.natAbs + w : Nat) : Int) = ((n.natAbs : Nat) : Int) + (n + w) - n := by omega
  rw [e2, ← ea] at this
  repeat (
    conv => whnf
    first
      | refine ⟨fun hs_ => ?_, fun hs_ => by first | (exfalso; omega) | exact absurd hs_ (by decide) | exact absurd rfl hs_ | exact absurd ((eqvB (by omega)).symm.trans hs_) (by decide) | exact absurd ((eqvS (by assumption) (by decide)).symm.trans hs_) (by decide)⟩
      | refine ⟨fun hs_ => by first | (exfalso; omega) | exact absurd hs_ (by decide) | exact absurd rfl hs_ | exact absurd ((eqvB (by omega)).symm.trans hs_) (by decide) | exact absurd ((eqvS (by assumption) (by decide)).symm.trans hs_) (by decide), fun hs_ => ?_⟩
      | refine ⟨by first | decide | omega | assumption | exact ⟨ok4 _ _ _ _, ok4 _ _ _ _⟩ | exact ⟨by assumption, by assumption⟩ | exact ⟨by omega, by omega, by assumption⟩ | exact ⟨sm0, by assumption⟩ | exact ⟨by assumption, sm0⟩ | simp, ?_⟩)
  exact this
end Mine

namespace Mine

theorem B_eq : B = 1000 := by unfold B; rfl
/-- a scaled number: its least step, its greatest size -/
noncomputable def Rg (c h X : Nat) : Prop := 2 ^ (B - c) ∣ X ∧ X ≤ 2 ^ (B + h)
theorem Rg_mono {c h c' h' X : Nat} (hx : Rg c h X) (h1 : c ≤ c') (h2 : h ≤ h') : Rg c' h' X :=
  ⟨Nat.dvd_trans (Nat.pow_dvd_pow 2 (by omega)) hx.1, Nat.le_trans hx.2 (Nat.pow_le_pow_right (by decide) (by omega))⟩
theorem bl_pw {X h : Nat} (hx : X ≤ 2 ^ h) : bl X ≤ h + 1 := by have := bl_mono hx; rw [bl_pow] at this; exact this
theorem Rg_bl {c h X : Nat} (hx : Rg c h X) : bl X ≤ B + h + 1 := bl_pw hx.2
theorem Rg_made {n : Nat} {e : Int} (hn : n ≤ 2 ^ 25) (h1 : -12 ≤ e) (h2 : e ≤ 12) : Rg 12 37 (n * 2 ^ sh e) := by
  have hB := B_eq
  have hs : (sh e : Int) = e + B := by unfold sh; omega
  refine ⟨Nat.dvd_trans (Nat.pow_dvd_pow 2 (by omega)) (Nat.dvd_mul_left _ _), ?_⟩
  refine Nat.le_trans (Nat.mul_le_mul_right _ hn) ?_
  rw [← Nat.pow_add]
  exact Nat.pow_le_pow_right (by decide) (by omega)
theorem Rg_add {c h X Y : Nat} (hx : Rg c h X) (hy : Rg c h Y) : Rg c (h + 1) (X + Y) := by
  refine ⟨Nat.dvd_add hx.1 hy.1, ?_⟩
  have h1 := hx.2
  have h2 := hy.2
  have e : B + (h + 1) = B + h + 1 := by omega
  rw [e, Nat.pow_succ]
  omega
theorem Rg_dvd {c h X c' h' Y : Nat} (hx : Rg c h X) (hy : Rg c' h' Y) (hc : c + c' ≤ B) : 2 ^ B ∣ X * Y := by
  have := Nat.mul_dvd_mul hx.1 hy.1
  rw [← Nat.pow_add] at this
  exact Nat.dvd_trans (Nat.pow_dvd_pow 2 (by omega)) this
theorem Rg_mul {c h X c' h' Y : Nat} (hx : Rg c h X) (hy : Rg c' h' Y) (hc : c + c' ≤ B) : Rg (c + c') (h + h') (X * Y / 2 ^ B) := by
  refine ⟨?_, ?_⟩
  · have := Nat.mul_dvd_mul hx.1 hy.1
    rw [← Nat.pow_add] at this
    have e : B - c + (B - c') = B - (c + c') + B := by omega
    rw [e, Nat.pow_add] at this
    obtain ⟨q, hq⟩ := this
    rw [hq, Nat.mul_right_comm, Nat.mul_div_cancel _ (pp B)]
    exact Nat.dvd_mul_right _ _
  · have := Nat.mul_le_mul hx.2 hy.2
    rw [← Nat.pow_add] at this
    have e : B + h + (B + h') = B + (h + h') + B := by omega
    rw [e, Nat.pow_add] at this
    exact Nat.div_le_of_le_mul (by rw [Nat.mul_comm (2 ^ B)]; exact this)
theorem Rg_rd {c h X p : Nat} (f : Bool) (hp : 1 ≤ p) (hx : Rg c h X) : Rg c h (Rd f p X) := by
  cases f
  · exact ⟨Ce_dvd hx.1, Ce_bound hp hx.2⟩
  · exact ⟨Fl_dvd hx.1, Fl_bound hx.2⟩
theorem Rg_fl {c h X p : Nat} (hp : 1 ≤ p) (hx : Rg c h X) : Rg c h (Fl p X) := Rg_rd true hp hx
theorem Rg_ce {c h X p : Nat} (hp : 1 ≤ p) (hx : Rg c h X) : Rg c h (Ce p X) := Rg_rd false hp hx
theorem Rg_pos {c h X : Nat} (hx : Rg c h X) (h0 : X ≠ 0) : 2 ^ (B - c) ≤ X := Nat.le_of_dvd (Nat.pos_of_ne_zero h0) hx.1
theorem Pb_dvd {p V c : Nat} (hv : Pb p V) (h : 2 ^ c ≤ V) : 2 ^ (c - p) ∣ V := by
  obtain ⟨m, k, hm, rfl⟩ := hv
  have h1 : m * 2 ^ k < 2 ^ p * 2 ^ k := Nat.mul_lt_mul_of_pos_right hm (pp k)
  rw [← Nat.pow_add] at h1
  have h2 : 2 ^ c < 2 ^ (p + k) := Nat.lt_of_le_of_lt h h1
  have h3 := (Nat.pow_lt_pow_iff_right (by decide : 1 < 2)).mp h2
  exact Nat.dvd_trans (Nat.pow_dvd_pow 2 (by omega)) (Nat.dvd_mul_left _ _)
theorem Rg_rt {f : Bool} {p X V c h : Nat} (hp : 1 ≤ p) (hc : 2 * c ≤ B) (hx : Rg (2 * c) (2 * h) X) (hr : IsRt f p X V) : Rg (c + p) h V := by
  obtain ⟨hpb, hr⟩ := hr
  have zz : Pb p 0 := ⟨0, 0, pp p, rfl⟩
  have up : X * 2 ^ B ≤ 2 ^ (B + h) * 2 ^ (B + h) := by
    have := Nat.mul_le_mul_right (2 ^ B) hx.2
    rw [← Nat.pow_add] at this ⊢
    have e : B + 2 * h + B = B + h + (B + h) := by omega
    rw [e] at this
    exact this
  have hup : V ≤ 2 ^ (B + h) := by
    cases f
    · exact hr.2 _ (Pb_pow hp _) up
    · exact sq_le (Nat.le_trans hr.1 up)
  by_cases h0 : X = 0
  · subst h0
    have hV : V = 0 := by
      cases f
      · exact Nat.le_zero.mp (hr.2 0 zz (by simp))
      · have h1 := hr.1
        rw [Nat.zero_mul] at h1
        exact Nat.le_zero.mp (sq_le (b := 0) h1)
    subst hV
    exact ⟨Nat.dvd_zero _, Nat.zero_le _⟩
  · have hl := Rg_pos hx h0
    have lo : 2 ^ (B - c) * 2 ^ (B - c) ≤ X * 2 ^ B := by
      have := Nat.mul_le_mul_right (2 ^ B) hl
      rw [← Nat.pow_add] at this ⊢
      have e : B - 2 * c + B = B - c + (B - c) := by omega
      rw [e] at this
      exact this
    have hlo : 2 ^ (B - c) ≤ V := by
      cases f
      · exact sq_le (Nat.le_trans lo hr.1)
      · exact hr.2 _ (Pb_pow hp _) lo
    have := Pb_dvd hpb hlo
    have e : B - c - p = B - (c + p) := by omega
    rw [e] at this
    exact ⟨this, hup⟩
theorem Rg_off {c h X Y p : Nat} (hx : Rg c h X) (hy : Rg c h Y) (hch : c + h ≤ 100) (hc : c ≤ B) : OkOff p X Y := by
  by_cases h1 : X = 0
  · exact .inr (.inl h1)
  by_cases h2 : Y = 0
  · exact .inr (.inr (.inl h2))
  have key : ∀ X, X ≠ 0 → Rg c h X → B - c ≤ tz X ∧ tz X ≤ B + h := by
    intro X h0 hx
    refine ⟨dvd_tz h0 hx.1, ?_⟩
    have := Nat.le_trans (tz_le h0) hx.2
    exact (Nat.pow_le_pow_iff_right (by decide : 1 < 2)).mp this
  have k1 := key X h1 hx
  have k2 := key Y h2 hy
  exact .inr (.inr (.inr ⟨by omega, by omega⟩))

/-! what the law asks -/
theorem q_lo {p a u : Nat} (h : IsRt true p a u) : u * u / 2 ^ B ≤ a := Nat.div_le_of_le_mul (by rw [Nat.mul_comm (2 ^ B)]; exact h.2.1)
theorem q_hi {p b v : Nat} (h : IsRt false p b v) : b ≤ v * v / 2 ^ B := (Nat.le_div_iff_mul_le (pp B)).mpr h.2.1
theorem pow4 (x : Nat) : x ^ 4 = x * x * (x * x) := by
  rw [Nat.pow_succ, Nat.pow_succ, Nat.pow_succ, Nat.pow_one]
  simp only [Nat.mul_assoc]
theorem p3B : 2 ^ (3 * B) = 2 ^ B * 2 ^ B * 2 ^ B := by rw [← Nat.pow_add, ← Nat.pow_add]; congr 1 <;> omega
theorem q4_lo {p a u x : Nat} (h : IsRt true p a u) (h2 : IsRt true p u x) : x ^ 4 / 2 ^ (3 * B) ≤ a := by
  refine Nat.div_le_of_le_mul ?_
  have h1 := Nat.mul_le_mul h2.2.1 h2.2.1
  have h3 := Nat.mul_le_mul_right (2 ^ B * 2 ^ B) h.2.1
  rw [pow4, p3B]
  rw [Nat.mul_mul_mul_comm u] at h1
  have e : a * 2 ^ B * (2 ^ B * 2 ^ B) = 2 ^ B * 2 ^ B * 2 ^ B * a := by simp only [Nat.mul_comm, Nat.mul_left_comm, Nat.mul_assoc]
  rw [e] at h3
  exact Nat.le_trans h1 h3
theorem q4_hi {p b v y : Nat} (h : IsRt false p b v) (h2 : IsRt false p v y) : b ≤ y ^ 4 / 2 ^ (3 * B) := by
  refine (Nat.le_div_iff_mul_le (pp _)).mpr ?_
  have h1 := Nat.mul_le_mul h2.2.1 h2.2.1
  have h3 := Nat.mul_le_mul_right (2 ^ B * 2 ^ B) h.2.1
  rw [pow4, p3B]
  rw [Nat.mul_mul_mul_comm v] at h1
  have e : b * 2 ^ B * (2 ^ B * 2 ^ B) = b * (2 ^ B * 2 ^ B * 2 ^ B) := by simp only [Nat.mul_comm, Nat.mul_left_comm, Nat.mul_assoc]
  rw [e] at h3
  exact Nat.le_trans h3 h1
theorem rt_lo {p p' a m u x : Nat} (hp : p ≤ p') (ham : a ≤ m) (h : IsRt true p a u) (h2 : IsRt true p' m x) : u ≤ x :=
  h2.2.2 u (Pb_mono hp h.1) (Nat.le_trans h.2.1 (Nat.mul_le_mul_right _ ham))
theorem rt_hi {p p' b m v y : Nat} (hp : p ≤ p') (ham : m ≤ b) (h : IsRt false p b v) (h2 : IsRt false p' m y) : y ≤ v :=
  h2.2.2 v (Pb_mono hp h.1) (Nat.le_trans (Nat.mul_le_mul_right _ ham) h.2.1)
theorem rt_ord {p p' a b u v : Nat} (hab : a ≤ b) (h : IsRt true p a u) (h2 : IsRt false p' b v) : u ≤ v :=
  sq_le (Nat.le_trans h.2.1 (Nat.le_trans (Nat.mul_le_mul_right _ hab) h2.2.1))
theorem rt_sum {p b d v w V : Nat} (hp : 1 ≤ p) (h : IsRt false p b v) (h2 : IsRt false p d w) (h3 : IsRt false p (b + d) V) : V ≤ Ce p (v + w) := by
  refine h3.2.2 _ (Ce_pb hp) ?_
  have h4 := @Ce_ge p (v + w)
  have h5 := Nat.mul_le_mul h4 h4
  refine Nat.le_trans ?_ h5
  have := h.2.1
  have := h2.2.1
  rw [Nat.add_mul, Nat.add_mul, Nat.mul_add, Nat.mul_add]
  omega
theorem rt_mul_lo {p a c u x L : Nat} (hp : 1 ≤ p) (hd : 2 ^ B ∣ a * c) (h : IsRt true p a u) (h2 : IsRt true p c x) (h3 : IsRt true p (a * c / 2 ^ B) L) : Fl p (u * x / 2 ^ B) ≤ L := by
  refine h3.2.2 _ Fl_pb ?_
  rw [Nat.div_mul_cancel hd]
  have h4 := @Fl_le p (u * x / 2 ^ B)
  refine Nat.le_trans (Nat.mul_le_mul h4 h4) ?_
  have h5 := Nat.div_mul_le_self (u * x) (2 ^ B)
  have h6 := Nat.mul_le_mul h5 h5
  have h7 := Nat.mul_le_mul h.2.1 h2.2.1
  rw [Nat.mul_mul_mul_comm u] at h7
  rw [Nat.mul_mul_mul_comm a] at h7
  rw [Nat.mul_mul_mul_comm] at h6
  exact Nat.le_of_mul_le_mul_right (Nat.le_trans h6 h7) (Nat.mul_pos (pp B) (pp B))
theorem rt_mul_hi {p b d v y H : Nat} (hp : 1 ≤ p) (hd : 2 ^ B ∣ b * d) (hd2 : 2 ^ B ∣ v * y) (h : IsRt false p b v) (h2 : IsRt false p d y) (h3 : IsRt false p (b * d / 2 ^ B) H) : H ≤ Ce p (v * y / 2 ^ B) := by
  refine h3.2.2 _ (Ce_pb hp) ?_
  rw [Nat.div_mul_cancel hd]
  have h4 := @Ce_ge p (v * y / 2 ^ B)
  refine Nat.le_trans ?_ (Nat.mul_le_mul h4 h4)
  have h5 := Nat.div_mul_cancel hd2
  have h7 := Nat.mul_le_mul h.2.1 h2.2.1
  rw [Nat.mul_mul_mul_comm v] at h7
  rw [Nat.mul_mul_mul_comm b] at h7
  rw [← h5, Nat.mul_mul_mul_comm (v * y / 2 ^ B) (2 ^ B)] at h7
  exact Nat.le_of_mul_le_mul_right h7 (Nat.mul_pos (pp B) (pp B))
theorem half_mul {s : Nat} (hB : 1 ≤ B) : s * 2 ^ (B - 1) / 2 ^ B = s / 2 := by
  have e : 2 ^ B = 2 * 2 ^ (B - 1) := by rw [← Nat.pow_succ']; congr 1 <;> omega
  rw [e, Nat.mul_comm 2]
  rw [Nat.mul_comm s, Nat.mul_div_mul_left _ _ (pp _)]
theorem rt_mid_lo {p a c L : Nat} (hp : 1 ≤ p) (hd : 2 ^ B ∣ a * c) (h3 : IsRt true p (a * c / 2 ^ B) L) : L ≤ Fl p ((a + c) / 2) := by
  refine Fl_max hp h3.1 ?_
  have h1 := h3.2.1
  rw [Nat.div_mul_cancel hd] at h1
  have h2 := amgm a c
  have h4 : (2 * L) * (2 * L) ≤ (a + c) * (a + c) := by
    rw [Nat.mul_mul_mul_comm]; omega
  have := sq_le h4
  omega
theorem rt_mid_hi {p b d H : Nat} (hp : 1 ≤ p) (he : 2 ∣ b + d) (hd : 2 ^ B ∣ b * d) (h3 : IsRt false p (b * d / 2 ^ B) H) : H ≤ Ce p ((b + d) / 2) := by
  refine h3.2.2 _ (Ce_pb hp) ?_
  rw [Nat.div_mul_cancel hd]
  have h4 := @Ce_ge p ((b + d) / 2)
  refine Nat.le_trans ?_ (Nat.mul_le_mul h4 h4)
  have h2 := amgm b d
  obtain ⟨q, hq⟩ := he
  rw [hq] at h2 ⊢
  have e : 2 * q / 2 = q := by omega
  rw [e]
  rw [Nat.mul_mul_mul_comm] at h2
  omega
theorem rt_sq {f : Bool} {p m V : Nat} (hp : 1 ≤ p) (hd : 2 ^ B ∣ m * m) (h : IsRt f p (m * m / 2 ^ B) V) : V = Rd f p m := by
  obtain ⟨hb, h⟩ := h
  cases f
  · rw [Nat.div_mul_cancel hd] at h
    exact Nat.le_antisymm (h.2 _ (Ce_pb hp) (Nat.mul_le_mul Ce_ge Ce_ge)) (Ce_min hp hb (sq_le h.1))
  · rw [Nat.div_mul_cancel hd] at h
    exact Nat.le_antisymm (Fl_max hp hb (sq_le h.1)) (h.2 _ Fl_pb (Nat.mul_le_mul Fl_le Fl_le))
end Mine

namespace Mine

structure Sps (C : CallW) : Prop where
  mix : SpMix C
  made : SpMade C
  val : SpVal C
  times : SpTimes C
  less : SpLess C
  grid : SpGrid C
  up : SpUp C
  span : SpSpan C
  within : SpWithin C
  most : SpMost C
  isqrt : SpISqrt C
  ipos : SpIPos C
  isq : SpISq C
  isqs : SpISqS C
  imul : SpIMul C
  imul2 : SpIMul2 C
  iadd : SpIAdd C
  iadd2 : SpIAdd2 C
  ipow : SpIPow C
  iabs : SpIAbs C
  ineg : SpINeg C

theorem ok_enc2 (a b : Nat) : okEq (pr a b) = true := by
  unfold pr
  obtain ⟨a1, b1, c1, d1, e, h⟩ := enc_shape 0 a
  obtain ⟨a1', b1', c1', d1', e', h'⟩ := enc_shape 0 b
  rw [e, e']
  simp [okEq, SeqAt.shaped, PyData.canLay0, PyData.depth, PyData.canLayAll0, PyData.depthAll]
theorem eqv_pr (a b : Nat) : PyData.eqv (pr a b) (pr a b) = true := by
  unfold pr
  obtain ⟨a1, b1, c1, d1, e, h⟩ := enc_shape 0 a
  obtain ⟨a1', b1', c1', d1', e', h'⟩ := enc_shape 0 b
  rw [e, e']
  simp [PyData.eqv, PyData.eqvAll]

theorem Rd0_pos {f : Bool} {p X : Nat} (hp : 1 ≤ p) : Rd0 f p X = Rd f p X := by unfold Rd0; rw [if_neg (by omega)]

theorem law_pure (C : CallW) (S : Sps C) (ns : List Int) (hl : ns.length ≤ 63) (hb : ∀ n ∈ ns, Builtin.Int.intBits n ≤ 2000000) (K : MEnv → Prop) (kr : PyData → Prop)
    (hK : ∀ (ρ : MEnv) (p h a b A D : Nat) (e : Int) (nD : Bool), 1 ≤ p → p ≤ 60 → A ≠ 0 → h ≤ 2 ^ 25 → -12 ≤ e → e ≤ 12 → lk ρ 80 = some (sprd true A nD D) → lk ρ 8 = some (.int p) → lk ρ 11 = some (pr a b) → lk ρ 59 = some (.int h) → lk ρ 52 = some (.int e) → K ρ) :
    Xs C (b_law.take 19) [(50, .list (ns.map PyData.int))] K kr := by
  have hB := B_eq
  refine S.mix ns 0 _ hl hb (by omega) fun r0 => ?_
  conv => whnf
  refine ⟨by decide, ?_⟩
  obtain ⟨p, hpe⟩ : ∃ p : Nat, 1 + (r0 : Int).fmod 60 = p := by
    have := Int.fmod_nonneg_of_pos (r0 : Int) (by decide : (0 : Int) < 60)
    exact ⟨(1 + (r0 : Int).fmod 60).toNat, by omega⟩
  have hp : 1 ≤ p := by
    have := Int.fmod_nonneg_of_pos (r0 : Int) (by decide : (0 : Int) < 60)
    omega
  have hp2 : p ≤ 60 := by
    have := Int.fmod_lt_of_pos (r0 : Int) (by decide : (0 : Int) < 60)
    omega
  conv => whnf
  rw [hpe]
  repeat (
    conv => whnf
    first
      | refine ⟨fun hs_ => ?_, fun hs_ => by first | (exfalso; omega) | exact absurd hs_ (by decide) | exact absurd rfl hs_ | exact absurd ((eqvB (by omega)).symm.trans hs_) (by decide) | exact absurd ((eqvS (by assumption) (by decide)).symm.trans hs_) (by decide)⟩
      | refine ⟨fun hs_ => by first | (exfalso; omega) | exact absurd hs_ (by decide) | exact absurd rfl hs_ | exact absurd ((eqvB (by omega)).symm.trans hs_) (by decide) | exact absurd ((eqvS (by assumption) (by decide)).symm.trans hs_) (by decide), fun hs_ => ?_⟩
      | refine ⟨by first | decide | omega | assumption | exact ⟨ok4 _ _ _ _, ok4 _ _ _ _⟩ | exact ⟨by assumption, by assumption⟩ | exact ⟨by omega, by omega, by assumption⟩ | exact ⟨sm0, by assumption⟩ | exact ⟨by assumption, sm0⟩ | simp, ?_⟩)
  refine S.mix ns 1 _ hl hb (by omega) fun r1 => ?_
  repeat (
    conv => whnf
    first
      | refine ⟨fun hs_ => ?_, fun hs_ => by first | (exfalso; omega) | exact absurd hs_ (by decide) | exact absurd rfl hs_ | exact absurd ((eqvB (by omega)).symm.trans hs_) (by decide) | exact absurd ((eqvS (by assumption) (by decide)).symm.trans hs_) (by decide)⟩
      | refine ⟨fun hs_ => by first | (exfalso; omega) | exact absurd hs_ (by decide) | exact absurd rfl hs_ | exact absurd ((eqvB (by omega)).symm.trans hs_) (by decide) | exact absurd ((eqvS (by assumption) (by decide)).symm.trans hs_) (by decide), fun hs_ => ?_⟩
      | refine ⟨by first | decide | omega | assumption | exact ⟨ok4 _ _ _ _, ok4 _ _ _ _⟩ | exact ⟨by assumption, by assumption⟩ | exact ⟨by omega, by omega, by assumption⟩ | exact ⟨sm0, by assumption⟩ | exact ⟨by assumption, sm0⟩ | simp, ?_⟩)
  refine S.up r1 _ fun n w e hn hw he1 he2 => ?_
  repeat (
    conv => whnf
    first
      | refine ⟨fun hs_ => ?_, fun hs_ => by first | (exfalso; omega) | exact absurd hs_ (by decide) | exact absurd rfl hs_ | exact absurd ((eqvB (by omega)).symm.trans hs_) (by decide) | exact absurd ((eqvS (by assumption) (by decide)).symm.trans hs_) (by decide)⟩
      | refine ⟨fun hs_ => by first | (exfalso; omega) | exact absurd hs_ (by decide) | exact absurd rfl hs_ | exact absurd ((eqvB (by omega)).symm.trans hs_) (by decide) | exact absurd ((eqvS (by assumption) (by decide)).symm.trans hs_) (by decide), fun hs_ => ?_⟩
      | refine ⟨by first | decide | omega | assumption | exact ⟨ok4 _ _ _ _, ok4 _ _ _ _⟩ | exact ⟨by assumption, by assumption⟩ | exact ⟨by omega, by omega, by assumption⟩ | exact ⟨sm0, by assumption⟩ | exact ⟨by assumption, sm0⟩ | simp, ?_⟩)
  refine S.span n ((n + w : Nat) : Int) e _ (by omega) (by omega) (by omega) ?_
  repeat (
    conv => whnf
    first
      | refine ⟨fun hs_ => ?_, fun hs_ => by first | (exfalso; omega) | exact absurd hs_ (by decide) | exact absurd rfl hs_ | exact absurd ((eqvB (by omega)).symm.trans hs_) (by decide) | exact absurd ((eqvS (by assumption) (by decide)).symm.trans hs_) (by decide)⟩
      | refine ⟨fun hs_ => by first | (exfalso; omega) | exact absurd hs_ (by decide) | exact absurd rfl hs_ | exact absurd ((eqvB (by omega)).symm.trans hs_) (by decide) | exact absurd ((eqvS (by assumption) (by decide)).symm.trans hs_) (by decide), fun hs_ => ?_⟩
      | refine ⟨by first | decide | omega | assumption | exact ⟨ok4 _ _ _ _, ok4 _ _ _ _⟩ | exact ⟨by assumption, by assumption⟩ | exact ⟨by omega, by omega, by assumption⟩ | exact ⟨sm0, by assumption⟩ | exact ⟨by assumption, sm0⟩ | simp, ?_⟩)
  refine S.mix ns 2 _ hl hb (by omega) fun r2 => ?_
  repeat (
    conv => whnf
    first
      | refine ⟨fun hs_ => ?_, fun hs_ => by first | (exfalso; omega) | exact absurd hs_ (by decide) | exact absurd rfl hs_ | exact absurd ((eqvB (by omega)).symm.trans hs_) (by decide) | exact absurd ((eqvS (by assumption) (by decide)).symm.trans hs_) (by decide)⟩
      | refine ⟨fun hs_ => by first | (exfalso; omega) | exact absurd hs_ (by decide) | exact absurd rfl hs_ | exact absurd ((eqvB (by omega)).symm.trans hs_) (by decide) | exact absurd ((eqvS (by assumption) (by decide)).symm.trans hs_) (by decide), fun hs_ => ?_⟩
      | refine ⟨by first | decide | omega | assumption | exact ⟨ok4 _ _ _ _, ok4 _ _ _ _⟩ | exact ⟨by assumption, by assumption⟩ | exact ⟨by omega, by omega, by assumption⟩ | exact ⟨sm0, by assumption⟩ | exact ⟨by assumption, sm0⟩ | simp, ?_⟩)
  refine S.up r2 _ fun n' w' e' hn' hw' he1' he2' => ?_
  repeat (
    conv => whnf
    first
      | refine ⟨fun hs_ => ?_, fun hs_ => by first | (exfalso; omega) | exact absurd hs_ (by decide) | exact absurd rfl hs_ | exact absurd ((eqvB (by omega)).symm.trans hs_) (by decide) | exact absurd ((eqvS (by assumption) (by decide)).symm.trans hs_) (by decide)⟩
      | refine ⟨fun hs_ => by first | (exfalso; omega) | exact absurd hs_ (by decide) | exact absurd rfl hs_ | exact absurd ((eqvB (by omega)).symm.trans hs_) (by decide) | exact absurd ((eqvS (by assumption) (by decide)).symm.trans hs_) (by decide), fun hs_ => ?_⟩
      | refine ⟨by first | decide | omega | assumption | exact ⟨ok4 _ _ _ _, ok4 _ _ _ _⟩ | exact ⟨by assumption, by assumption⟩ | exact ⟨by omega, by omega, by assumption⟩ | exact ⟨sm0, by assumption⟩ | exact ⟨by assumption, sm0⟩ | simp, ?_⟩)
  refine S.span n' ((n' + w' : Nat) : Int) e' _ (by omega) (by omega) (by omega) ?_
  have dn : ∀ m : Nat, decide ((m : Int) < 0) = false := fun m => decide_eq_false (by omega)
  have na : ∀ m : Nat, (m : Int).natAbs = m := fun m => by omega
  rw [dn, dn, dn, dn, na, na, na, na]
  generalize ha : n * 2 ^ sh e = a
  generalize hb' : (n + w) * 2 ^ sh e = b
  generalize hc : n' * 2 ^ sh e' = c
  generalize hd : (n' + w') * 2 ^ sh e' = d
  have Ra : Rg 12 37 a := by rw [← ha]; exact Rg_made (by omega) he1 he2
  have Rb : Rg 12 37 b := by rw [← hb']; exact Rg_made (by omega) he1 he2
  have Rc : Rg 12 37 c := by rw [← hc]; exact Rg_made (by omega) he1' he2'
  have Rd' : Rg 12 37 d := by rw [← hd]; exact Rg_made (by omega) he1' he2'
  have hab : a ≤ b := by rw [← ha, ← hb']; exact Nat.mul_le_mul_right _ (by omega)
  have hcd : c ≤ d := by rw [← hc, ← hd]; exact Nat.mul_le_mul_right _ (by omega)
  repeat (
    conv => whnf
    first
      | refine ⟨fun hs_ => ?_, fun hs_ => by first | (exfalso; omega) | exact absurd hs_ (by decide) | exact absurd rfl hs_ | exact absurd ((eqvB (by omega)).symm.trans hs_) (by decide) | exact absurd ((eqvS (by assumption) (by decide)).symm.trans hs_) (by decide)⟩
      | refine ⟨fun hs_ => by first | (exfalso; omega) | exact absurd hs_ (by decide) | exact absurd rfl hs_ | exact absurd ((eqvB (by omega)).symm.trans hs_) (by decide) | exact absurd ((eqvS (by assumption) (by decide)).symm.trans hs_) (by decide), fun hs_ => ?_⟩
      | refine ⟨by first | decide | omega | assumption | exact ⟨ok4 _ _ _ _, ok4 _ _ _ _⟩ | exact ⟨by assumption, by assumption⟩ | exact ⟨by omega, by omega, by assumption⟩ | exact ⟨sm0, by assumption⟩ | exact ⟨by assumption, sm0⟩ | simp, ?_⟩)
  refine S.mix ns 3 _ hl hb (by omega) fun r3 => ?_
  repeat (
    conv => whnf
    first
      | refine ⟨fun hs_ => ?_, fun hs_ => by first | (exfalso; omega) | exact absurd hs_ (by decide) | exact absurd rfl hs_ | exact absurd ((eqvB (by omega)).symm.trans hs_) (by decide) | exact absurd ((eqvS (by assumption) (by decide)).symm.trans hs_) (by decide)⟩
      | refine ⟨fun hs_ => by first | (exfalso; omega) | exact absurd hs_ (by decide) | exact absurd rfl hs_ | exact absurd ((eqvB (by omega)).symm.trans hs_) (by decide) | exact absurd ((eqvS (by assumption) (by decide)).symm.trans hs_) (by decide), fun hs_ => ?_⟩
      | refine ⟨by first | decide | omega | assumption | exact ⟨ok4 _ _ _ _, ok4 _ _ _ _⟩ | exact ⟨by assumption, by assumption⟩ | exact ⟨by omega, by omega, by assumption⟩ | exact ⟨sm0, by assumption⟩ | exact ⟨by assumption, sm0⟩ | simp, ?_⟩)
  refine S.grid r3 _ fun nv ev wv hnv hwv hev1 hev2 => ?_
  repeat (
    conv => whnf
    first
      | refine ⟨fun hs_ => ?_, fun hs_ => by first | (exfalso; omega) | exact absurd hs_ (by decide) | exact absurd rfl hs_ | exact absurd ((eqvB (by omega)).symm.trans hs_) (by decide) | exact absurd ((eqvS (by assumption) (by decide)).symm.trans hs_) (by decide)⟩
      | refine ⟨fun hs_ => by first | (exfalso; omega) | exact absurd hs_ (by decide) | exact absurd rfl hs_ | exact absurd ((eqvB (by omega)).symm.trans hs_) (by decide) | exact absurd ((eqvS (by assumption) (by decide)).symm.trans hs_) (by decide), fun hs_ => ?_⟩
      | refine ⟨by first | decide | omega | assumption | exact ⟨ok4 _ _ _ _, ok4 _ _ _ _⟩ | exact ⟨by assumption, by assumption⟩ | exact ⟨by omega, by omega, by assumption⟩ | exact ⟨sm0, by assumption⟩ | exact ⟨by assumption, sm0⟩ | simp, ?_⟩)
  refine S.span nv (nv + wv) ev _ (by omega) (by omega) (by omega) ?_
  have hB1 : 1 ≤ B := by omega
  have shm : sh (-1) = B - 1 := by unfold sh; omega
  have eh : enc (si (decide ((1 : Int) < 0))) (Int.natAbs 1 * 2 ^ sh (-1)) = enc 0 (2 ^ (B - 1)) := by
    have e0 : si (decide ((1 : Int) < 0)) = 0 := by decide
    have e1 : Int.natAbs 1 = 1 := rfl
    rw [shm, e0, e1, Nat.one_mul]
  repeat (
    conv => whnf
    first
      | refine ⟨fun hs_ => ?_, fun hs_ => by first | (exfalso; omega) | exact absurd hs_ (by decide) | exact absurd rfl hs_ | exact absurd ((eqvB (by omega)).symm.trans hs_) (by decide) | exact absurd ((eqvS (by assumption) (by decide)).symm.trans hs_) (by decide)⟩
      | refine ⟨fun hs_ => by first | (exfalso; omega) | exact absurd hs_ (by decide) | exact absurd rfl hs_ | exact absurd ((eqvB (by omega)).symm.trans hs_) (by decide) | exact absurd ((eqvS (by assumption) (by decide)).symm.trans hs_) (by decide), fun hs_ => ?_⟩
      | refine ⟨by first | decide | omega | assumption | exact ⟨ok4 _ _ _ _, ok4 _ _ _ _⟩ | exact ⟨by assumption, by assumption⟩ | exact ⟨by omega, by omega, by assumption⟩ | exact ⟨sm0, by assumption⟩ | exact ⟨by assumption, sm0⟩ | simp, ?_⟩)
  refine S.made 1 (-1) _ (by decide) (by omega) ?_
  rw [eh]
  repeat (
    conv => whnf
    first
      | refine ⟨fun hs_ => ?_, fun hs_ => by first | (exfalso; omega) | exact absurd hs_ (by decide) | exact absurd rfl hs_ | exact absurd ((eqvB (by omega)).symm.trans hs_) (by decide) | exact absurd ((eqvS (by assumption) (by decide)).symm.trans hs_) (by decide)⟩
      | refine ⟨fun hs_ => by first | (exfalso; omega) | exact absurd hs_ (by decide) | exact absurd rfl hs_ | exact absurd ((eqvB (by omega)).symm.trans hs_) (by decide) | exact absurd ((eqvS (by assumption) (by decide)).symm.trans hs_) (by decide), fun hs_ => ?_⟩
      | refine ⟨by first | decide | omega | assumption | exact ⟨ok4 _ _ _ _, ok4 _ _ _ _⟩ | exact ⟨by assumption, by assumption⟩ | exact ⟨by omega, by omega, by assumption⟩ | exact ⟨sm0, by assumption⟩ | exact ⟨by assumption, sm0⟩ | simp, ?_⟩)
  refine S.isqrt a b p _ hp (by omega) (by have := Rg_bl Ra; omega) (by have := Rg_bl Rb; omega) fun u v hu hv => ?_
  repeat (
    conv => whnf
    first
      | refine ⟨fun hs_ => ?_, fun hs_ => by first | (exfalso; omega) | exact absurd hs_ (by decide) | exact absurd rfl hs_ | exact absurd ((eqvB (by omega)).symm.trans hs_) (by decide) | exact absurd ((eqvS (by assumption) (by decide)).symm.trans hs_) (by decide)⟩
      | refine ⟨fun hs_ => by first | (exfalso; omega) | exact absurd hs_ (by decide) | exact absurd rfl hs_ | exact absurd ((eqvB (by omega)).symm.trans hs_) (by decide) | exact absurd ((eqvS (by assumption) (by decide)).symm.trans hs_) (by decide), fun hs_ => ?_⟩
      | refine ⟨by first | decide | omega | assumption | exact ⟨ok4 _ _ _ _, ok4 _ _ _ _⟩ | exact ⟨by assumption, by assumption⟩ | exact ⟨by omega, by omega, by assumption⟩ | exact ⟨sm0, by assumption⟩ | exact ⟨by assumption, sm0⟩ | simp, ?_⟩)
  refine S.isqrt c d p _ hp (by omega) (by have := Rg_bl Rc; omega) (by have := Rg_bl Rd'; omega) fun x y hx hy => ?_
  repeat (
    conv => whnf
    first
      | refine ⟨fun hs_ => ?_, fun hs_ => by first | (exfalso; omega) | exact absurd hs_ (by decide) | exact absurd rfl hs_ | exact absurd ((eqvB (by omega)).symm.trans hs_) (by decide) | exact absurd ((eqvS (by assumption) (by decide)).symm.trans hs_) (by decide)⟩
      | refine ⟨fun hs_ => by first | (exfalso; omega) | exact absurd hs_ (by decide) | exact absurd rfl hs_ | exact absurd ((eqvB (by omega)).symm.trans hs_) (by decide) | exact absurd ((eqvS (by assumption) (by decide)).symm.trans hs_) (by decide), fun hs_ => ?_⟩
      | refine ⟨by first | decide | omega | assumption | exact ⟨ok4 _ _ _ _, ok4 _ _ _ _⟩ | exact ⟨by assumption, by assumption⟩ | exact ⟨by omega, by omega, by assumption⟩ | exact ⟨sm0, by assumption⟩ | exact ⟨by assumption, sm0⟩ | simp, ?_⟩)
  refine S.ipos a b p _ hp ?_
  have Ru : Rg 66 19 u := Rg_mono (Rg_rt (c := 6) (h := 19) hp (by omega) (Rg_mono Ra (by omega) (by omega)) hu) (by omega) (by omega)
  have Rv : Rg 66 19 v := Rg_mono (Rg_rt (c := 6) (h := 19) hp (by omega) (Rg_mono Rb (by omega) (by omega)) hv) (by omega) (by omega)
  have Rx : Rg 66 19 x := Rg_mono (Rg_rt (c := 6) (h := 19) hp (by omega) (Rg_mono Rc (by omega) (by omega)) hx) (by omega) (by omega)
  have Ry : Rg 66 19 y := Rg_mono (Rg_rt (c := 6) (h := 19) hp (by omega) (Rg_mono Rd' (by omega) (by omega)) hy) (by omega) (by omega)
  have bu := Rg_bl Ru
  have bv := Rg_bl Rv
  have bx := Rg_bl Rx
  have by_ := Rg_bl Ry
  have ba := Rg_bl Ra
  have bb := Rg_bl Rb
  have bc := Rg_bl Rc
  have bd := Rg_bl Rd'
  have duu : 2 ^ B ∣ u * u := Rg_dvd Ru Ru (by omega)
  have dvv : 2 ^ B ∣ v * v := Rg_dvd Rv Rv (by omega)
  repeat (
    conv => whnf
    first
      | refine ⟨fun hs_ => ?_, fun hs_ => by first | (exfalso; omega) | exact absurd hs_ (by decide) | exact absurd rfl hs_ | exact absurd ((eqvB (by omega)).symm.trans hs_) (by decide) | exact absurd ((eqvS (by assumption) (by decide)).symm.trans hs_) (by decide)⟩
      | refine ⟨fun hs_ => by first | (exfalso; omega) | exact absurd hs_ (by decide) | exact absurd rfl hs_ | exact absurd ((eqvB (by omega)).symm.trans hs_) (by decide) | exact absurd ((eqvS (by assumption) (by decide)).symm.trans hs_) (by decide), fun hs_ => ?_⟩
      | refine ⟨by first | decide | omega | assumption | exact ⟨ok4 _ _ _ _, ok4 _ _ _ _⟩ | exact ⟨by assumption, by assumption⟩ | exact ⟨by omega, by omega, by assumption⟩ | exact ⟨sm0, by assumption⟩ | exact ⟨by assumption, sm0⟩ | simp, ?_⟩)
  refine S.isq u v p _ (by omega) (by omega) duu dvv ?_
  rw [Rd0_pos hp, Rd0_pos hp]
  have RFa := Rg_fl hp Ra
  have RCb := Rg_ce hp Rb
  have Ruu := Rg_mul Ru Ru (by omega)
  have Rvv := Rg_mul Rv Rv (by omega)
  have RFuu := Rg_fl hp Ruu
  have RCvv := Rg_ce hp Rvv
  have b1 := Rg_bl RFa
  have b2 := Rg_bl RCb
  have b3 := Rg_bl RFuu
  have b4 := Rg_bl RCvv
  have o1 : Fl p a ≤ Ce p b := Nat.le_trans Fl_le (Nat.le_trans hab Ce_ge)
  repeat (
    conv => whnf
    first
      | refine ⟨fun hs_ => ?_, fun hs_ => by first | (exfalso; omega) | exact absurd hs_ (by decide) | exact absurd rfl hs_ | exact absurd ((eqvB (by omega)).symm.trans hs_) (by decide) | exact absurd ((eqvS (by assumption) (by decide)).symm.trans hs_) (by decide)⟩
      | refine ⟨fun hs_ => by first | (exfalso; omega) | exact absurd hs_ (by decide) | exact absurd rfl hs_ | exact absurd ((eqvB (by omega)).symm.trans hs_) (by decide) | exact absurd ((eqvS (by assumption) (by decide)).symm.trans hs_) (by decide), fun hs_ => ?_⟩
      | refine ⟨by first | decide | omega | assumption | exact ⟨ok4 _ _ _ _, ok4 _ _ _ _⟩ | exact ⟨by assumption, by assumption⟩ | exact ⟨by omega, by omega, by assumption⟩ | exact ⟨sm0, by assumption⟩ | exact ⟨by assumption, sm0⟩ | simp, ?_⟩)
  refine S.within (Fl p a) (Ce p b) (Fl p (u * u / 2 ^ B)) (Ce p (v * v / 2 ^ B)) _ (by omega) (by omega) (by omega) (by omega) (Fl_mono hp (q_lo hu)) (Ce_mono hp (q_hi hv)) o1 ?_
  repeat (
    conv => whnf
    first
      | refine ⟨fun hs_ => ?_, fun hs_ => by first | (exfalso; omega) | exact absurd hs_ (by decide) | exact absurd rfl hs_ | exact absurd ((eqvB (by omega)).symm.trans hs_) (by decide) | exact absurd ((eqvS (by assumption) (by decide)).symm.trans hs_) (by decide)⟩
      | refine ⟨fun hs_ => by first | (exfalso; omega) | exact absurd hs_ (by decide) | exact absurd rfl hs_ | exact absurd ((eqvB (by omega)).symm.trans hs_) (by decide) | exact absurd ((eqvS (by assumption) (by decide)).symm.trans hs_) (by decide), fun hs_ => ?_⟩
      | refine ⟨by first | decide | omega | assumption | exact ⟨ok4 _ _ _ _, ok4 _ _ _ _⟩ | exact ⟨by assumption, by assumption⟩ | exact ⟨by omega, by omega, by assumption⟩ | exact ⟨sm0, by assumption⟩ | exact ⟨by assumption, sm0⟩ | simp, ?_⟩)
  refine S.imul u v u v p _ (by omega) (by omega) (by omega) (by omega) duu dvv ?_
  rw [Rd0_pos hp, Rd0_pos hp]
  conv => whnf
  refine ⟨⟨ok_enc2 _ _, ok_enc2 _ _⟩, fun h => absurd ((eqv_pr _ _).symm.trans h) (by decide), fun _ => ?_⟩
  repeat (
    conv => whnf
    first
      | refine ⟨fun hs_ => ?_, fun hs_ => by first | (exfalso; omega) | exact absurd hs_ (by decide) | exact absurd rfl hs_ | exact absurd ((eqvB (by omega)).symm.trans hs_) (by decide) | exact absurd ((eqvS (by assumption) (by decide)).symm.trans hs_) (by decide)⟩
      | refine ⟨fun hs_ => by first | (exfalso; omega) | exact absurd hs_ (by decide) | exact absurd rfl hs_ | exact absurd ((eqvB (by omega)).symm.trans hs_) (by decide) | exact absurd ((eqvS (by assumption) (by decide)).symm.trans hs_) (by decide), fun hs_ => ?_⟩
      | refine ⟨by first | decide | omega | assumption | exact ⟨ok4 _ _ _ _, ok4 _ _ _ _⟩ | exact ⟨by assumption, by assumption⟩ | exact ⟨by omega, by omega, by assumption⟩ | exact ⟨sm0, by assumption⟩ | exact ⟨by assumption, sm0⟩ | simp, ?_⟩)
  refine S.isqrt u v p _ hp (by omega) (by omega) (by omega) fun u2 v2 hu2 hv2 => ?_
  have Ru2 : Rg 93 10 u2 := Rg_mono (Rg_rt (c := 33) (h := 10) hp (by omega) (Rg_mono Ru (by omega) (by omega)) hu2) (by omega) (by omega)
  have Rv2 : Rg 93 10 v2 := Rg_mono (Rg_rt (c := 33) (h := 10) hp (by omega) (Rg_mono Rv (by omega) (by omega)) hv2) (by omega) (by omega)
  have bu2 := Rg_bl Ru2
  have bv2 := Rg_bl Rv2
  have key4 : ∀ z, Rg 93 10 z → bl (od z) ≤ 249 ∧ 2 ^ (3 * B) ∣ z ^ 4 ∧ ∀ f, bl (Rd f p (z ^ 4 / 2 ^ (3 * B))) ≤ 5000 := by
    intro z hz
    refine ⟨?_, ?_, fun f => ?_⟩
    · by_cases h0 : z = 0
      · subst h0; rw [od0]; decide
      · have h1 := bl_od h0
        have h2 := dvd_tz h0 hz.1
        have h3 := Rg_bl hz
        omega
    · have := Nat.pow_dvd_pow_iff (by decide : (4 : Nat) ≠ 0) |>.mpr hz.1
      rw [← Nat.pow_mul] at this
      exact Nat.dvd_trans (Nat.pow_dvd_pow 2 (by omega)) this
    · obtain ⟨N, hN⟩ : ∃ N : Nat, N = 4100 := ⟨_, rfl⟩
      have h1 : z ^ 4 / 2 ^ (3 * B) ≤ 2 ^ N := by
        refine Nat.le_trans (Nat.div_le_self _ _) ?_
        have := Nat.pow_le_pow_left hz.2 4
        rw [← Nat.pow_mul] at this
        exact Nat.le_trans this (Nat.pow_le_pow_right (by decide) (by omega))
      cases f
      · have := bl_pw (Ce_bound hp h1)
        exact Nat.le_trans this (by omega)
      · have := bl_pw (Fl_bound (p := p) h1)
        exact Nat.le_trans this (by omega)
  have ku := key4 u2 Ru2
  have kv := key4 v2 Rv2
  have ku3 : bl (Fl p (u2 ^ 4 / 2 ^ (3 * B))) ≤ 5000 := ku.2.2 true
  have kv3 : bl (Ce p (v2 ^ 4 / 2 ^ (3 * B))) ≤ 5000 := kv.2.2 false
  repeat (
    conv => whnf
    first
      | refine ⟨fun hs_ => ?_, fun hs_ => by first | (exfalso; omega) | exact absurd hs_ (by decide) | exact absurd rfl hs_ | exact absurd ((eqvB (by omega)).symm.trans hs_) (by decide) | exact absurd ((eqvS (by assumption) (by decide)).symm.trans hs_) (by decide)⟩
      | refine ⟨fun hs_ => by first | (exfalso; omega) | exact absurd hs_ (by decide) | exact absurd rfl hs_ | exact absurd ((eqvB (by omega)).symm.trans hs_) (by decide) | exact absurd ((eqvS (by assumption) (by decide)).symm.trans hs_) (by decide), fun hs_ => ?_⟩
      | refine ⟨by first | decide | omega | assumption | exact ⟨ok4 _ _ _ _, ok4 _ _ _ _⟩ | exact ⟨by assumption, by assumption⟩ | exact ⟨by omega, by omega, by assumption⟩ | exact ⟨sm0, by assumption⟩ | exact ⟨by assumption, sm0⟩ | simp, ?_⟩)
  refine S.ipow u2 v2 p _ hp (by omega) (by omega) ku.1 kv.1 ku.2.1 kv.2.1 ?_
  repeat (
    conv => whnf
    first
      | refine ⟨fun hs_ => ?_, fun hs_ => by first | (exfalso; omega) | exact absurd hs_ (by decide) | exact absurd rfl hs_ | exact absurd ((eqvB (by omega)).symm.trans hs_) (by decide) | exact absurd ((eqvS (by assumption) (by decide)).symm.trans hs_) (by decide)⟩
      | refine ⟨fun hs_ => by first | (exfalso; omega) | exact absurd hs_ (by decide) | exact absurd rfl hs_ | exact absurd ((eqvB (by omega)).symm.trans hs_) (by decide) | exact absurd ((eqvS (by assumption) (by decide)).symm.trans hs_) (by decide), fun hs_ => ?_⟩
      | refine ⟨by first | decide | omega | assumption | exact ⟨ok4 _ _ _ _, ok4 _ _ _ _⟩ | exact ⟨by assumption, by assumption⟩ | exact ⟨by omega, by omega, by assumption⟩ | exact ⟨sm0, by assumption⟩ | exact ⟨by assumption, sm0⟩ | simp, ?_⟩)
  refine S.within (Fl p a) (Ce p b) (Fl p (u2 ^ 4 / 2 ^ (3 * B))) (Ce p (v2 ^ 4 / 2 ^ (3 * B))) _ (by omega) (by omega) (by omega) (by omega) (Fl_mono hp (q4_lo hu hu2)) (Ce_mono hp (q4_hi hv hv2)) o1 ?_
  repeat (
    conv => whnf
    first
      | refine ⟨fun hs_ => ?_, fun hs_ => by first | (exfalso; omega) | exact absurd hs_ (by decide) | exact absurd rfl hs_ | exact absurd ((eqvB (by omega)).symm.trans hs_) (by decide) | exact absurd ((eqvS (by assumption) (by decide)).symm.trans hs_) (by decide)⟩
      | refine ⟨fun hs_ => by first | (exfalso; omega) | exact absurd hs_ (by decide) | exact absurd rfl hs_ | exact absurd ((eqvB (by omega)).symm.trans hs_) (by decide) | exact absurd ((eqvS (by assumption) (by decide)).symm.trans hs_) (by decide), fun hs_ => ?_⟩
      | refine ⟨by first | decide | omega | assumption | exact ⟨ok4 _ _ _ _, ok4 _ _ _ _⟩ | exact ⟨by assumption, by assumption⟩ | exact ⟨by omega, by omega, by assumption⟩ | exact ⟨sm0, by assumption⟩ | exact ⟨by assumption, sm0⟩ | simp, ?_⟩)
  -- any interval: the root of its square is its size
  generalize hA : nv.natAbs * 2 ^ sh ev = A
  generalize hD : (nv + (wv : Int)).natAbs * 2 ^ sh ev = D
  have RA : Rg 12 37 A := by rw [← hA]; exact Rg_made (by omega) hev1 hev2
  have RD : Rg 12 37 D := by rw [← hD]; exact Rg_made (by omega) hev1 hev2
  have sA : Sok (decide (nv < 0)) A := by
    intro h
    have h := of_decide_eq_true h
    rw [← hA]
    exact Nat.ne_of_gt (Nat.mul_pos (by omega) (pp _))
  have sD : Sok (decide (nv + (wv : Int) < 0)) D := by
    intro h
    have h := of_decide_eq_true h
    rw [← hD]
    exact Nat.ne_of_gt (Nat.mul_pos (by omega) (pp _))
  have sAD : decide (nv < 0) = false → decide (nv + (wv : Int) < 0) = false := by
    intro h
    have h := of_decide_eq_false h
    exact decide_eq_false (by omega)
  generalize decide (nv < 0) = nA at *
  generalize decide (nv + (wv : Int) < 0) = nD at *
  have bA := Rg_bl RA
  have bD := Rg_bl RD
  have dAA : 2 ^ B ∣ A * A := Rg_dvd RA RA (by omega)
  have dDD : 2 ^ B ∣ D * D := Rg_dvd RD RD (by omega)
  refine S.isqs nA nD A D _ (by omega) (by omega) sA sD sAD dAA dDD ?_
  have Rmin : Rg 12 37 (amin nA A nD D) := by
    unfold amin
    split
    · exact RA
    · split
      · exact RD
      · exact ⟨Nat.dvd_zero _, Nat.zero_le _⟩
  have Rmax : Rg 12 37 (amax nA A nD D) := by
    unfold amax
    split
    · exact RD
    · split
      · exact RA
      · rcases Nat.le_total A D with h | h
        · rw [show Nat.max A D = D from Nat.max_eq_right h]; exact RD
        · rw [show Nat.max A D = A from Nat.max_eq_left h]; exact RA
  have Rmin2 := Rg_bl (Rg_mul Rmin Rmin (by omega))
  have Rmax2 := Rg_bl (Rg_mul Rmax Rmax (by omega))
  repeat (
    conv => whnf
    first
      | refine ⟨fun hs_ => ?_, fun hs_ => by first | (exfalso; omega) | exact absurd hs_ (by decide) | exact absurd rfl hs_ | exact absurd ((eqvB (by omega)).symm.trans hs_) (by decide) | exact absurd ((eqvS (by assumption) (by decide)).symm.trans hs_) (by decide)⟩
      | refine ⟨fun hs_ => by first | (exfalso; omega) | exact absurd hs_ (by decide) | exact absurd rfl hs_ | exact absurd ((eqvB (by omega)).symm.trans hs_) (by decide) | exact absurd ((eqvS (by assumption) (by decide)).symm.trans hs_) (by decide), fun hs_ => ?_⟩
      | refine ⟨by first | decide | omega | assumption | exact ⟨ok4 _ _ _ _, ok4 _ _ _ _⟩ | exact ⟨by assumption, by assumption⟩ | exact ⟨by omega, by omega, by assumption⟩ | exact ⟨sm0, by assumption⟩ | exact ⟨by assumption, sm0⟩ | simp, ?_⟩)
  refine S.isqrt _ _ p _ hp (by omega) (by omega) (by omega) fun V1 V2 hV1 hV2 => ?_
  obtain rfl : V1 = Fl p _ := rt_sq hp (Rg_dvd Rmin Rmin (by omega)) hV1
  obtain rfl : V2 = Ce p _ := rt_sq hp (Rg_dvd Rmax Rmax (by omega)) hV2
  repeat (
    conv => whnf
    first
      | refine ⟨fun hs_ => ?_, fun hs_ => by first | (exfalso; omega) | exact absurd hs_ (by decide) | exact absurd rfl hs_ | exact absurd ((eqvB (by omega)).symm.trans hs_) (by decide) | exact absurd ((eqvS (by assumption) (by decide)).symm.trans hs_) (by decide)⟩
      | refine ⟨fun hs_ => by first | (exfalso; omega) | exact absurd hs_ (by decide) | exact absurd rfl hs_ | exact absurd ((eqvB (by omega)).symm.trans hs_) (by decide) | exact absurd ((eqvS (by assumption) (by decide)).symm.trans hs_) (by decide), fun hs_ => ?_⟩
      | refine ⟨by first | decide | omega | assumption | exact ⟨ok4 _ _ _ _, ok4 _ _ _ _⟩ | exact ⟨by assumption, by assumption⟩ | exact ⟨by omega, by omega, by assumption⟩ | exact ⟨sm0, by assumption⟩ | exact ⟨by assumption, sm0⟩ | simp, ?_⟩)
  refine S.iabs nA nD A D p _ hp (by omega) (by omega) sA sD sAD ?_
  conv => whnf
  refine ⟨⟨ok_enc2 _ _, ok_enc2 _ _⟩, fun h => absurd ((eqv_pr _ _).symm.trans h) (by decide), fun _ => ?_⟩
  repeat (
    conv => whnf
    first
      | refine ⟨fun hs_ => ?_, fun hs_ => by first | (exfalso; omega) | exact absurd hs_ (by decide) | exact absurd rfl hs_ | exact absurd ((eqvB (by omega)).symm.trans hs_) (by decide) | exact absurd ((eqvS (by assumption) (by decide)).symm.trans hs_) (by decide)⟩
      | refine ⟨fun hs_ => by first | (exfalso; omega) | exact absurd hs_ (by decide) | exact absurd rfl hs_ | exact absurd ((eqvB (by omega)).symm.trans hs_) (by decide) | exact absurd ((eqvS (by assumption) (by decide)).symm.trans hs_) (by decide), fun hs_ => ?_⟩
      | refine ⟨by first | decide | omega | assumption | exact ⟨ok4 _ _ _ _, ok4 _ _ _ _⟩ | exact ⟨by assumption, by assumption⟩ | exact ⟨by omega, by omega, by assumption⟩ | exact ⟨sm0, by assumption⟩ | exact ⟨by assumption, sm0⟩ | simp, ?_⟩)
  -- more digits
  obtain ⟨p2, hp2e, hp21, hp22⟩ : ∃ p2 : Nat, (p : Int) + ((r0 : Int).fdiv 60).fmod 30 = p2 ∧ p ≤ p2 ∧ p2 ≤ 89 := by
    have h1 := Int.fmod_nonneg_of_pos ((r0 : Int).fdiv 60) (by decide : (0 : Int) < 30)
    have h2 := Int.fmod_lt_of_pos ((r0 : Int).fdiv 60) (by decide : (0 : Int) < 30)
    exact ⟨((p : Int) + ((r0 : Int).fdiv 60).fmod 30).toNat, by omega, by omega, by omega⟩
  conv => whnf
  rw [hp2e]
  refine S.isqrt a b p2 _ (by omega) (by omega) (by omega) (by omega) fun u3 v3 hu3 hv3 => ?_
  have Ru3 := Rg_bl (Rg_rt (c := 6) (h := 19) (by omega) (by omega) (Rg_mono Ra (by omega) (by omega)) hu3)
  have Rv3 := Rg_bl (Rg_rt (c := 6) (h := 19) (by omega) (by omega) (Rg_mono Rb (by omega) (by omega)) hv3)
  repeat (
    conv => whnf
    first
      | refine ⟨fun hs_ => ?_, fun hs_ => by first | (exfalso; omega) | exact absurd hs_ (by decide) | exact absurd rfl hs_ | exact absurd ((eqvB (by omega)).symm.trans hs_) (by decide) | exact absurd ((eqvS (by assumption) (by decide)).symm.trans hs_) (by decide)⟩
      | refine ⟨fun hs_ => by first | (exfalso; omega) | exact absurd hs_ (by decide) | exact absurd rfl hs_ | exact absurd ((eqvB (by omega)).symm.trans hs_) (by decide) | exact absurd ((eqvS (by assumption) (by decide)).symm.trans hs_) (by decide), fun hs_ => ?_⟩
      | refine ⟨by first | decide | omega | assumption | exact ⟨ok4 _ _ _ _, ok4 _ _ _ _⟩ | exact ⟨by assumption, by assumption⟩ | exact ⟨by omega, by omega, by assumption⟩ | exact ⟨sm0, by assumption⟩ | exact ⟨by assumption, sm0⟩ | simp, ?_⟩)
  refine S.within u3 v3 u v _ (by omega) (by omega) (by omega) (by omega) (rt_lo hp21 (Nat.le_refl _) hu hu3) (rt_hi hp21 (Nat.le_refl _) hv hv3) (rt_ord hab hu3 hv3) ?_
  -- a number of the interval
  obtain ⟨m, hm, hm1, hm2, hmg1, hmg2⟩ : ∃ m : Nat, (n : Int) + (((((n + w : Nat) : Int) - (n : Int)) * ((r0 : Int).fdiv (2 ^ (Int.toNat 40))).fmod 9).fdiv 8) = m ∧ n ≤ m ∧ m ≤ n + w ∧ Sm (((n + w : Nat) : Int) - (n : Int)) ∧ Sm (((r0 : Int).fdiv (2 ^ (Int.toNat 40))).fmod 9) := by
    have h1 := Int.fmod_nonneg_of_pos ((r0 : Int).fdiv (2 ^ (Int.toNat 40))) (by decide : (0 : Int) < 9)
    have h2 := Int.fmod_lt_of_pos ((r0 : Int).fdiv (2 ^ (Int.toNat 40))) (by decide : (0 : Int) < 9)
    generalize ((r0 : Int).fdiv (2 ^ (Int.toNat 40))).fmod 9 = j at *
    obtain ⟨j, rfl⟩ : ∃ i : Nat, j = i := ⟨j.toNat, by omega⟩
    have e1 : ((n + w : Nat) : Int) - (n : Int) = w := by omega
    rw [e1]
    have e2 : (w : Int) * (j : Int) = ((w * j : Nat) : Int) := by push_cast; rfl
    have h3 : w * j ≤ w * 8 := Nat.mul_le_mul_left _ (by omega)
    rw [e2, Int.fdiv_eq_ediv_of_nonneg _ (by decide)]
    refine ⟨n + w * j / 8, by omega, by omega, by omega, Sm_of ?_, Sm_of ?_⟩
    · exact Nat.le_trans (bl_mono hw) (by decide)
    · exact Nat.le_trans (bl_lin j) (by omega)
  repeat (
    conv => whnf
    first
      | refine ⟨fun hs_ => ?_, fun hs_ => by first | (exfalso; omega) | exact absurd hs_ (by decide) | exact absurd rfl hs_ | exact absurd ((eqvB (by omega)).symm.trans hs_) (by decide) | exact absurd ((eqvS (by assumption) (by decide)).symm.trans hs_) (by decide)⟩
      | refine ⟨fun hs_ => by first | (exfalso; omega) | exact absurd hs_ (by decide) | exact absurd rfl hs_ | exact absurd ((eqvB (by omega)).symm.trans hs_) (by decide) | exact absurd ((eqvS (by assumption) (by decide)).symm.trans hs_) (by decide), fun hs_ => ?_⟩
      | refine ⟨by first | decide | omega | assumption | exact ⟨ok4 _ _ _ _, ok4 _ _ _ _⟩ | exact ⟨by assumption, by assumption⟩ | exact ⟨by omega, by omega, by assumption⟩ | exact ⟨sm0, by assumption⟩ | exact ⟨by assumption, sm0⟩ | simp, ?_⟩)
  conv => whnf
  rw [hm]
  generalize hM : m * 2 ^ sh e = M
  have RM : Rg 12 37 M := by rw [← hM]; exact Rg_made (by omega) he1 he2
  have hM1 : a ≤ M := by rw [← ha, ← hM]; exact Nat.mul_le_mul_right _ hm1
  have hM2 : M ≤ b := by rw [← hb', ← hM]; exact Nat.mul_le_mul_right _ hm2
  have bM := Rg_bl RM
  have eM : enc (si (decide ((m : Int) < 0))) ((m : Int).natAbs * 2 ^ sh e) = enc 0 M := by rw [dn, na, hM]; rfl
  refine S.made m e _ (by omega) (by omega) ?_
  rw [eM]
  repeat (
    conv => whnf
    first
      | refine ⟨fun hs_ => ?_, fun hs_ => by first | (exfalso; omega) | exact absurd hs_ (by decide) | exact absurd rfl hs_ | exact absurd ((eqvB (by omega)).symm.trans hs_) (by decide) | exact absurd ((eqvS (by assumption) (by decide)).symm.trans hs_) (by decide)⟩
      | refine ⟨fun hs_ => by first | (exfalso; omega) | exact absurd hs_ (by decide) | exact absurd rfl hs_ | exact absurd ((eqvB (by omega)).symm.trans hs_) (by decide) | exact absurd ((eqvS (by assumption) (by decide)).symm.trans hs_) (by decide), fun hs_ => ?_⟩
      | refine ⟨by first | decide | omega | assumption | exact ⟨ok4 _ _ _ _, ok4 _ _ _ _⟩ | exact ⟨by assumption, by assumption⟩ | exact ⟨by omega, by omega, by assumption⟩ | exact ⟨sm0, by assumption⟩ | exact ⟨by assumption, sm0⟩ | simp, ?_⟩)
  refine S.made m e _ (by omega) (by omega) ?_
  rw [eM]
  repeat (
    conv => whnf
    first
      | refine ⟨fun hs_ => ?_, fun hs_ => by first | (exfalso; omega) | exact absurd hs_ (by decide) | exact absurd rfl hs_ | exact absurd ((eqvB (by omega)).symm.trans hs_) (by decide) | exact absurd ((eqvS (by assumption) (by decide)).symm.trans hs_) (by decide)⟩
      | refine ⟨fun hs_ => by first | (exfalso; omega) | exact absurd hs_ (by decide) | exact absurd rfl hs_ | exact absurd ((eqvB (by omega)).symm.trans hs_) (by decide) | exact absurd ((eqvS (by assumption) (by decide)).symm.trans hs_) (by decide), fun hs_ => ?_⟩
      | refine ⟨by first | decide | omega | assumption | exact ⟨ok4 _ _ _ _, ok4 _ _ _ _⟩ | exact ⟨by assumption, by assumption⟩ | exact ⟨by omega, by omega, by assumption⟩ | exact ⟨sm0, by assumption⟩ | exact ⟨by assumption, sm0⟩ | simp, ?_⟩)
  refine S.isqrt M M p _ hp (by omega) (by omega) (by omega) fun um vm hum hvm => ?_
  have Rum := Rg_mono (Rg_rt (c := 6) (h := 19) (by omega) (by omega) (Rg_mono RM (by omega) (by omega)) hum) (Nat.le_refl _) (Nat.le_refl 19)
  have Rvm := Rg_mono (Rg_rt (c := 6) (h := 19) (by omega) (by omega) (Rg_mono RM (by omega) (by omega)) hvm) (Nat.le_refl _) (Nat.le_refl 19)
  have bum := Rg_bl Rum
  have bvm := Rg_bl Rvm
  repeat (
    conv => whnf
    first
      | refine ⟨fun hs_ => ?_, fun hs_ => by first | (exfalso; omega) | exact absurd hs_ (by decide) | exact absurd rfl hs_ | exact absurd ((eqvB (by omega)).symm.trans hs_) (by decide) | exact absurd ((eqvS (by assumption) (by decide)).symm.trans hs_) (by decide)⟩
      | refine ⟨fun hs_ => by first | (exfalso; omega) | exact absurd hs_ (by decide) | exact absurd rfl hs_ | exact absurd ((eqvB (by omega)).symm.trans hs_) (by decide) | exact absurd ((eqvS (by assumption) (by decide)).symm.trans hs_) (by decide), fun hs_ => ?_⟩
      | refine ⟨by first | decide | omega | assumption | exact ⟨ok4 _ _ _ _, ok4 _ _ _ _⟩ | exact ⟨by assumption, by assumption⟩ | exact ⟨by omega, by omega, by assumption⟩ | exact ⟨sm0, by assumption⟩ | exact ⟨by assumption, sm0⟩ | simp, ?_⟩)
  refine S.val um _ ?_
  repeat (
    conv => whnf
    first
      | refine ⟨fun hs_ => ?_, fun hs_ => by first | (exfalso; omega) | exact absurd hs_ (by decide) | exact absurd rfl hs_ | exact absurd ((eqvB (by omega)).symm.trans hs_) (by decide) | exact absurd ((eqvS (by assumption) (by decide)).symm.trans hs_) (by decide)⟩
      | refine ⟨fun hs_ => by first | (exfalso; omega) | exact absurd hs_ (by decide) | exact absurd rfl hs_ | exact absurd ((eqvB (by omega)).symm.trans hs_) (by decide) | exact absurd ((eqvS (by assumption) (by decide)).symm.trans hs_) (by decide), fun hs_ => ?_⟩
      | refine ⟨by first | decide | omega | assumption | exact ⟨ok4 _ _ _ _, ok4 _ _ _ _⟩ | exact ⟨by assumption, by assumption⟩ | exact ⟨by omega, by omega, by assumption⟩ | exact ⟨sm0, by assumption⟩ | exact ⟨by assumption, sm0⟩ | simp, ?_⟩)
  refine S.val um _ ?_
  repeat (
    conv => whnf
    first
      | refine ⟨fun hs_ => ?_, fun hs_ => by first | (exfalso; omega) | exact absurd hs_ (by decide) | exact absurd rfl hs_ | exact absurd ((eqvB (by omega)).symm.trans hs_) (by decide) | exact absurd ((eqvS (by assumption) (by decide)).symm.trans hs_) (by decide)⟩
      | refine ⟨fun hs_ => by first | (exfalso; omega) | exact absurd hs_ (by decide) | exact absurd rfl hs_ | exact absurd ((eqvB (by omega)).symm.trans hs_) (by decide) | exact absurd ((eqvS (by assumption) (by decide)).symm.trans hs_) (by decide), fun hs_ => ?_⟩
      | refine ⟨by first | decide | omega | assumption | exact ⟨ok4 _ _ _ _, ok4 _ _ _ _⟩ | exact ⟨by assumption, by assumption⟩ | exact ⟨by omega, by omega, by assumption⟩ | exact ⟨sm0, by assumption⟩ | exact ⟨by assumption, sm0⟩ | simp, ?_⟩)
  have key2 : ∀ z, bl z ≤ 2000 → Sm (od z : Int) := by
    intro z hz
    by_cases h0 : z = 0
    · subst h0; rw [od0]; exact Sm_of (n := 0) (by decide)
    · have := bl_od h0
      exact Sm_of (by omega)
  have smu := key2 um (by omega)
  have smv := key2 vm (by omega)
  refine S.times _ _ _ _ _ smu smu ?_
  refine ⟨rfl, ?_⟩
  repeat (
    conv => whnf
    first
      | refine ⟨fun hs_ => ?_, fun hs_ => by first | (exfalso; omega) | exact absurd hs_ (by decide) | exact absurd rfl hs_ | exact absurd ((eqvB (by omega)).symm.trans hs_) (by decide) | exact absurd ((eqvS (by assumption) (by decide)).symm.trans hs_) (by decide)⟩
      | refine ⟨fun hs_ => by first | (exfalso; omega) | exact absurd hs_ (by decide) | exact absurd rfl hs_ | exact absurd ((eqvB (by omega)).symm.trans hs_) (by decide) | exact absurd ((eqvS (by assumption) (by decide)).symm.trans hs_) (by decide), fun hs_ => ?_⟩
      | refine ⟨by first | decide | omega | assumption | exact ⟨ok4 _ _ _ _, ok4 _ _ _ _⟩ | exact ⟨by assumption, by assumption⟩ | exact ⟨by omega, by omega, by assumption⟩ | exact ⟨sm0, by assumption⟩ | exact ⟨by assumption, sm0⟩ | simp, ?_⟩)
  refine S.val vm _ ?_
  repeat (
    conv => whnf
    first
      | refine ⟨fun hs_ => ?_, fun hs_ => by first | (exfalso; omega) | exact absurd hs_ (by decide) | exact absurd rfl hs_ | exact absurd ((eqvB (by omega)).symm.trans hs_) (by decide) | exact absurd ((eqvS (by assumption) (by decide)).symm.trans hs_) (by decide)⟩
      | refine ⟨fun hs_ => by first | (exfalso; omega) | exact absurd hs_ (by decide) | exact absurd rfl hs_ | exact absurd ((eqvB (by omega)).symm.trans hs_) (by decide) | exact absurd ((eqvS (by assumption) (by decide)).symm.trans hs_) (by decide), fun hs_ => ?_⟩
      | refine ⟨by first | decide | omega | assumption | exact ⟨ok4 _ _ _ _, ok4 _ _ _ _⟩ | exact ⟨by assumption, by assumption⟩ | exact ⟨by omega, by omega, by assumption⟩ | exact ⟨sm0, by assumption⟩ | exact ⟨by assumption, sm0⟩ | simp, ?_⟩)
  refine S.val vm _ ?_
  repeat (
    conv => whnf
    first
      | refine ⟨fun hs_ => ?_, fun hs_ => by first | (exfalso; omega) | exact absurd hs_ (by decide) | exact absurd rfl hs_ | exact absurd ((eqvB (by omega)).symm.trans hs_) (by decide) | exact absurd ((eqvS (by assumption) (by decide)).symm.trans hs_) (by decide)⟩
      | refine ⟨fun hs_ => by first | (exfalso; omega) | exact absurd hs_ (by decide) | exact absurd rfl hs_ | exact absurd ((eqvB (by omega)).symm.trans hs_) (by decide) | exact absurd ((eqvS (by assumption) (by decide)).symm.trans hs_) (by decide), fun hs_ => ?_⟩
      | refine ⟨by first | decide | omega | assumption | exact ⟨ok4 _ _ _ _, ok4 _ _ _ _⟩ | exact ⟨by assumption, by assumption⟩ | exact ⟨by omega, by omega, by assumption⟩ | exact ⟨sm0, by assumption⟩ | exact ⟨by assumption, sm0⟩ | simp, ?_⟩)
  refine S.times _ _ _ _ _ smv smv ?_
  refine ⟨rfl, ?_⟩
  repeat (
    conv => whnf
    first
      | refine ⟨fun hs_ => ?_, fun hs_ => by first | (exfalso; omega) | exact absurd hs_ (by decide) | exact absurd rfl hs_ | exact absurd ((eqvB (by omega)).symm.trans hs_) (by decide) | exact absurd ((eqvS (by assumption) (by decide)).symm.trans hs_) (by decide)⟩
      | refine ⟨fun hs_ => by first | (exfalso; omega) | exact absurd hs_ (by decide) | exact absurd rfl hs_ | exact absurd ((eqvB (by omega)).symm.trans hs_) (by decide) | exact absurd ((eqvS (by assumption) (by decide)).symm.trans hs_) (by decide), fun hs_ => ?_⟩
      | refine ⟨by first | decide | omega | assumption | exact ⟨ok4 _ _ _ _, ok4 _ _ _ _⟩ | exact ⟨by assumption, by assumption⟩ | exact ⟨by omega, by omega, by assumption⟩ | exact ⟨sm0, by assumption⟩ | exact ⟨by assumption, sm0⟩ | simp, ?_⟩)
  refine S.within um vm u v _ (by omega) (by omega) (by omega) (by omega) (rt_lo (Nat.le_refl _) hM1 hu hum) (rt_hi (Nat.le_refl _) hM2 hv hvm) (rt_ord (Nat.le_refl _) hum hvm) ?_
  repeat (
    conv => whnf
    first
      | refine ⟨fun hs_ => ?_, fun hs_ => by first | (exfalso; omega) | exact absurd hs_ (by decide) | exact absurd rfl hs_ | exact absurd ((eqvB (by omega)).symm.trans hs_) (by decide) | exact absurd ((eqvS (by assumption) (by decide)).symm.trans hs_) (by decide)⟩
      | refine ⟨fun hs_ => by first | (exfalso; omega) | exact absurd hs_ (by decide) | exact absurd rfl hs_ | exact absurd ((eqvB (by omega)).symm.trans hs_) (by decide) | exact absurd ((eqvS (by assumption) (by decide)).symm.trans hs_) (by decide), fun hs_ => ?_⟩
      | refine ⟨by first | decide | omega | assumption | exact ⟨ok4 _ _ _ _, ok4 _ _ _ _⟩ | exact ⟨by assumption, by assumption⟩ | exact ⟨by omega, by omega, by assumption⟩ | exact ⟨sm0, by assumption⟩ | exact ⟨by assumption, sm0⟩ | simp, ?_⟩)
  have lessI : ∀ (x y : Int) (a c i j : Nat) (b d : Int) (k : PyData → Prop), x = a → y = c → b + (2 * B : Nat) = i → d + (2 * B : Nat) = j → bl a ≤ 50000 → bl c ≤ 50000 → i ≤ 20000 → j ≤ 20000 → k (.bool (decide (a * 2 ^ i < c * 2 ^ j))) → C 304 [.tuple [.int x, .int b], .tuple [.int y, .int d]] k := by
    intro x y a c i j b d k h1 h2
    subst h1 h2
    exact S.less a c i j b d _ k
  have key3 : ∀ z, bl z ≤ 2000 → ∃ j : Nat, (if z = 0 then 0 else (tz z : Int) - B) + (if z = 0 then 0 else (tz z : Int) - B) + (2 * B : Nat) = j ∧ j ≤ 20000 ∧ od z * od z * 2 ^ j = z * z ∧ bl (od z * od z) ≤ 50000 := by
    intro z hz
    by_cases h0 : z = 0
    · subst h0
      exact ⟨2 * B, by rw [if_pos rfl]; omega, by omega, by rw [od0]; simp, by rw [od0]; decide⟩
    · have h1 := bl_od h0
      refine ⟨tz z + tz z, by rw [if_neg h0]; omega, by omega, by rw [← mul_odtz h0 h0], ?_⟩
      have h2 := Nat.le_of_lt (bl_lt (od z))
      have h3 := Nat.mul_le_mul h2 h2
      rw [← Nat.pow_add] at h3
      have := bl_pw h3
      omega
  obtain ⟨ju, ju1, ju2, ju3, ju4⟩ := key3 um (by omega)
  obtain ⟨jv, jv1, jv2, jv3, jv4⟩ := key3 vm (by omega)
  have hmM : m * 2 ^ (sh e + B) = M * 2 ^ B := by rw [Nat.pow_add, ← Nat.mul_assoc, hM]
  have bm : bl m ≤ 50000 := Nat.le_trans (bl_mono (by omega : m ≤ 2 ^ 26)) (by rw [bl_pow]; omega)
  have hshe : e + (2 * B : Nat) = ((sh e + B : Nat) : Int) := by unfold sh; omega
  have hsh2 : sh e ≤ 1012 := by unfold sh; omega
  refine lessI m _ m (od um * od um) (sh e + B) ju e _ _ rfl (by push_cast; rfl) hshe ju1 bm ju4 (by omega) ju2 ?_
  have f1 : ¬ (m * 2 ^ (sh e + B) < od um * od um * 2 ^ ju) := by rw [hmM, ju3]; have := hum.2.1; omega
  rw [decide_eq_false f1]
  repeat (
    conv => whnf
    first
      | refine ⟨fun hs_ => ?_, fun hs_ => by first | (exfalso; omega) | exact absurd hs_ (by decide) | exact absurd rfl hs_ | exact absurd ((eqvB (by omega)).symm.trans hs_) (by decide) | exact absurd ((eqvS (by assumption) (by decide)).symm.trans hs_) (by decide)⟩
      | refine ⟨fun hs_ => by first | (exfalso; omega) | exact absurd hs_ (by decide) | exact absurd rfl hs_ | exact absurd ((eqvB (by omega)).symm.trans hs_) (by decide) | exact absurd ((eqvS (by assumption) (by decide)).symm.trans hs_) (by decide), fun hs_ => ?_⟩
      | refine ⟨by first | decide | omega | assumption | exact ⟨ok4 _ _ _ _, ok4 _ _ _ _⟩ | exact ⟨by assumption, by assumption⟩ | exact ⟨by omega, by omega, by assumption⟩ | exact ⟨sm0, by assumption⟩ | exact ⟨by assumption, sm0⟩ | simp, ?_⟩)
  conv => whnf
  refine lessI _ m (od vm * od vm) m jv (sh e + B) _ e _ (by push_cast; rfl) rfl jv1 hshe jv4 bm jv2 (by omega) ?_
  have f2 : ¬ (od vm * od vm * 2 ^ jv < m * 2 ^ (sh e + B)) := by rw [hmM, jv3]; have := hvm.2.1; omega
  rw [decide_eq_false f2]
  repeat (
    conv => whnf
    first
      | refine ⟨fun hs_ => ?_, fun hs_ => by first | (exfalso; omega) | exact absurd hs_ (by decide) | exact absurd rfl hs_ | exact absurd ((eqvB (by omega)).symm.trans hs_) (by decide) | exact absurd ((eqvS (by assumption) (by decide)).symm.trans hs_) (by decide)⟩
      | refine ⟨fun hs_ => by first | (exfalso; omega) | exact absurd hs_ (by decide) | exact absurd rfl hs_ | exact absurd ((eqvB (by omega)).symm.trans hs_) (by decide) | exact absurd ((eqvS (by assumption) (by decide)).symm.trans hs_) (by decide), fun hs_ => ?_⟩
      | refine ⟨by first | decide | omega | assumption | exact ⟨ok4 _ _ _ _, ok4 _ _ _ _⟩ | exact ⟨by assumption, by assumption⟩ | exact ⟨by omega, by omega, by assumption⟩ | exact ⟨sm0, by assumption⟩ | exact ⟨by assumption, sm0⟩ | simp, ?_⟩)
  -- sums and products
  refine S.iadd2 a b c d _ (by omega) (by omega) (by omega) (by omega) ?_
  have Rac := Rg_add Ra Rc
  have Rbd := Rg_add Rb Rd'
  have bac := Rg_bl Rac
  have bbd := Rg_bl Rbd
  repeat (
    conv => whnf
    first
      | refine ⟨fun hs_ => ?_, fun hs_ => by first | (exfalso; omega) | exact absurd hs_ (by decide) | exact absurd rfl hs_ | exact absurd ((eqvB (by omega)).symm.trans hs_) (by decide) | exact absurd ((eqvS (by assumption) (by decide)).symm.trans hs_) (by decide)⟩
      | refine ⟨fun hs_ => by first | (exfalso; omega) | exact absurd hs_ (by decide) | exact absurd rfl hs_ | exact absurd ((eqvB (by omega)).symm.trans hs_) (by decide) | exact absurd ((eqvS (by assumption) (by decide)).symm.trans hs_) (by decide), fun hs_ => ?_⟩
      | refine ⟨by first | decide | omega | assumption | exact ⟨ok4 _ _ _ _, ok4 _ _ _ _⟩ | exact ⟨by assumption, by assumption⟩ | exact ⟨by omega, by omega, by assumption⟩ | exact ⟨sm0, by assumption⟩ | exact ⟨by assumption, sm0⟩ | simp, ?_⟩)
  refine S.isqrt (a + c) (b + d) p _ hp (by omega) (by omega) (by omega) fun us vs hus hvs => ?_
  have Rus := Rg_rt (c := 6) (h := 19) hp (by omega) (Rg_mono Rac (Nat.le_refl _) (Nat.le_refl _)) hus
  have Rvs := Rg_rt (c := 6) (h := 19) hp (by omega) (Rg_mono Rbd (Nat.le_refl _) (Nat.le_refl _)) hvs
  have bus := Rg_bl Rus
  have bvs := Rg_bl Rvs
  repeat (
    conv => whnf
    first
      | refine ⟨fun hs_ => ?_, fun hs_ => by first | (exfalso; omega) | exact absurd hs_ (by decide) | exact absurd rfl hs_ | exact absurd ((eqvB (by omega)).symm.trans hs_) (by decide) | exact absurd ((eqvS (by assumption) (by decide)).symm.trans hs_) (by decide)⟩
      | refine ⟨fun hs_ => by first | (exfalso; omega) | exact absurd hs_ (by decide) | exact absurd rfl hs_ | exact absurd ((eqvB (by omega)).symm.trans hs_) (by decide) | exact absurd ((eqvS (by assumption) (by decide)).symm.trans hs_) (by decide), fun hs_ => ?_⟩
      | refine ⟨by first | decide | omega | assumption | exact ⟨ok4 _ _ _ _, ok4 _ _ _ _⟩ | exact ⟨by assumption, by assumption⟩ | exact ⟨by omega, by omega, by assumption⟩ | exact ⟨sm0, by assumption⟩ | exact ⟨by assumption, sm0⟩ | simp, ?_⟩)
  refine S.iadd u v x y p _ (by omega) (by omega) (by omega) (by omega) (Rg_off Ru Rx (by omega) (by omega)) (Rg_off Rv Ry (by omega) (by omega)) ?_
  rw [Rd0_pos hp, Rd0_pos hp]
  have bce := Rg_bl (Rg_ce hp (Rg_add Rv Ry))
  have dac : 2 ^ B ∣ a * c := Rg_dvd Ra Rc (by omega)
  have dbd : 2 ^ B ∣ b * d := Rg_dvd Rb Rd' (by omega)
  have Rpac := Rg_mul Ra Rc (by omega)
  have Rpbd := Rg_mul Rb Rd' (by omega)
  have bpac := Rg_bl Rpac
  have bpbd := Rg_bl Rpbd
  repeat (
    conv => whnf
    first
      | refine ⟨fun hs_ => ?_, fun hs_ => by first | (exfalso; omega) | exact absurd hs_ (by decide) | exact absurd rfl hs_ | exact absurd ((eqvB (by omega)).symm.trans hs_) (by decide) | exact absurd ((eqvS (by assumption) (by decide)).symm.trans hs_) (by decide)⟩
      | refine ⟨fun hs_ => by first | (exfalso; omega) | exact absurd hs_ (by decide) | exact absurd rfl hs_ | exact absurd ((eqvB (by omega)).symm.trans hs_) (by decide) | exact absurd ((eqvS (by assumption) (by decide)).symm.trans hs_) (by decide), fun hs_ => ?_⟩
      | refine ⟨by first | decide | omega | assumption | exact ⟨ok4 _ _ _ _, ok4 _ _ _ _⟩ | exact ⟨by assumption, by assumption⟩ | exact ⟨by omega, by omega, by assumption⟩ | exact ⟨sm0, by assumption⟩ | exact ⟨by assumption, sm0⟩ | simp, ?_⟩)
  refine S.imul2 a b c d _ (by omega) (by omega) (by omega) (by omega) dac dbd ?_
  repeat (
    conv => whnf
    first
      | refine ⟨fun hs_ => ?_, fun hs_ => by first | (exfalso; omega) | exact absurd hs_ (by decide) | exact absurd rfl hs_ | exact absurd ((eqvB (by omega)).symm.trans hs_) (by decide) | exact absurd ((eqvS (by assumption) (by decide)).symm.trans hs_) (by decide)⟩
      | refine ⟨fun hs_ => by first | (exfalso; omega) | exact absurd hs_ (by decide) | exact absurd rfl hs_ | exact absurd ((eqvB (by omega)).symm.trans hs_) (by decide) | exact absurd ((eqvS (by assumption) (by decide)).symm.trans hs_) (by decide), fun hs_ => ?_⟩
      | refine ⟨by first | decide | omega | assumption | exact ⟨ok4 _ _ _ _, ok4 _ _ _ _⟩ | exact ⟨by assumption, by assumption⟩ | exact ⟨by omega, by omega, by assumption⟩ | exact ⟨sm0, by assumption⟩ | exact ⟨by assumption, sm0⟩ | simp, ?_⟩)
  refine S.isqrt (a * c / 2 ^ B) (b * d / 2 ^ B) p _ hp (by omega) (by omega) (by omega) fun L H hL hH => ?_
  have RL := Rg_rt (c := 12) (h := 37) hp (by omega) (Rg_mono Rpac (Nat.le_refl _) (Nat.le_refl _)) hL
  have RH := Rg_rt (c := 12) (h := 37) hp (by omega) (Rg_mono Rpbd (Nat.le_refl _) (Nat.le_refl _)) hH
  have bL := Rg_bl RL
  have bH := Rg_bl RH
  repeat (
    conv => whnf
    first
      | refine ⟨fun hs_ => ?_, fun hs_ => by first | (exfalso; omega) | exact absurd hs_ (by decide) | exact absurd rfl hs_ | exact absurd ((eqvB (by omega)).symm.trans hs_) (by decide) | exact absurd ((eqvS (by assumption) (by decide)).symm.trans hs_) (by decide)⟩
      | refine ⟨fun hs_ => by first | (exfalso; omega) | exact absurd hs_ (by decide) | exact absurd rfl hs_ | exact absurd ((eqvB (by omega)).symm.trans hs_) (by decide) | exact absurd ((eqvS (by assumption) (by decide)).symm.trans hs_) (by decide), fun hs_ => ?_⟩
      | refine ⟨by first | decide | omega | assumption | exact ⟨ok4 _ _ _ _, ok4 _ _ _ _⟩ | exact ⟨by assumption, by assumption⟩ | exact ⟨by omega, by omega, by assumption⟩ | exact ⟨sm0, by assumption⟩ | exact ⟨by assumption, sm0⟩ | simp, ?_⟩)
  refine S.most vs (Ce p (v + y)) _ (by omega) (by omega) (rt_sum hp hv hy hvs) ?_
  repeat (
    conv => whnf
    first
      | refine ⟨fun hs_ => ?_, fun hs_ => by first | (exfalso; omega) | exact absurd hs_ (by decide) | exact absurd rfl hs_ | exact absurd ((eqvB (by omega)).symm.trans hs_) (by decide) | exact absurd ((eqvS (by assumption) (by decide)).symm.trans hs_) (by decide)⟩
      | refine ⟨fun hs_ => by first | (exfalso; omega) | exact absurd hs_ (by decide) | exact absurd rfl hs_ | exact absurd ((eqvB (by omega)).symm.trans hs_) (by decide) | exact absurd ((eqvS (by assumption) (by decide)).symm.trans hs_) (by decide), fun hs_ => ?_⟩
      | refine ⟨by first | decide | omega | assumption | exact ⟨ok4 _ _ _ _, ok4 _ _ _ _⟩ | exact ⟨by assumption, by assumption⟩ | exact ⟨by omega, by omega, by assumption⟩ | exact ⟨sm0, by assumption⟩ | exact ⟨by assumption, sm0⟩ | simp, ?_⟩)
  refine S.most u us _ (by omega) (by omega) (rt_lo (Nat.le_refl _) (Nat.le_add_right _ _) hu hus) ?_
  repeat (
    conv => whnf
    first
      | refine ⟨fun hs_ => ?_, fun hs_ => by first | (exfalso; omega) | exact absurd hs_ (by decide) | exact absurd rfl hs_ | exact absurd ((eqvB (by omega)).symm.trans hs_) (by decide) | exact absurd ((eqvS (by assumption) (by decide)).symm.trans hs_) (by decide)⟩
      | refine ⟨fun hs_ => by first | (exfalso; omega) | exact absurd hs_ (by decide) | exact absurd rfl hs_ | exact absurd ((eqvB (by omega)).symm.trans hs_) (by decide) | exact absurd ((eqvS (by assumption) (by decide)).symm.trans hs_) (by decide), fun hs_ => ?_⟩
      | refine ⟨by first | decide | omega | assumption | exact ⟨ok4 _ _ _ _, ok4 _ _ _ _⟩ | exact ⟨by assumption, by assumption⟩ | exact ⟨by omega, by omega, by assumption⟩ | exact ⟨sm0, by assumption⟩ | exact ⟨by assumption, sm0⟩ | simp, ?_⟩)
  refine S.most x us _ (by omega) (by omega) (rt_lo (Nat.le_refl _) (Nat.le_add_left _ _) hx hus) ?_
  repeat (
    conv => whnf
    first
      | refine ⟨fun hs_ => ?_, fun hs_ => by first | (exfalso; omega) | exact absurd hs_ (by decide) | exact absurd rfl hs_ | exact absurd ((eqvB (by omega)).symm.trans hs_) (by decide) | exact absurd ((eqvS (by assumption) (by decide)).symm.trans hs_) (by decide)⟩
      | refine ⟨fun hs_ => by first | (exfalso; omega) | exact absurd hs_ (by decide) | exact absurd rfl hs_ | exact absurd ((eqvB (by omega)).symm.trans hs_) (by decide) | exact absurd ((eqvS (by assumption) (by decide)).symm.trans hs_) (by decide), fun hs_ => ?_⟩
      | refine ⟨by first | decide | omega | assumption | exact ⟨ok4 _ _ _ _, ok4 _ _ _ _⟩ | exact ⟨by assumption, by assumption⟩ | exact ⟨by omega, by omega, by assumption⟩ | exact ⟨sm0, by assumption⟩ | exact ⟨by assumption, sm0⟩ | simp, ?_⟩)
  -- the middle
  refine S.iadd2 a b c d _ (by omega) (by omega) (by omega) (by omega) ?_
  repeat (
    conv => whnf
    first
      | refine ⟨fun hs_ => ?_, fun hs_ => by first | (exfalso; omega) | exact absurd hs_ (by decide) | exact absurd rfl hs_ | exact absurd ((eqvB (by omega)).symm.trans hs_) (by decide) | exact absurd ((eqvS (by assumption) (by decide)).symm.trans hs_) (by decide)⟩
      | refine ⟨fun hs_ => by first | (exfalso; omega) | exact absurd hs_ (by decide) | exact absurd rfl hs_ | exact absurd ((eqvB (by omega)).symm.trans hs_) (by decide) | exact absurd ((eqvS (by assumption) (by decide)).symm.trans hs_) (by decide), fun hs_ => ?_⟩
      | refine ⟨by first | decide | omega | assumption | exact ⟨ok4 _ _ _ _, ok4 _ _ _ _⟩ | exact ⟨by assumption, by assumption⟩ | exact ⟨by omega, by omega, by assumption⟩ | exact ⟨sm0, by assumption⟩ | exact ⟨by assumption, sm0⟩ | simp, ?_⟩)
  have Rh : Rg 1 0 (2 ^ (B - 1)) := ⟨Nat.dvd_refl _, Nat.pow_le_pow_right (by decide) (by omega)⟩
  have bh := Rg_bl Rh
  have dach : 2 ^ B ∣ (a + c) * 2 ^ (B - 1) := Rg_dvd Rac Rh (by omega)
  have dbdh : 2 ^ B ∣ (b + d) * 2 ^ (B - 1) := Rg_dvd Rbd Rh (by omega)
  have bRH2 := Rg_bl (Rg_mul Rac Rh (by omega))
  refine S.imul (a + c) (b + d) (2 ^ (B - 1)) (2 ^ (B - 1)) p _ (by omega) (by omega) (by omega) (by omega) dach dbdh ?_
  rw [Rd0_pos hp, Rd0_pos hp, half_mul hB1, half_mul hB1]
  have dux : 2 ^ B ∣ u * x := Rg_dvd Ru Rx (by omega)
  have dvy : 2 ^ B ∣ v * y := Rg_dvd Rv Ry (by omega)
  have bux := Rg_bl (Rg_fl hp (Rg_mul Ru Rx (by omega)))
  have bvy := Rg_bl (Rg_ce hp (Rg_mul Rv Ry (by omega)))
  have hac2 : (a + c) / 2 ≤ 2 ^ (B + (37 + 1)) := Nat.le_trans (Nat.div_le_self _ _) Rac.2
  have hbd2 : (b + d) / 2 ≤ 2 ^ (B + (37 + 1)) := Nat.le_trans (Nat.div_le_self _ _) Rbd.2
  have bm1 := bl_pw (Fl_bound (p := p) hac2)
  have bm2 := bl_pw (Ce_bound hp hbd2)
  have ev2 : 2 ∣ b + d := Nat.dvd_trans (by have := Nat.pow_dvd_pow 2 (by omega : 1 ≤ B - 12); rwa [Nat.pow_one] at this) Rbd.1
  repeat (
    conv => whnf
    first
      | refine ⟨fun hs_ => ?_, fun hs_ => by first | (exfalso; omega) | exact absurd hs_ (by decide) | exact absurd rfl hs_ | exact absurd ((eqvB (by omega)).symm.trans hs_) (by decide) | exact absurd ((eqvS (by assumption) (by decide)).symm.trans hs_) (by decide)⟩
      | refine ⟨fun hs_ => by first | (exfalso; omega) | exact absurd hs_ (by decide) | exact absurd rfl hs_ | exact absurd ((eqvB (by omega)).symm.trans hs_) (by decide) | exact absurd ((eqvS (by assumption) (by decide)).symm.trans hs_) (by decide), fun hs_ => ?_⟩
      | refine ⟨by first | decide | omega | assumption | exact ⟨ok4 _ _ _ _, ok4 _ _ _ _⟩ | exact ⟨by assumption, by assumption⟩ | exact ⟨by omega, by omega, by assumption⟩ | exact ⟨sm0, by assumption⟩ | exact ⟨by assumption, sm0⟩ | simp, ?_⟩)
  refine S.imul u v x y p _ (by omega) (by omega) (by omega) (by omega) dux dvy ?_
  rw [Rd0_pos hp, Rd0_pos hp]
  repeat (
    conv => whnf
    first
      | refine ⟨fun hs_ => ?_, fun hs_ => by first | (exfalso; omega) | exact absurd hs_ (by decide) | exact absurd rfl hs_ | exact absurd ((eqvB (by omega)).symm.trans hs_) (by decide) | exact absurd ((eqvS (by assumption) (by decide)).symm.trans hs_) (by decide)⟩
      | refine ⟨fun hs_ => by first | (exfalso; omega) | exact absurd hs_ (by decide) | exact absurd rfl hs_ | exact absurd ((eqvB (by omega)).symm.trans hs_) (by decide) | exact absurd ((eqvS (by assumption) (by decide)).symm.trans hs_) (by decide), fun hs_ => ?_⟩
      | refine ⟨by first | decide | omega | assumption | exact ⟨ok4 _ _ _ _, ok4 _ _ _ _⟩ | exact ⟨by assumption, by assumption⟩ | exact ⟨by omega, by omega, by assumption⟩ | exact ⟨sm0, by assumption⟩ | exact ⟨by assumption, sm0⟩ | simp, ?_⟩)
  refine S.within L H (Fl p (u * x / 2 ^ B)) (Ce p (v * y / 2 ^ B)) _ (by omega) (by omega) (by omega) (by omega) (rt_mul_lo hp dac hu hx hL) (rt_mul_hi hp dbd dvy hv hy hH) (rt_ord (Nat.div_le_div_right (Nat.mul_le_mul hab hcd)) hL hH) ?_
  repeat (
    conv => whnf
    first
      | refine ⟨fun hs_ => ?_, fun hs_ => by first | (exfalso; omega) | exact absurd hs_ (by decide) | exact absurd rfl hs_ | exact absurd ((eqvB (by omega)).symm.trans hs_) (by decide) | exact absurd ((eqvS (by assumption) (by decide)).symm.trans hs_) (by decide)⟩
      | refine ⟨fun hs_ => by first | (exfalso; omega) | exact absurd hs_ (by decide) | exact absurd rfl hs_ | exact absurd ((eqvB (by omega)).symm.trans hs_) (by decide) | exact absurd ((eqvS (by assumption) (by decide)).symm.trans hs_) (by decide), fun hs_ => ?_⟩
      | refine ⟨by first | decide | omega | assumption | exact ⟨ok4 _ _ _ _, ok4 _ _ _ _⟩ | exact ⟨by assumption, by assumption⟩ | exact ⟨by omega, by omega, by assumption⟩ | exact ⟨sm0, by assumption⟩ | exact ⟨by assumption, sm0⟩ | simp, ?_⟩)
  refine S.most L (Fl p ((a + c) / 2)) _ (by omega) (by omega) (rt_mid_lo hp dac hL) ?_
  repeat (
    conv => whnf
    first
      | refine ⟨fun hs_ => ?_, fun hs_ => by first | (exfalso; omega) | exact absurd hs_ (by decide) | exact absurd rfl hs_ | exact absurd ((eqvB (by omega)).symm.trans hs_) (by decide) | exact absurd ((eqvS (by assumption) (by decide)).symm.trans hs_) (by decide)⟩
      | refine ⟨fun hs_ => by first | (exfalso; omega) | exact absurd hs_ (by decide) | exact absurd rfl hs_ | exact absurd ((eqvB (by omega)).symm.trans hs_) (by decide) | exact absurd ((eqvS (by assumption) (by decide)).symm.trans hs_) (by decide), fun hs_ => ?_⟩
      | refine ⟨by first | decide | omega | assumption | exact ⟨ok4 _ _ _ _, ok4 _ _ _ _⟩ | exact ⟨by assumption, by assumption⟩ | exact ⟨by omega, by omega, by assumption⟩ | exact ⟨sm0, by assumption⟩ | exact ⟨by assumption, sm0⟩ | simp, ?_⟩)
  refine S.most H (Ce p ((b + d) / 2)) _ (by omega) (by omega) (rt_mid_hi hp ev2 dbd hH) ?_
  repeat (
    conv => whnf
    first
      | refine ⟨fun hs_ => ?_, fun hs_ => by first | (exfalso; omega) | exact absurd hs_ (by decide) | exact absurd rfl hs_ | exact absurd ((eqvB (by omega)).symm.trans hs_) (by decide) | exact absurd ((eqvS (by assumption) (by decide)).symm.trans hs_) (by decide)⟩
      | refine ⟨fun hs_ => by first | (exfalso; omega) | exact absurd hs_ (by decide) | exact absurd rfl hs_ | exact absurd ((eqvB (by omega)).symm.trans hs_) (by decide) | exact absurd ((eqvS (by assumption) (by decide)).symm.trans hs_) (by decide), fun hs_ => ?_⟩
      | refine ⟨by first | decide | omega | assumption | exact ⟨ok4 _ _ _ _, ok4 _ _ _ _⟩ | exact ⟨by assumption, by assumption⟩ | exact ⟨by omega, by omega, by assumption⟩ | exact ⟨sm0, by assumption⟩ | exact ⟨by assumption, sm0⟩ | simp, ?_⟩)
  refine S.span (-1 - (n : Int)) ((n + w : Nat) : Int) e _ (by omega) (by omega) (by omega) ?_
  rw [decide_eq_true (by omega : -1 - (n : Int) < 0)]
  conv => whnf
  refine hK _ p (n + w) a b _ _ e _ hp hp2 ?_ (by omega) he1 he2 rfl rfl rfl rfl rfl
  exact Nat.ne_of_gt (Nat.mul_pos (by omega) (pp _))

/-- the last statement's second interval -/
theorem neg_pure (C : CallW) (S : Sps C) (ρ : MEnv) (p h a b : Nat) (e : Int) (h1 : h ≤ 2 ^ 25) (he1 : -12 ≤ e) (he2 : e ≤ 12) (l11 : lk ρ 11 = some (pr a b)) (l59 : lk ρ 59 = some (.int h)) (l52 : lk ρ 52 = some (.int e))
    (k : PyData → Prop) (hk : ∀ A D, A ≠ 0 → k (sprd true A true D)) :
    W C (.call 224 [(.tup [(.idx (.v 11) (.k (.int 1))), (.call 283 [(.bin .add (.bin .mul (.k (.int 2)) (.v 59)) (.k (.int 1))), (.v 52)])])]) ρ (.val k) := by
  have hB := B_eq
  have s2 : Sm 2 := Sm_of (n := 2) (by decide)
  have sh' : Sm (h : Int) := Sm_of (Nat.le_trans (bl_mono h1) (by rw [bl_pow]; omega))
  simp only [W, Ws, l11, l59, l52, pr, v_gv, v_add, v_mul, idxW]
  refine ⟨by decide, ?_⟩
  conv => whnf
  refine ⟨⟨s2, sh'⟩, ?_⟩
  refine S.made (2 * (h : Int) + 1) e _ (by omega) (by omega) ?_
  rw [decide_eq_false (by omega : ¬ (2 * (h : Int) + 1 < 0))]
  conv => whnf
  refine ⟨by simp, ?_⟩
  refine S.ineg false false b ((2 * (h : Int) + 1).natAbs * 2 ^ sh e) _ ?_
  refine hk _ _ ?_
  exact Nat.ne_of_gt (Nat.mul_pos (by omega) (pp _))
end Mine

namespace Mine

/-! values and heaps -/
mutual
inductive R (h : Heap) : Value → PyData → Prop where
  | none : R h .none .none
  | bool (b : Bool) : R h (.bool b) (.bool b)
  | int (i : Int) (t : Tok) : R h (.int i t) (.int i)
  | str (x : Str) (t : Tok) : R h (.str x t) (.str x)
  | tup {a : Addr} {vs : List Value} {l : List PyData} : h.IsTuple a vs.toArray → RA h vs l → R h (.ref a) (.tuple l)
  | lst {a : Addr} {vs : List Value} {l : List PyData} : h.IsList a vs.toArray → RA h vs l → R h (.ref a) (.list l)
inductive RA (h : Heap) : List Value → List PyData → Prop where
  | nil : RA h [] []
  | cons {v : Value} {vs : List Value} {d : PyData} {ds : List PyData} : R h v d → RA h vs ds → RA h (v :: vs) (d :: ds)
end

noncomputable def SeqKeeps (h h' : Heap) : Prop := (∀ a its, h.IsTuple a its → h'.IsTuple a its) ∧ (∀ a its, h.IsList a its → h'.IsList a its)
mutual
theorem R.mono {h h' : Heap} (k : SeqKeeps h h') : ∀ {v : Value} {d : PyData}, R h v d → R h' v d
  | _, _, .none => .none
  | _, _, .bool b => .bool b
  | _, _, .int i t => .int i t
  | _, _, .str x t => .str x t
  | _, _, .tup a b => .tup (k.1 _ _ a) (RA.mono k b)
  | _, _, .lst a b => .lst (k.2 _ _ a) (RA.mono k b)
theorem RA.mono {h h' : Heap} (k : SeqKeeps h h') : ∀ {v : List Value} {d : List PyData}, RA h v d → RA h' v d
  | _, _, .nil => .nil
  | _, _, .cons a b => .cons (R.mono k a) (RA.mono k b)
end
noncomputable def Kp (h h' : Heap) : Prop := ∀ b o, h.get? b = some o → h'.get? b = some o
theorem Kp.rfl {h : Heap} : Kp h h := fun _ _ e => e
theorem Kp.trans {h h' h'' : Heap} (a : Kp h h') (b : Kp h' h'') : Kp h h'' := fun x o e => b x o (a x o e)
theorem Kp.push {h : Heap} (o : Obj) : Kp h (h.push o) := fun _ _ e => Heap.get?_push_of_some o e
theorem Kp.seq {h h' : Heap} (k : Kp h h') : SeqKeeps h h' := ⟨fun _ _ ⟨o, a, r⟩ => ⟨o, k _ _ a, r⟩, fun _ _ ⟨o, a, r⟩ => ⟨o, k _ _ a, r⟩⟩
theorem seq_of_ns {h h' : Heap} {L : Addr} {m : Str → Option Value} (n : h.Ns L m) (s : Heap.ExtBut L h h') : SeqKeeps h h' := by
  obtain ⟨oL, es, ep, hL, hd, _⟩ := n
  refine ⟨fun a its ⟨o, e, c, n, q⟩ => ⟨o, s a o ?_ e, c, n, q⟩, fun a its ⟨o, e, c, n, q⟩ => ⟨o, s a o ?_ e, c, n, q⟩⟩
  all_goals
    rintro rfl
    rw [hL] at e
    cases e
    rw [hd] at q
    cases q
mutual
theorem R.reads {h : Heap} : ∀ {v : Value} {d : PyData}, R h v d → ∃ as, Reads h v d as
  | _, _, .none => ⟨_, .none⟩
  | _, _, .bool b => ⟨_, .bool b⟩
  | _, _, .int i t => ⟨_, .int i t⟩
  | _, _, .str x t => ⟨_, .str x t⟩
  | _, _, .tup ⟨_, e, c, _, q⟩ b => let ⟨as, r⟩ := RA.reads b; ⟨as, .tuple e c q r⟩
  | _, _, .lst ⟨_, e, c, _, q⟩ b => let ⟨as, r⟩ := RA.reads b; ⟨_ :: as, .list e c q r⟩
theorem RA.reads {h : Heap} : ∀ {v : List Value} {d : List PyData}, RA h v d → ∃ as, ReadsAll h v d as
  | _, _, .nil => ⟨_, .nil⟩
  | _, _, .cons a b => let ⟨as, r⟩ := R.reads a; let ⟨bs, r'⟩ := RA.reads b; ⟨as ++ bs, .cons r r'⟩
end
theorem RA.length {h : Heap} : ∀ {v : List Value} {d : List PyData}, RA h v d → v.length = d.length
  | _, _, .nil => rfl
  | _, _, .cons _ b => congrArg (· + 1) (RA.length b)
theorem RA.at {h : Heap} : ∀ {vs : List Value} {ds : List PyData} {n : Nat} {d : PyData}, RA h vs ds → ds[n]? = some d → ∃ v, vs[n]? = some v ∧ R h v d
  | _, _, 0, _, .cons a _, e => by cases e; exact ⟨_, rfl, a⟩
  | _, _, n + 1, _, .cons _ b, e => RA.at (n := n) b e
theorem RA.app {h : Heap} : ∀ {vs ws : List Value} {ds es : List PyData}, RA h vs ds → RA h ws es → RA h (vs ++ ws) (ds ++ es)
  | _, _, _, _, .nil, b => b
  | _, _, _, _, .cons a r, b => .cons a (RA.app r b)

/-! the small tree of an expression -/
inductive GI where
  | val (d : PyData)
  | fn (a : Addr)
  | bi (b : BI)
  | dct (t : List (Str × PyData))

section
variable (ids : List Str) (gl : Str → Option GI)
noncomputable def idOf (x : Str) : Option Nat := ids.findIdx? (· == x)
noncomputable def nm (i : Nat) : Str := ids.getD i Str.empty
theorem nm_of {x : Str} {i : Nat} (h : idOf ids x = some i) : nm ids i = x := by
  unfold idOf at h
  obtain ⟨hi, hx, _⟩ := List.findIdx?_eq_some_iff_getElem.mp h
  unfold nm
  rw [List.getD_eq_getElem?_getD, List.getElem?_eq_getElem hi]
  exact eq_of_beq hx

noncomputable def opOf : Operator → Option Op
  | .Add => some .add
  | .Sub => some .sub
  | .Mult => some .mul
  | .FloorDiv => some .fdiv
  | .Mod => some .mod
  | .LShift => some .shl
  | .RShift => some .shr
  | .BitAnd => some .band
  | .BitXor => some .bxor
  | .Pow => some .pow
  | _ => none
noncomputable def coOf : CmpOp → Option CO
  | .Eq => some .eq
  | .NotEq => some .ne
  | .Lt => some .lt
  | .LtE => some .le
  | .Gt => some .gt
  | .GtE => some .ge
  | .In => some .isin
  | _ => none
noncomputable def isStar : Expr → Bool
  | .Starred .. => true
  | _ => false
noncomputable def isSlice : Expr → Bool
  | .Slice .. => true
  | _ => false
noncomputable def notSet : Expr → Bool
  | .Set .. => false
  | _ => true
noncomputable def plainBase : Expr → Bool
  | .Name .. => true
  | .BinOp .. => true
  | _ => false
noncomputable def glAt (sc : Scope) (x : Str) : Option GI := match sc.names.lookup x with
  | some .globalImplicit => gl x
  | _ => none
noncomputable def kOf : Const → Option PyData
  | .none => some .none
  | .bool b => some (.bool b)
  | .int i => some (.int i)
  | .str s => some (.str s)
  | _ => none
noncomputable def compScOk (sc : Scope) (x : Str) : Bool :=
  sc.kind == .function && sc.names.all (fun y => y.2 != .free && y.2 != .cell && (y.2 != .local || sc.names.lookup y.1 == some .local)) && sc.names.lookup x == some .local
noncomputable def cE : Nat → Scope → Expr → ME
  | 0, _, _ => .bad
  | n + 1, sc, e => match e with
    | .Constant c _ _ => (match kOf c with
      | some d => .k d
      | none => .bad)
    | .Name x _ => (match x == ("__debug__" : Str) with
      | true => .bad
      | false => match sc.names.lookup x with
        | some .local => (match idOf ids x with
          | some i => .v i
          | none => .bad)
        | some .globalImplicit => (match gl x with
          | some (.val d) => .k d
          | _ => .bad)
        | _ => .bad)
    | .BinOp l op r _ => (match opOf op with
      | some o => .bin o (cE n sc l) (cE n sc r)
      | none => .bad)
    | .UnaryOp .USub a _ => .neg (cE n sc a)
    | .UnaryOp .Not a _ => .nt (cE n sc a)
    | .Compare l [op] [r] _ => (match coOf op, behindInMarks op r with
      | some o, false => .cmp o (cE n sc l) (cE n sc r)
      | _, _ => .bad)
    | .Compare l [o1, o2] [a, b] _ => (match coOf o1, coOf o2, behindInMarks o2 b with
      | some p, some q, false => .cmp2 p q (cE n sc l) (cE n sc a) (cE n sc b)
      | _, _, _ => .bad)
    | .BoolOp .And l _ => .all (l.map (cE n sc))
    | .BoolOp .Or l _ => .any (l.map (cE n sc))
    | .IfExp c a b _ => .ite (cE n sc c) (cE n sc a) (cE n sc b)
    | .Tuple l _ _ => (match l.any isStar with
      | false => .tup (l.map (cE n sc))
      | true => .bad)
    | .List l _ => (match l.any isStar with
      | false => .lst (l.map (cE n sc))
      | true => .bad)
    | .Subscript (.Name x _) i _ => (match isSlice i, glAt gl sc x, sc.names.lookup x, x == ("__debug__" : Str) with
      | false, some (.dct t), _, false => .dct t (cE n sc i)
      | false, _, some .local, false => (match idOf ids x with
        | some j => .idx (.v j) (cE n sc i)
        | none => .bad)
      | true, _, some .local, false => (match i, idOf ids x with
        | .Slice (some (.Constant (.int 1) _ _)) none none _, some j => .tail (.v j)
        | _, _ => .bad)
      | _, _, _, _ => .bad)
    | .Subscript a i _ => (match isSlice i with
      | false => .idx (cE n sc a) (cE n sc i)
      | true => .bad)
    | .Call (.Name f _) (a0 :: ar) [] _ => (match (a0 :: ar).any isStar, f == ("__debug__" : Str), glAt gl sc f with
      | false, false, some (.fn a) => .call a ((a0 :: ar).map (cE n sc))
      | false, false, some (.bi b) => (match b, ar with
        | .isint, [.Name t _] => (match glAt gl sc t, t == ("__debug__" : Str) with
          | some (.bi .toint), false => .bi .isint [cE n sc a0]
          | _, _ => .bad)
        | .isint, _ => .bad
        | b, _ => .bi b ((a0 :: ar).map (cE n sc)))
      | _, _, _ => .bad)
    | .Call (.Attribute o a ap) [] [] p => (match a == ("bit_length" : Str), ap.endLine == p.line, plainBase o with
      | true, true, true => .bits (cE n sc o)
      | _, _, _ => .bad)
    | .ListComp e [⟨.Name x _, it, [], 0⟩] s _ => (match compScOk s x, idOf ids x, notSet it with
      | true, some i, true => .comp i (cE n s e) (cE n sc it)
      | _, _, _ => .bad)
    | _ => .bad
end
end Mine

namespace Mine

structure Room (A : Around) (d : Nat) : Prop where
  hd : A.handled = none
  dp : A.depth + d < recursionLimit
  un : A.units + 4 * d + 80 < cLine
theorem Room.eqs {A : Around} {d : Nat} (r : Room A d) : A.units + 64 < cLine := by have := r.un; omega

noncomputable def biVal : BI → Value
  | .abs => .builtin "abs"
  | .len => .builtin "len"
  | .min => .builtin "min"
  | .max => .builtin "max"
  | .isint => .builtin "isinstance"
  | .toint => .type "int"
/-- what a global name gives, wherever the top stands -/
noncomputable def GName (prog : Program) (w : World) (base : Heap) (x : Str) (v : Value) : Prop :=
  ∀ (A : Around) (E : Value → Shared → Prop) (env : Env) (s : Shared) (Q : Value → Shared → Prop), Kp base s.heap → env.globals = mainGlobals → env.builtins = builtinsNs → Q v s → wpAny (model prog w) A (loadGlobal env x) Q E s
/-- a table of texts at the top -/
noncomputable def GDict (prog : Program) (w : World) (base : Heap) (a : Addr) (t : List (Str × PyData)) : Prop :=
  ∀ x d, t.lookup x = some d → ∃ v, R base v d ∧ ∀ (A : Around) (E : Value → Shared → Prop) (s : Shared) (u : Tok) (Q : Value → Shared → Prop) (value slice : Expr), isSlice slice = false → Kp base s.heap → (∀ tk, Q v { s with toks := tk }) →
    wpAny (model prog w) A (subscriptTail value slice (.ref a) (.str x u)) Q E s
structure Gd (prog : Program) (w : World) (base : Heap) (gl : Str → Option GI) : Prop where
  val : ∀ x d, gl x = some (.val d) → ∃ v, R base v d ∧ GName prog w base x v
  fn : ∀ x a, gl x = some (.fn a) → GName prog w base x (.ref a) ∧ ∃ o fd, base.get? a = some o ∧ o.data = .func fd
  bi : ∀ x b, gl x = some (.bi b) → GName prog w base x (biVal b)
  dct : ∀ x t, gl x = some (.dct t) → ∃ a, GName prog w base x (.ref a) ∧ GDict prog w base a t

section
variable (prog : Program) (w : World) (base : Heap) (ids : List Str)
noncomputable def EnvR (h : Heap) (m : Str → Option Value) (ρ : MEnv) : Prop :=
  ∀ i d, lk ρ i = some d → idOf ids (nm ids i) = some i ∧ ∃ v, m (nm ids i) = some v ∧ R h v d
structure FrE (env : Env) (h : Heap) (ρ : MEnv) : Prop where
  kind : env.scope.kind = .function
  gl : env.globals = mainGlobals
  bu : env.builtins = builtinsNs
  stays : Kp base h
  ns : ∃ m, h.Ns env.locals m ∧ EnvR ids h m ρ
noncomputable def COk (C : CallW) (d : Nat) : Prop :=
  ∀ f ds k, C f ds k → ∀ (A : Around) (s : Shared) (vs : List Value) (Q E : Value → Shared → Prop), Room A d → Kp base s.heap → RA s.heap vs ds →
    (∀ v d h' tk, k d → Kp s.heap h' → R h' v d → Q v { s with heap := h', toks := tk }) → wpAny (model prog w) A (call (.ref f) vs) Q E s
end

section
variable {prog : Program} {w : World} {base : Heap} {ids : List Str} {gl : Str → Option GI}
theorem EnvR.mono {h h' : Heap} {m : Str → Option Value} {ρ : MEnv} (x : EnvR ids h m ρ) (k : SeqKeeps h h') : EnvR ids h' m ρ :=
  fun i d e => let ⟨a, v, b, c⟩ := x i d e; ⟨a, v, b, c.mono k⟩
theorem FrE.mono {env : Env} {h h' : Heap} {ρ : MEnv} (x : FrE base ids env h ρ) (k : Kp h h') : FrE base ids env h' ρ :=
  ⟨x.kind, x.gl, x.bu, x.stays.trans k, let ⟨m, n, r⟩ := x.ns; ⟨m, n.keeps k, r.mono k.seq⟩⟩

variable (prog w base ids) in
noncomputable def SEv (C : CallW) (dp : Nat) (env : Env) (e : Expr) (me : ME) (ρ : MEnv) : Prop :=
  ∀ k, W C me ρ (.val k) → ∀ (A : Around) (s : Shared) (Q E : Value → Shared → Prop), Room A dp → FrE base ids env s.heap ρ →
    (∀ v d h' tk, k d → Kp s.heap h' → R h' v d → Q v { s with heap := h', toks := tk }) → wpAny (model prog w) A (eval e env) Q E s
variable (prog w base ids) in
noncomputable def SEc (C : CallW) (dp : Nat) (env : Env) (e : Expr) (me : ME) (ρ : MEnv) : Prop :=
  ∀ T F, W C me ρ (.cond T F) → ∀ (A : Around) (s : Shared) (Q : Bool → Shared → Prop) (E : Value → Shared → Prop), Room A dp → FrE base ids env s.heap ρ →
    (T → ∀ h' tk, Kp s.heap h' → Q true { s with heap := h', toks := tk }) → (F → ∀ h' tk, Kp s.heap h' → Q false { s with heap := h', toks := tk }) → wpAny (model prog w) A (isTrue e env (eval e env)) Q E s
variable (prog w base ids) in
structure SE (C : CallW) (dp : Nat) (env : Env) (e : Expr) (me : ME) (ρ : MEnv) : Prop where
  v : SEv prog w base ids C dp env e me ρ
  c : SEc prog w base ids C dp env e me ρ

section
variable {C : CallW} {dp : Nat} {env : Env} {ρ : MEnv}
theorem truthy_sound {A : Around} {s : Shared} {v : Value} {d : PyData} {T F : Prop} {Q : Bool → Shared → Prop} {E : Value → Shared → Prop} (r : R s.heap v d) (h : trW d T F) (hT : T → Q true s) (hF : F → Q false s) :
    wpAny (model prog w) A (truthy v) Q E s := by
  cases r with
  | none => exact PyProof.Rows.truthy_none (hF h)
  | bool b =>
    refine wpAny_truthy_bool ?_
    cases b with
    | true => exact hT (h.1 rfl)
    | false => exact hF (h.2 rfl)
  | int i t =>
    refine P.truthy_int ?_
    by_cases hi : i = 0
    · have : (i != 0) = false := by simp [hi]
      rw [this]; exact hF (h.2 hi)
    · have : (i != 0) = true := by simp [hi]
      rw [this]; exact hT (h.1 hi)
  | str => exact h.elim
  | tup => exact h.elim
  | lst => exact h.elim

theorem SE.of_v {e : Expr} {me : ME} (h : SEv prog w base ids C dp env e me ρ) (hw : ∀ T F, W C me ρ (.cond T F) → W C me ρ (.val fun d => trW d T F))
    (he : ∀ whole, isTrue e env whole = (do let v ← whole; standAt e.pos; holding [v] (truthy v))) : SE prog w base ids C dp env e me ρ := by
  refine ⟨h, fun T F hW A s Q E hR hF hT hFf => ?_⟩
  refine wpAny_isTrue_value ?_ (he _)
  exact h _ (hw _ _ hW) A s _ _ hR hF fun v d h' tk hk kp r => truthy_sound r hk (fun t => hT t _ _ kp) fun f => hFf f _ _ kp

theorem SE.bad {e : Expr} : SE prog w base ids C dp env e .bad ρ := ⟨fun _ h => h.elim, fun _ _ h => h.elim⟩

theorem SE.const {c : Const} {d : PyData} {i : Nat} {pos : Pos} (h : kOf c = some d) : SE prog w base ids C dp env (.Constant c i pos) (.k d) ρ := by
  refine .of_v (fun k hk A s Q E _ _ hQ => ?_) (fun _ _ h => h) fun _ => rfl
  cases c with
  | none => cases h; exact wpAny_Constant_none (hQ _ _ _ s.toks hk Kp.rfl .none)
  | bool b => cases h; exact wpAny_Constant_bool (hQ _ _ _ s.toks hk Kp.rfl (.bool _))
  | int b => cases h; exact wpAny_Constant_int (hQ _ _ _ _ hk Kp.rfl (.int _ _))
  | str b => cases h; exact wpAny_Constant_str (hQ _ _ _ _ hk Kp.rfl (.str _ _))
  | _ => cases h

theorem SE.loc {x : Str} {i : Nat} {pos : Pos} (hd : (x == ("__debug__" : Str)) = false) (hl : env.scope.names.lookup x = some .local) (hi : idOf ids x = some i) :
    SE prog w base ids C dp env (.Name x pos) (.v i) ρ := by
  refine .of_v (fun k hk A s Q E _ hF hQ => ?_) (fun _ _ h => h) fun _ => rfl
  obtain ⟨m, n, r⟩ := hF.ns
  simp only [W] at hk
  split at hk
  · rename_i d hd'
    obtain ⟨_, v, hv, hr⟩ := r _ _ hd'
    rw [nm_of ids hi] at hv
    exact wpAny_Name (wpAny_loadName_local hF.kind hl n hv (hQ v d s.heap s.toks hk Kp.rfl hr)) hd
  · exact hk.elim

theorem glob_name {x : Str} {v : Value} {pos : Pos} {A : Around} {s : Shared} {Q E : Value → Shared → Prop} (hd : (x == ("__debug__" : Str)) = false) (hl : env.scope.names.lookup x = some .globalImplicit) (hn : GName prog w base x v)
    (hF : FrE base ids env s.heap ρ) (hQ : Q v s) : wpAny (model prog w) A (eval (.Name x pos) env) Q E s :=
  Calls.Name_function_global hF.kind hl (hn _ _ env s Q hF.stays hF.gl hF.bu hQ) hd

theorem SE.glob {x : Str} {d : PyData} {pos : Pos} (G : Gd prog w base gl) (hd : (x == ("__debug__" : Str)) = false) (hl : env.scope.names.lookup x = some .globalImplicit) (hi : gl x = some (.val d)) :
    SE prog w base ids C dp env (.Name x pos) (.k d) ρ := by
  refine .of_v (fun k hk A s Q E _ hF hQ => ?_) (fun _ _ h => h) fun _ => rfl
  obtain ⟨v, hr, hn⟩ := G.val _ _ hi
  exact glob_name hd hl hn hF (hQ v d s.heap s.toks hk Kp.rfl (hr.mono hF.stays.seq))

noncomputable def unOp : UnaryOp → Option Unit
  | .USub => some ()
  | _ => none
theorem SE.neg {a : Expr} {ma : ME} {pos : Pos} (ha : SE prog w base ids C dp env a ma ρ) : SE prog w base ids C dp env (.UnaryOp .USub a pos) (.neg ma) ρ := by
  refine .of_v (fun k hk A s Q E hR hF hQ => ?_) (fun _ _ h => h) fun _ => rfl
  refine wpAny_UnaryOp (ha.v _ hk A s _ _ hR hF fun v d h' tk hk kp r => ?_)
  cases r with
  | int i t => exact P.neg_int (hQ _ _ _ _ hk kp (.int _ _))
  | _ => exact hk.elim
theorem SE.nt {a : Expr} {ma : ME} {pos : Pos} (ha : SE prog w base ids C dp env a ma ρ) : SE prog w base ids C dp env (.UnaryOp .Not a pos) (.nt ma) ρ := by
  refine ⟨fun k hk A s Q E hR hF hQ => ?_, fun T F hk A s Q E hR hF hT hFf => ?_⟩
  · refine wpAny_UnaryOp (ha.v _ hk A s _ _ hR hF fun v d h' tk hk kp r => ?_)
    exact not_value (truthy_sound r hk (fun t => hQ _ _ _ _ t kp (.bool _)) fun f => hQ _ _ _ _ f kp (.bool _))
  · exact wpAny_isTrue_Not (ha.c _ _ hk A s _ _ hR hF hFf hT)
theorem SE.ite {c a b : Expr} {mc ma mb : ME} {pos : Pos} (hc : SE prog w base ids C dp env c mc ρ) (ha : SE prog w base ids C dp env a ma ρ) (hb : SE prog w base ids C dp env b mb ρ) :
    SE prog w base ids C dp env (.IfExp c a b pos) (.ite mc ma mb) ρ := by
  refine ⟨fun k hk A s Q E hR hF hQ => ?_, fun T F hk A s Q E hR hF hT hFf => ?_⟩
  · refine wpAny_IfExp (hc.c _ _ hk A s _ _ hR hF (fun t h' tk kp => ?_) fun f h' tk kp => ?_)
    · exact ha.v _ t A _ _ _ hR (hF.mono kp) fun v d h'' tk' hk kp' r => hQ v d h'' tk' hk (kp.trans kp') r
    · exact hb.v _ f A _ _ _ hR (hF.mono kp) fun v d h'' tk' hk kp' r => hQ v d h'' tk' hk (kp.trans kp') r
  · show wpAny _ A (do if ← isTrue c env (eval c env) then isTrue a env (eval a env) else isTrue b env (eval b env)) Q E s
    refine wpAny_bind (hc.c _ _ hk A s _ _ hR hF (fun t h' tk kp => ?_) fun f h' tk kp => ?_)
    · exact ha.c _ _ t A _ _ _ hR (hF.mono kp) (fun t h'' tk' kp' => hT t _ _ (kp.trans kp')) fun f h'' tk' kp' => hFf f _ _ (kp.trans kp')
    · exact hb.c _ _ f A _ _ _ hR (hF.mono kp) (fun t h'' tk' kp' => hT t _ _ (kp.trans kp')) fun f h'' tk' kp' => hFf f _ _ (kp.trans kp')

theorem Sm.bits {x : Int} (h : Sm x) : Builtin.Int.intBits x ≤ 2 ^ 24 := by
  unfold Sm Big at h; exact h
theorem mulOk {x y : Int} (hx : Sm x) (hy : Sm y) : IntMulOk x y := by
  have h1 := hx.bits
  have h2 := hy.bits
  unfold IntMulOk Builtin.Int.intTooBig bitsLine
  intro h
  simp only [Bool.and_eq_true, decide_eq_true_eq] at h
  omega
theorem shlOk {x y : Int} (hx : Sm x) (h : y ≤ 1000000) : (Builtin.Int.intBits x : Int) + y ≤ 2 ^ 27 := by
  have h1 := hx.bits
  have h2 : ((2 : Int) ^ 27) = 134217728 := by decide
  rw [h2]
  omega
theorem divOk {x y : Int} (h : Builtin.Int.intBits y ≤ 8000) : Builtin.divisionGoesByPylong x y = false := by
  refine PyProof.noPylong_of_log2 ?_
  unfold Builtin.Int.intBits at h
  split at h
  · rename_i e
    have : y = 0 := by simpa using e
    subst this
    decide
  · omega

theorem bin_sound {A : Around} {s : Shared} {o : Operator} {p : Op} {a b : Value} {x y : PyData} {k : PyData → Prop} {Q E : Value → Shared → Prop} (ho : opOf o = some p) (ra : R s.heap a x) (rb : R s.heap b y)
    (h : binW p x y k) (hQ : ∀ v d h' tk, k d → Kp s.heap h' → R h' v d → Q v { s with heap := h', toks := tk }) : wpAny (model prog w) A (binaryOp o a b) Q E s := by
  cases ra with
  | int x t =>
    cases rb with
    | int y u =>
      cases o <;> cases ho
      · exact P.add_int (hQ _ _ _ _ h Kp.rfl (.int _ _))
      · exact P.sub_int (hQ _ _ _ _ h Kp.rfl (.int _ _))
      · exact P.mul_int (hQ _ _ _ _ h.2 Kp.rfl (.int _ _)) (mulOk h.1.1 h.1.2)
      · exact mod_int' h.1 (hQ _ _ _ _ h.2 Kp.rfl (.int _ _))
      · exact pow_int h.1.1 h.1.2 (hQ _ _ _ _ h.2 Kp.rfl (.int _ _))
      · exact lshift_int h.1.1 (shlOk h.1.2.2 h.1.2.1) (hQ _ _ _ _ h.2 Kp.rfl (.int _ _))
      · exact rshift_int h.1 (hQ _ _ _ _ h.2 Kp.rfl (.int _ _))
      · exact xor_int (hQ _ _ _ _ h Kp.rfl (.int _ _))
      · exact and_int (hQ _ _ _ _ h Kp.rfl (.int _ _))
      · exact floordiv_int h.1.1 (hQ _ _ _ _ h.2 Kp.rfl (.int _ _)) (.inl (divOk h.1.2))
    | _ => cases p <;> exact h.elim
  | tup hx rx =>
    cases rb with
    | tup hy ry =>
      cases p
      · cases o <;> cases ho
        have e1 := rx.length
        have e2 := ry.length
        obtain ⟨⟨n1, n2, n3⟩, hk⟩ := h
        obtain ⟨⟨cls, dd, data, sl⟩, ho, hc, n, hd⟩ := id hx
        obtain ⟨⟨cls2, dd2, data2, sl2⟩, ho2, hc2, n2', hd2⟩ := id hy
        simp only at hc hd hc2 hd2
        subst hc hd hc2 hd2
        rename_i va l a2 vb l2
        have hv : va ≠ [] := by
          rintro rfl
          cases rx
          exact n1 rfl
        have hw : vb ≠ [] := by
          rintro rfl
          cases ry
          exact n2 rfl
        refine concat_meets ⟨_, ho, rfl⟩ ⟨_, ho2, rfl⟩ noFill_tuple_add seq_tuple_add PySem.F.slot_tuple_add PySem.F.entry_tuple_add (PySem.F.args_tuple_add_2 _ _)
          (tuple_addW2 _ _ va.toArray vb.toArray n n2' dd dd2 sl sl2 (by simpa using hv) (by simpa using hw) (by rw [List.size_toArray, List.size_toArray, e1, e2, sizeLine_eq]; omega)) ⟨ho, ho2, ?_⟩
        have e : va.toArray ++ vb.toArray = (va ++ vb).toArray := by simp
        rw [e]
        exact hQ _ _ _ s.toks hk (Kp.push _) (.tup ⟨_, Heap.get?_push_size _ rfl, rfl, _, rfl⟩ ((RA.mono (Kp.push _).seq rx).app (RA.mono (Kp.push _).seq ry)))
      all_goals exact h.elim
    | _ => cases p <;> exact h.elim
  | _ => cases p <;> exact h.elim
theorem aug_sound {A : Around} {s : Shared} {o : Operator} {p : Op} {a b : Value} {x y : PyData} {k : PyData → Prop} {Q E : Value → Shared → Prop} (ho : opOf o = some p) (ra : R s.heap a x) (rb : R s.heap b y)
    (h : augW p x y k) (hQ : ∀ v d h' tk, k d → Kp s.heap h' → R h' v d → Q v { s with heap := h', toks := tk }) : wpAny (model prog w) A (inplaceOp o a b) Q E s := by
  cases ra with
  | int x t =>
    cases rb with
    | int y u =>
      cases o <;> cases ho
      · exact P.iadd_int (hQ _ _ _ _ h Kp.rfl (.int _ _))
      · exact P.isub_int (hQ _ _ _ _ h Kp.rfl (.int _ _))
      · exact P.imul_int (hQ _ _ _ _ h.2 Kp.rfl (.int _ _)) (mulOk h.1.1 h.1.2)
      · exact imod_int h.1 (hQ _ _ _ _ h.2 Kp.rfl (.int _ _))
      · exact ipow_int h.1.1 h.1.2 (hQ _ _ _ _ h.2 Kp.rfl (.int _ _))
      · exact ilshift_int h.1.1 (shlOk h.1.2.2 h.1.2.1) (hQ _ _ _ _ h.2 Kp.rfl (.int _ _))
      · exact irshift_int h.1 (hQ _ _ _ _ h.2 Kp.rfl (.int _ _))
      · exact ixor_int (hQ _ _ _ _ h Kp.rfl (.int _ _))
      · exact iand_int (hQ _ _ _ _ h Kp.rfl (.int _ _))
      · exact ifloordiv_int h.1.1 (hQ _ _ _ _ h.2 Kp.rfl (.int _ _)) (.inl (divOk h.1.2))
    | _ => exact h.elim
  | _ => exact h.elim

theorem cmp_sound {A : Around} {s : Shared} {o : CmpOp} {p : CO} {a b : Value} {x y : PyData} {T F : Prop} {Q E : Value → Shared → Prop} (hu : A.units + 64 < cLine) (ho : coOf o = some p) (ra : R s.heap a x) (rb : R s.heap b y)
    (h : cmpT p x y T F) (hT : T → Q (.bool true) s) (hF : F → Q (.bool false) s) : wpAny (model prog w) A (compareOp o a b) Q E s := by
  have dec : ∀ (b : Bool), (b = true → T) → (b = false → F) → Q (.bool b) s := fun b h1 h2 => by
    cases b with
    | true => exact hT (h1 rfl)
    | false => exact hF (h2 rfl)
  cases ra with
  | int x t =>
    cases rb with
    | int y u =>
      cases o <;> cases ho
      · exact P.eq_int (dec _ (fun e => h.1 (by simpa using e)) fun e => h.2 (by simpa using e))
      · exact P.ne_int (dec _ (fun e => h.1 (by simpa using e)) fun e => h.2 (by simpa using e))
      · exact P.lt_int (dec _ (fun e => h.1 (by simpa using e)) fun e => h.2 (by simpa using e))
      · exact P.le_int (dec _ (fun e => h.1 (by simpa using e)) fun e => h.2 (by simpa using e))
      · exact P.gt_int (dec _ (fun e => h.1 (by simpa using e)) fun e => h.2 (by simpa using e))
      · exact P.ge_int (dec _ (fun e => h.1 (by simpa using e)) fun e => h.2 (by simpa using e))
      · exact h.elim
    | _ => cases p <;> exact h.elim
  | str x t =>
    cases rb with
    | str y u =>
      cases o <;> cases ho
      · exact PyProof.Rows.eq_str (dec _ (fun e => h.1 (by simpa using e)) fun e => h.2 (by simpa using e))
      all_goals first
        | exact h.elim
        | exact PyProof.Rows.in_str (dec _ (fun e => h.1 (by simpa using e)) fun e => h.2 (by simpa using e))
    | _ => cases p <;> exact h.elim
  | tup hx rx =>
    cases rb with
    | tup hy ry =>
      obtain ⟨as, r1⟩ := (R.tup hx rx).reads
      obtain ⟨bs, r2⟩ := (R.tup hy ry).reads
      cases o <;> cases ho
      · exact SeqAt.compareEq_shaped r1 r2 h.1.1 h.1.2 hu (dec _ h.2.1 h.2.2)
      · exact SeqAt.compareNe_shaped r1 r2 h.1.1 h.1.2 hu (dec _ (fun e => h.2.1 (by simpa using e)) fun e => h.2.2 (by simpa using e))
      all_goals exact h.elim
    | _ => cases p <;> exact h.elim
  | _ => cases p <;> exact h.elim

theorem SE.bin {l r : Expr} {a b : ME} {o : Operator} {p : Op} {pos : Pos} (ho : opOf o = some p) (ha : SE prog w base ids C dp env l a ρ) (hb : SE prog w base ids C dp env r b ρ) :
    SE prog w base ids C dp env (.BinOp l o r pos) (.bin p a b) ρ := by
  refine .of_v (fun k hk A s Q E hR hF hQ => ?_) (fun _ _ h => h) fun _ => rfl
  refine wpAny_BinOp (ha.v _ hk A s _ _ hR hF fun v d h' tk hk kp r => ?_)
  refine hb.v _ hk A _ _ _ hR (hF.mono kp) fun v2 d2 h2 tk2 hk kp2 r2 => ?_
  exact bin_sound ho (r.mono kp2.seq) r2 hk fun v3 d3 h3 tk3 hk kp3 r3 => hQ _ _ _ _ hk (kp.trans (kp2.trans kp3)) r3

theorem SE.cmp {l r : Expr} {a b : ME} {o : CmpOp} {p : CO} {pos : Pos} (ho : coOf o = some p) (hm : behindInMarks o r = false) (ha : SE prog w base ids C dp env l a ρ) (hb : SE prog w base ids C dp env r b ρ) :
    SE prog w base ids C dp env (.Compare l [o] [r] pos) (.cmp p a b) ρ := by
  refine ⟨fun k hk A s Q E hR hF hQ => ?_, fun T F hk A s Q E hR hF hT hFf => ?_⟩
  · refine wpAny_Compare1 (ha.v _ hk A s _ _ hR hF fun v d h' tk hk kp r => ?_) hm
    refine hb.v _ hk A _ _ _ hR (hF.mono kp) fun v2 d2 h2 tk2 hk kp2 r2 => ?_
    exact cmp_sound hR.eqs ho (r.mono kp2.seq) r2 hk (fun t => hQ _ _ _ _ t (kp.trans kp2) (.bool _)) fun f => hQ _ _ _ _ f (kp.trans kp2) (.bool _)
  · refine wpAny_isTrue_Compare1 (ha.v _ hk A s _ _ hR hF fun v d h' tk hk kp r => ?_) hm
    refine hb.v _ hk A _ _ _ hR (hF.mono kp) fun v2 d2 h2 tk2 hk kp2 r2 => ?_
    exact cmp_sound hR.eqs ho (r.mono kp2.seq) r2 hk (fun t => wpAny_truthy_bool (hT t _ _ (kp.trans kp2))) fun f => wpAny_truthy_bool (hFf f _ _ (kp.trans kp2))

variable (prog w base ids) in
noncomputable def SL (C : CallW) (dp : Nat) (env : Env) (l : List Expr) (ml : List ME) (ρ : MEnv) : Prop :=
  ∀ k, Ws C ml ρ k → ∀ (A : Around) (s : Shared) (pos : Pos) (Q : List Value → Shared → Prop) (E : Value → Shared → Prop), Room A dp → FrE base ids env s.heap ρ →
    (∀ vs ds h' tk, k ds → Kp s.heap h' → RA h' vs ds → Q vs { s with heap := h', toks := tk }) → wpAny (model prog w) A (spliced (backTo pos (starEach l env))) Q E s
theorem SL.mk : ∀ (l : List Expr) (f : Expr → ME), l.any isStar = false → (∀ e ∈ l, SE prog w base ids C dp env e (f e) ρ) → SL prog w base ids C dp env l (l.map f) ρ
  | [], f, _, _ => fun k hk A s pos Q E hR hF hQ => wpAny_items_nil (hQ _ _ _ s.toks hk Kp.rfl .nil)
  | e :: r, f, hs, h => fun k hk A s pos Q E hR hF hQ => by
    rw [List.any_cons, Bool.or_eq_false_iff] at hs
    refine wpAny_items_cons ((h e (.head _)).v _ hk A s _ _ hR hF fun v d h' tk hk kp rv => ?_) ?_
    · refine SL.mk r f hs.2 (fun e' he' => h e' (.tail _ he')) _ hk A _ pos _ _ hR (hF.mono kp) fun vs ds h2 tk2 hk kp2 r2 => ?_
      exact hQ _ _ _ _ hk (kp.trans kp2) (.cons (rv.mono kp2.seq) r2)
    · cases e <;> first | rfl | exact absurd hs.1 (by simp [isStar])

theorem SE.tup {l : List Expr} {ml : List ME} {i : Nat} {pos : Pos} (h : SL prog w base ids C dp env l ml ρ) : SE prog w base ids C dp env (.Tuple l i pos) (.tup ml) ρ := by
  refine .of_v (fun k hk A s Q E hR hF hQ => ?_) (fun _ _ h => h) fun _ => rfl
  refine wpAny_Tuple (h _ hk A s pos _ _ hR hF fun vs ds h' tk hk kp r => ⟨?_, ?_⟩)
  · rw [r.length, sizeLine_eq]; have := hk.1; omega
  · exact hQ _ _ _ tk hk.2 (kp.trans (Kp.push _)) (.tup ⟨_, Heap.get?_push_size _ rfl, rfl, _, rfl⟩ (RA.mono (Kp.push _).seq r))
theorem SE.lst {l : List Expr} {ml : List ME} {pos : Pos} (h : SL prog w base ids C dp env l ml ρ) : SE prog w base ids C dp env (.List l pos) (.lst ml) ρ := by
  refine .of_v (fun k hk A s Q E hR hF hQ => ?_) (fun _ _ h => h) fun _ => rfl
  refine wpAny_List (h _ hk A s pos _ _ hR hF fun vs ds h' tk hk kp r => ⟨?_, ?_⟩)
  · rw [r.length, sizeLine_eq]; have := hk.1; omega
  · exact hQ _ _ _ tk hk.2 (kp.trans (Kp.push _)) (.lst ⟨_, Heap.get?_push_size _ rfl, rfl, _, rfl⟩ (RA.mono (Kp.push _).seq r))

theorem all_v : ∀ (l : List Expr) (f : Expr → ME) (k : PyData → Prop) (pos : Pos), (∀ e ∈ l, SE prog w base ids C dp env e (f e) ρ) → Wall C (l.map f) ρ (.val k) → ∀ (A : Around) (s : Shared) (Q E : Value → Shared → Prop), Room A dp → FrE base ids env s.heap ρ →
    (∀ v d h' tk, k d → Kp s.heap h' → R h' v d → Q v { s with heap := h', toks := tk }) → wpAny (model prog w) A (eval (.BoolOp .And l pos) env) Q E s
  | [], _, _, _, _, h, _, _, _, _, _, _, _ => by simp [Wall] at h
  | [e], f, k, pos, he, h, A, s, Q, E, hR, hF, hQ => by
    rw [List.map_cons, List.map_nil, Wall] at h
    exact BoolOp_one ((he e (.head _)).v _ h A s _ _ hR hF hQ)
  | e :: e' :: r, f, k, pos, he, h, A, s, Q, E, hR, hF, hQ => by
    rw [List.map_cons, List.map_cons, Wall] at h
    refine BoolOp_and ((he e (.head _)).v _ h A s _ _ hR hF fun v d h' tk hk kp rv => ?_)
    refine truthy_sound rv hk (fun t => ?_) fun f => ?_
    · rw [if_pos rfl]
      exact all_v (e' :: r) f k pos (fun x hx => he x (.tail _ hx)) t A _ Q E hR (hF.mono kp) fun v2 d2 h2 tk2 hk kp2 r2 => hQ _ _ _ _ hk (kp.trans kp2) r2
    · rw [if_neg Bool.false_ne_true]
      exact hQ _ _ _ _ f kp rv
theorem any_v : ∀ (l : List Expr) (f : Expr → ME) (k : PyData → Prop) (pos : Pos), (∀ e ∈ l, SE prog w base ids C dp env e (f e) ρ) → Wany C (l.map f) ρ (.val k) → ∀ (A : Around) (s : Shared) (Q E : Value → Shared → Prop), Room A dp → FrE base ids env s.heap ρ →
    (∀ v d h' tk, k d → Kp s.heap h' → R h' v d → Q v { s with heap := h', toks := tk }) → wpAny (model prog w) A (eval (.BoolOp .Or l pos) env) Q E s
  | [], _, _, _, _, h, _, _, _, _, _, _, _ => by simp [Wany] at h
  | [e], f, k, pos, he, h, A, s, Q, E, hR, hF, hQ => by
    rw [List.map_cons, List.map_nil, Wany] at h
    exact BoolOp_one ((he e (.head _)).v _ h A s _ _ hR hF hQ)
  | e :: e' :: r, f, k, pos, he, h, A, s, Q, E, hR, hF, hQ => by
    rw [List.map_cons, List.map_cons, Wany] at h
    refine BoolOp_or ((he e (.head _)).v _ h A s _ _ hR hF fun v d h' tk hk kp rv => ?_)
    refine truthy_sound rv hk (fun t => ?_) fun f => ?_
    · rw [if_pos rfl]
      exact hQ _ _ _ _ t kp rv
    · rw [if_neg Bool.false_ne_true]
      exact any_v (e' :: r) _ k pos (fun x hx => he x (.tail _ hx)) f A _ Q E hR (hF.mono kp) fun v2 d2 h2 tk2 hk kp2 r2 => hQ _ _ _ _ hk (kp.trans kp2) r2
theorem all_c : ∀ (l : List Expr) (f : Expr → ME) (T F : Prop), (∀ e ∈ l, SE prog w base ids C dp env e (f e) ρ) → Wall C (l.map f) ρ (.cond T F) → ∀ (A : Around) (s : Shared) (Q : Bool → Shared → Prop) (E : Value → Shared → Prop), Room A dp → FrE base ids env s.heap ρ →
    (T → ∀ h' tk, Kp s.heap h' → Q true { s with heap := h', toks := tk }) → (F → ∀ h' tk, Kp s.heap h' → Q false { s with heap := h', toks := tk }) → wpAny (model prog w) A (allTrue .And l env) Q E s
  | [], _, _, _, _, h, _, s, _, _, _, _, hT, _ => by
    rw [List.map_nil, Wall] at h
    exact wpAny_allTrue_And_nil (hT h _ s.toks Kp.rfl)
  | e :: r, f, T, F, he, h, A, s, Q, E, hR, hF, hT, hFf => by
    rw [List.map_cons, Wall] at h
    refine wpAny_allTrue_And_cons ((he e (.head _)).c _ _ h A s _ _ hR hF (fun t h' tk kp => ?_) fun f h' tk kp => ?_)
    · rw [if_pos rfl]
      exact all_c r f T F (fun x hx => he x (.tail _ hx)) t A _ Q E hR (hF.mono kp) (fun t h2 tk2 kp2 => hT t _ _ (kp.trans kp2)) fun f h2 tk2 kp2 => hFf f _ _ (kp.trans kp2)
    · rw [if_neg Bool.false_ne_true]
      exact hFf f _ _ kp
theorem any_c : ∀ (l : List Expr) (f : Expr → ME) (T F : Prop), (∀ e ∈ l, SE prog w base ids C dp env e (f e) ρ) → Wany C (l.map f) ρ (.cond T F) → ∀ (A : Around) (s : Shared) (Q : Bool → Shared → Prop) (E : Value → Shared → Prop), Room A dp → FrE base ids env s.heap ρ →
    (T → ∀ h' tk, Kp s.heap h' → Q true { s with heap := h', toks := tk }) → (F → ∀ h' tk, Kp s.heap h' → Q false { s with heap := h', toks := tk }) → wpAny (model prog w) A (allTrue .Or l env) Q E s
  | [], _, _, _, _, h, _, s, _, _, _, _, _, hFf => by
    rw [List.map_nil, Wany] at h
    exact wpAny_allTrue_Or_nil (hFf h _ s.toks Kp.rfl)
  | e :: r, f, T, F, he, h, A, s, Q, E, hR, hF, hT, hFf => by
    rw [List.map_cons, Wany] at h
    refine wpAny_allTrue_Or_cons ((he e (.head _)).c _ _ h A s _ _ hR hF (fun t h' tk kp => ?_) fun f h' tk kp => ?_)
    · rw [if_pos rfl]
      exact hT t _ _ kp
    · rw [if_neg Bool.false_ne_true]
      exact any_c r _ T F (fun x hx => he x (.tail _ hx)) f A _ Q E hR (hF.mono kp) (fun t h2 tk2 kp2 => hT t _ _ (kp.trans kp2)) fun f h2 tk2 kp2 => hFf f _ _ (kp.trans kp2)
theorem SE.all {l : List Expr} {f : Expr → ME} {pos : Pos} (h : ∀ e ∈ l, SE prog w base ids C dp env e (f e) ρ) : SE prog w base ids C dp env (.BoolOp .And l pos) (.all (l.map f)) ρ :=
  ⟨fun k hk A s Q E hR hF hQ => all_v l f k pos h hk A s Q E hR hF hQ, fun T F hk A s Q E hR hF hT hFf => wpAny_isTrue_BoolOp (all_c l f T F h hk A s Q E hR hF hT hFf)⟩
theorem SE.any {l : List Expr} {f : Expr → ME} {pos : Pos} (h : ∀ e ∈ l, SE prog w base ids C dp env e (f e) ρ) : SE prog w base ids C dp env (.BoolOp .Or l pos) (.any (l.map f)) ρ :=
  ⟨fun k hk A s Q E hR hF hQ => any_v l f k pos h hk A s Q E hR hF hQ, fun T F hk A s Q E hR hF hT hFf => wpAny_isTrue_BoolOp (any_c l f T F h hk A s Q E hR hF hT hFf)⟩
end
end
end Mine

namespace Mine
section
variable {prog : Program} {w : World} {base : Heap} {ids : List Str} {gl : Str → Option GI}
variable {C : CallW} {dp : Nat} {env : Env} {ρ : MEnv}

theorem SE.cmp2 {l a b : Expr} {ml ma mb : ME} {o1 o2 : CmpOp} {p1 p2 : CO} {pos : Pos} (h1 : coOf o1 = some p1) (h2 : coOf o2 = some p2) (hm : behindInMarks o2 b = false) (hl : SE prog w base ids C dp env l ml ρ)
    (ha : SE prog w base ids C dp env a ma ρ) (hb : SE prog w base ids C dp env b mb ρ) : SE prog w base ids C dp env (.Compare l [o1, o2] [a, b] pos) (.cmp2 p1 p2 ml ma mb) ρ := by
  have hm' : lastMarks [o1, o2] [a, b] = false := by simpa [lastMarks] using hm
  refine ⟨fun k hk A s Q E hR hF hQ => ?_, fun T F hk A s Q E hR hF hT hFf => ?_⟩
  · refine Compare_chain (hl.v _ hk A s _ _ hR hF fun v d h' tk hk kp r => ?_) hm'
    refine chain_link (ha.v _ hk A _ _ _ hR (hF.mono kp) fun v2 d2 h2' tk2 hk kp2 r2 => ?_)
    refine cmp_sound hR.eqs h1 (r.mono kp2.seq) r2 hk (fun t => wpAny_truthy_bool ?_) fun f => wpAny_truthy_bool ?_
    · rw [if_pos rfl]
      refine chain_last (hb.v _ t A _ _ _ hR ((hF.mono kp).mono kp2) fun v3 d3 h3 tk3 hk kp3 r3 => ?_)
      exact cmp_sound hR.eqs h2 (r2.mono kp3.seq) r3 hk (fun t => hQ _ _ _ _ t (kp.trans (kp2.trans kp3)) (.bool _)) fun f => hQ _ _ _ _ f (kp.trans (kp2.trans kp3)) (.bool _)
    · rw [if_neg Bool.false_ne_true]
      exact hQ _ _ _ _ f (kp.trans kp2) (.bool _)
  · refine isTrue_chain (hl.v _ hk A s _ _ hR hF fun v d h' tk hk kp r => ?_) hm'
    refine test_link (ha.v _ hk A _ _ _ hR (hF.mono kp) fun v2 d2 h2' tk2 hk kp2 r2 => ?_)
    refine cmp_sound hR.eqs h1 (r.mono kp2.seq) r2 hk (fun t => wpAny_truthy_bool ?_) fun f => wpAny_truthy_bool ?_
    · rw [if_pos rfl]
      refine test_last (hb.v _ t A _ _ _ hR ((hF.mono kp).mono kp2) fun v3 d3 h3 tk3 hk kp3 r3 => ?_)
      exact cmp_sound hR.eqs h2 (r2.mono kp3.seq) r3 hk (fun t => wpAny_truthy_bool (hT t _ _ (kp.trans (kp2.trans kp3)))) fun f => wpAny_truthy_bool (hFf f _ _ (kp.trans (kp2.trans kp3)))
    · rw [if_neg Bool.false_ne_true]
      exact hFf (f.2 rfl) _ _ (kp.trans kp2)

theorem star_any {pos : Pos} : ∀ {l : List Expr}, l.any isStar = false → (backTo pos (starEach l env)).any (·.1) = false
  | [], _ => rfl
  | e :: r, h => by
    rw [List.any_cons, Bool.or_eq_false_iff] at h
    have ih := star_any (pos := pos) h.2
    cases e <;> first | exact ih | exact absurd h.1 (by simp [isStar])
theorem star_cons {e : Expr} {r : List Expr} (h : isStar e = false) : starEach (e :: r) env = (false, eval e env) :: starEach r env := by
  cases e <;> first | rfl | exact absurd h (by simp [isStar])
theorem glAt_some {sc : Scope} {x : Str} {g : GI} (h : glAt gl sc x = some g) : sc.names.lookup x = some .globalImplicit ∧ gl x = some g := by
  unfold glAt at h
  split at h
  · rename_i e; exact ⟨e, h⟩
  · cases h
theorem SE.call {f : Str} {a : Addr} {e : Expr} {r : List Expr} {ml : List ME} {p pos : Pos} (G : Gd prog w base gl) (hC : COk prog w base C dp) (hs : (e :: r).any isStar = false) (hd : (f == ("__debug__" : Str)) = false)
    (hg : glAt gl env.scope f = some (.fn a)) (h : SL prog w base ids C dp env (e :: r) ml ρ) : SE prog w base ids C dp env (.Call (.Name f p) (e :: r) [] pos) (.call a ml) ρ := by
  refine .of_v (fun k hk A s Q E hR hF hQ => ?_) (fun _ _ h => h) fun _ => rfl
  obtain ⟨hl, hg'⟩ := glAt_some hg
  obtain ⟨hn, o, fd, ho, hdat⟩ := G.fn _ _ hg'
  refine wpAny_Call_Name_kw (glob_name (ρ := ρ) hd hl hn hF ?_)
  have hs' := hs
  rw [List.any_cons, Bool.or_eq_false_iff] at hs'
  refine callWith_def hdat ?_ (star_cons hs'.1)
  refine h _ hk A s pos _ _ hR hF fun vs ds h' tk hk kp r => ⟨kp _ _ (hF.stays _ _ ho), ?_⟩
  exact hC _ _ _ hk A _ vs _ _ hR (hF.stays.trans kp) r fun v d h2 tk2 hk kp2 r2 => hQ _ _ _ _ hk (kp.trans kp2) r2

theorem bi_sound {A : Around} {s : Shared} {b : BI} {vs : List Value} {ds : List PyData} {k : PyData → Prop} {Q E : Value → Shared → Prop} (hh : A.handled = none) (hb : b ≠ .isint) (r : RA s.heap vs ds) (h : biW b ds k)
    (hQ : ∀ v d h' tk, k d → Kp s.heap h' → R h' v d → Q v { s with heap := h', toks := tk }) : wpAny (model prog w) A (call (biVal b) vs) Q E s := by
  cases b with
  | isint => exact absurd rfl hb
  | abs =>
    match ds, r, h with
    | [.int x], .cons (.int _ t) .nil, h => exact call_abs_int fun u tk => hQ _ _ _ tk h Kp.rfl (.int _ u)
  | len =>
    match ds, r, h with
    | [.list l], .cons (.lst hl rl) .nil, h =>
      have e := rl.length
      refine PyProof.Rows.len_list hl ?_ ?_
      · rw [List.size_toArray, e]; have := h.1; omega
      · rw [List.size_toArray, e]; exact hQ _ _ _ _ h.2 Kp.rfl (.int _ _)
  | min =>
    match ds, r, h with
    | [.int x, .int y], .cons (.int _ t) (.cons (.int _ u) .nil), h =>
      refine min_two_ints hh fun h' tk kp => hQ _ _ _ _ h kp ?_
      split <;> exact .int _ _
  | max =>
    match ds, r, h with
    | [.int x, .int y], .cons (.int _ t) (.cons (.int _ u) .nil), h =>
      refine max_two_ints hh fun h' tk kp => hQ _ _ _ _ h kp ?_
      split <;> exact .int _ _
  | toint =>
    match ds, r, h with
    | [.int x], .cons (.int _ t) .nil, h => exact call_int_int (hQ _ _ _ s.toks h Kp.rfl (.int _ _))

theorem callWith_bi {A : Around} {s : Shared} {b : BI} {e : Expr} {r : List Expr} {pos : Pos} {Q : Value → Shared → Prop} {E : Value → Shared → Prop} (hs : (e :: r).any isStar = false)
    (h : wpAny (model prog w) A (spliced (backTo pos (starEach (e :: r) env))) (fun vs s₁ => wpAny (model prog w) A (call (biVal b) vs) Q E s₁) E s) :
    wpAny (model prog w) A (callWith pos (biVal b) [] (backTo pos (starEach (e :: r) env)) []) Q E s := by
  have hs' := hs
  rw [List.any_cons, Bool.or_eq_false_iff] at hs'
  cases b with
  | toint => exact PyProof.Rows.callWith_type1 h (star_cons hs'.1) (star_any hs'.2)
  | _ => exact PyProof.Rows.callWith_builtin1 h (star_cons hs'.1) (star_any hs'.2)

theorem SE.bi {f : Str} {b : BI} {e : Expr} {r : List Expr} {ml : List ME} {p pos : Pos} (G : Gd prog w base gl) (hs : (e :: r).any isStar = false) (hd : (f == ("__debug__" : Str)) = false) (hb : b ≠ .isint)
    (hg : glAt gl env.scope f = some (.bi b)) (h : SL prog w base ids C dp env (e :: r) ml ρ) : SE prog w base ids C dp env (.Call (.Name f p) (e :: r) [] pos) (.bi b ml) ρ := by
  refine .of_v (fun k hk A s Q E hR hF hQ => ?_) (fun _ _ h => h) fun _ => rfl
  obtain ⟨hl, hg'⟩ := glAt_some hg
  refine wpAny_Call_Name_kw (glob_name (ρ := ρ) hd hl (G.bi _ _ hg') hF ?_)
  refine callWith_bi hs (h _ hk A s pos _ _ hR hF fun vs ds h' tk hk kp r => ?_)
  exact bi_sound hR.hd hb r hk fun v d h2 tk2 hk kp2 r2 => hQ _ _ _ _ hk (kp.trans kp2) r2

theorem SE.isint {f t : Str} {e : Expr} {me : ME} {p p2 pos : Pos} (G : Gd prog w base gl) (hs : isStar e = false) (hd : (f == ("__debug__" : Str)) = false) (hd2 : (t == ("__debug__" : Str)) = false)
    (hg : glAt gl env.scope f = some (.bi .isint)) (hg2 : glAt gl env.scope t = some (.bi .toint)) (h : SE prog w base ids C dp env e me ρ) : SE prog w base ids C dp env (.Call (.Name f p) [e, .Name t p2] [] pos) (.bi .isint [me]) ρ := by
  refine .of_v (fun k hk A s Q E hR hF hQ => ?_) (fun _ _ h => h) fun _ => rfl
  obtain ⟨hl, hg'⟩ := glAt_some hg
  obtain ⟨hl2, hg2'⟩ := glAt_some hg2
  refine wpAny_Call_Name_kw (glob_name (ρ := ρ) hd hl (G.bi _ _ hg') hF ?_)
  refine callWith_bi (b := .isint) (by show (isStar e || (false || false)) = false; rw [hs]; rfl) ?_
  refine wpAny_items_cons (h.v _ hk A s _ _ hR hF fun v d h' tk hk kp r => ?_) (star_cons hs)
  refine wpAny_items_cons (glob_name (ρ := ρ) hd2 hl2 (G.bi _ _ hg2') (hF.mono kp) ?_) rfl
  refine wpAny_items_nil ?_
  cases r with
  | int x t =>
    exact call_isinstance (isinstance_true (by kernel_rfl) (by rw [isSubtype_type]; kernel_rfl)) ⟨rfl, hQ _ _ _ _ hk kp (.bool _)⟩
  | _ => exact hk.elim

theorem SE.bits {o : Expr} {mo : ME} {ap pos : Pos} (hp : (ap.endLine == pos.line) = true) (ho : plainBase o = true) (h : SE prog w base ids C dp env o mo ρ) : SE prog w base ids C dp env (.Call (.Attribute o (Str.ofString "bit_length") ap) [] [] pos) (.bits mo) ρ := by
  refine .of_v (fun k hk A s Q E hR hF hQ => ?_) (fun _ _ h => h) fun _ => rfl
  rw [arm_eval_Call]
  have hb : attributeBase o (Str.ofString "bit_length") env (eval o env) = eval o env := by
    cases o <;> first | rfl | exact absurd ho (by simp [plainBase])
  rw [hb]
  refine wpAny_bind (h.v _ hk A s _ _ hR hF fun v d h' tk hk kp r => wpAny_bind (wpAny_standAt ?_))
  cases r with
  | int x t =>
    have hpos : methodCallPos true o env ap pos = pure pos := by unfold methodCallPos; simp [hp]
    show wpAny (model prog w) A (do
      let (f, first) ← holding [.int x t] (calleeOf true o env (.int x t) (Str.ofString "bit_length"))
      let callPos ← methodCallPos true o env ap pos
      callWith callPos f first [] []) Q E _
    refine wpAny_bind (wpAny_holding (getMethod_int_bit_length ?_))
    refine wpAny_bind (wpAny_of_eq hpos ?_)
    refine callWith_method0 (env := env) (pos := pos) (call_int_bit_length (hQ _ _ _ _ hk kp (.int _ _)))
  | _ => exact hk.elim

theorem sub_false {slice : Expr} {o i : Value} (h : isSlice slice = false) : subscripted slice false o i = operate [o, i] (getItem o i) := by
  cases slice <;> first | rfl | exact absurd h (by simp [isSlice])

theorem SE.idx {a i : Expr} {ma mi : ME} {pos : Pos} (hs : isSlice i = false) (ha : SE prog w base ids C dp env a ma ρ) (hi : SE prog w base ids C dp env i mi ρ) : SE prog w base ids C dp env (.Subscript a i pos) (.idx ma mi) ρ := by
  refine .of_v (fun k hk A s Q E hR hF hQ => ?_) (fun _ _ h => h) fun _ => rfl
  refine Subscript_ (ha.v _ hk A s _ _ hR hF fun v d h' tk hk kp r => ?_)
  refine hi.v _ hk A _ _ _ hR (hF.mono kp) fun v2 d2 h2 tk2 hk kp2 r2 => ?_
  have r := r.mono kp2.seq
  cases r with
  | tup ht rt =>
    cases r2 with
    | int x u =>
      cases x with
      | ofNat n =>
        simp only [KK.go, idxW] at hk
        obtain ⟨hb, hk⟩ := hk
        split at hk
        · rename_i d hd
          obtain ⟨y, hy, ry⟩ := rt.at hd
          have hlt := (List.getElem?_eq_some_iff.mp hy).1
          have en : Int.ofNat n = (n : Int) := rfl
          rw [en]
          refine item_tupleT ht (j := n) (by omega) (by omega) ?_ hy (hQ _ _ _ _ hk (kp.trans kp2) ry) (sub_false hs)
          unfold seqIndex?
          simp
          omega
        · exact hk.elim
      | negSucc n => exact hk.elim
    | _ => exact hk.elim
  | lst hl rl =>
    cases r2 with
    | int x u =>
      simp only [KK.go, idxW] at hk
      obtain ⟨⟨h0, h1⟩, hk⟩ := hk
      split at hk
      · rename_i d hd
        obtain ⟨y, hy, ry⟩ := rl.at hd
        exact tail_any hl.typeIs PySem.F.slot_list_getitem.lookup (wpAny_getItem_list hl h0 (by omega) (by simpa using hy) (hQ _ _ _ _ hk (kp.trans kp2) ry)) (sub_false hs)
      · exact hk.elim
    | _ => cases hk
  | _ => exact hk.elim

theorem SE.dct {x : Str} {t : List (Str × PyData)} {i : Expr} {mi : ME} {p pos : Pos} (G : Gd prog w base gl) (hs : isSlice i = false) (hd : (x == ("__debug__" : Str)) = false) (hg : glAt gl env.scope x = some (.dct t))
    (hi : SE prog w base ids C dp env i mi ρ) : SE prog w base ids C dp env (.Subscript (.Name x p) i pos) (.dct t mi) ρ := by
  refine .of_v (fun k hk A s Q E hR hF hQ => ?_) (fun _ _ h => h) fun _ => rfl
  obtain ⟨hl, hg'⟩ := glAt_some hg
  obtain ⟨a, hn, hD⟩ := G.dct _ _ hg'
  refine Subscript_ (glob_name (ρ := ρ) hd hl hn hF ?_)
  refine hi.v _ hk A _ _ _ hR hF fun v2 d2 h2 tk2 hk kp2 r2 => ?_
  cases r2 with
  | str y u =>
    simp only [KK.go, dctW] at hk
    split at hk
    · rename_i d hd
      obtain ⟨v, rv, hv⟩ := hD _ _ hd
      exact hv A E _ u Q _ _ hs (hF.stays.trans kp2) fun tk => hQ _ _ _ tk hk kp2 (rv.mono (hF.stays.trans kp2).seq)
    · exact hk.elim
  | _ => exact hk.elim

theorem slice_two (a b : Value) : slicePick [a, b].toArray (some 1) none none = [b].toArray := by
  have h : sliceRange (sliceBounds (some 1) none none [a, b].toArray.size).1 (sliceBounds (some 1) none none [a, b].toArray.size).2.1 (sliceBounds (some 1) none none [a, b].toArray.size).2.2 = [1] := by
    show sliceRange (sliceBounds (some 1) none none 2).1 (sliceBounds (some 1) none none 2).2.1 (sliceBounds (some 1) none none 2).2.2 = [1]
    decide +kernel
  unfold slicePick
  rw [h]
  rfl
theorem SE.tail {x : Str} {j : Nat} {p p1 p2 pos : Pos} {q : Nat} (hd : (x == ("__debug__" : Str)) = false) (hl : env.scope.names.lookup x = some .local) (hi : idOf ids x = some j) :
    SE prog w base ids C dp env (.Subscript (.Name x p) (.Slice (some (.Constant (.int 1) q p1)) none none p2) pos) (.tail (.v j)) ρ := by
  refine .of_v (fun k hk A s Q E hR hF hQ => ?_) (fun _ _ h => h) fun _ => rfl
  refine wpAny_Subscript_list_slice ((SE.loc (prog := prog) (C := C) (dp := dp) hd hl hi).v _ hk A s _ _ hR hF fun v d h' tk hk kp r => ?_)
  show wpAny _ A (eval (.Constant (.int 1) q p1) env) _ E _
  refine wpAny_Constant_int ?_
  show wpAny _ A (pure Value.none) _ E _
  refine wpAny_pure ?_
  cases r with
  | lst ha ra =>
    cases ra with
    | nil => exact hk.elim
    | cons r1 ra => cases ra with
      | nil => exact hk.elim
      | @cons b _ d2 _ r2 ra => cases ra with
        | cons => exact hk.elim
        | nil =>
          refine ⟨_, _, some 1, none, rfl, ha, ?_, .int 1 _, .none, ?_⟩
          · rw [List.size_toArray, sizeLine_eq]; simp
          · rw [slice_two]
            refine hQ _ _ _ (tk + 1) hk (kp.trans ((Kp.push _).trans (Kp.push _))) (.lst (vs := [b]) ⟨{ cls := .type "list", data := .seq [b].toArray }, ?_, rfl, _, rfl⟩ (.cons (r2.mono ((Kp.push _).trans (Kp.push _)).seq) .nil))
            have := @Heap.get?_push_size (h'.push { cls := .type "slice", data := .fields #[.int 1 tk, .none, .none] }) { cls := .type "list", data := .seq [b].toArray } rfl
            rw [Heap.size_push] at this
            exact this
  | _ => exact hk.elim
end
end Mine

namespace Mine
section
variable {prog : Program} {w : World} {base : Heap} {ids : List Str} {gl : Str → Option GI}
variable {C : CallW} {dp : Nat} {env : Env} {ρ : MEnv}

noncomputable def TupKeeps (h h' : Heap) : Prop := ∀ a its, h.IsTuple a its → h'.IsTuple a its
theorem RA.flatI {h h' : Heap} : ∀ {vs : List Value} {ds : List PyData}, RA h vs ds → Mine.flatI ds = true → RA h' vs ds
  | _, _, .nil, _ => .nil
  | _, _, .cons (.int i t) r, f => .cons (.int i t) (RA.flatI r f)
  | _, _, .cons .none _, f => by simp [Mine.flatI] at f
  | _, _, .cons (.bool _) _, f => by simp [Mine.flatI] at f
  | _, _, .cons (.str _ _) _, f => by simp [Mine.flatI] at f
  | _, _, .cons (.tup _ _) _, f => by simp [Mine.flatI] at f
  | _, _, .cons (.lst _ _) _, f => by simp [Mine.flatI] at f
theorem R.flat {h h' : Heap} {v : Value} {d : PyData} (k : TupKeeps h h') (r : R h v d) (f : Mine.flat d = true) : R h' v d := by
  cases r with
  | int i t => exact .int i t
  | tup ht ra => exact .tup (k _ _ ht) (RA.flatI ra f)
  | _ => simp [Mine.flat] at f
theorem RA.flat {h h' : Heap} (k : TupKeeps h h') : ∀ {vs : List Value} {ds : List PyData}, RA h vs ds → (∀ d ∈ ds, Mine.flat d = true) → RA h' vs ds
  | _, _, .nil, _ => .nil
  | _, _, .cons r rs, f => .cons (R.flat k r (f _ (.head _))) (RA.flat k rs fun d hd => f d (.tail _ hd))
theorem tup_of_iter {h h' : Heap} {I t : Addr} {i : Nat} (x : h.IsTupleIter I t i) (s : Heap.SameBut I h h') : TupKeeps h h' := by
  obtain ⟨o, ho, hc, hd⟩ := x
  rintro a its ⟨o', e, c, n, q⟩
  refine ⟨o', (s.2 a ?_).trans e, c, n, q⟩
  rintro rfl
  rw [ho] at e
  cases e
  rw [hd] at q
  cases q
theorem tup_of_list {h h' : Heap} {D : Addr} {its : Array Value} (x : h.IsList D its) (s : Heap.SameBut D h h') : TupKeeps h h' := by
  obtain ⟨o, ho, hc, _⟩ := x
  rintro a its ⟨o', e, c, n, q⟩
  refine ⟨o', (s.2 a ?_).trans e, c, n, q⟩
  rintro rfl
  rw [ho] at e
  cases e
  rw [hc] at c
  simp at c
theorem Heap.IsTuple.kp {h h' : Heap} {a : Addr} {its : Array Value} (x : h.IsTuple a its) (k : Kp h h') : h'.IsTuple a its := let ⟨o, e, r⟩ := x; ⟨o, k _ _ e, r⟩
theorem Heap.IsTupleIter.kp {h h' : Heap} {a t : Addr} {i : Nat} (x : h.IsTupleIter a t i) (k : Kp h h') : h'.IsTupleIter a t i := let ⟨o, e, r⟩ := x; ⟨o, k _ _ e, r⟩
theorem Heap.IsList.kp {h h' : Heap} {a : Addr} {its : Array Value} (x : h.IsList a its) (k : Kp h h') : h'.IsList a its := let ⟨o, e, r⟩ := x; ⟨o, k _ _ e, r⟩

theorem nn {a b : Nat} (h : a ≠ b) : a ≠ b := h
theorem ltz {h : Heap} {b : Nat} {o : Obj} (e : h.get? b = some o) : @LT.lt Nat _ b h.objs.size := Heap.lt_size e
theorem comp_loop {elt iter : Expr} {me : ME} {x : Str} {ix : Nat} {px pos : Pos} {scope : Scope} {A : Around} {I ax D Cc : Nat} {s : Shared} {h₁ : Heap} {m : Str → Option Value} {vs : List Value} {ds : List PyData} {k : PyData → Prop} {Rr : Result → Shared → Prop}
    (hR : Room A dp) (hk : env.globals = mainGlobals) (hb : env.builtins = builtinsNs) (hkind : scope.kind = .function) (hx : scope.names.lookup x = some .local) (hi : idOf ids x = some ix)
    (hse : ∀ d, SEv prog w base ids C dp (compEnv scope Cc env) elt me [(ix, d)])
    (hlen : vs.length ≤ 100) (hax : ax < h₁.objs.size) (hI : h₁.objs.size ≤ I) (hID : I < D) (hDC : D < Cc) (hbase : Kp base h₁) (hold : Kp h₁ s.heap)
    (hit : s.heap.IsTupleIter I ax 0) (ht : h₁.IsTuple ax vs.toArray) (hr : RA h₁ vs ds) (hacc : s.heap.IsList D #[]) (hn : s.heap.Ns Cc m)
    (hw : mapW (fun y k => W C me [(ix, y)] (.val k)) ds fun es => k (.list es))
    (hQ : ∀ h' tk m' ys es, h'.Ns Cc m' → h'.IsList D ys → RA h' ys.toList es → (∀ d ∈ es, flat d = true) → k (.list es) → Kp h₁ h' → Rr (.ok .next) { s with heap := h', toks := tk }) :
    codeAny (model prog w) A (.compLoop (.ListComp elt [⟨.Name x px, iter, [], 0⟩] scope pos) 0 (.ref I) (.ref D) (compEnv scope Cc env)) Rr s := by
  have hlt : ∀ (b : Nat) o, h₁.get? b = some o → b < h₁.objs.size := fun b o e => Heap.lt_size e
  refine codeAny_compLoop_tests
    (fun n s' => ∃ h' tk m' ys es i, s' = { s with heap := h', toks := tk } ∧ h'.IsTupleIter I ax i ∧ h'.IsList D ys ∧ h'.Ns Cc m' ∧ RA h' ys.toList es ∧ (∀ d ∈ es, flat d = true) ∧ es.length = i ∧ i ≤ vs.length ∧ n = vs.length + 1 - i ∧
      mapW (fun y k => W C me [(ix, y)] (.val k)) (ds.drop i) (fun es' => k (.list (es ++ es'))) ∧ Kp h₁ h') ?_ (vs.length + 1)
    ⟨s.heap, s.toks, m, #[], [], 0, rfl, hit, hacc, hn, .nil, (fun _ h => nomatch h), rfl, Nat.zero_le _, rfl, hw, hold⟩
  rintro n s' ⟨h', tk, m', ys, es, i, rfl, hit', hacc', hn', hra, hfl, hel, hi', rfl, hw', hkp⟩
  have ht' := Heap.IsTuple.kp ht hkp
  cases hv : vs[i]? with
  | none =>
    have hge : vs.length ≤ i := by simpa using hv
    refine wpAny_pyNext_tuple_end hR.hd hit' ht' (by simpa using hge) fun h2 hs2 => ?_
    have hd0 : ds.drop i = [] := by rw [List.drop_eq_nil_iff, ← hr.length]; exact hge
    rw [hd0] at hw'
    have hkk : k (.list es) := by simpa [mapW] using hw'
    have hkp2 : Kp h₁ h2 := fun b o e => hs2 b o (nn (by have := hlt b o e; omega)) (hkp b o e)
    refine hQ h2 tk m' ys es (hn'.extBut hs2 (nn (by omega))) (hacc'.extBut hs2 (nn (by omega))) (RA.flat ?_ hra hfl) hfl hkk hkp2
    rintro a its ⟨o', e, c, n, q⟩
    refine ⟨o', hs2 a o' ?_ e, c, n, q⟩
    rintro rfl
    obtain ⟨o, ho, hc, hd⟩ := hit'
    rw [ho] at e
    cases e
    rw [hd] at q
    cases q
  | some v =>
    have hil := (List.getElem?_eq_some_iff.mp hv).1
    have hdl : i < ds.length := by rw [← hr.length]; exact hil
    obtain ⟨d, hd⟩ : ∃ d, ds[i]? = some d := ⟨_, List.getElem?_eq_getElem hdl⟩
    obtain ⟨v', hv', hrv⟩ := hr.at hd
    rw [hv] at hv'
    cases hv'
    have hdr : ds.drop i = d :: ds.drop (i + 1) := by
      rw [List.drop_eq_getElem_cons hdl]
      rw [List.getElem?_eq_getElem hdl] at hd
      cases hd
      rfl
    rw [hdr] at hw'
    refine wpAny_pyNext_tuple_item hit' ht' (by simpa using hv) fun h2 hit2 hs2 => ?_
    have hkp2 : Kp h₁ h2 := fun b o e => hs2.extBut b o (nn (by have := hlt b o e; omega)) (hkp b o e)
    refine wpAny_assign_Name (wpAny_storeName_local (env := compEnv scope Cc env) hx (hn'.sameBut hs2 (nn (by show Cc ≠ I; omega))) (fun h3 hn3 hs3 => ?_) (by simp [compEnv, hkind]))
    have hkp3 : Kp h₁ h3 := fun b o e => hs3.extBut b o (nn (show b ≠ Cc from Nat.ne_of_lt (Nat.lt_trans (hlt b o e) (by omega)))) (hkp2 b o e)
    refine wpAny_tests_nil ?_
    rw [if_pos rfl]
    have tk3 : TupKeeps h' h3 := fun a its x => (seq_of_ns (hn'.sameBut hs2 (nn (by omega))) hs3.extBut).1 _ _ (tup_of_iter hit' hs2 _ _ x)
    have hra3 := RA.flat tk3 hra hfl
    have hit3 : h3.IsTupleIter I ax (i + 1) := hit2.extBut hs3.extBut (nn (by show I ≠ Cc; omega))
    have hacc3 : h3.IsList D ys := (hacc'.extBut hs2.extBut (nn (by omega))).extBut hs3.extBut (nn (by show D ≠ Cc; omega))
    have hF : FrE base ids (compEnv scope Cc env) h3 [(ix, d)] := ⟨hkind, hk, hb, hbase.trans hkp3, ⟨_, hn3, fun j e hj => by
      simp only [lk] at hj
      split at hj
      · rename_i hq
        cases hj
        have : ix = j := Nat.eq_of_beq_eq_true hq
        subst this
        rw [nm_of ids hi]
        exact ⟨hi, v, by simp, hrv.mono hkp3.seq⟩
      · cases hj⟩⟩
    refine hse d _ hw' A _ _ _ hR hF fun y e h4 tk4 hwe kp4 re => ?_
    obtain ⟨hfe, hwe⟩ := hwe
    have hys : ys.size = es.length := by rw [← hra.length]; simp
    refine wpAny_list_append (hsz := by rw [hys, sizeLine_eq]; omega) (Heap.IsList.kp hacc3 kp4) fun h5 hl5 hs5 => ?_
    have tk5 : TupKeeps h4 h5 := tup_of_list (Heap.IsList.kp hacc3 kp4) hs5
    refine ⟨vs.length + 1 - (i + 1), by omega, h5, tk4, _, ys.push y, es ++ [e], i + 1, rfl, (Heap.IsTupleIter.kp hit3 kp4).extBut hs5.extBut (nn (by omega)), hl5,
      (hn3.keeps kp4).sameBut hs5 (nn (by show Cc ≠ D; omega)), ?_, ?_, by simp [hel], hil, rfl, ?_, fun b o e => hs5.extBut b o (nn (by have := hlt b o e; omega)) (kp4 b o (hkp3 b o e))⟩
    · rw [Array.toList_push]
      exact (RA.flat tk5 (RA.mono kp4.seq hra3) hfl).app (.cons (R.flat tk5 re hfe) .nil)
    · intro z hz
      rcases List.mem_append.mp hz with hz | hz
      · exact hfl z hz
      · rw [List.mem_singleton.mp hz]; exact hfe
    · simpa using hwe

theorem compScOk_spec {sc : Scope} {x : Str} (h : compScOk sc x = true) : sc.kind = .function ∧ (∀ y ∈ sc.names, y.2 ≠ .free) ∧ (∀ y ∈ sc.names, y.2 ≠ .cell) ∧ (∀ y ∈ sc.names, y.2 = .local → sc.names.lookup y.1 = some .local) ∧ sc.names.lookup x = some .local := by
  unfold compScOk at h
  simp only [Bool.and_eq_true, List.all_eq_true, bne_iff_ne, Bool.or_eq_true, beq_iff_eq, ne_eq] at h
  obtain ⟨⟨h1, h2⟩, h3⟩ := h
  exact ⟨h1, fun y hy => (h2 y hy).1.1, fun y hy => (h2 y hy).1.2, fun y hy e => ((h2 y hy).2).resolve_left fun n => n e, h3⟩

theorem SE.comp {elt iter : Expr} {me mi : ME} {x : Str} {ix : Nat} {px pos : Pos} {scope : Scope} (hs : compScOk scope x = true) (hix : idOf ids x = some ix) (hfs : ∀ x, foldedSetIterable iter env x = pure x)
    (hse : ∀ Cc d, SEv prog w base ids C dp (compEnv scope Cc env) elt me [(ix, d)]) (hi : SE prog w base ids C dp env iter mi ρ) :
    SE prog w base ids C dp env (.ListComp elt [⟨.Name x px, iter, [], 0⟩] scope pos) (.comp ix me mi) ρ := by
  obtain ⟨hkind, hfree, hcell, hnames, hx⟩ := compScOk_spec hs
  refine .of_v (fun k hk A s Q E hR hF hQ => ?_) (fun _ _ h => h) fun _ => rfl
  refine wpAny_ListComp hfree hkind hnames (hi.v _ hk A s _ _ hR hF fun v d hp tk hk kp r => ?_) hfs
  cases r with
  | tup ht ra =>
    rename_i ax vs l
    obtain ⟨hl, hk⟩ := hk
    have e := ra.length
    refine wpAny_pyIter_tuple ht (wpAny_newObj_type (hd := by size_fits) (wpAny_newFunctionEnv hcell (by intro y hy; simp at hy) (fun h₁ hns₁ hsb₁ => ?_) hkind))
    dsimp only at hns₁ hsb₁ ⊢
    obtain ⟨ot, hot, hot'⟩ := id ht
    have hax : ax < hp.objs.size := Heap.lt_size hot
    generalize hH1 : hp.push { cls := .type "tuple_iterator", data := .fields #[.ref ax, .int 0 0] } = H1 at hns₁ hsb₁ ⊢
    have hD : H1.objs.size = hp.objs.size + 1 := by rw [← hH1, Heap.size_push]
    generalize hH2 : H1.push { cls := .type "list", dict := none, data := .seq ([] : List Value).toArray } = H2 at hns₁ hsb₁ ⊢
    have hC : H2.objs.size = hp.objs.size + 2 := by rw [← hH2, Heap.size_push, hD]
    have kp2 : Kp hp H2 := by rw [← hH2, ← hH1]; exact (Kp.push _).trans (Kp.push _)
    have old : Kp hp h₁ := fun b o e => hsb₁.extBut b o (nn (by have := ltz e; omega)) (Heap.get?_push_of_some _ (kp2 b o e))
    have hit : h₁.IsTupleIter hp.objs.size ax 0 :=
      ⟨_, hsb₁.extBut _ _ (nn (by omega)) (Heap.get?_push_of_some _ (hH2 ▸ Heap.get?_push_of_some _ (hH1 ▸ Heap.get?_push_size _ rfl))), rfl, rfl⟩
    have hacc : h₁.IsList H1.objs.size #[] := ⟨_, hsb₁.extBut _ _ (nn (by omega)) (Heap.get?_push_of_some _ (hH2 ▸ Heap.get?_push_size _ rfl)), rfl, _, rfl⟩
    have hDn : hp.get? H1.objs.size = none := by
      cases q : hp.get? H1.objs.size with
      | none => rfl
      | some o' => have := ltz q; omega
    have hCn : hp.get? H2.objs.size = none := by
      cases q : hp.get? H2.objs.size with
      | none => rfl
      | some o' => have := ltz q; omega
    have loop : ∀ s₂ : Shared, s₂ = { s with heap := h₁, toks := tk + ([] : List (Str × Value)).length } →
        codeAny (model prog w) A (.compLoop (.ListComp elt [⟨.Name x px, iter, [], 0⟩] scope pos) 0 (.ref hp.objs.size) (.ref H1.objs.size) (compEnv scope H2.objs.size env))
          (fun r s' => ∃ m, s'.heap.Ns H2.objs.size m ∧ ∀ h', Heap.SameBut H2.objs.size s'.heap h' →
            match r with | .ok _ => Q (.ref H1.objs.size) { s' with heap := h' } | .error x => wpAny (model prog w) A (passOn "comprehension.variables-let-go" x (compEnv scope H2.objs.size env)) Q E { s' with heap := h' }) s₂ := by
      rintro s₂ rfl
      refine comp_loop (h₁ := hp) hR hF.gl hF.bu hkind hx hix (hse _) (by omega) hax (Nat.le_refl _) (by omega) (by omega) (hF.stays.trans kp) old hit ht ra hacc hns₁ hk fun h' tk m' ys es hn hl hra hfl hke hkp => ?_
      refine ⟨m', hn, fun h'' hs'' => ?_⟩
      have kp3 : Kp hp h'' := fun b o e => hs''.extBut b o (by rintro rfl; rw [hCn] at e; cases e) (hkp b o e)
      exact hQ _ _ _ _ hke (kp.trans kp3) (.lst (vs := ys.toList) (by simpa using hl.extBut hs''.extBut (nn (by omega))) (RA.flat (seq_of_ns hn hs''.extBut).1 hra hfl))
    exact codeAny_compStart_list (loop _ rfl) (wpAny_pyIter_tupleiter hit (loop _ rfl))
  | _ => exact hk.elim
end
end Mine

namespace Mine
section
variable {prog : Program} {w : World} {base : Heap} {ids : List Str} {gl : Str → Option GI}
variable {C : CallW} {dp : Nat}

theorem notSet_spec {it : Expr} {env : Env} (h : notSet it = true) : ∀ x, foldedSetIterable it env x = pure x := by
  intro x
  cases it <;> first | rfl | exact absurd h (by simp [notSet])

theorem sound_E (G : Gd prog w base gl) (hC : COk prog w base C dp) : ∀ n (env : Env) (e : Expr) (ρ : MEnv), SE prog w base ids C dp env e (cE ids gl n env.scope e) ρ := by
  intro n
  induction n with
  | zero => intro env e ρ; exact SE.bad
  | succ n ih =>
    intro env e ρ
    simp only [cE]
    split
    · split
      · rename_i h; exact SE.const h
      · exact SE.bad
    · split
      · exact SE.bad
      · rename_i hd
        split
        · rename_i hl
          split
          · rename_i hi; exact SE.loc hd hl hi
          · exact SE.bad
        · rename_i hl
          split
          · rename_i hi; exact SE.glob G hd hl hi
          · exact SE.bad
        · exact SE.bad
    · split
      · rename_i ho; exact SE.bin ho (ih _ _ _) (ih _ _ _)
      · exact SE.bad
    · exact SE.neg (ih _ _ _)
    · exact SE.nt (ih _ _ _)
    · split
      · rename_i ho hm; exact SE.cmp ho hm (ih _ _ _) (ih _ _ _)
      · exact SE.bad
    · split
      · rename_i h1 h2 hm; exact SE.cmp2 h1 h2 hm (ih _ _ _) (ih _ _ _) (ih _ _ _)
      · exact SE.bad
    · exact SE.all fun e _ => ih _ _ _
    · exact SE.any fun e _ => ih _ _ _
    · exact SE.ite (ih _ _ _) (ih _ _ _) (ih _ _ _)
    · split
      · rename_i hs; exact SE.tup (SL.mk _ _ hs fun e _ => ih _ _ _)
      · exact SE.bad
    · split
      · rename_i hs; exact SE.lst (SL.mk _ _ hs fun e _ => ih _ _ _)
      · exact SE.bad
    · split
      · rename_i hs hg hd; exact SE.dct G hs hd hg (ih _ _ _)
      · rename_i hs hl hd _
        split
        · rename_i hi; exact SE.idx hs (SE.loc hd hl hi) (ih _ _ _)
        · exact SE.bad
      · rename_i hs hl hd
        split
        · rename_i hi; exact SE.tail hd hl hi
        · exact SE.bad
      · exact SE.bad
    · split
      · rename_i hs; exact SE.idx hs (ih _ _ _) (ih _ _ _)
      · exact SE.bad
    · split
      · rename_i hs hd hg; exact SE.call G hC hs hd hg (SL.mk _ _ hs fun e _ => ih _ _ _)
      · rename_i hs hd hg
        split
        · split
          · rename_i ht hd2
            have hs' := hs
            rw [List.any_cons, Bool.or_eq_false_iff] at hs'
            exact SE.isint G hs'.1 hd hd2 hg ht (ih _ _ _)
          · exact SE.bad
        · exact SE.bad
        · rename_i hb _
          refine SE.bi G hs hd ?_ hg (SL.mk _ _ hs fun e _ => ih _ _ _)
          rintro rfl
          exact hb rfl
      · exact SE.bad
    · split
      · rename_i ha hp ho
        rw [eq_of_beq ha]
        exact SE.bits hp ho (ih _ _ _)
      · exact SE.bad
    · split
      · rename_i hs hi hn
        exact SE.comp hs hi (notSet_spec hn) (fun Cc d => (ih (compEnv _ Cc env) _ _).v) (ih _ _ _)
      · exact SE.bad
    · exact SE.bad
end
end Mine

namespace Mine

section
variable (ids : List Str) (gl : Str → Option GI)
noncomputable def namesOf (sc : Scope) : List Expr → Option (List (Str × Nat))
  | [] => some []
  | .Name x _ :: r => (match sc.names.lookup x, idOf ids x, namesOf sc r with
    | some .local, some i, some l => some ((x, i) :: l)
    | _, _, _ => none)
  | _ => none
noncomputable def scEnv (sc : Scope) : Env := { (default : Env) with scope := sc }
noncomputable def swapsR (sc : Scope) (ts : List Expr) (v : Expr) (line : Nat) : Option Bool := match swapsWithSole ts v line (scEnv sc) with
  | .pure b => some b
  | _ => none
noncomputable def swapR (sc : Scope) (ts : List Expr) (v : Expr) : Option (Option (List Str)) := match swappedStores ts v (scEnv sc) with
  | .pure b => some b
  | _ => none
theorem swapsR_spec {env : Env} {ts : List Expr} {v : Expr} {line : Nat} {b : Bool} (h : swapsR env.scope ts v line = some b) : swapsWithSole ts v line env = pure b := by
  have e : swapsWithSole ts v line env = swapsWithSole ts v line (scEnv env.scope) := by
    unfold swapsWithSole
    split
    · unfold swapsWith
      rfl
    · rfl
  rw [e]
  unfold swapsR at h
  split at h
  · rename_i q; cases h; exact q
  · cases h
theorem swapR_spec {env : Env} {ts : List Expr} {v : Expr} {b : Option (List Str)} (h : swapR env.scope ts v = some b) : swappedStores ts v env = pure b := by
  have e : swappedStores ts v env = swappedStores ts v (scEnv env.scope) := by
    unfold swappedStores
    rfl
  rw [e]
  unfold swapR at h
  split at h
  · rename_i q; cases h; exact q
  · cases h

noncomputable def distinct : List Nat → Bool
  | [] => true
  | i :: r => !r.contains i && distinct r
noncomputable def isComp : Expr → Bool
  | .ListComp .. => true
  | _ => false
noncomputable def cS : Nat → Scope → Stmt → MS
  | 0, _, _ => .bad
  | n + 1, sc, st => match st with
    | .Assign [.Name x p] v pos => (match sc.names.lookup x, idOf ids x, swapsR sc [.Name x p] v pos.line with
      | some .local, some i, some false => .asg [i] (cE ids gl 40 sc v)
      | some .local, some i, some true => (match v with
        | .ListComp e [⟨.Name y _, it, [], 0⟩] s _ => (match compScOk s y, idOf ids y, notSet it with
          | true, some j, true => .asg [i] (.comp j (cE ids gl 40 s e) (cE ids gl 40 sc it))
          | _, _, _ => .bad)
        | _ => .bad)
      | _, _, _ => .bad)
    | .Assign [.Name x p, .Name y q] v _ => (match namesOf ids sc [.Name x p, .Name y q] with
      | some [(_, i), (_, j)] => .asg [i, j] (cE ids gl 40 sc v)
      | _ => .bad)
    | .Assign [.Tuple ts k p] v pos => (match swapsR sc [.Tuple ts k p] v pos.line, swapR sc [.Tuple ts k p] v, namesOf ids sc ts with
      | some false, some none, some l => .unp (l.map (·.2)) (cE ids gl 40 sc v)
      | some false, some (some ns), some l => (match ns == l.map (·.1), distinct (l.map (·.2)) with
        | true, true => .unp (l.map (·.2)) (cE ids gl 40 sc v)
        | _, _ => .bad)
      | _, _, _ => .bad)
    | .AugAssign (.Name x _) op v _ => (match sc.names.lookup x, idOf ids x, opOf op with
      | some .local, some i, some o => .aug i o (cE ids gl 40 sc v)
      | _, _, _ => .bad)
    | .If c a b _ => .ifs (cE ids gl 40 sc c) (a.map (cS n sc)) (b.map (cS n sc))
    | .While c a [] _ => .whl (cE ids gl 40 sc c) (a.map (cS n sc))
    | .For (.Name x _) e a [] _ => (match sc.names.lookup x, idOf ids x, notSet e with
      | some .local, some i, true => .forr i (cE ids gl 40 sc e) (a.map (cS n sc))
      | _, _, _ => .bad)
    | .Return (some e) _ => .ret (cE ids gl 40 sc e)
    | .Assert e _ _ => .asrt (cE ids gl 40 sc e)
    | _ => .bad
end

section
variable {prog : Program} {w : World} {base : Heap} {ids : List Str} {gl : Str → Option GI}
variable {C : CallW} {dp : Nat}

variable (base ids) in
structure FrS (h₀ : Heap) (env : Env) (h : Heap) (ρ : MEnv) : Prop where
  f : FrE base ids env h ρ
  keep : Kp h₀ h
  fresh : h₀.get? env.locals = none
  based : Kp base h₀
theorem FrS.mono {h₀ : Heap} {env : Env} {h h' : Heap} {ρ : MEnv} (x : FrS base ids h₀ env h ρ) (k : Kp h h') : FrS base ids h₀ env h' ρ := ⟨x.f.mono k, x.keep.trans k, x.fresh, x.based⟩
theorem FrS.lk {h₀ : Heap} {env : Env} {h : Heap} {ρ ρ' : MEnv} (x : FrS base ids h₀ env h ρ) (e : ∀ i, Mine.lk ρ' i = Mine.lk ρ i) : FrS base ids h₀ env h ρ' :=
  ⟨⟨x.f.kind, x.f.gl, x.f.bu, x.f.stays, let ⟨m, n, r⟩ := x.f.ns; ⟨m, n, fun i d q => r i d (by rw [← e i]; exact q)⟩⟩, x.keep, x.fresh, x.based⟩
theorem FrS.set {h₀ : Heap} {env : Env} {h h' : Heap} {ρ : MEnv} {m : Str → Option Value} {x : Str} {i : Nat} {v : Value} {d : PyData} (F : FrS base ids h₀ env h ρ) (hn₀ : h.Ns env.locals m) (hm : EnvR ids h m ρ) (hi : idOf ids x = some i)
    (hn : h'.Ns env.locals (fun y => if y = x then some v else m y)) (hs : Heap.SameBut env.locals h h') (r : R h v d) : FrS base ids h₀ env h' ((i, d) :: ρ) := by
  have k := seq_of_ns hn₀ hs.extBut
  have kp : Kp h₀ h' := fun b o e => hs.extBut b o (by rintro rfl; rw [F.fresh] at e; cases e) (F.keep b o e)
  refine ⟨⟨F.f.kind, F.f.gl, F.f.bu, F.based.trans kp, ⟨_, hn, fun j e hj => ?_⟩⟩, kp, F.fresh, F.based⟩
  simp only [Mine.lk] at hj
  split at hj
  · rename_i q
    cases hj
    have : i = j := Nat.eq_of_beq_eq_true q
    subst this
    rw [nm_of ids hi]
    exact ⟨hi, v, by simp, r.mono k⟩
  · rename_i q
    obtain ⟨hj1, u, hu, ru⟩ := hm _ _ hj
    refine ⟨hj1, u, ?_, ru.mono k⟩
    have hne : nm ids j ≠ x := by
      intro e
      rw [e, hi] at hj1
      cases hj1
      rw [Nat.beq_refl] at q
      cases q
    simp only [hne, if_false]
    exact hu

theorem store_sound {A : Around} {s : Shared} {h₀ : Heap} {env : Env} {ρ : MEnv} {x : Str} {i : Nat} {v : Value} {d : PyData} {Q : Unit → Shared → Prop} {E : Value → Shared → Prop} (F : FrS base ids h₀ env s.heap ρ) (hl : env.scope.names.lookup x = some .local)
    (hi : idOf ids x = some i) (r : R s.heap v d) (hQ : ∀ h' tk, FrS base ids h₀ env h' ((i, d) :: ρ) → SeqKeeps s.heap h' → Q () { s with heap := h', toks := tk }) : wpAny (model prog w) A (storeName env x v) Q E s := by
  obtain ⟨m, hn₀, hm⟩ := F.f.ns
  refine wpAny_storeName_local hl hn₀ (fun h' hn hs => hQ h' _ (F.set hn₀ hm hi hn hs r) (seq_of_ns hn₀ hs.extBut)) (by rw [F.f.kind]; rfl)

variable (prog w base ids) in
noncomputable def SS (C : CallW) (dp : Nat) (env : Env) (st : Stmt) (ms : MS) : Prop :=
  ∀ ρ kn kr, X C ms ρ kn kr → ∀ (h₀ : Heap) (A : Around) (s : Shared) (Q : Flow → Shared → Prop) (E : Value → Shared → Prop), Room A dp → FrS base ids h₀ env s.heap ρ →
    (∀ ρ' h' tk, kn ρ' → FrS base ids h₀ env h' ρ' → Q .next { s with heap := h', toks := tk }) →
    (∀ v d h' tk, kr d → Kp h₀ h' → R h' v d → Q (.ret v) { s with heap := h', toks := tk }) → wpAny (model prog w) A (exec st env) Q E s
variable (prog w base ids) in
noncomputable def SSs (C : CallW) (dp : Nat) (env : Env) (st : List Stmt) (ms : List MS) : Prop :=
  ∀ ρ kn kr, Xs C ms ρ kn kr → ∀ (h₀ : Heap) (A : Around) (s : Shared) (Q : Flow → Shared → Prop) (E : Value → Shared → Prop), Room A dp → FrS base ids h₀ env s.heap ρ →
    (∀ ρ' h' tk, kn ρ' → FrS base ids h₀ env h' ρ' → Q .next { s with heap := h', toks := tk }) →
    (∀ v d h' tk, kr d → Kp h₀ h' → R h' v d → Q (.ret v) { s with heap := h', toks := tk }) → wpAny (model prog w) A (execs st env) Q E s

theorem SSs.mk {env : Env} (f : Stmt → MS) : ∀ l : List Stmt, (∀ st ∈ l, SS prog w base ids C dp env st (f st)) → SSs prog w base ids C dp env l (l.map f)
  | [], _ => fun ρ kn kr h h₀ A s Q E hR hF hn hr => wpAny_execs_nil (hn ρ _ s.toks h hF)
  | st :: r, hst => fun ρ kn kr h h₀ A s Q E hR hF hn hr => by
    rw [List.map_cons, Xs] at h
    refine wpAny_execs_cons (hst st (.head _) _ _ _ h h₀ A s _ _ hR hF (fun ρ' h' tk hk hF' => ?_) hr)
    exact SSs.mk f r (fun st hs => hst st (.tail _ hs)) _ _ _ hk h₀ A _ Q E hR hF' hn hr

theorem SS.bad {env : Env} {st : Stmt} : SS prog w base ids C dp env st .bad := fun _ _ _ h => h.elim
theorem SS.ret {env : Env} {e : Expr} {me : ME} {pos : Pos} (he : ∀ ρ, SE prog w base ids C dp env e me ρ) : SS prog w base ids C dp env (.Return (some e) pos) (.ret me) := by
  intro ρ kn kr h h₀ A s Q E hR hF hn hr
  exact wpAny_Return_some ((he ρ).v _ h A s _ _ hR hF.f fun v d h' tk hk kp r => hr v d h' tk hk (hF.keep.trans kp) r)
theorem SS.asrt {env : Env} {e : Expr} {me : ME} {msg : Option Expr} {pos : Pos} (he : ∀ ρ, SE prog w base ids C dp env e me ρ) : SS prog w base ids C dp env (.Assert e msg pos) (.asrt me) := by
  intro ρ kn kr h h₀ A s Q E hR hF hn hr
  exact wpAny_Assert_holds ((he ρ).c _ _ h A s _ _ hR hF.f (fun t h' tk kp => ⟨rfl, hn ρ h' tk t (hF.mono kp)⟩) fun f => f.elim)
theorem SS.ifs {env : Env} {c : Expr} {mc : ME} {a b : List Stmt} {ma mb : List MS} {pos : Pos} (hc : ∀ ρ, SE prog w base ids C dp env c mc ρ) (ha : SSs prog w base ids C dp env a ma) (hb : SSs prog w base ids C dp env b mb) :
    SS prog w base ids C dp env (.If c a b pos) (.ifs mc ma mb) := by
  intro ρ kn kr h h₀ A s Q E hR hF hn hr
  refine wpAny_If ((hc ρ).c _ _ h A s _ _ hR hF.f (fun t h' tk kp => ?_) fun f h' tk kp => ?_)
  · rw [if_pos rfl]
    exact ha _ _ _ t h₀ A _ Q E hR (hF.mono kp) hn hr
  · rw [if_neg Bool.false_ne_true]
    exact hb _ _ _ f h₀ A _ Q E hR (hF.mono kp) hn hr
theorem SS.asg1 {env : Env} {x : Str} {i : Nat} {e : Expr} {me : ME} {p pos : Pos} (hl : env.scope.names.lookup x = some .local) (hi : idOf ids x = some i) (hs : swapsWithSole [.Name x p] e pos.line env = pure false) (he : ∀ ρ, SE prog w base ids C dp env e me ρ) :
    SS prog w base ids C dp env (.Assign [.Name x p] e pos) (.asg [i] me) := by
  intro ρ kn kr h h₀ A s Q E hR hF hn hr
  refine wpAny_Assign_Name ((he ρ).v _ h A s _ _ hR hF.f fun v d h' tk hk kp r => ?_) hs
  exact store_sound (hF.mono kp) hl hi r fun h2 tk2 hF2 _ => hn _ _ _ hk hF2
theorem SS.asg2 {env : Env} {x y : Str} {i j : Nat} {e : Expr} {me : ME} {p q pos : Pos} (hl : env.scope.names.lookup x = some .local) (hi : idOf ids x = some i) (hl2 : env.scope.names.lookup y = some .local) (hi2 : idOf ids y = some j)
    (he : ∀ ρ, SE prog w base ids C dp env e me ρ) : SS prog w base ids C dp env (.Assign [.Name x p, .Name y q] e pos) (.asg [i, j] me) := by
  intro ρ kn kr h h₀ A s Q E hR hF hn hr
  refine wpAny_Assign_two ((he ρ).v _ h A s _ _ hR hF.f fun v d h' tk hk kp r => ?_)
  refine wpAny_assign_Name (store_sound (hF.mono kp) hl hi r fun h2 tk2 hF2 k2 => ?_)
  exact wpAny_assign_Name (store_sound hF2 hl2 hi2 (r.mono k2) fun h3 tk3 hF3 _ => hn _ _ _ hk hF3)
theorem SS.aug {env : Env} {x : Str} {i : Nat} {op : Operator} {o : Op} {e : Expr} {me : ME} {p pos : Pos} (hl : env.scope.names.lookup x = some .local) (hi : idOf ids x = some i) (ho : opOf op = some o) (he : ∀ ρ, SE prog w base ids C dp env e me ρ) :
    SS prog w base ids C dp env (.AugAssign (.Name x p) op e pos) (.aug i o me) := by
  intro ρ kn kr h h₀ A s Q E hR hF hn hr
  obtain ⟨m, n, rm⟩ := hF.f.ns
  simp only [X] at h
  split at h
  · rename_i d hd
    obtain ⟨_, v, hv, rv⟩ := rm _ _ hd
    rw [nm_of ids hi] at hv
    refine wpAny_AugAssign_Name (wpAny_loadName_local hF.f.kind hl n hv ?_)
    refine (he ρ).v _ h A s _ _ hR hF.f fun u d2 h' tk hk kp r => ?_
    refine aug_sound ho (rv.mono kp.seq) r hk fun u3 d3 h3 tk3 hk kp3 r3 => ?_
    exact store_sound ((hF.mono kp).mono kp3) hl hi r3 fun h4 tk4 hF4 _ => hn _ _ _ hk hF4
  · exact h.elim

theorem namesOf_len : ∀ {sc : Scope} {ts : List Expr} {l : List (Str × Nat)}, namesOf ids sc ts = some l → ts.length = l.length
  | _, [], _, h => by cases h; rfl
  | sc, t :: r, l, h => by
    unfold namesOf at h
    split at h
    · rename_i q; cases q
    · rename_i q
      cases q
      split at h
      · rename_i q; cases h; simp [namesOf_len q]
      · cases h
    · cases h
theorem namesOf_star {env : Env} : ∀ {sc : Scope} {ts : List Expr} {l : List (Str × Nat)}, namesOf ids sc ts = some l → (assignEach ts env).findIdx? (·.1) = none ∧ (assignEach ts env).length = ts.length
  | _, [], _, h => ⟨rfl, rfl⟩
  | sc, t :: r, l, h => by
    unfold namesOf at h
    split at h
    · rename_i q; cases q
    · rename_i q
      cases q
      split at h
      · rename_i q
        have ih := namesOf_star (env := env) q
        refine ⟨?_, ?_⟩
        · show List.findIdx? _ ((false, _) :: assignEach r env) = none
          simp [List.findIdx?_cons, ih.1]
        · show ((false, _) :: assignEach r env).length = _
          simp [ih.2]
      · cases h
    · cases h
/-- the stores of an unpacking, in the order of the names -/
theorem stores_sound {A : Around} {h₀ : Heap} {env : Env} {E : Value → Shared → Prop} : ∀ (ts : List Expr) (l : List (Str × Nat)) (vs : List Value) (ds : List PyData) (ρ ρ' : MEnv) (s : Shared) (Q : Unit → Shared → Prop), namesOf ids env.scope ts = some l →
    setAll (l.map (·.2)) ds ρ = some ρ' → RA s.heap vs ds → FrS base ids h₀ env s.heap ρ → (∀ h' tk, FrS base ids h₀ env h' ρ' → Q () { s with heap := h', toks := tk }) →
    wpAny (model prog w) A (assignInOrder ((assignEach ts env).map (·.2)) vs) Q E s
  | [], l, vs, ds, ρ, ρ', s, Q, hl, hs, r, F, hQ => by
    cases hl
    cases ds with
    | nil =>
      cases hs
      cases r
      exact wpAny_pure (hQ _ s.toks F)
    | cons => cases hs
  | t :: ts, l, vs, ds, ρ, ρ', s, Q, hl, hs, r, F, hQ => by
    unfold namesOf at hl
    split at hl
    · rename_i q; cases q
    · rename_i x p r' q
      cases q
      split at hl
      · rename_i i l' h1 h2 h3
        cases hl
        cases r with
        | nil => cases hs
        | cons rv rs =>
          rename_i v vs d ds
          show wpAny _ A (do holding vs (assign (.Name x p) env v); assignInOrder ((assignEach ts env).map (·.2)) vs) Q E s
          refine wpAny_bind (wpAny_holding (wpAny_assign_Name (store_sound F h1 h2 rv fun h' tk F' k => ?_)))
          exact stores_sound ts l' vs ds _ ρ' _ Q h3 hs (rs.mono k) F' hQ
      · cases hl
    · cases hl

theorem unpack_sound {A : Around} {s : Shared} {v : Value} {d : PyData} {n : Nat} {xs : List Nat} {ρ : MEnv} {kn : MEnv → Prop} {Q : List Value → Shared → Prop} {E : Value → Shared → Prop} (hh : A.handled = none) (r : R s.heap v d) (h : unpW xs d ρ kn) (hn : xs.length = n)
    (hQ : ∀ vs ds ρ' h', setAll xs ds ρ = some ρ' → kn ρ' → Kp s.heap h' → RA h' vs ds → Q vs { s with heap := h' }) : wpAny (model prog w) A (unpackItems v n none) Q E s := by
  have len : ∀ (xs : List Nat) (ds : List PyData) (ρ ρ' : MEnv), setAll xs ds ρ = some ρ' → ds.length = xs.length := by
    intro xs
    induction xs with
    | nil => intro ds ρ ρ' h; cases ds <;> simp [setAll] at h ⊢
    | cons x xs ih =>
      intro ds ρ ρ' h
      cases ds with
      | nil => simp [setAll] at h
      | cons d ds => simp only [setAll] at h; simp [ih ds _ _ h]
  have kp : ∀ {h' : Heap}, Heap.ExtBut s.heap.objs.size s.heap h' → Kp s.heap h' := fun he b o e => he b o (nn (Nat.ne_of_lt (ltz e))) e
  cases r with
  | tup ht ra =>
    simp only [unpW] at h
    split at h
    · rename_i ax vs l o ρ' hs
      have e : n = vs.toArray.size := by rw [List.size_toArray, ra.length, len _ _ _ _ hs, hn]
      rw [e]
      exact wpAny_unpackItems_tuple hh ht fun h' he => hQ _ _ _ _ hs h (kp he) (RA.mono (kp he).seq ra)
    · exact h.elim
  | lst ht ra =>
    simp only [unpW] at h
    split at h
    · rename_i ax vs l o ρ' hs
      have e : n = vs.toArray.size := by rw [List.size_toArray, ra.length, len _ _ _ _ hs, hn]
      rw [e]
      exact kun_itemsOf hh ht fun h' he => hQ _ _ _ _ hs h (kp he) (RA.mono (kp he).seq ra)
    · exact h.elim
  | _ => exact h.elim

theorem SS.unp {env : Env} {ts : List Expr} {l : List (Str × Nat)} {e : Expr} {me : ME} {k : Nat} {p pos : Pos} (hl : namesOf ids env.scope ts = some l) (hs : swapsWithSole [.Tuple ts k p] e pos.line env = pure false) (hw : swappedStores [.Tuple ts k p] e env = pure none)
    (he : ∀ ρ, SE prog w base ids C dp env e me ρ) : SS prog w base ids C dp env (.Assign [.Tuple ts k p] e pos) (.unp (l.map (·.2)) me) := by
  intro ρ kn kr h h₀ A s Q E hR hF hn hr
  refine Assign_Tuple ((he ρ).v _ h A s _ _ hR hF.f fun v d h' tk hk kp r => ?_) hs hw
  rw [arm_assign_Tuple]
  refine wpAny_bind (wpAny_standAt ?_)
  unfold unpack
  rw [(namesOf_star (env := env) hl).1, (namesOf_star (env := env) hl).2]
  refine wpAny_bind (wpAny_holding (unpack_sound hR.hd r hk (by simp [namesOf_len hl]) fun vs ds ρ' h2 hs hk kp2 r2 => ?_))
  exact stores_sound ts l vs ds _ _ _ _ hl hs r2 ((hF.mono kp).mono kp2) fun h3 tk3 hF3 => hn _ _ _ hk hF3

theorem stores_rev {A : Around} {h₀ : Heap} {env : Env} {E : Value → Shared → Prop} : ∀ (l : List (Str × Nat)) (vs : List Value) (ds : List PyData) (ρ ρ' : MEnv) (s : Shared) (Q : Unit → Shared → Prop), (∀ x ∈ l, env.scope.names.lookup x.1 = some .local ∧ idOf ids x.1 = some x.2) →
    setAll (l.map (·.2)) ds ρ = some ρ' → RA s.heap vs ds → FrS base ids h₀ env s.heap ρ → (∀ h' tk, FrS base ids h₀ env h' ρ' → Q () { s with heap := h', toks := tk }) →
    wpAny (model prog w) A (assignInOrder ((l.map (·.1)).map fun n => bindName env n) vs) Q E s
  | [], vs, ds, ρ, ρ', s, Q, hl, hs, r, F, hQ => by
    cases ds with
    | nil =>
      cases hs
      cases r
      exact wpAny_pure (hQ _ s.toks F)
    | cons => cases hs
  | x :: l, vs, ds, ρ, ρ', s, Q, hl, hs, r, F, hQ => by
    cases r with
    | nil => cases hs
    | cons rv rs =>
      rename_i v vs d ds
      obtain ⟨h1, h2⟩ := hl x (.head _)
      show wpAny _ A (do holding vs (bindName env x.1 v); assignInOrder ((l.map (·.1)).map fun n => bindName env n) vs) Q E s
      refine wpAny_bind (wpAny_holding (wpAny_bindName (store_sound F h1 h2 rv fun h' tk F' k => ?_)))
      exact stores_rev l vs ds _ ρ' _ Q (fun y hy => hl y (.tail _ hy)) hs (rs.mono k) F' hQ
theorem namesOf_ok : ∀ {sc : Scope} {ts : List Expr} {l : List (Str × Nat)}, namesOf ids sc ts = some l → ∀ x ∈ l, sc.names.lookup x.1 = some .local ∧ idOf ids x.1 = some x.2
  | _, [], _, h, x, hx => by cases h; cases hx
  | sc, t :: r, l, h, x, hx => by
    unfold namesOf at h
    split at h
    · rename_i q; cases q
    · rename_i q
      cases q
      split at h
      · rename_i h1 h2 h3
        cases h
        cases hx with
        | head => exact ⟨h1, h2⟩
        | tail _ hx => exact namesOf_ok h3 x hx
      · cases h
    · cases h
theorem setAll_app : ∀ (xs : List Nat) (ds : List PyData) (x : Nat) (d : PyData) (ρ ρ' : MEnv), setAll xs ds ρ = some ρ' → setAll (xs ++ [x]) (ds ++ [d]) ρ = some ((x, d) :: ρ')
  | [], [], x, d, ρ, ρ', h => by cases h; rfl
  | [], _ :: _, _, _, _, _, h => by cases h
  | _ :: _, [], _, _, _, _, h => by cases h
  | y :: xs, e :: ds, x, d, ρ, ρ', h => setAll_app xs ds x d _ ρ' h
theorem setAll_off : ∀ (xs : List Nat) (ds : List PyData) (ρ ρ' : MEnv) (i : Nat), setAll xs ds ρ = some ρ' → xs.contains i = false → Mine.lk ρ' i = Mine.lk ρ i
  | [], [], ρ, ρ', i, h, _ => by cases h; rfl
  | [], _ :: _, _, _, _, h, _ => by cases h
  | _ :: _, [], _, _, _, h, _ => by cases h
  | y :: xs, e :: ds, ρ, ρ', i, h, hc => by
    rw [List.contains_cons, Bool.or_eq_false_iff] at hc
    rw [setAll_off xs ds _ ρ' i h hc.2]
    have : Nat.beq y i = false := by
      have := hc.1
      cases q : Nat.beq y i with
      | false => rfl
      | true => have := Nat.eq_of_beq_eq_true q; subst this; simp at hc
    simp only [Mine.lk, this]
theorem setAll_congr : ∀ (xs : List Nat) (ds : List PyData) (ρ ρ' σ : MEnv), setAll xs ds ρ = some ρ' → ∃ σ', setAll xs ds σ = some σ' ∧ ∀ i, Mine.lk ρ i = Mine.lk σ i → Mine.lk ρ' i = Mine.lk σ' i
  | [], [], ρ, ρ', σ, h => by cases h; exact ⟨σ, rfl, fun _ e => e⟩
  | [], _ :: _, _, _, _, h => by cases h
  | _ :: _, [], _, _, _, h => by cases h
  | y :: xs, e :: ds, ρ, ρ', σ, h => by
    obtain ⟨σ', h1, h2⟩ := setAll_congr xs ds _ ρ' ((y, e) :: σ) h
    refine ⟨σ', h1, fun i hi => h2 i ?_⟩
    simp only [Mine.lk]
    rw [hi]
/-- the same, stored from behind -/
theorem setAll_rev : ∀ (xs : List Nat) (ds : List PyData) (ρ ρ' : MEnv), distinct xs = true → setAll xs ds ρ = some ρ' → ∃ ρ2, setAll xs.reverse ds.reverse ρ = some ρ2 ∧ ∀ i, Mine.lk ρ' i = Mine.lk ρ2 i
  | [], [], ρ, ρ', _, h => by cases h; exact ⟨ρ, rfl, fun _ => rfl⟩
  | [], _ :: _, _, _, _, h => by cases h
  | _ :: _, [], _, _, _, h => by cases h
  | y :: xs, e :: ds, ρ, ρ', hd, h => by
    simp only [distinct, Bool.and_eq_true, Bool.not_eq_true'] at hd
    obtain ⟨ρ2, h1, h2⟩ := setAll_rev xs ds _ ρ' hd.2 h
    obtain ⟨ρ3, h3, h4⟩ := setAll_congr xs.reverse ds.reverse _ ρ2 ρ h1
    refine ⟨(y, e) :: ρ3, ?_, fun i => ?_⟩
    · rw [List.reverse_cons, List.reverse_cons]
      exact setAll_app _ _ _ _ _ _ h3
    · rw [h2 i]
      cases q : Nat.beq y i with
      | true =>
        have := Nat.eq_of_beq_eq_true q
        subst this
        have hc : xs.reverse.contains y = false := by rw [List.contains_reverse]; exact hd.1
        rw [setAll_off _ _ _ _ _ h1 hc]
        simp only [Mine.lk, q]
      | false =>
        rw [h4 i (by simp only [Mine.lk, q])]
        simp only [Mine.lk, q]

theorem SS.unpS {env : Env} {ts : List Expr} {l : List (Str × Nat)} {ns : List Str} {e : Expr} {me : ME} {k : Nat} {p pos : Pos} (hl : namesOf ids env.scope ts = some l) (hs : swapsWithSole [.Tuple ts k p] e pos.line env = pure false) (hw : swappedStores [.Tuple ts k p] e env = pure (some ns))
    (hns : ns = l.map (·.1)) (hd : distinct (l.map (·.2)) = true) (he : ∀ ρ, SE prog w base ids C dp env e me ρ) : SS prog w base ids C dp env (.Assign [.Tuple ts k p] e pos) (.unp (l.map (·.2)) me) := by
  subst hns
  intro ρ kn kr h h₀ A s Q E hR hF hn hr
  refine Assign_Tuple_swapped ((he ρ).v _ h A s _ _ hR hF.f fun v d h' tk hk kp r => ?_) hs hw
  refine unpack_sound hR.hd r hk (by simp) fun vs ds ρ' h2 hs hk kp2 r2 => ?_
  obtain ⟨ρ2, h3, h4⟩ := setAll_rev _ _ _ _ hd hs
  have rr : ∀ {h : Heap} {vs : List Value} {ds : List PyData}, RA h vs ds → RA h vs.reverse ds.reverse := by
    intro h vs ds r
    induction vs generalizing ds with
    | nil => cases r; exact .nil
    | cons v vs ih =>
      cases r with
      | cons r1 r2 => rw [List.reverse_cons, List.reverse_cons]; exact (ih r2).app (.cons r1 .nil)
  have e1 : (List.map (fun x => x.fst) l).reverse = l.reverse.map (·.1) := by rw [List.map_reverse]
  rw [e1]
  refine stores_rev l.reverse vs.reverse ds.reverse _ ρ2 _ _ (fun x hx => namesOf_ok hl x (List.mem_reverse.mp hx)) (by rw [List.map_reverse]; exact h3) (rr r2) ((hF.mono kp).mono kp2) fun h3 tk3 hF3 => hn _ _ _ hk (hF3.lk h4)

theorem SS.whl {env : Env} {c : Expr} {mc : ME} {a : List Stmt} {ma : List MS} {pos : Pos} (hc : ∀ ρ, SE prog w base ids C dp env c mc ρ) (ha : SSs prog w base ids C dp env a ma) : SS prog w base ids C dp env (.While c a [] pos) (.whl mc ma) := by
  intro ρ kn kr h h₀ A s Q E hR hF hn hr
  obtain ⟨n, h⟩ := h
  refine wpAny_While (codeAny_whileLoop (fun n s' => ∃ ρ h' tk, s' = { s with heap := h', toks := tk } ∧ FrS base ids h₀ env h' ρ ∧ whileW (fun ρ T F => W C mc ρ (.cond T F)) (fun ρ k => Xs C ma ρ k kr) kn n ρ) ?_ n ⟨ρ, s.heap, s.toks, rfl, hF, h⟩)
  rintro n s' ⟨ρ, h', tk, rfl, hF', hw⟩
  cases n with
  | zero => exact hw.elim
  | succ n =>
    refine (hc ρ).c _ _ hw A _ _ _ hR hF'.f (fun t h2 tk2 kp => ?_) fun f h2 tk2 kp => ?_
    · rw [if_pos rfl]
      refine ha _ _ _ t h₀ A _ _ _ hR (hF'.mono kp) (fun ρ2 h3 tk3 hk hF3 => ?_) fun v d h3 tk3 hk kp3 r3 => ?_
      · exact ⟨n, Nat.lt_succ_self _, ρ2, h3, tk3, rfl, hF3, hk⟩
      · exact hr _ _ _ _ hk kp3 r3
    · rw [if_neg Bool.false_ne_true]
      exact wpAny_execs_nil (hn _ _ _ f (hF'.mono kp))
end
end Mine

namespace Mine
section
variable {prog : Program} {w : World} {base : Heap} {ids : List Str} {gl : Str → Option GI}
variable {C : CallW} {dp : Nat}

theorem seq_of_iter {h h' : Heap} {I t : Addr} {i : Nat} (x : h.IsListIter I t i) (s : Heap.ExtBut I h h') : SeqKeeps h h' := by
  obtain ⟨o, ho, hc, hd⟩ := x
  constructor
  all_goals
    rintro a its ⟨o', e, c, n, q⟩
    refine ⟨o', s a o' ?_ e, c, n, q⟩
    rintro rfl
    rw [ho] at e
    cases e
    rw [hd] at q
    cases q
theorem Heap.IsListIter.kp {h h' : Heap} {a t : Addr} {i : Nat} (x : h.IsListIter a t i) (k : Kp h h') : h'.IsListIter a t i := let ⟨o, e, r⟩ := x; ⟨o, k _ _ e, r⟩

theorem SS.forr {env : Env} {x : Str} {i : Nat} {e : Expr} {me : ME} {a : List Stmt} {ma : List MS} {p pos : Pos} (hl : env.scope.names.lookup x = some .local) (hi : idOf ids x = some i) (hfs : ∀ x, foldedSetIterable e env x = pure x)
    (he : ∀ ρ, SE prog w base ids C dp env e me ρ) (ha : SSs prog w base ids C dp env a ma) : SS prog w base ids C dp env (.For (.Name x p) e a [] pos) (.forr i me ma) := by
  intro ρ kn kr h h₀ A s Q E hR hF hn hr
  refine wpAny_For ((he ρ).v _ h A s _ _ hR hF.f fun v d hp tk hk kp r => ?_) hfs
  cases r with
  | lst ht ra =>
    rename_i ax vs l
    refine wpAny_pyIter_list ht ?_
    have hF1 := hF.mono kp
    have len := ra.length
    have kpush : Kp hp (hp.push { cls := .type "list_iterator", data := .fields #[.ref ax, .int 0 0] }) := Kp.push _
    have hI0 : h₀.get? hp.objs.size = none := by
      cases q : h₀.get? hp.objs.size with
      | none => rfl
      | some o => have := ltz (hF1.keep _ _ q); omega
    refine codeAny_forLoop (fun n s' => ∃ ρ h' tk j, s' = { s with heap := h', toks := tk } ∧ h'.IsListIter hp.objs.size ax j ∧ h'.IsList ax vs.toArray ∧ RA h' vs l ∧ FrS base ids h₀ env h' ρ ∧ env.locals ≠ hp.objs.size ∧ ax ≠ hp.objs.size ∧ j ≤ vs.length ∧ n = vs.length + 1 - j ∧
      forW i (fun ρ k => Xs C ma ρ k kr) kn (l.drop j) ρ) ?_ (vs.length + 1) ⟨ρ, _, tk, 0, rfl, ⟨_, Heap.get?_push_size _ rfl, rfl, rfl⟩, ht.push _, ra.mono kpush.seq, hF1.mono kpush, ?_, ?_, Nat.zero_le _, rfl, hk⟩
    · rintro n s' ⟨ρ, h', tk, j, rfl, hit, hl', ra', hF', hLI, hxI, hj, rfl, hw⟩
      obtain ⟨m, hns, hm⟩ := hF'.f.ns
      cases hv : vs[j]? with
      | none =>
        have hge : vs.length ≤ j := by simpa using hv
        refine wpAny_pyNext_list_end hR.hd hit hl' (by simpa using hge) fun h2 hs2 => wpAny_execs_nil ?_
        have hd0 : l.drop j = [] := by rw [List.drop_eq_nil_iff, ← len]; exact hge
        rw [hd0] at hw
        have kp2 : Kp h₀ h2 := fun b o e => hs2 b o (by rintro rfl; rw [hI0] at e; cases e) (hF'.keep b o e)
        exact hn ρ h2 tk hw ⟨⟨hF'.f.kind, hF'.f.gl, hF'.f.bu, hF'.based.trans kp2, m, hns.extBut hs2 hLI, hm.mono (seq_of_iter hit hs2)⟩, kp2, hF'.fresh, hF'.based⟩
      | some v =>
        have hil := (List.getElem?_eq_some_iff.mp hv).1
        have hdl : j < l.length := by rw [← len]; exact hil
        obtain ⟨d, hd⟩ : ∃ d, l[j]? = some d := ⟨_, List.getElem?_eq_getElem hdl⟩
        obtain ⟨v', hv', hrv⟩ := ra'.at hd
        rw [hv] at hv'
        cases hv'
        have hdr : l.drop j = d :: l.drop (j + 1) := by
          rw [List.drop_eq_getElem_cons hdl]
          rw [List.getElem?_eq_getElem hdl] at hd
          cases hd
          rfl
        rw [hdr] at hw
        refine wpAny_pyNext_list_item hit hl' (by simpa using hv) fun h2 hit2 hs2 => ?_
        have sk2 := seq_of_iter hit hs2.extBut
        have kp2 : Kp h₀ h2 := fun b o e => hs2.extBut b o (by rintro rfl; rw [hI0] at e; cases e) (hF'.keep b o e)
        have hF2 : FrS base ids h₀ env h2 ρ := ⟨⟨hF'.f.kind, hF'.f.gl, hF'.f.bu, hF'.based.trans kp2, m, hns.extBut hs2.extBut hLI, hm.mono sk2⟩, kp2, hF'.fresh, hF'.based⟩
        obtain ⟨m2, hns2, hm2⟩ := hF2.f.ns
        refine wpAny_assign_Name (wpAny_storeName_local hl hns2 (fun h3 hns3 hs3 => ?_) (by rw [hF2.f.kind]; rfl))
        have hF3 := hF2.set hns2 hm2 hi hns3 hs3 (hrv.mono sk2)
        have sk3 := seq_of_ns hns2 hs3.extBut
        -- the body keeps all that stands but the locals
        have hF4 : FrS base ids (h3.hide env.locals) env h3 ((i, d) :: ρ) := ⟨hF3.f, fun b o e => Heap.of_hide e, Heap.hide_self _ _, fun b o e => by
          rw [Heap.hide_ne]
          · exact hF3.f.stays b o e
          · rintro rfl
            have := hF3.based _ _ e
            rw [hF3.fresh] at this
            cases this⟩
        have keep : ∀ {h4 : Heap}, Kp (h3.hide env.locals) h4 → Heap.ExtBut env.locals h3 h4 := fun k b o hb e => k b o (by rw [Heap.hide_ne _ hb]; exact e)
        refine ha _ _ _ hw (h3.hide env.locals) A _ _ _ hR hF4 (fun ρ5 h5 tk5 hk5 hF5 => ?_) fun v5 d5 h5 tk5 hk5 kp5 r5 => ?_
        · have e5 := keep hF5.keep
          have kp5 : Kp h₀ h5 := fun b o e => e5 b o (by rintro rfl; rw [hF3.fresh] at e; cases e) (hF3.keep b o e)
          have sk5 := seq_of_ns hns3 e5
          refine ⟨vs.length + 1 - (j + 1), by omega, ρ5, h5, tk5, j + 1, rfl, (hit2.extBut hs3.extBut (Ne.symm hLI)).extBut e5 (Ne.symm hLI), sk5.2 _ _ (sk3.2 _ _ (sk2.2 _ _ hl')), ((ra'.mono sk2).mono sk3).mono sk5,
            ⟨hF5.f, kp5, hF3.fresh, hF3.based⟩, hLI, hxI, hil, rfl, hk5⟩
        · have e5 := keep kp5
          exact hr _ _ _ _ hk5 (fun b o e => e5 b o (by rintro rfl; rw [hF3.fresh] at e; cases e) (hF3.keep b o e)) r5
    · obtain ⟨m, ⟨o, _, _, ho, _⟩, _⟩ := hF1.f.ns
      exact nn (Nat.ne_of_lt (ltz ho))
    · obtain ⟨o, ho, _⟩ := ht
      exact nn (Nat.ne_of_lt (ltz ho))
  | _ => exact hk.elim

theorem SS.comp {env : Env} {elt iter : Expr} {me mi : ME} {x y : Str} {ix iy : Nat} {px py pos spos : Pos} {scope : Scope} (hl : env.scope.names.lookup y = some .local) (hiy : idOf ids y = some iy)
    (hsw : swapsWithSole [.Name y py] (.ListComp elt [⟨.Name x px, iter, [], 0⟩] scope pos) spos.line env = pure true) (hs : compScOk scope x = true) (hix : idOf ids x = some ix) (hfs : ∀ x, foldedSetIterable iter env x = pure x)
    (hse : ∀ Cc d, SEv prog w base ids C dp (compEnv scope Cc env) elt me [(ix, d)]) (hi : ∀ ρ, SE prog w base ids C dp env iter mi ρ) :
    SS prog w base ids C dp env (.Assign [.Name y py] (.ListComp elt [⟨.Name x px, iter, [], 0⟩] scope pos) spos) (.asg [iy] (.comp ix me mi)) := by
  obtain ⟨hkind, hfree, hcell, hnames, hx⟩ := compScOk_spec hs
  intro ρ kn kr h h₀ A s Q E hR hF hn hr
  have hsw' : swapsWith (.ListComp elt [⟨.Name x px, iter, [], 0⟩] scope pos) (some (.Name y py)) spos.line env = pure true := hsw
  rw [exec_Assign_Name_used _ _ _ _ hsw']
  refine wpAny_bind (wpAny_standAt (wpAny_bind ?_))
  show wpAny _ A (do let _ ← comprehension (.ListComp elt [⟨.Name x px, iter, [], 0⟩] scope pos) scope env _ (newList []) false (eval iter env) (some (assign (.Name y py) env))) _ _ s
  refine wpAny_bind (wpAny_mono (wpAny_comprehension_use (Q := fun _ s' => Q .next s') rfl hfs hfree hkind hnames ((hi ρ).v _ h A s _ _ hR hF.f fun v d hp tk hk kp r => ?_)) (fun _ s' hq => wpAny_pure (wpAny_pure hq)) fun _ _ e => e)
  cases r with
  | tup ht ra =>
    rename_i ax vs l
    obtain ⟨hl100, hk⟩ := hk
    have hF1 := hF.mono kp
    have e := ra.length
    refine wpAny_pyIter_tuple ht (wpAny_newObj_type (hd := by size_fits) (wpAny_newFunctionEnv hcell (by intro y hy; simp at hy) (fun h₁ hns₁ hsb₁ => ?_) hkind))
    dsimp only at hns₁ hsb₁ ⊢
    obtain ⟨ot, hot, hot'⟩ := id ht
    have hax : ax < hp.objs.size := Heap.lt_size hot
    generalize hH1 : hp.push { cls := .type "tuple_iterator", data := .fields #[.ref ax, .int 0 0] } = H1 at hns₁ hsb₁ ⊢
    have hD : H1.objs.size = hp.objs.size + 1 := by rw [← hH1, Heap.size_push]
    generalize hH2 : H1.push { cls := .type "list", dict := none, data := .seq ([] : List Value).toArray } = H2 at hns₁ hsb₁ ⊢
    have hC : H2.objs.size = hp.objs.size + 2 := by rw [← hH2, Heap.size_push, hD]
    have kp2 : Kp hp H2 := by rw [← hH2, ← hH1]; exact (Kp.push _).trans (Kp.push _)
    have old : Kp hp h₁ := fun b o e => hsb₁.extBut b o (nn (by have := ltz e; omega)) (Heap.get?_push_of_some _ (kp2 b o e))
    have hit : h₁.IsTupleIter hp.objs.size ax 0 :=
      ⟨_, hsb₁.extBut _ _ (nn (by omega)) (Heap.get?_push_of_some _ (hH2 ▸ Heap.get?_push_of_some _ (hH1 ▸ Heap.get?_push_size _ rfl))), rfl, rfl⟩
    have hacc : h₁.IsList H1.objs.size #[] := ⟨_, hsb₁.extBut _ _ (nn (by omega)) (Heap.get?_push_of_some _ (hH2 ▸ Heap.get?_push_size _ rfl)), rfl, _, rfl⟩
    have hCn : hp.get? H2.objs.size = none := by
      cases q : hp.get? H2.objs.size with
      | none => rfl
      | some o' => have := ltz q; omega
    obtain ⟨mL, hnL, hmL⟩ := hF1.f.ns
    have hLlt : @LT.lt Nat _ env.locals hp.objs.size := hnL.lt
    have hLH : env.locals ≠ H2.objs.size := Nat.ne_of_lt (by omega)
    have loop : ∀ s₂ : Shared, s₂ = { s with heap := h₁, toks := tk + ([] : List (Str × Value)).length } →
        codeAny (model prog w) A (.compLoop (.ListComp elt [⟨.Name x px, iter, [], 0⟩] scope pos) 0 (.ref hp.objs.size) (.ref H1.objs.size) (compEnv scope H2.objs.size env))
          (fun r s' => match r with
          | .ok _ => wpAny (model prog w) A (assign (.Name y py) env (.ref H1.objs.size)) (fun _ s'' => ∃ m, s''.heap.Ns H2.objs.size m ∧ ∀ h', Heap.SameBut H2.objs.size s''.heap h' → Q .next { s'' with heap := h' }) E s'
          | .error x => ∃ m, s'.heap.Ns H2.objs.size m ∧ ∀ h', Heap.SameBut H2.objs.size s'.heap h' → wpAny (model prog w) A (passOn "comprehension.variables-let-go" x (compEnv scope H2.objs.size env) : Sem Value) (fun _ s' => Q .next s') E { s' with heap := h' }) s₂ := by
      rintro s₂ rfl
      refine comp_loop (h₁ := hp) hR hF.f.gl hF.f.bu hkind hx hix (hse _) (by omega) hax (Nat.le_refl _) (by omega) (by omega) (hF.f.stays.trans kp) old hit ht ra hacc hns₁ hk fun h' tk m' ys es hn' hl' hra hfl hke hkp => ?_
      have hF2 := hF1.mono hkp
      obtain ⟨m2, hn2, hm2⟩ := hF2.f.ns
      have rD : R h' (.ref H1.objs.size) (.list es) := .lst (vs := ys.toList) (by simpa using hl') hra
      refine wpAny_assign_Name (wpAny_storeName_local hl hn2 (fun h3 hn3 hs3 => ?_) (by rw [hF.f.kind]; rfl))
      have hF3 := hF2.set hn2 hm2 hiy hn3 hs3 rD
      refine ⟨m', hn'.sameBut hs3 (Ne.symm hLH), fun h4 hs4 => hn _ _ _ hke ?_⟩
      obtain ⟨m4, hn4, hm4⟩ := hF3.f.ns
      have kp4 : Kp h₀ h4 := fun b o e => hs4.extBut b o (by rintro rfl; have := hF1.keep _ _ e; rw [hCn] at this; cases this) (hF3.keep b o e)
      exact ⟨⟨hF3.f.kind, hF3.f.gl, hF3.f.bu, hF3.based.trans kp4, m4, hn4.sameBut hs4 hLH, hm4.mono (seq_of_ns (hn'.sameBut hs3 (Ne.symm hLH)) hs4.extBut)⟩, kp4, hF3.fresh, hF3.based⟩
    exact codeAny_compStart_list (loop _ rfl) (wpAny_pyIter_tupleiter hit (loop _ rfl))
  | _ => exact hk.elim

theorem namesOf_head {sc : Scope} {x a : Str} {p : Pos} {r : List Expr} {i : Nat} {l : List (Str × Nat)} (h : namesOf ids sc (.Name x p :: r) = some ((a, i) :: l)) : a = x ∧ namesOf ids sc r = some l := by
  simp only [namesOf] at h
  split at h
  · rename_i h3; cases h; exact ⟨rfl, h3⟩
  · cases h
theorem sound_S (G : Gd prog w base gl) (hC : COk prog w base C dp) : ∀ n (env : Env) (st : Stmt), SS prog w base ids C dp env st (cS ids gl n env.scope st) := by
  have hE : ∀ (env : Env) (e : Expr) (ρ : MEnv), SE prog w base ids C dp env e (cE ids gl 40 env.scope e) ρ := fun env e ρ => sound_E G hC 40 env e ρ
  intro n
  induction n with
  | zero => intro env st; exact SS.bad
  | succ n ih =>
    intro env st
    have hL : ∀ l : List Stmt, SSs prog w base ids C dp env l (l.map (cS ids gl n env.scope)) := fun l => SSs.mk _ l fun st _ => ih env st
    simp only [cS]
    split
    · split
      · rename_i hl hi hs; exact SS.asg1 hl hi (swapsR_spec hs) (hE env _)
      · rename_i hl hi hs
        split
        · split
          · rename_i h1 h2 h3
            exact SS.comp hl hi (swapsR_spec hs) h1 h2 (notSet_spec h3) (fun Cc d => (hE (compEnv _ Cc env) _ _).v) (hE env _)
          · exact SS.bad
        · exact SS.bad
      · exact SS.bad
    · split
      · rename_i h
        have h1 := namesOf_ok h _ (.head _)
        have h2 := namesOf_ok h _ (.tail _ (.head _))
        obtain ⟨e1, h'⟩ := namesOf_head h
        obtain ⟨e2, _⟩ := namesOf_head h'
        subst e1 e2
        exact SS.asg2 h1.1 h1.2 h2.1 h2.2 (hE env _)
      · exact SS.bad
    · split
      · rename_i h1 h2 h3; exact SS.unp h3 (swapsR_spec h1) (swapR_spec h2) (hE env _)
      · rename_i h1 h2 h3
        split
        · rename_i h4 h5; exact SS.unpS h3 (swapsR_spec h1) (swapR_spec h2) (eq_of_beq h4) h5 (hE env _)
        · exact SS.bad
      · exact SS.bad
    · split
      · rename_i h1 h2 h3; exact SS.aug h1 h2 h3 (hE env _)
      · exact SS.bad
    · exact SS.ifs (hE env _) (hL _) (hL _)
    · exact SS.whl (hE env _) (hL _)
    · split
      · rename_i h1 h2 h3; exact SS.forr h1 h2 (notSet_spec h3) (hE env _) (hL _)
      · exact SS.bad
    · exact SS.ret (hE env _)
    · exact SS.asrt (hE env _)
    · exact SS.bad
end
end Mine

namespace Mine
section
variable {prog : Program} {w : World} {base : Heap} {ids : List Str} {gl : Str → Option GI}

theorem binds_env : ∀ (pn : List Str) (ps : List Nat) (ws : List Value) (es : List PyData) (acc : List (Str × Value)) (ρ ρ' : MEnv) (h : Heap), EnvR ids h (fun y => acc.lookup y) ρ → setAll ps es ρ = some ρ' → pn.map (idOf ids) = ps.map some → RA h ws es →
    EnvR ids h (fun y => ((pn.zip ws).reverse ++ acc).lookup y) ρ'
  | [], ps, ws, es, acc, ρ, ρ', h, hE, hs, hp, hr => by
    cases ps with
    | cons => cases hp
    | nil =>
      cases es with
      | cons => cases hs
      | nil => cases hs; exact hE
  | x :: pn, ps, ws, es, acc, ρ, ρ', h, hE, hs, hp, hr => by
    cases ps with
    | nil => cases hp
    | cons i ps =>
      simp only [List.map_cons, List.cons.injEq] at hp
      cases hr with
      | nil => cases hs
      | cons r rs =>
        rename_i v vs d ds
        have := binds_env pn ps vs ds ((x, v) :: acc) ((i, d) :: ρ) ρ' h ?_ hs hp.2 rs
        · rw [List.zip_cons_cons, List.reverse_cons, List.append_assoc]
          exact this
        · intro j e hj
          simp only [Mine.lk] at hj
          split at hj
          · rename_i q
            cases hj
            have : i = j := Nat.eq_of_beq_eq_true q
            subst this
            rw [nm_of ids hp.1]
            exact ⟨hp.1, v, by simp [List.lookup], r⟩
          · rename_i q
            obtain ⟨h1, u, hu, ru⟩ := hE _ _ hj
            refine ⟨h1, u, ?_, ru⟩
            have hne : (nm ids j == x) = false := by
              cases q2 : (nm ids j == x) with
              | false => rfl
              | true =>
                have e := eq_of_beq q2
                rw [e, hp.1] at h1
                cases h1
                rw [Nat.beq_refl] at q
                cases q
            simp only [List.lookup_cons, hne]
            exact hu

/-- what the top says of one of its defs -/
structure FnOk (base : Heap) (ids : List Str) (gl : Str → Option GI) (a : Addr) (mf : MF) (ar : List Nat) : Prop where
  ex : ∃ (o : Obj) (fd : FuncData) (body : List Stmt) (pn : List Str) (dvs : List Value), base.get? a = some o ∧ o.data = .func fd ∧ fd.body = .stmts body ∧ base.CodeRec fd.code fd.qualname ∧
    (fd.scope.isCoroutine = false ∧ fd.scope.isGenerator = false ∧ fd.scope.kind = .function ∧ (fd.scope.names.all fun x => x.2 != .cell) = true ∧ fd.globals = mainGlobals ∧ fd.builtins = builtinsNs) ∧
    mf.body = body.map (cS ids gl 12 fd.scope) ∧ RA base dvs mf.df ∧ pn.map (idOf ids) = mf.ps.map some ∧ (pn.all fun x => fd.scope.names.lookup x == some .local) = true ∧ pn.length = mf.ps.length ∧
    ∀ n ∈ ar, ∀ vs : List Value, vs.length = n → ∀ s : Shared, Kp base s.heap → BindsTo s fd ⟨vs, []⟩ (pn.zip (vs ++ dvs.drop (n + dvs.length - pn.length)))

theorem RA.drop {h : Heap} : ∀ {vs : List Value} {ds : List PyData} (n : Nat), RA h vs ds → RA h (vs.drop n) (ds.drop n)
  | _, _, 0, r => r
  | _, _, _ + 1, .nil => .nil
  | _, _, n + 1, .cons _ r => RA.drop n r

noncomputable def arOk (T : Nat → Option (MF × List Nat)) : Nat → CallW
  | 0 => fun _ _ _ => False
  | d + 1 => fun f args k => match T f with
    | some (mf, ar) => ar.contains args.length = true ∧ bodyW mf (arOk T d) args k
    | none => False

theorem sound_calls (G : Gd prog w base gl) (T : Nat → Option (MF × List Nat)) (hT : ∀ a mf ar, T a = some (mf, ar) → FnOk base ids gl a mf ar) (hlim : base.NoLimit) : ∀ d, COk prog w base (arOk T d) d := by
  intro d
  induction d with
  | zero => intro f ds k h; exact h.elim
  | succ d ih =>
    intro f ds k h A s vs Q E hR hkp hra hQ
    simp only [arOk] at h
    split at h
    · rename_i mf ar hTf
      obtain ⟨har, h⟩ := h
      obtain ⟨o, fd, body, pn, dvs, ho, hdat, hbody, hcode, ⟨c1, c2, c3, c4, c5, c6⟩, hmf, hdv, hids, hloc, hlen, hbind⟩ := (hT _ _ _ hTf).ex
      have hvl := hra.length
      have hn : vs.length ∈ ar := by rw [hvl]; exact List.contains_iff_mem.mp har
      unfold bodyW at h
      split at h
      · rename_i ρ hρ
        unfold bindW at hρ
        split at hρ
        · rename_i hle hge
          have hB := hbind _ hn vs rfl s hkp
          have hRA : RA s.heap (vs ++ dvs.drop (vs.length + dvs.length - pn.length)) (ds ++ mf.df.drop (ds.length + mf.df.length - mf.ps.length)) := by
            refine hra.app ?_
            rw [hvl, hdv.length, hlen]
            exact RA.mono hkp.seq (RA.drop _ hdv)
          refine wpAny_call (codeAny_call_def (by have := hR.dp; omega) (hkp _ _ ho) hdat (hlim.keeps hkp) (hcode.keeps hkp) hbody hB ?_ ?_ (fun h₀ hns hk₀ => ?_) c1 c2 c3)
          · intro x hx
            have := List.all_eq_true.mp c4 x hx
            simpa using this
          · intro y hy
            have := List.all_eq_true.mp hloc y.1 (List.of_mem_zip hy).1
            simpa using this
          · have hR' : Room (A.deeper (callEnv fd s.heap.objs.size f)) d := by
              refine ⟨hR.hd, ?_, ?_⟩
              · have := hR.dp
                show A.depth + 1 + d < _
                omega
              · have := hR.un
                show A.units + 3 + 4 * d + 80 < _
                omega
            have hF : FrS base ids s.heap (callEnv fd s.heap.objs.size f) h₀ ρ := by
              refine ⟨⟨c3, c5, c6, hkp.trans hk₀, _, hns, ?_⟩, hk₀, ?_, hkp⟩
              · have := binds_env (ids := ids) pn mf.ps _ _ [] [] ρ h₀ (fun _ _ h => by cases h) hρ hids (RA.mono (Kp.seq hk₀) hRA)
                simpa using this
              · cases q : s.heap.get? s.heap.objs.size with
                | none => exact q
                | some o => exact absurd (Heap.lt_size q) (Nat.lt_irrefl _)
            have hS : SSs prog w base ids (arOk T d) d (callEnv fd s.heap.objs.size f) body (body.map (cS ids gl 12 fd.scope)) := SSs.mk _ _ fun st _ => sound_S G ih 12 (callEnv fd s.heap.objs.size f) st
            rw [hmf] at h
            refine hS _ _ _ h s.heap _ _ _ _ hR' hF (fun _ _ _ hf => hf.elim) fun v e h' tk hk kp r => ?_
            exact hQ v e h' tk hk kp r
        · cases hρ
      · exact h.elim
    · exact h.elim
end
end Mine

namespace Mine
/-! this program's own names -/
noncomputable def S (s : String) : Str := Str.ofString s
noncomputable def PT (l : List Int) : PyData := .tuple (l.map .int)
noncomputable def glL : List (Str × GI) := [
  (Str.ofString "trailing", .fn 21), (Str.ofString "isqrt_small", .fn 28), (Str.ofString "sqrtrem", .fn 35), (Str.ofString "isqrt", .fn 42), (Str.ofString "_normalize", .fn 72), (Str.ofString "normalize", .fn 79), (Str.ofString "from_man_exp", .fn 87),
  (Str.ofString "mpf_cmp", .fn 94), (Str.ofString "mpf_lt", .fn 101), (Str.ofString "mpf_le", .fn 108), (Str.ofString "mpf_gt", .fn 115), (Str.ofString "mpf_ge", .fn 122), (Str.ofString "mpf_min_max", .fn 129), (Str.ofString "mpf_pos", .fn 137),
  (Str.ofString "mpf_neg", .fn 145), (Str.ofString "mpf_sign", .fn 152), (Str.ofString "mpf_add", .fn 160), (Str.ofString "mpf_sub", .fn 168), (Str.ofString "mpf_mul", .fn 176), (Str.ofString "mpf_pow_int", .fn 193), (Str.ofString "mpf_sqrt", .fn 201),
  (Str.ofString "mpi_add", .fn 209), (Str.ofString "mpi_pos", .fn 216), (Str.ofString "mpi_neg", .fn 224), (Str.ofString "mpi_abs", .fn 232), (Str.ofString "mpi_mul", .fn 240), (Str.ofString "mpi_square", .fn 248), (Str.ofString "mpi_sqrt", .fn 262), (Str.ofString "mpi_pow_int", .fn 269),
  (Str.ofString "_law_mixed", .fn 276), (Str.ofString "_law_made", .fn 283), (Str.ofString "_law_value", .fn 290), (Str.ofString "_law_times", .fn 297), (Str.ofString "_law_less", .fn 304), (Str.ofString "_law_grid", .fn 311), (Str.ofString "_law_up", .fn 318), (Str.ofString "_law_span", .fn 325),
  (Str.ofString "_law_within", .fn 330), (Str.ofString "_law_refused", .fn 337), (Str.ofString "_law_most", .fn 344),
  (Str.ofString "round_nearest", .val (.str (Str.ofString "n"))), (Str.ofString "round_floor", .val (.str (Str.ofString "f"))), (Str.ofString "round_ceiling", .val (.str (Str.ofString "c"))),
  (Str.ofString "fzero", .val (.tuple [.int 0, .int 0, .int 0, .int 0])), (Str.ofString "fone", .val (.tuple [.int 0, .int 1, .int 0, .int 1])), (Str.ofString "fnan", .val (.tuple [.int 0, .int 0, .int (-123), .int (-1)])),
  (Str.ofString "finf", .val (.tuple [.int 0, .int 0, .int (-456), .int (-2)])), (Str.ofString "fninf", .val (.tuple [.int 1, .int 0, .int (-789), .int (-3)])),
  (Str.ofString "MPZ_ZERO", .val (.int 0)), (Str.ofString "MPZ_ONE", .val (.int 1)),
  (Str.ofString "shifts_down", .dct [(Str.ofString "f", .tuple [.int 1, .int 0]), (Str.ofString "c", .tuple [.int 0, .int 1]), (Str.ofString "d", .tuple [.int 1, .int 1]), (Str.ofString "u", .tuple [.int 0, .int 0])]),
  (Str.ofString "abs", .bi .abs), (Str.ofString "len", .bi .len), (Str.ofString "min", .bi .min), (Str.ofString "max", .bi .max), (Str.ofString "isinstance", .bi .isint), (Str.ofString "int", .bi .toint)]
noncomputable def gl (x : Str) : Option GI := glL.lookup x
end Mine

namespace Mine
noncomputable def ids : List Str := [Str.ofString "n", Str.ofString "x", Str.ofString "r", Str.ofString "y", Str.ofString "sign", Str.ofString "man", Str.ofString "exp", Str.ofString "bc", Str.ofString "prec", Str.ofString "rnd", Str.ofString "t", Str.ofString "s", Str.ofString "ssign", Str.ofString "sman", Str.ofString "sexp", Str.ofString "sbc", Str.ofString "tsign", Str.ofString "tman", Str.ofString "texp", Str.ofString "tbc", Str.ofString "a", Str.ofString "b", Str.ofString "delta", Str.ofString "seq", Str.ofString "min", Str.ofString "max", Str.ofString "_sub", Str.ofString "offset", Str.ofString "s_special", Str.ofString "t_special", Str.ofString "_", Str.ofString "inverse", Str.ofString "result_sign", Str.ofString "rounds_down", Str.ofString "workprec", Str.ofString "pm", Str.ofString "pe", Str.ofString "pbc", Str.ofString "shift", Str.ofString "rem", Str.ofString "sa", Str.ofString "sb", Str.ofString "ta", Str.ofString "tb", Str.ofString "sas", Str.ofString "sbs", Str.ofString "negsa", Str.ofString "tas", Str.ofString "tbs", Str.ofString "cases", Str.ofString "script", Str.ofString "k", Str.ofString "e", Str.ofString "size", Str.ofString "low", Str.ofString "rich", Str.ofString "kind", Str.ofString "bits", Str.ofString "wide", Str.ofString "high", Str.ofString "grid", Str.ofString "part", Str.ofString "whole", Str.ofString "c", Str.ofString "d", Str.ofString "first", Str.ofString "v", Str.ofString "half", Str.ofString "root", Str.ofString "other", Str.ofString "same", Str.ofString "square", Str.ofString "number", Str.ofString "point", Str.ofString "near", Str.ofString "ends", Str.ofString "both", Str.ofString "sums", Str.ofString "product", Str.ofString "middle", Str.ofString "below", Str.ofString "end"]
end Mine

namespace Mine

theorem s_trail (d : Nat) : SpTrail (arOk T (d + 1)) := by
  intro a0 a1 a2 a3
  exact ⟨rfl, w_trail _  a0 a1 a2 a3⟩
theorem s_norm0 (d : Nat) : SpNorm0 (arOk T (d + 2)) := by
  intro a0 a1 a2 a3 a4 a5 a6 a7 a8
  exact ⟨rfl, w_norm0 _ (s_trail (d + 0)) a0 a1 a2 a3 a4 a5 a6 a7 a8⟩
theorem s_norm (d : Nat) : SpNorm (arOk T (d + 3)) := by
  intro a0 a1 a2 a3 a4 a5 a6 a7 a8
  exact ⟨rfl, w_norm _ (s_norm0 (d + 0)) a0 a1 a2 a3 a4 a5 a6 a7 a8⟩
theorem s_isq (d : Nat) : SpIsq (arOk T (d + 1)) := by
  intro a0 a1 a2 a3
  exact ⟨rfl, w_isq _  a0 a1 a2 a3⟩
theorem s_rem (d : Nat) : SpRem (arOk T (d + 2)) := by
  intro a0 a1 a2 a3
  exact ⟨rfl, w_rem _ (s_isq (d + 0)) a0 a1 a2 a3⟩
theorem s_isqrt (d : Nat) : SpIsqrt (arOk T (d + 3)) := by
  intro a0 a1 a2 a3
  exact ⟨rfl, w_isqrt _ (s_rem (d + 0)) a0 a1 a2 a3⟩
theorem s_fme (d : Nat) : SpFME (arOk T (d + 4)) := by
  intro a0 a1 a2 a3 a4 a5 a6 a7
  exact ⟨rfl, w_fme _ (s_norm (d + 0)) a0 a1 a2 a3 a4 a5 a6 a7⟩
theorem s_sqrt (d : Nat) : SpSqrt (arOk T (d + 5)) := by
  intro a0 a1 a2 a3 a4 a5 a6 a7
  exact ⟨rfl, w_sqrt _ (s_isqrt (d + 1)) (s_rem (d + 2)) (s_fme (d + 0)) (s_norm (d + 1)) a0 a1 a2 a3 a4 a5 a6 a7⟩
theorem s_pos (d : Nat) : SpPos (arOk T (d + 4)) := by
  intro a0 a1 a2 a3 a4 a5 a6
  exact ⟨rfl, w_pos _ (s_norm (d + 0)) a0 a1 a2 a3 a4 a5 a6⟩
theorem s_neg1 (d : Nat) : SpNeg1 (arOk T (d + 1)) := by
  intro a0 a1 a2 a3
  exact ⟨rfl, w_neg1 _  a0 a1 a2 a3⟩
theorem s_neg3 (d : Nat) : SpNeg3 (arOk T (d + 4)) := by
  intro a0 a1 a2 a3 a4 a5 a6
  exact ⟨rfl, w_neg3 _ (s_norm (d + 0)) a0 a1 a2 a3 a4 a5 a6⟩
theorem s_neg30 (d : Nat) : SpNeg30 (arOk T (d + 1)) := by
  intro a0 a1 a2 a3 a4
  exact ⟨rfl, w_neg30 _  a0 a1 a2 a3 a4⟩
theorem s_sign (d : Nat) : SpSign (arOk T (d + 1)) := by
  intro a0 a1 a2 a3
  exact ⟨rfl, w_sign _  a0 a1 a2 a3⟩
theorem s_mul (d : Nat) : SpMul (arOk T (d + 4)) := by
  intro a0 a1 a2 a3 a4 a5 a6 a7 a8 a9
  exact ⟨rfl, w_mul _ (s_norm (d + 0)) a0 a1 a2 a3 a4 a5 a6 a7 a8 a9⟩
theorem s_add (d : Nat) : SpAdd (arOk T (d + 4)) := by
  intro a0 a1 a2 a3 a4 a5 a6 a7 a8
  exact ⟨rfl, w_add _ (s_norm (d + 0)) a0 a1 a2 a3 a4 a5 a6 a7 a8⟩
theorem s_add5 (d : Nat) : SpAdd5 (arOk T (d + 4)) := by
  intro a0 a1 a2 a3 a4 a5 a6 a7 a8
  exact ⟨rfl, w_add5 _ (s_norm (d + 0)) a0 a1 a2 a3 a4 a5 a6 a7 a8⟩
theorem s_sub5 (d : Nat) : SpSub5 (arOk T (d + 5)) := by
  intro a0 a1 a2 a3 a4 a5 a6 a7 a8
  exact ⟨rfl, w_sub5 _ (s_add5 (d + 0)) a0 a1 a2 a3 a4 a5 a6 a7 a8⟩
theorem s_cmp (d : Nat) : SpCmp (arOk T (d + 6)) := by
  intro a0 a1 a2 a3 a4 a5 a6 a7 a8 a9
  exact ⟨rfl, w_cmp _ (s_sub5 (d + 0)) a0 a1 a2 a3 a4 a5 a6 a7 a8 a9⟩
theorem s_cmp0 (d : Nat) : SpCmp0 (arOk T (d + 2)) := by
  intro a0 a1 a2 a3
  exact ⟨rfl, w_cmp0 _ (s_sign (d + 0)) a0 a1 a2 a3⟩
theorem s_lt (d : Nat) : SpLt (arOk T (d + 7)) := by
  intro a0 a1 a2 a3 a4 a5 a6 a7 a8
  exact ⟨rfl, w_lt _ (s_cmp (d + 0)) a0 a1 a2 a3 a4 a5 a6 a7 a8⟩
theorem s_gt (d : Nat) : SpGt (arOk T (d + 7)) := by
  intro a0 a1 a2 a3 a4 a5 a6 a7 a8
  exact ⟨rfl, w_gt _ (s_cmp (d + 0)) a0 a1 a2 a3 a4 a5 a6 a7 a8⟩
theorem s_ge0 (d : Nat) : SpGe0 (arOk T (d + 3)) := by
  intro a0 a1 a2 a3
  exact ⟨rfl, w_ge0 _ (s_cmp0 (d + 0)) a0 a1 a2 a3⟩
theorem s_le0 (d : Nat) : SpLe0 (arOk T (d + 3)) := by
  intro a0 a1 a2 a3
  exact ⟨rfl, w_le0 _ (s_cmp0 (d + 0)) a0 a1 a2 a3⟩
theorem s_lt0 (d : Nat) : SpLt0 (arOk T (d + 3)) := by
  intro a0 a1 a2 a3
  exact ⟨rfl, w_lt0 _ (s_cmp0 (d + 0)) a0 a1 a2 a3⟩
theorem s_mm (d : Nat) : SpMM (arOk T (d + 8)) := by
  intro a0 a1 a2 a3 a4 a5 a6 a7
  exact ⟨rfl, w_mm _ (s_lt (d + 0)) (s_gt (d + 0)) a0 a1 a2 a3 a4 a5 a6 a7⟩
theorem s_pow (d : Nat) : SpPow (arOk T (d + 4)) := by
  intro a0 a1 a2 a3 a4 a5 a6 a7 a8
  exact ⟨rfl, w_pow _ (s_norm (d + 0)) a0 a1 a2 a3 a4 a5 a6 a7 a8⟩
theorem s_iadd (d : Nat) : SpIAdd (arOk T (d + 5)) := by
  intro a0 a1 a2 a3 a4 a5 a6 a7 a8 a9 a10 a11 a12
  exact ⟨rfl, w_iadd _ (s_add (d + 0)) a0 a1 a2 a3 a4 a5 a6 a7 a8 a9 a10 a11 a12⟩
theorem s_iadd2 (d : Nat) : SpIAdd2 (arOk T (d + 5)) := by
  intro a0 a1 a2 a3 a4 a5 a6 a7 a8 a9
  exact ⟨rfl, w_iadd2 _ (s_add (d + 0)) a0 a1 a2 a3 a4 a5 a6 a7 a8 a9⟩
theorem s_ipos (d : Nat) : SpIPos (arOk T (d + 5)) := by
  intro a0 a1 a2 a3 a4 a5
  exact ⟨rfl, w_ipos _ (s_pos (d + 0)) a0 a1 a2 a3 a4 a5⟩
theorem s_isqrt2 (d : Nat) : SpISqrt (arOk T (d + 6)) := by
  intro a0 a1 a2 a3 a4 a5 a6 a7 a8
  exact ⟨rfl, w_isqrt2 _ (s_sqrt (d + 0)) a0 a1 a2 a3 a4 a5 a6 a7 a8⟩
theorem s_ineg (d : Nat) : SpINeg (arOk T (d + 2)) := by
  intro a0 a1 a2 a3 a4 a5
  exact ⟨rfl, w_ineg _ (s_neg30 (d + 0)) a0 a1 a2 a3 a4 a5⟩
theorem s_imul (d : Nat) : SpIMul (arOk T (d + 5)) := by
  intro a0 a1 a2 a3 a4 a5 a6 a7 a8 a9 a10 a11 a12
  exact ⟨rfl, w_imul _ (s_sign (d + 3)) (s_mul (d + 0)) a0 a1 a2 a3 a4 a5 a6 a7 a8 a9 a10 a11 a12⟩
theorem s_imul2 (d : Nat) : SpIMul2 (arOk T (d + 5)) := by
  intro a0 a1 a2 a3 a4 a5 a6 a7 a8 a9 a10 a11
  exact ⟨rfl, w_imul2 _ (s_sign (d + 3)) (s_mul (d + 0)) a0 a1 a2 a3 a4 a5 a6 a7 a8 a9 a10 a11⟩
theorem s_isq2 (d : Nat) : SpISq (arOk T (d + 5)) := by
  intro a0 a1 a2 a3 a4 a5 a6 a7 a8
  exact ⟨rfl, w_isq2 _ (s_ge0 (d + 1)) (s_mul (d + 0)) a0 a1 a2 a3 a4 a5 a6 a7 a8⟩
theorem s_isqs (d : Nat) : SpISqS (arOk T (d + 9)) := by
  intro a0 a1 a2 a3 a4 a5 a6 a7 a8 a9 a10 a11 a12
  exact ⟨rfl, w_isqs _ (s_ge0 (d + 5)) (s_le0 (d + 5)) (s_neg1 (d + 7)) (s_mm (d + 0)) (s_mul (d + 4)) a0 a1 a2 a3 a4 a5 a6 a7 a8 a9 a10 a11 a12⟩
theorem s_iabs (d : Nat) : SpIAbs (arOk T (d + 8)) := by
  intro a0 a1 a2 a3 a4 a5 a6 a7 a8 a9 a10 a11 a12
  exact ⟨rfl, w_iabs _ (s_sign (d + 6)) (s_pos (d + 3)) (s_neg1 (d + 6)) (s_neg3 (d + 3)) (s_lt (d + 0)) (s_lt0 (d + 4)) a0 a1 a2 a3 a4 a5 a6 a7 a8 a9 a10 a11 a12⟩
theorem s_ipow (d : Nat) : SpIPow (arOk T (d + 5)) := by
  intro a0 a1 a2 a3 a4 a5 a6 a7 a8 a9 a10 a11
  exact ⟨rfl, w_ipow _ (s_sign (d + 3)) (s_pow (d + 0)) a0 a1 a2 a3 a4 a5 a6 a7 a8 a9 a10 a11⟩
theorem s_mix (d : Nat) : SpMix (arOk T (d + 1)) := by
  intro a0 a1 a2 a3 a4 a5 a6
  exact ⟨rfl, w_mix _  a0 a1 a2 a3 a4 a5 a6⟩
theorem s_made (d : Nat) : SpMade (arOk T (d + 1)) := by
  intro a0 a1 a2 a3 a4 a5
  exact ⟨rfl, w_made _  a0 a1 a2 a3 a4 a5⟩
theorem s_val (d : Nat) : SpVal (arOk T (d + 1)) := by
  intro a0 a1 a2
  exact ⟨rfl, w_val _  a0 a1 a2⟩
theorem s_times (d : Nat) : SpTimes (arOk T (d + 1)) := by
  intro a0 a1 a2 a3 a4 a5 a6 a7
  exact ⟨rfl, w_times _  a0 a1 a2 a3 a4 a5 a6 a7⟩
theorem s_less (d : Nat) : SpLess (arOk T (d + 1)) := by
  intro a0 a1 a2 a3 a4 a5 a6 a7 a8 a9 a10 a11 a12 a13 a14
  exact ⟨rfl, w_less _  a0 a1 a2 a3 a4 a5 a6 a7 a8 a9 a10 a11 a12 a13 a14⟩
theorem s_lessv (d : Nat) : SpLessV (arOk T (d + 1)) := less_v _ (s_less d)
theorem s_most (d : Nat) : SpMost (arOk T (d + 2)) := by
  intro a0 a1 a2 a3 a4 a5 a6
  exact ⟨rfl, w_most _ (s_val (d + 0)) (s_lessv (d + 0)) a0 a1 a2 a3 a4 a5 a6⟩
theorem s_within (d : Nat) : SpWithin (arOk T (d + 2)) := by
  intro a0 a1 a2 a3 a4 a5 a6 a7 a8 a9 a10 a11 a12
  exact ⟨rfl, w_within _ (s_val (d + 0)) (s_lessv (d + 0)) a0 a1 a2 a3 a4 a5 a6 a7 a8 a9 a10 a11 a12⟩
theorem s_span (d : Nat) : SpSpan (arOk T (d + 2)) := by
  intro a0 a1 a2 a3 a4 a5 a6 a7
  exact ⟨rfl, w_span _ (s_made (d + 0)) a0 a1 a2 a3 a4 a5 a6 a7⟩
theorem s_grid (d : Nat) : SpGrid (arOk T (d + 1)) := by
  intro a0 a1 a2
  exact ⟨rfl, w_grid _  a0 a1 a2⟩
theorem s_up (d : Nat) : SpUp (arOk T (d + 2)) := by
  intro a0 a1 a2
  exact ⟨rfl, w_up _ (s_grid (d + 0)) a0 a1 a2⟩
theorem sps (d : Nat) : Sps (arOk T (d + 9)) where
  mix := s_mix (d + 8)
  made := s_made (d + 8)
  val := s_val (d + 8)
  times := s_times (d + 8)
  less := s_less (d + 8)
  grid := s_grid (d + 8)
  up := s_up (d + 7)
  span := s_span (d + 7)
  within := s_within (d + 7)
  most := s_most (d + 7)
  isqrt := s_isqrt2 (d + 3)
  ipos := s_ipos (d + 4)
  isq := s_isq2 (d + 4)
  isqs := s_isqs (d + 0)
  imul := s_imul (d + 4)
  imul2 := s_imul2 (d + 4)
  iadd := s_iadd (d + 4)
  iadd2 := s_iadd2 (d + 4)
  ipow := s_ipow (d + 4)
  iabs := s_iabs (d + 1)
  ineg := s_ineg (d + 7)
end Mine

namespace Mine
open_top hd for PySem.Challenge.rw_aj5019_01
end Mine

namespace Mine
section
variable {P : Params} {base : Heap}
theorem ok_21 (KX : (hd.heap_39 P).In base) : FnOk base ids gl 21 f_trailing [1] := by
  refine ⟨⟨_, _, _, [Str.ofString "n"], [], KX 21 _ rfl, rfl, rfl, codeRec_of KX (by kernel_rfl), ⟨rfl, rfl, rfl, by kernel_rfl, rfl, rfl⟩, by kernel_rfl, .nil, by kernel_rfl, by kernel_rfl, rfl, fun n hn vs hl s hk => ?_⟩⟩
  obtain rfl : n = 1 := by simpa using hn
  match vs, hl with
  | [v0], _ => exact kp_binds (KX.keeps hk) (fun S => by kernel_rfl)
theorem ok_28 (KX : (hd.heap_39 P).In base) : FnOk base ids gl 28 f_isqrtqsmall [1] := by
  refine ⟨⟨_, _, _, [Str.ofString "x"], [], KX 28 _ rfl, rfl, rfl, codeRec_of KX (by kernel_rfl), ⟨rfl, rfl, rfl, by kernel_rfl, rfl, rfl⟩, by kernel_rfl, .nil, by kernel_rfl, by kernel_rfl, rfl, fun n hn vs hl s hk => ?_⟩⟩
  obtain rfl : n = 1 := by simpa using hn
  match vs, hl with
  | [v0], _ => exact kp_binds (KX.keeps hk) (fun S => by kernel_rfl)
theorem ok_35 (KX : (hd.heap_39 P).In base) : FnOk base ids gl 35 f_sqrtrem [1] := by
  refine ⟨⟨_, _, _, [Str.ofString "x"], [], KX 35 _ rfl, rfl, rfl, codeRec_of KX (by kernel_rfl), ⟨rfl, rfl, rfl, by kernel_rfl, rfl, rfl⟩, by kernel_rfl, .nil, by kernel_rfl, by kernel_rfl, rfl, fun n hn vs hl s hk => ?_⟩⟩
  obtain rfl : n = 1 := by simpa using hn
  match vs, hl with
  | [v0], _ => exact kp_binds (KX.keeps hk) (fun S => by kernel_rfl)
theorem ok_42 (KX : (hd.heap_39 P).In base) : FnOk base ids gl 42 f_isqrt [1] := by
  refine ⟨⟨_, _, _, [Str.ofString "x"], [], KX 42 _ rfl, rfl, rfl, codeRec_of KX (by kernel_rfl), ⟨rfl, rfl, rfl, by kernel_rfl, rfl, rfl⟩, by kernel_rfl, .nil, by kernel_rfl, by kernel_rfl, rfl, fun n hn vs hl s hk => ?_⟩⟩
  obtain rfl : n = 1 := by simpa using hn
  match vs, hl with
  | [v0], _ => exact kp_binds (KX.keeps hk) (fun S => by kernel_rfl)
theorem ok_72 (KX : (hd.heap_39 P).In base) : FnOk base ids gl 72 f_qnormalize [6] := by
  refine ⟨⟨_, _, _, [Str.ofString "sign", Str.ofString "man", Str.ofString "exp", Str.ofString "bc", Str.ofString "prec", Str.ofString "rnd"], [], KX 72 _ rfl, rfl, rfl, codeRec_of KX (by kernel_rfl), ⟨rfl, rfl, rfl, by kernel_rfl, rfl, rfl⟩, by kernel_rfl, .nil, by kernel_rfl, by kernel_rfl, rfl, fun n hn vs hl s hk => ?_⟩⟩
  obtain rfl : n = 6 := by simpa using hn
  match vs, hl with
  | [v0, v1, v2, v3, v4, v5], _ => exact kp_binds (KX.keeps hk) (fun S => by kernel_rfl)
theorem ok_79 (KX : (hd.heap_39 P).In base) : FnOk base ids gl 79 f_normalize [6] := by
  refine ⟨⟨_, _, _, [Str.ofString "sign", Str.ofString "man", Str.ofString "exp", Str.ofString "bc", Str.ofString "prec", Str.ofString "rnd"], [], KX 79 _ rfl, rfl, rfl, codeRec_of KX (by kernel_rfl), ⟨rfl, rfl, rfl, by kernel_rfl, rfl, rfl⟩, by kernel_rfl, .nil, by kernel_rfl, by kernel_rfl, rfl, fun n hn vs hl s hk => ?_⟩⟩
  obtain rfl : n = 6 := by simpa using hn
  match vs, hl with
  | [v0, v1, v2, v3, v4, v5], _ => exact kp_binds (KX.keeps hk) (fun S => by kernel_rfl)
theorem ok_87 (KX : (hd.heap_39 P).In base) : FnOk base ids gl 87 f_fromqmanqexp [4] := by
  refine ⟨⟨_, _, _, [Str.ofString "man", Str.ofString "exp", Str.ofString "prec", Str.ofString "rnd"], [.int 0 320, .str (Str.ofString "d") 252], KX 87 _ rfl, rfl, rfl, codeRec_of KX (by kernel_rfl), ⟨rfl, rfl, rfl, by kernel_rfl, rfl, rfl⟩, by kernel_rfl, .cons (.int _ _) (.cons (.str _ _) .nil), by kernel_rfl, by kernel_rfl, rfl, fun n hn vs hl s hk => ?_⟩⟩
  obtain rfl : n = 4 := by simpa using hn
  match vs, hl with
  | [v0, v1, v2, v3], _ => exact kp_binds (KX.keeps hk) (fun S => by kernel_rfl)
theorem ok_94 (KX : (hd.heap_39 P).In base) : FnOk base ids gl 94 f_mpfqcmp [2] := by
  refine ⟨⟨_, _, _, [Str.ofString "s", Str.ofString "t"], [], KX 94 _ rfl, rfl, rfl, codeRec_of KX (by kernel_rfl), ⟨rfl, rfl, rfl, by kernel_rfl, rfl, rfl⟩, by kernel_rfl, .nil, by kernel_rfl, by kernel_rfl, rfl, fun n hn vs hl s hk => ?_⟩⟩
  obtain rfl : n = 2 := by simpa using hn
  match vs, hl with
  | [v0, v1], _ => exact kp_binds (KX.keeps hk) (fun S => by kernel_rfl)
theorem ok_101 (KX : (hd.heap_39 P).In base) : FnOk base ids gl 101 f_mpfqlt [2] := by
  refine ⟨⟨_, _, _, [Str.ofString "s", Str.ofString "t"], [], KX 101 _ rfl, rfl, rfl, codeRec_of KX (by kernel_rfl), ⟨rfl, rfl, rfl, by kernel_rfl, rfl, rfl⟩, by kernel_rfl, .nil, by kernel_rfl, by kernel_rfl, rfl, fun n hn vs hl s hk => ?_⟩⟩
  obtain rfl : n = 2 := by simpa using hn
  match vs, hl with
  | [v0, v1], _ => exact kp_binds (KX.keeps hk) (fun S => by kernel_rfl)
theorem ok_108 (KX : (hd.heap_39 P).In base) : FnOk base ids gl 108 f_mpfqle [2] := by
  refine ⟨⟨_, _, _, [Str.ofString "s", Str.ofString "t"], [], KX 108 _ rfl, rfl, rfl, codeRec_of KX (by kernel_rfl), ⟨rfl, rfl, rfl, by kernel_rfl, rfl, rfl⟩, by kernel_rfl, .nil, by kernel_rfl, by kernel_rfl, rfl, fun n hn vs hl s hk => ?_⟩⟩
  obtain rfl : n = 2 := by simpa using hn
  match vs, hl with
  | [v0, v1], _ => exact kp_binds (KX.keeps hk) (fun S => by kernel_rfl)
theorem ok_115 (KX : (hd.heap_39 P).In base) : FnOk base ids gl 115 f_mpfqgt [2] := by
  refine ⟨⟨_, _, _, [Str.ofString "s", Str.ofString "t"], [], KX 115 _ rfl, rfl, rfl, codeRec_of KX (by kernel_rfl), ⟨rfl, rfl, rfl, by kernel_rfl, rfl, rfl⟩, by kernel_rfl, .nil, by kernel_rfl, by kernel_rfl, rfl, fun n hn vs hl s hk => ?_⟩⟩
  obtain rfl : n = 2 := by simpa using hn
  match vs, hl with
  | [v0, v1], _ => exact kp_binds (KX.keeps hk) (fun S => by kernel_rfl)
theorem ok_122 (KX : (hd.heap_39 P).In base) : FnOk base ids gl 122 f_mpfqge [2] := by
  refine ⟨⟨_, _, _, [Str.ofString "s", Str.ofString "t"], [], KX 122 _ rfl, rfl, rfl, codeRec_of KX (by kernel_rfl), ⟨rfl, rfl, rfl, by kernel_rfl, rfl, rfl⟩, by kernel_rfl, .nil, by kernel_rfl, by kernel_rfl, rfl, fun n hn vs hl s hk => ?_⟩⟩
  obtain rfl : n = 2 := by simpa using hn
  match vs, hl with
  | [v0, v1], _ => exact kp_binds (KX.keeps hk) (fun S => by kernel_rfl)
theorem ok_129 (KX : (hd.heap_39 P).In base) : FnOk base ids gl 129 f_mpfqminqmax [1] := by
  refine ⟨⟨_, _, _, [Str.ofString "seq"], [], KX 129 _ rfl, rfl, rfl, codeRec_of KX (by kernel_rfl), ⟨rfl, rfl, rfl, by kernel_rfl, rfl, rfl⟩, by kernel_rfl, .nil, by kernel_rfl, by kernel_rfl, rfl, fun n hn vs hl s hk => ?_⟩⟩
  obtain rfl : n = 1 := by simpa using hn
  match vs, hl with
  | [v0], _ => exact kp_binds (KX.keeps hk) (fun S => by kernel_rfl)
theorem ok_137 (KX : (hd.heap_39 P).In base) : FnOk base ids gl 137 f_mpfqpos [3] := by
  refine ⟨⟨_, _, _, [Str.ofString "s", Str.ofString "prec", Str.ofString "rnd"], [.int 0 395, .str (Str.ofString "d") 252], KX 137 _ rfl, rfl, rfl, codeRec_of KX (by kernel_rfl), ⟨rfl, rfl, rfl, by kernel_rfl, rfl, rfl⟩, by kernel_rfl, .cons (.int _ _) (.cons (.str _ _) .nil), by kernel_rfl, by kernel_rfl, rfl, fun n hn vs hl s hk => ?_⟩⟩
  obtain rfl : n = 3 := by simpa using hn
  match vs, hl with
  | [v0, v1, v2], _ => exact kp_binds (KX.keeps hk) (fun S => by kernel_rfl)
theorem ok_145 (KX : (hd.heap_39 P).In base) : FnOk base ids gl 145 f_mpfqneg [1, 3] := by
  refine ⟨⟨_, _, _, [Str.ofString "s", Str.ofString "prec", Str.ofString "rnd"], [.int 0 409, .str (Str.ofString "d") 252], KX 145 _ rfl, rfl, rfl, codeRec_of KX (by kernel_rfl), ⟨rfl, rfl, rfl, by kernel_rfl, rfl, rfl⟩, by kernel_rfl, .cons (.int _ _) (.cons (.str _ _) .nil), by kernel_rfl, by kernel_rfl, rfl, fun n hn vs hl s hk => ?_⟩⟩
  have hn2 : n = 1 ∨ n = 3 := by simpa using hn
  rcases hn2 with rfl | rfl
  · match vs, hl with
    | [v0], _ => exact kp_binds (KX.keeps hk) (fun S => by kernel_rfl)
  · match vs, hl with
    | [v0, v1, v2], _ => exact kp_binds (KX.keeps hk) (fun S => by kernel_rfl)
theorem ok_152 (KX : (hd.heap_39 P).In base) : FnOk base ids gl 152 f_mpfqsign [1] := by
  refine ⟨⟨_, _, _, [Str.ofString "s"], [], KX 152 _ rfl, rfl, rfl, codeRec_of KX (by kernel_rfl), ⟨rfl, rfl, rfl, by kernel_rfl, rfl, rfl⟩, by kernel_rfl, .nil, by kernel_rfl, by kernel_rfl, rfl, fun n hn vs hl s hk => ?_⟩⟩
  obtain rfl : n = 1 := by simpa using hn
  match vs, hl with
  | [v0], _ => exact kp_binds (KX.keeps hk) (fun S => by kernel_rfl)
theorem ok_160 (KX : (hd.heap_39 P).In base) : FnOk base ids gl 160 f_mpfqadd [4, 5] := by
  refine ⟨⟨_, _, _, [Str.ofString "s", Str.ofString "t", Str.ofString "prec", Str.ofString "rnd", Str.ofString "_sub"], [.int 0 434, .str (Str.ofString "d") 252, .int 0 435], KX 160 _ rfl, rfl, rfl, codeRec_of KX (by kernel_rfl), ⟨rfl, rfl, rfl, by kernel_rfl, rfl, rfl⟩, by kernel_rfl, .cons (.int _ _) (.cons (.str _ _) (.cons (.int _ _) .nil)), by kernel_rfl, by kernel_rfl, rfl, fun n hn vs hl s hk => ?_⟩⟩
  have hn2 : n = 4 ∨ n = 5 := by simpa using hn
  rcases hn2 with rfl | rfl
  · match vs, hl with
    | [v0, v1, v2, v3], _ => exact kp_binds (KX.keeps hk) (fun S => by kernel_rfl)
  · match vs, hl with
    | [v0, v1, v2, v3, v4], _ => exact kp_binds (KX.keeps hk) (fun S => by kernel_rfl)
theorem ok_168 (KX : (hd.heap_39 P).In base) : FnOk base ids gl 168 f_mpfqsub [4] := by
  refine ⟨⟨_, _, _, [Str.ofString "s", Str.ofString "t", Str.ofString "prec", Str.ofString "rnd"], [.int 0 459, .str (Str.ofString "d") 252], KX 168 _ rfl, rfl, rfl, codeRec_of KX (by kernel_rfl), ⟨rfl, rfl, rfl, by kernel_rfl, rfl, rfl⟩, by kernel_rfl, .cons (.int _ _) (.cons (.str _ _) .nil), by kernel_rfl, by kernel_rfl, rfl, fun n hn vs hl s hk => ?_⟩⟩
  obtain rfl : n = 4 := by simpa using hn
  match vs, hl with
  | [v0, v1, v2, v3], _ => exact kp_binds (KX.keeps hk) (fun S => by kernel_rfl)
theorem ok_176 (KX : (hd.heap_39 P).In base) : FnOk base ids gl 176 f_mpfqmul [4] := by
  refine ⟨⟨_, _, _, [Str.ofString "s", Str.ofString "t", Str.ofString "prec", Str.ofString "rnd"], [.int 0 470, .str (Str.ofString "d") 252], KX 176 _ rfl, rfl, rfl, codeRec_of KX (by kernel_rfl), ⟨rfl, rfl, rfl, by kernel_rfl, rfl, rfl⟩, by kernel_rfl, .cons (.int _ _) (.cons (.str _ _) .nil), by kernel_rfl, by kernel_rfl, rfl, fun n hn vs hl s hk => ?_⟩⟩
  obtain rfl : n = 4 := by simpa using hn
  match vs, hl with
  | [v0, v1, v2, v3], _ => exact kp_binds (KX.keeps hk) (fun S => by kernel_rfl)
theorem ok_193 (KX : (hd.heap_39 P).In base) : FnOk base ids gl 193 f_mpfqpowqint [4] := by
  refine ⟨⟨_, _, _, [Str.ofString "s", Str.ofString "n", Str.ofString "prec", Str.ofString "rnd"], [.str (Str.ofString "d") 252], KX 193 _ rfl, rfl, rfl, codeRec_of KX (by kernel_rfl), ⟨rfl, rfl, rfl, by kernel_rfl, rfl, rfl⟩, by kernel_rfl, .cons (.str _ _) .nil, by kernel_rfl, by kernel_rfl, rfl, fun n hn vs hl s hk => ?_⟩⟩
  obtain rfl : n = 4 := by simpa using hn
  match vs, hl with
  | [v0, v1, v2, v3], _ => exact kp_binds (KX.keeps hk) (fun S => by kernel_rfl)
theorem ok_201 (KX : (hd.heap_39 P).In base) : FnOk base ids gl 201 f_mpfqsqrt [3] := by
  refine ⟨⟨_, _, _, [Str.ofString "s", Str.ofString "prec", Str.ofString "rnd"], [.str (Str.ofString "d") 252], KX 201 _ rfl, rfl, rfl, codeRec_of KX (by kernel_rfl), ⟨rfl, rfl, rfl, by kernel_rfl, rfl, rfl⟩, by kernel_rfl, .cons (.str _ _) .nil, by kernel_rfl, by kernel_rfl, rfl, fun n hn vs hl s hk => ?_⟩⟩
  obtain rfl : n = 3 := by simpa using hn
  match vs, hl with
  | [v0, v1, v2], _ => exact kp_binds (KX.keeps hk) (fun S => by kernel_rfl)
theorem ok_209 (KX : (hd.heap_39 P).In base) : FnOk base ids gl 209 f_mpiqadd [2, 3] := by
  refine ⟨⟨_, _, _, [Str.ofString "s", Str.ofString "t", Str.ofString "prec"], [.int 0 564], KX 209 _ rfl, rfl, rfl, codeRec_of KX (by kernel_rfl), ⟨rfl, rfl, rfl, by kernel_rfl, rfl, rfl⟩, by kernel_rfl, .cons (.int _ _) .nil, by kernel_rfl, by kernel_rfl, rfl, fun n hn vs hl s hk => ?_⟩⟩
  have hn2 : n = 2 ∨ n = 3 := by simpa using hn
  rcases hn2 with rfl | rfl
  · match vs, hl with
    | [v0, v1], _ => exact kp_binds (KX.keeps hk) (fun S => by kernel_rfl)
  · match vs, hl with
    | [v0, v1, v2], _ => exact kp_binds (KX.keeps hk) (fun S => by kernel_rfl)
theorem ok_216 (KX : (hd.heap_39 P).In base) : FnOk base ids gl 216 f_mpiqpos [2] := by
  refine ⟨⟨_, _, _, [Str.ofString "s", Str.ofString "prec"], [], KX 216 _ rfl, rfl, rfl, codeRec_of KX (by kernel_rfl), ⟨rfl, rfl, rfl, by kernel_rfl, rfl, rfl⟩, by kernel_rfl, .nil, by kernel_rfl, by kernel_rfl, rfl, fun n hn vs hl s hk => ?_⟩⟩
  obtain rfl : n = 2 := by simpa using hn
  match vs, hl with
  | [v0, v1], _ => exact kp_binds (KX.keeps hk) (fun S => by kernel_rfl)
theorem ok_224 (KX : (hd.heap_39 P).In base) : FnOk base ids gl 224 f_mpiqneg [1] := by
  refine ⟨⟨_, _, _, [Str.ofString "s", Str.ofString "prec"], [.int 0 592], KX 224 _ rfl, rfl, rfl, codeRec_of KX (by kernel_rfl), ⟨rfl, rfl, rfl, by kernel_rfl, rfl, rfl⟩, by kernel_rfl, .cons (.int _ _) .nil, by kernel_rfl, by kernel_rfl, rfl, fun n hn vs hl s hk => ?_⟩⟩
  obtain rfl : n = 1 := by simpa using hn
  match vs, hl with
  | [v0], _ => exact kp_binds (KX.keeps hk) (fun S => by kernel_rfl)
theorem ok_232 (KX : (hd.heap_39 P).In base) : FnOk base ids gl 232 f_mpiqabs [2] := by
  refine ⟨⟨_, _, _, [Str.ofString "s", Str.ofString "prec"], [.int 0 605], KX 232 _ rfl, rfl, rfl, codeRec_of KX (by kernel_rfl), ⟨rfl, rfl, rfl, by kernel_rfl, rfl, rfl⟩, by kernel_rfl, .cons (.int _ _) .nil, by kernel_rfl, by kernel_rfl, rfl, fun n hn vs hl s hk => ?_⟩⟩
  obtain rfl : n = 2 := by simpa using hn
  match vs, hl with
  | [v0, v1], _ => exact kp_binds (KX.keeps hk) (fun S => by kernel_rfl)
theorem ok_240 (KX : (hd.heap_39 P).In base) : FnOk base ids gl 240 f_mpiqmul [2, 3] := by
  refine ⟨⟨_, _, _, [Str.ofString "s", Str.ofString "t", Str.ofString "prec"], [.int 0 621], KX 240 _ rfl, rfl, rfl, codeRec_of KX (by kernel_rfl), ⟨rfl, rfl, rfl, by kernel_rfl, rfl, rfl⟩, by kernel_rfl, .cons (.int _ _) .nil, by kernel_rfl, by kernel_rfl, rfl, fun n hn vs hl s hk => ?_⟩⟩
  have hn2 : n = 2 ∨ n = 3 := by simpa using hn
  rcases hn2 with rfl | rfl
  · match vs, hl with
    | [v0, v1], _ => exact kp_binds (KX.keeps hk) (fun S => by kernel_rfl)
  · match vs, hl with
    | [v0, v1, v2], _ => exact kp_binds (KX.keeps hk) (fun S => by kernel_rfl)
theorem ok_248 (KX : (hd.heap_39 P).In base) : FnOk base ids gl 248 f_mpiqsquare [1, 2] := by
  refine ⟨⟨_, _, _, [Str.ofString "s", Str.ofString "prec"], [.int 0 642], KX 248 _ rfl, rfl, rfl, codeRec_of KX (by kernel_rfl), ⟨rfl, rfl, rfl, by kernel_rfl, rfl, rfl⟩, by kernel_rfl, .cons (.int _ _) .nil, by kernel_rfl, by kernel_rfl, rfl, fun n hn vs hl s hk => ?_⟩⟩
  have hn2 : n = 1 ∨ n = 2 := by simpa using hn
  rcases hn2 with rfl | rfl
  · match vs, hl with
    | [v0], _ => exact kp_binds (KX.keeps hk) (fun S => by kernel_rfl)
  · match vs, hl with
    | [v0, v1], _ => exact kp_binds (KX.keeps hk) (fun S => by kernel_rfl)
theorem ok_262 (KX : (hd.heap_39 P).In base) : FnOk base ids gl 262 f_mpiqsqrt [2] := by
  refine ⟨⟨_, _, _, [Str.ofString "s", Str.ofString "prec"], [], KX 262 _ rfl, rfl, rfl, codeRec_of KX (by kernel_rfl), ⟨rfl, rfl, rfl, by kernel_rfl, rfl, rfl⟩, by kernel_rfl, .nil, by kernel_rfl, by kernel_rfl, rfl, fun n hn vs hl s hk => ?_⟩⟩
  obtain rfl : n = 2 := by simpa using hn
  match vs, hl with
  | [v0, v1], _ => exact kp_binds (KX.keeps hk) (fun S => by kernel_rfl)
theorem ok_269 (KX : (hd.heap_39 P).In base) : FnOk base ids gl 269 f_mpiqpowqint [3] := by
  refine ⟨⟨_, _, _, [Str.ofString "s", Str.ofString "n", Str.ofString "prec"], [], KX 269 _ rfl, rfl, rfl, codeRec_of KX (by kernel_rfl), ⟨rfl, rfl, rfl, by kernel_rfl, rfl, rfl⟩, by kernel_rfl, .nil, by kernel_rfl, by kernel_rfl, rfl, fun n hn vs hl s hk => ?_⟩⟩
  obtain rfl : n = 3 := by simpa using hn
  match vs, hl with
  | [v0, v1, v2], _ => exact kp_binds (KX.keeps hk) (fun S => by kernel_rfl)
theorem ok_276 (KX : (hd.heap_39 P).In base) : FnOk base ids gl 276 f_qlawqmixed [2] := by
  refine ⟨⟨_, _, _, [Str.ofString "script", Str.ofString "k"], [], KX 276 _ rfl, rfl, rfl, codeRec_of KX (by kernel_rfl), ⟨rfl, rfl, rfl, by kernel_rfl, rfl, rfl⟩, by kernel_rfl, .nil, by kernel_rfl, by kernel_rfl, rfl, fun n hn vs hl s hk => ?_⟩⟩
  obtain rfl : n = 2 := by simpa using hn
  match vs, hl with
  | [v0, v1], _ => exact kp_binds (KX.keeps hk) (fun S => by kernel_rfl)
theorem ok_283 (KX : (hd.heap_39 P).In base) : FnOk base ids gl 283 f_qlawqmade [2] := by
  refine ⟨⟨_, _, _, [Str.ofString "n", Str.ofString "e"], [], KX 283 _ rfl, rfl, rfl, codeRec_of KX (by kernel_rfl), ⟨rfl, rfl, rfl, by kernel_rfl, rfl, rfl⟩, by kernel_rfl, .nil, by kernel_rfl, by kernel_rfl, rfl, fun n hn vs hl s hk => ?_⟩⟩
  obtain rfl : n = 2 := by simpa using hn
  match vs, hl with
  | [v0, v1], _ => exact kp_binds (KX.keeps hk) (fun S => by kernel_rfl)
theorem ok_290 (KX : (hd.heap_39 P).In base) : FnOk base ids gl 290 f_qlawqvalue [1] := by
  refine ⟨⟨_, _, _, [Str.ofString "s"], [], KX 290 _ rfl, rfl, rfl, codeRec_of KX (by kernel_rfl), ⟨rfl, rfl, rfl, by kernel_rfl, rfl, rfl⟩, by kernel_rfl, .nil, by kernel_rfl, by kernel_rfl, rfl, fun n hn vs hl s hk => ?_⟩⟩
  obtain rfl : n = 1 := by simpa using hn
  match vs, hl with
  | [v0], _ => exact kp_binds (KX.keeps hk) (fun S => by kernel_rfl)
theorem ok_297 (KX : (hd.heap_39 P).In base) : FnOk base ids gl 297 f_qlawqtimes [2] := by
  refine ⟨⟨_, _, _, [Str.ofString "x", Str.ofString "y"], [], KX 297 _ rfl, rfl, rfl, codeRec_of KX (by kernel_rfl), ⟨rfl, rfl, rfl, by kernel_rfl, rfl, rfl⟩, by kernel_rfl, .nil, by kernel_rfl, by kernel_rfl, rfl, fun n hn vs hl s hk => ?_⟩⟩
  obtain rfl : n = 2 := by simpa using hn
  match vs, hl with
  | [v0, v1], _ => exact kp_binds (KX.keeps hk) (fun S => by kernel_rfl)
theorem ok_304 (KX : (hd.heap_39 P).In base) : FnOk base ids gl 304 f_qlawqless [2] := by
  refine ⟨⟨_, _, _, [Str.ofString "x", Str.ofString "y"], [], KX 304 _ rfl, rfl, rfl, codeRec_of KX (by kernel_rfl), ⟨rfl, rfl, rfl, by kernel_rfl, rfl, rfl⟩, by kernel_rfl, .nil, by kernel_rfl, by kernel_rfl, rfl, fun n hn vs hl s hk => ?_⟩⟩
  obtain rfl : n = 2 := by simpa using hn
  match vs, hl with
  | [v0, v1], _ => exact kp_binds (KX.keeps hk) (fun S => by kernel_rfl)
theorem ok_311 (KX : (hd.heap_39 P).In base) : FnOk base ids gl 311 f_qlawqgrid [1] := by
  refine ⟨⟨_, _, _, [Str.ofString "rich"], [], KX 311 _ rfl, rfl, rfl, codeRec_of KX (by kernel_rfl), ⟨rfl, rfl, rfl, by kernel_rfl, rfl, rfl⟩, by kernel_rfl, .nil, by kernel_rfl, by kernel_rfl, rfl, fun n hn vs hl s hk => ?_⟩⟩
  obtain rfl : n = 1 := by simpa using hn
  match vs, hl with
  | [v0], _ => exact kp_binds (KX.keeps hk) (fun S => by kernel_rfl)
theorem ok_318 (KX : (hd.heap_39 P).In base) : FnOk base ids gl 318 f_qlawqup [1] := by
  refine ⟨⟨_, _, _, [Str.ofString "rich"], [], KX 318 _ rfl, rfl, rfl, codeRec_of KX (by kernel_rfl), ⟨rfl, rfl, rfl, by kernel_rfl, rfl, rfl⟩, by kernel_rfl, .nil, by kernel_rfl, by kernel_rfl, rfl, fun n hn vs hl s hk => ?_⟩⟩
  obtain rfl : n = 1 := by simpa using hn
  match vs, hl with
  | [v0], _ => exact kp_binds (KX.keeps hk) (fun S => by kernel_rfl)
theorem ok_325 (KX : (hd.heap_39 P).In base) : FnOk base ids gl 325 f_qlawqspan [1] := by
  refine ⟨⟨_, _, _, [Str.ofString "grid"], [], KX 325 _ rfl, rfl, rfl, codeRec_of KX (by kernel_rfl), ⟨rfl, rfl, rfl, by kernel_rfl, rfl, rfl⟩, by kernel_rfl, .nil, by kernel_rfl, by kernel_rfl, rfl, fun n hn vs hl s hk => ?_⟩⟩
  obtain rfl : n = 1 := by simpa using hn
  match vs, hl with
  | [v0], _ => exact kp_binds (KX.keeps hk) (fun S => by kernel_rfl)
theorem ok_330 (KX : (hd.heap_39 P).In base) : FnOk base ids gl 330 f_qlawqwithin [2] := by
  refine ⟨⟨_, _, _, [Str.ofString "part", Str.ofString "whole"], [], KX 330 _ rfl, rfl, rfl, codeRec_of KX (by kernel_rfl), ⟨rfl, rfl, rfl, by kernel_rfl, rfl, rfl⟩, by kernel_rfl, .nil, by kernel_rfl, by kernel_rfl, rfl, fun n hn vs hl s hk => ?_⟩⟩
  obtain rfl : n = 2 := by simpa using hn
  match vs, hl with
  | [v0, v1], _ => exact kp_binds (KX.keeps hk) (fun S => by kernel_rfl)
theorem ok_344 (KX : (hd.heap_39 P).In base) : FnOk base ids gl 344 f_qlawqmost [2] := by
  refine ⟨⟨_, _, _, [Str.ofString "x", Str.ofString "y"], [], KX 344 _ rfl, rfl, rfl, codeRec_of KX (by kernel_rfl), ⟨rfl, rfl, rfl, by kernel_rfl, rfl, rfl⟩, by kernel_rfl, .nil, by kernel_rfl, by kernel_rfl, rfl, fun n hn vs hl s hk => ?_⟩⟩
  obtain rfl : n = 2 := by simpa using hn
  match vs, hl with
  | [v0, v1], _ => exact kp_binds (KX.keeps hk) (fun S => by kernel_rfl)
theorem fnOk (KX : (hd.heap_39 P).In base) : ∀ a mf ar, T a = some (mf, ar) → FnOk base ids gl a mf ar := by
  intro a mf ar h
  unfold T at h
  split at h
  · cases h; exact ok_21 KX
  · cases h; exact ok_28 KX
  · cases h; exact ok_35 KX
  · cases h; exact ok_42 KX
  · cases h; exact ok_72 KX
  · cases h; exact ok_79 KX
  · cases h; exact ok_87 KX
  · cases h; exact ok_94 KX
  · cases h; exact ok_101 KX
  · cases h; exact ok_108 KX
  · cases h; exact ok_115 KX
  · cases h; exact ok_122 KX
  · cases h; exact ok_129 KX
  · cases h; exact ok_137 KX
  · cases h; exact ok_145 KX
  · cases h; exact ok_152 KX
  · cases h; exact ok_160 KX
  · cases h; exact ok_168 KX
  · cases h; exact ok_176 KX
  · cases h; exact ok_193 KX
  · cases h; exact ok_201 KX
  · cases h; exact ok_209 KX
  · cases h; exact ok_216 KX
  · cases h; exact ok_224 KX
  · cases h; exact ok_232 KX
  · cases h; exact ok_240 KX
  · cases h; exact ok_248 KX
  · cases h; exact ok_262 KX
  · cases h; exact ok_269 KX
  · cases h; exact ok_276 KX
  · cases h; exact ok_283 KX
  · cases h; exact ok_290 KX
  · cases h; exact ok_297 KX
  · cases h; exact ok_304 KX
  · cases h; exact ok_311 KX
  · cases h; exact ok_318 KX
  · cases h; exact ok_325 KX
  · cases h; exact ok_330 KX
  · cases h; exact ok_344 KX
  · cases h
end
end Mine

namespace Mine
section
variable {prog : Program} {w : World} {base : Heap} {mg mb : Str → Option Value}
theorem gname_g {x : Str} {v : Value} (G : base.Ns mainGlobals mg) (h : mg x = some v) : GName prog w base x v := by
  intro A E env s Q hk hg hb hQ
  refine Calls.loadGlobal_global (mg := mg) ?_ h hQ
  rw [hg]
  exact G.keeps hk
theorem gname_b {x : Str} {v : Value} (G : base.Ns mainGlobals mg) (Gb : base.Ns builtinsNs mb) (h : mg x = none) (h2 : mb x = some v) : GName prog w base x v := by
  intro A E env s Q hk hg hb hQ
  refine Calls.loadGlobal_builtin (mg := mg) (mb := mb) ?_ h ?_ h2 hQ
  · rw [hg]; exact G.keeps hk
  · rw [hb]; exact Gb.keeps hk
noncomputable def GOk (prog : Program) (w : World) (base : Heap) (x : Str) : GI → Prop
  | .val d => ∃ v, R base v d ∧ GName prog w base x v
  | .fn a => GName prog w base x (.ref a) ∧ ∃ o fd, base.get? a = some o ∧ o.data = .func fd
  | .bi b => GName prog w base x (biVal b)
  | .dct t => ∃ a, GName prog w base x (.ref a) ∧ GDict prog w base a t
theorem gd_of (h : ∀ p ∈ glL, GOk prog w base p.1 p.2) : Gd prog w base gl := by
  have key : ∀ x g, gl x = some g → GOk prog w base x g := by
    intro x g e
    unfold gl at e
    revert h e
    generalize glL = l
    intro h e
    induction l with
    | nil => cases e
    | cons p r ih =>
      obtain ⟨y, g'⟩ := p
      rw [List.lookup_cons] at e
      split at e
      · rename_i q
        cases e
        have := eq_of_beq q
        subst this
        exact h (x, g) (.head _)
      · exact ih (fun p hp => h p (.tail _ hp)) e
  exact ⟨fun x d e => key x _ e, fun x a e => key x _ e, fun x b e => key x _ e, fun x t e => key x _ e⟩
theorem gfn {x : Str} {a : Addr} (KX : (hd.heap_39 w.params).In base) (G : base.Ns mainGlobals mg) (e : nsIn (hd.heap_39 w.params) mainGlobals x = some (some (.ref a)))
    (h : ∃ o fd, (hd.heap_39 w.params).lookup a = some o ∧ o.data = .func fd) : GOk prog w base x (.fn a) :=
  ⟨gname_g G (mg_of KX G e), let ⟨o, fd, h1, h2⟩ := h; ⟨o, fd, KX a o h1, h2⟩⟩
theorem gstr {x y : Str} {t : Tok} (KX : (hd.heap_39 w.params).In base) (G : base.Ns mainGlobals mg) (e : nsIn (hd.heap_39 w.params) mainGlobals x = some (some (.str y t))) : GOk prog w base x (.val (.str y)) :=
  ⟨_, .str y t, gname_g G (mg_of KX G e)⟩
theorem gint {x : Str} {y : Int} {t : Tok} (KX : (hd.heap_39 w.params).In base) (G : base.Ns mainGlobals mg) (e : nsIn (hd.heap_39 w.params) mainGlobals x = some (some (.int y t))) : GOk prog w base x (.val (.int y)) :=
  ⟨_, .int y t, gname_g G (mg_of KX G e)⟩
theorem gtup {x : Str} {a : Addr} {vs : List Value} {ds : List PyData} {dd : Option Addr} {n : Nat} {sl : Array (Option Value)} (KX : (hd.heap_39 w.params).In base) (G : base.Ns mainGlobals mg) (e : nsIn (hd.heap_39 w.params) mainGlobals x = some (some (.ref a)))
    (hl : (hd.heap_39 w.params).lookup a = some ⟨.type "tuple", dd, .seq vs.toArray n, sl⟩) (hr : RA base vs ds) : GOk prog w base x (.val (.tuple ds)) :=
  ⟨_, .tup (tupK KX hl) hr, gname_g G (mg_of KX G e)⟩
theorem gbi {x : Str} {b : BI} (KX : (hd.heap_39 w.params).In base) (G : base.Ns mainGlobals mg) (Gb : base.Ns builtinsNs mb) (hb : ∀ x : Str, x ≠ "__name__" → mb x = bootBuiltins x) (e : nsIn (hd.heap_39 w.params) mainGlobals x = some none) (hx : x ≠ "__name__") (h : bootBuiltins x = some (biVal b)) : GOk prog w base x (.bi b) :=
  gname_b G Gb (mg_none_of KX G e) (by rw [hb x hx]; exact h)
theorem gdict (KX : (hd.heap_39 w.params).In base) {a : Addr} {es : Array DictEntry} {n : Nat} (hl : (hd.heap_39 w.params).lookup a = some ⟨.type "dict", none, .dict es n, #[]⟩) (hk : KeysLit w.params es.toList) {t : List (Str × PyData)}
    (h : ∀ p ∈ t, ∃ v, nsIn (hd.heap_39 w.params) a p.1 = some (some v) ∧ R base v p.2) : GDict prog w base a t := by
  intro x d e
  have key : ∃ v, nsIn (hd.heap_39 w.params) a x = some (some v) ∧ R base v d := by
    revert h e
    intro h e
    induction t with
    | nil => cases e
    | cons p r ih =>
      obtain ⟨y, g'⟩ := p
      rw [List.lookup_cons] at e
      split at e
      · rename_i q
        cases e
        have := eq_of_beq q
        subst this
        exact h (x, d) (.head _)
      · exact ih (fun p hp => h p (.tail _ hp)) e
  obtain ⟨v, hv, hr⟩ := key
  refine ⟨v, hr, fun A E s u Q value slice hs hkp hQ => ?_⟩
  have hm := mapOf_K (prog := prog) (KX.keeps hkp) hl hk
  exact tail_any hm.typeIs slot_dict_getitem.lookup (wpAny_getItem_of (strKind_is prog w x u) hm (find_K hl hv) (hQ _)) (sub_false hs)
theorem two {a : Addr} {x y : Int} {t u : Tok} {dd : Option Addr} {n : Nat} {sl : Array (Option Value)} (KX : (hd.heap_39 w.params).In base) (hl : (hd.heap_39 w.params).lookup a = some ⟨.type "tuple", dd, .seq [Value.int x t, Value.int y u].toArray n, sl⟩) : R base (.ref a) (.tuple [.int x, .int y]) :=
  .tup (tupK KX hl) (.cons (.int _ _) (.cons (.int _ _) .nil))
theorem gdct (KX : (hd.heap_39 w.params).In base) (G : base.Ns mainGlobals mg) : GOk prog w base (Str.ofString "shifts_down") (.dct [(Str.ofString "f", .tuple [.int 1, .int 0]), (Str.ofString "c", .tuple [.int 0, .int 1]), (Str.ofString "d", .tuple [.int 1, .int 1]), (Str.ofString "u", .tuple [.int 0, .int 0])]) := by
  refine ⟨61, gname_g G (mg_of KX G (by kernel_rfl)), ?_⟩
  refine gdict KX rfl ?_ ?_
  · exact ⟨⟨_, _, rfl, rfl⟩, ⟨_, _, rfl, rfl⟩, ⟨_, _, rfl, rfl⟩, ⟨_, _, rfl, rfl⟩, trivial⟩
  intro p hp
  simp only [List.mem_cons, List.not_mem_nil, or_false] at hp
  rcases hp with rfl | rfl | rfl | rfl
  · exact ⟨_, rfl, two KX rfl⟩
  · exact ⟨_, rfl, two KX rfl⟩
  · exact ⟨_, rfl, two KX rfl⟩
  · exact ⟨_, rfl, two KX rfl⟩
theorem gd (KX : (hd.heap_39 w.params).In base) (G : base.Ns mainGlobals mg) (Gb : base.Ns builtinsNs mb) (hb : ∀ x : Str, x ≠ "__name__" → mb x = bootBuiltins x) : Gd prog w base gl := by
  refine gd_of ?_
  unfold glL
  refine List.forall_mem_cons.mpr ⟨gfn KX G (by kernel_rfl) ⟨_, _, rfl, rfl⟩, ?_⟩
  refine List.forall_mem_cons.mpr ⟨gfn KX G (by kernel_rfl) ⟨_, _, rfl, rfl⟩, ?_⟩
  refine List.forall_mem_cons.mpr ⟨gfn KX G (by kernel_rfl) ⟨_, _, rfl, rfl⟩, ?_⟩
  refine List.forall_mem_cons.mpr ⟨gfn KX G (by kernel_rfl) ⟨_, _, rfl, rfl⟩, ?_⟩
  refine List.forall_mem_cons.mpr ⟨gfn KX G (by kernel_rfl) ⟨_, _, rfl, rfl⟩, ?_⟩
  refine List.forall_mem_cons.mpr ⟨gfn KX G (by kernel_rfl) ⟨_, _, rfl, rfl⟩, ?_⟩
  refine List.forall_mem_cons.mpr ⟨gfn KX G (by kernel_rfl) ⟨_, _, rfl, rfl⟩, ?_⟩
  refine List.forall_mem_cons.mpr ⟨gfn KX G (by kernel_rfl) ⟨_, _, rfl, rfl⟩, ?_⟩
  refine List.forall_mem_cons.mpr ⟨gfn KX G (by kernel_rfl) ⟨_, _, rfl, rfl⟩, ?_⟩
  refine List.forall_mem_cons.mpr ⟨gfn KX G (by kernel_rfl) ⟨_, _, rfl, rfl⟩, ?_⟩
  refine List.forall_mem_cons.mpr ⟨gfn KX G (by kernel_rfl) ⟨_, _, rfl, rfl⟩, ?_⟩
  refine List.forall_mem_cons.mpr ⟨gfn KX G (by kernel_rfl) ⟨_, _, rfl, rfl⟩, ?_⟩
  refine List.forall_mem_cons.mpr ⟨gfn KX G (by kernel_rfl) ⟨_, _, rfl, rfl⟩, ?_⟩
  refine List.forall_mem_cons.mpr ⟨gfn KX G (by kernel_rfl) ⟨_, _, rfl, rfl⟩, ?_⟩
  refine List.forall_mem_cons.mpr ⟨gfn KX G (by kernel_rfl) ⟨_, _, rfl, rfl⟩, ?_⟩
  refine List.forall_mem_cons.mpr ⟨gfn KX G (by kernel_rfl) ⟨_, _, rfl, rfl⟩, ?_⟩
  refine List.forall_mem_cons.mpr ⟨gfn KX G (by kernel_rfl) ⟨_, _, rfl, rfl⟩, ?_⟩
  refine List.forall_mem_cons.mpr ⟨gfn KX G (by kernel_rfl) ⟨_, _, rfl, rfl⟩, ?_⟩
  refine List.forall_mem_cons.mpr ⟨gfn KX G (by kernel_rfl) ⟨_, _, rfl, rfl⟩, ?_⟩
  refine List.forall_mem_cons.mpr ⟨gfn KX G (by kernel_rfl) ⟨_, _, rfl, rfl⟩, ?_⟩
  refine List.forall_mem_cons.mpr ⟨gfn KX G (by kernel_rfl) ⟨_, _, rfl, rfl⟩, ?_⟩
  refine List.forall_mem_cons.mpr ⟨gfn KX G (by kernel_rfl) ⟨_, _, rfl, rfl⟩, ?_⟩
  refine List.forall_mem_cons.mpr ⟨gfn KX G (by kernel_rfl) ⟨_, _, rfl, rfl⟩, ?_⟩
  refine List.forall_mem_cons.mpr ⟨gfn KX G (by kernel_rfl) ⟨_, _, rfl, rfl⟩, ?_⟩
  refine List.forall_mem_cons.mpr ⟨gfn KX G (by kernel_rfl) ⟨_, _, rfl, rfl⟩, ?_⟩
  refine List.forall_mem_cons.mpr ⟨gfn KX G (by kernel_rfl) ⟨_, _, rfl, rfl⟩, ?_⟩
  refine List.forall_mem_cons.mpr ⟨gfn KX G (by kernel_rfl) ⟨_, _, rfl, rfl⟩, ?_⟩
  refine List.forall_mem_cons.mpr ⟨gfn KX G (by kernel_rfl) ⟨_, _, rfl, rfl⟩, ?_⟩
  refine List.forall_mem_cons.mpr ⟨gfn KX G (by kernel_rfl) ⟨_, _, rfl, rfl⟩, ?_⟩
  refine List.forall_mem_cons.mpr ⟨gfn KX G (by kernel_rfl) ⟨_, _, rfl, rfl⟩, ?_⟩
  refine List.forall_mem_cons.mpr ⟨gfn KX G (by kernel_rfl) ⟨_, _, rfl, rfl⟩, ?_⟩
  refine List.forall_mem_cons.mpr ⟨gfn KX G (by kernel_rfl) ⟨_, _, rfl, rfl⟩, ?_⟩
  refine List.forall_mem_cons.mpr ⟨gfn KX G (by kernel_rfl) ⟨_, _, rfl, rfl⟩, ?_⟩
  refine List.forall_mem_cons.mpr ⟨gfn KX G (by kernel_rfl) ⟨_, _, rfl, rfl⟩, ?_⟩
  refine List.forall_mem_cons.mpr ⟨gfn KX G (by kernel_rfl) ⟨_, _, rfl, rfl⟩, ?_⟩
  refine List.forall_mem_cons.mpr ⟨gfn KX G (by kernel_rfl) ⟨_, _, rfl, rfl⟩, ?_⟩
  refine List.forall_mem_cons.mpr ⟨gfn KX G (by kernel_rfl) ⟨_, _, rfl, rfl⟩, ?_⟩
  refine List.forall_mem_cons.mpr ⟨gfn KX G (by kernel_rfl) ⟨_, _, rfl, rfl⟩, ?_⟩
  refine List.forall_mem_cons.mpr ⟨gfn KX G (by kernel_rfl) ⟨_, _, rfl, rfl⟩, ?_⟩
  refine List.forall_mem_cons.mpr ⟨gfn KX G (by kernel_rfl) ⟨_, _, rfl, rfl⟩, ?_⟩
  refine List.forall_mem_cons.mpr ⟨gstr KX G rfl, ?_⟩
  refine List.forall_mem_cons.mpr ⟨gstr KX G rfl, ?_⟩
  refine List.forall_mem_cons.mpr ⟨gstr KX G rfl, ?_⟩
  refine List.forall_mem_cons.mpr ⟨gtup KX G rfl rfl (.cons (.int _ _) (.cons (.int _ _) (.cons (.int _ _) (.cons (.int _ _) .nil)))), ?_⟩
  refine List.forall_mem_cons.mpr ⟨gtup KX G rfl rfl (.cons (.int _ _) (.cons (.int _ _) (.cons (.int _ _) (.cons (.int _ _) .nil)))), ?_⟩
  refine List.forall_mem_cons.mpr ⟨gtup KX G rfl rfl (.cons (.int _ _) (.cons (.int _ _) (.cons (.int _ _) (.cons (.int _ _) .nil)))), ?_⟩
  refine List.forall_mem_cons.mpr ⟨gtup KX G rfl rfl (.cons (.int _ _) (.cons (.int _ _) (.cons (.int _ _) (.cons (.int _ _) .nil)))), ?_⟩
  refine List.forall_mem_cons.mpr ⟨gtup KX G rfl rfl (.cons (.int _ _) (.cons (.int _ _) (.cons (.int _ _) (.cons (.int _ _) .nil)))), ?_⟩
  refine List.forall_mem_cons.mpr ⟨gint KX G rfl, ?_⟩
  refine List.forall_mem_cons.mpr ⟨gint KX G rfl, ?_⟩
  refine List.forall_mem_cons.mpr ⟨gdct KX G, ?_⟩
  refine List.forall_mem_cons.mpr ⟨gbi KX G Gb hb (by kernel_rfl) (by decide) (by kernel_rfl), ?_⟩
  refine List.forall_mem_cons.mpr ⟨gbi KX G Gb hb (by kernel_rfl) (by decide) (by kernel_rfl), ?_⟩
  refine List.forall_mem_cons.mpr ⟨gbi KX G Gb hb (by kernel_rfl) (by decide) (by kernel_rfl), ?_⟩
  refine List.forall_mem_cons.mpr ⟨gbi KX G Gb hb (by kernel_rfl) (by decide) (by kernel_rfl), ?_⟩
  refine List.forall_mem_cons.mpr ⟨gbi KX G Gb hb (by kernel_rfl) (by decide) (by kernel_rfl), ?_⟩
  refine List.forall_mem_cons.mpr ⟨gbi KX G Gb hb (by kernel_rfl) (by decide) (by kernel_rfl), ?_⟩
  exact fun _ h => nomatch h
end
end Mine

namespace Mine
section
variable {prog : Program} {w : World} {base : Heap} {ids : List Str} {gl : Str → Option GI} {C : CallW} {dp : Nat}
theorem SSs.app {env : Env} {r : List Stmt} {Q : Flow → Shared → Prop} {E : Value → Shared → Prop} {A : Around} {h₀ : Heap} {kn : MEnv → Prop} {kr : PyData → Prop} (f : Stmt → MS) : ∀ l : List Stmt, (∀ st ∈ l, SS prog w base ids C dp env st (f st)) → ∀ ρ, Xs C (l.map f) ρ kn kr → ∀ (s : Shared), Room A dp → FrS base ids h₀ env s.heap ρ →
    (∀ ρ' h' tk, kn ρ' → FrS base ids h₀ env h' ρ' → wpAny (model prog w) A (execs r env) Q E { s with heap := h', toks := tk }) →
    (∀ v d h' tk, kr d → Kp h₀ h' → R h' v d → Q (.ret v) { s with heap := h', toks := tk }) → wpAny (model prog w) A (execs (l ++ r) env) Q E s
  | [], _ => fun ρ h s hR hF hn hr => hn ρ _ s.toks h hF
  | st :: l, hst => fun ρ h s hR hF hn hr => by
    rw [List.map_cons, Xs] at h
    refine wpAny_execs_cons (hst st (.head _) _ _ _ h h₀ A s _ _ hR hF (fun ρ' h' tk hk hF' => ?_) hr)
    exact SSs.app f l (fun st hs => hst st (.tail _ hs)) _ hk _ hR hF' hn hr

theorem ra_ints {h : Heap} : ∀ {vs : List Value} {ns : List Int}, IntsAre vs ns → RA h vs (ns.map PyData.int)
  | _, _, .nil => .nil
  | _, _, .cons n t r => .cons (.int n t) (ra_ints r)
theorem bits_wt : ∀ (ns : List Int) (n : Int), n ∈ ns → Builtin.Int.intBits n ≤ PyData.weightAll (ns.map PyData.int)
  | m :: r, n, h => by
    rw [List.map_cons, PyData.weightAll]
    cases h with
    | head =>
      have : PyData.weight (.int m) = Builtin.Int.intBits m := by rw [PyData.weight]; rfl
      omega
    | tail _ h =>
      have := bits_wt r n h
      omega
theorem bits_lay {ns : List Int} (h : (PyData.list (ns.map PyData.int)).layable0 = true) : ∀ n ∈ ns, Builtin.Int.intBits n ≤ 2000000 := by
  intro n hn
  have h1 := bits_wt ns n hn
  unfold PyData.layable0 at h
  simp only [Bool.and_eq_true, decide_eq_true_eq] at h
  have h2 := h.2
  rw [PyData.weight] at h2
  omega
/-- a list of defs' statements, the last aside -/
theorem law_split {env : Env} {body : List Stmt} {last : Stmt} {Q : Flow → Shared → Prop} {E : Value → Shared → Prop} {A : Around} {s : Shared} {a : Addr} {vs : List Value} {ns : List Int} {m : Str → Option Value}
    (G : Gd prog w base gl) (hC : COk prog w base C dp) (S : Sps C) (hR : Room A dp)
    (hb : body = body.dropLast ++ [last]) (hm : body.dropLast.map (cS ids gl 12 env.scope) = b_law.take 19)
    (k1 : env.scope.kind = .function) (k2 : env.globals = mainGlobals) (k3 : env.builtins = builtinsNs)
    (F : Fr base env.locals s.heap m) (hf : base.get? env.locals = none) (hs : m (nm ids 50) = some (.ref a)) (hi : idOf ids (nm ids 50) = some 50) (hL : base.IsList a vs.toArray) (hI : IntsAre vs ns) (hlen : ns.length ≤ 63) (hlay : (PyData.list (ns.map PyData.int)).layable0 = true)
    (K : ∀ (ρ : MEnv) (p h a b A' D : Nat) (e : Int) (nD : Bool) (h' : Heap) (tk : Tok), 1 ≤ p → p ≤ 60 → A' ≠ 0 → h ≤ 2 ^ 25 → -12 ≤ e → e ≤ 12 → lk ρ 80 = some (sprd true A' nD D) → lk ρ 8 = some (.int p) → lk ρ 11 = some (pr a b) → lk ρ 59 = some (.int h) → lk ρ 52 = some (.int e) →
      FrS base ids base env h' ρ → wpAny (model prog w) A (execs [last] env) Q E { s with heap := h', toks := tk }) :
    wpAny (model prog w) A (execs body env) Q E s := by
  rw [hb]
  have kp : Kp base s.heap := F.keep
  refine SSs.app (C := C) (dp := dp) (base := base) (ids := ids) (h₀ := base) (kn := fun ρ => ∃ (p h a b A' D : Nat) (e : Int) (nD : Bool), 1 ≤ p ∧ p ≤ 60 ∧ A' ≠ 0 ∧ h ≤ 2 ^ 25 ∧ -12 ≤ e ∧ e ≤ 12 ∧ lk ρ 80 = some (sprd true A' nD D) ∧ lk ρ 8 = some (.int p) ∧ lk ρ 11 = some (pr a b) ∧ lk ρ 59 = some (.int h) ∧ lk ρ 52 = some (.int e))
    (kr := fun _ => False) (cS ids gl 12 env.scope) body.dropLast (fun st _ => sound_S G hC 12 env st) [(50, .list (ns.map PyData.int))] ?_ s hR ?_ ?_ ?_
  · rw [hm]
    refine law_pure C S ns hlen (bits_lay hlay) _ _ ?_
    intro ρ p h a b A' D e nD c1 c2 c3 c4 c5 c6 c7 c8 c9 c10 c11
    exact ⟨p, h, a, b, A', D, e, nD, c1, c2, c3, c4, c5, c6, c7, c8, c9, c10, c11⟩
  · refine ⟨⟨k1, k2, k3, kp, m, F.ns, ?_⟩, kp, hf, Kp.rfl⟩
    intro i d hd
    simp only [lk] at hd
    split at hd
    · rename_i q
      cases hd
      have : 50 = i := Nat.eq_of_beq_eq_true q
      subst this
      exact ⟨hi, _, hs, .lst (kp.seq.2 _ _ hL) (ra_ints hI)⟩
    · cases hd
  · rintro ρ' h' tk ⟨p, h, a, b, A', D, e, nD, c1, c2, c3, c4, c5, c6, c7, c8, c9, c10, c11⟩ hF
    exact K ρ' p h a b A' D e nD h' tk c1 c2 c3 c4 c5 c6 c7 c8 c9 c10 c11 hF
  · intro v d h' tk hk
    exact hk.elim
theorem room_law (env : Env) : Room (callerA.deeper env) 9 := ⟨rfl, by show 1 + claimMargin + 1 + 9 < recursionLimit; decide, by show 4 + 3 + 4 * 9 + 80 < cLine; decide⟩
theorem fresh_size (h : Heap) : h.get? h.objs.size = none := by
  cases q : h.get? h.objs.size with
  | none => rfl
  | some o => exact absurd (Heap.lt_size q) (Nat.lt_irrefl _)
end
end Mine

namespace Mine
open PySem.Spec PySem.Calls
noncomputable def TurnEnd (fs : List Addr) (g : Heap) (PP : Value → Shared → Prop) (v : Value) (s' : Shared) : Prop := ∃ g' L2 m2, KtsTurn fs g g' ∧ Fr g' L2 s'.heap m2 ∧ PP v s'
section
variable {prog : Program} {w : World} {A₀ A : Around} {s : Shared} {base : Heap} {L a : Addr} {m : Str → Option Value} {cn : Str} {cs : Scope} {ccd : Value} {K : Frag} {p : Program} {loose : List Str} {mean : ExcName → Option Value} {mg mb : Str → Option Value}
    {R : Result → Shared → Prop} {name qual : Str} {params : Arguments} {body : List Stmt} {scope : Scope} {dV kV doc pm cdv ct oc : Value} {an od : Option Addr} {osl : Array (Option Value)} {f : Addr} {args : Args} {binds : List (Str × Value)}
/-- a call in whose frame a raise is caught: all objects but the caller's frame stand -/
theorem call_turn {PP : Value → Shared → Prop} (B : Below A₀ base [] base) (F : Fr base L s.heap m) (X₀ : K.In base) (T : Top p loose mean mg mb base) (hA : A.frames = some [envOf cn cs L a ccd])
    (ho : K.lookup f = some ⟨oc, od, .func (fnOf name qual params body scope dV kV doc pm an cdv ct), osl⟩) (hcd : codeIn K cdv qual = true) (hroom : A.depth < recursionLimit)
    (hbind : BindsTo s (fnOf name qual params body scope dV kV doc pm an cdv ct) args binds) (hloc : ∀ y ∈ binds, scope.names.lookup y.1 = some .local)
    (h : ∀ L' h₁ b₂, Fr s.heap L' h₁ (fun y => binds.reverse.lookup y) → News s.heap L' h₁ [] → Below A b₂ [envOf cn cs L a ccd] s.heap → K.In s.heap → Top p loose mean mg mb s.heap → KtsDicts ([envOf cn cs L a ccd].filterMap (·.frame)) s.heap → K.In b₂ → Top p loose mean mg mb b₂ → (∀ b o, s.heap.get? b = some o → b ≠ L → b₂.get? b = some o) →
      wpAny (model prog w) (A.deeper (envOf qual scope L' f cdv)) (execs body (envOf qual scope L' f cdv))
        (fun fl s' => TurnEnd ([envOf cn cs L a ccd].filterMap (·.frame)) s.heap PP (match fl with | .ret v => v | _ => .none) s')
        (fun e s' => wpAny (model prog w) (A.deeper (envOf qual scope L' f cdv)) (leaving (envOf qual scope L' f cdv) e) (fun _ s'' => R (.error e) s'') (fun e' s'' => R (.error e') s'') s')
        { s with heap := h₁, toks := s.toks + binds.length })
    (hPP : ∀ v s', PP v s' → Fr base L s'.heap m → (∀ b o, s.heap.get? b = some o → b ≠ L → s'.heap.get? b = some o) → R (.ok (.ret v)) s')
    (hck : cs.kind = .function) (hco : scope.isCoroutine = false) (hgen : scope.isGenerator = false) (hk : scope.kind = .function)
    (hcell : ∀ x ∈ scope.names, x.2 ≠ .cell) : codeAny (model prog w) A (.call (.ref f) args) R s := by
  have X := X₀.keeps F.keep
  refine codeAny_call_def (fd := fnOf name qual params body scope dV kV doc pm an cdv ct) (body := body) (binds := binds) hroom (X _ _ ho) rfl (T.nolimit.keeps F.keep) (codeRec_of X hcd) rfl hbind hcell hloc (fun h₁ hns hk₁ => ?_) hco hgen hk
  obtain ⟨oL, es, ep, hLg, hLd, hN, hNs, st, B₂⟩ := kts_enter B F (News.nil : News base L s.heap []) hA hck
  have nL₁ : base.get? L = none := kts_self F
  have hLh : s.heap.get? L = some oL := hLg
  have keep₂ : ∀ b o, s.heap.get? b = some o → b ≠ L → (hideAll s.heap [L]).get? b = some o := fun b o e ne => hideAll_get _ e (by simpa using ne)
  have st₂ : base.StaysIn (hideAll s.heap [L]) := fun b o e => keep₂ b o (st b o e) (fun q => by rw [q, nL₁] at e; cases e)
  have B₃ : Below A (hideAll s.heap [L]) [envOf cn cs L a ccd] s.heap := ⟨hA, fun b o e => of_hideAll _ e, ⟨by show cs.kind ≠ .module; rw [hck]; decide, ⟨L, oL, rfl, hideAll_none _ (.head _), hLh, fun vs q => by rw [hLd] at q; cases q⟩, trivial⟩⟩
  refine wpAny_mono (h s.heap.objs.size h₁ (hideAll s.heap [L]) ⟨hns, hk₁, Nat.le_refl _⟩ News.nil B₃ (X₀.keeps st) (T.keeps st) (fun b hb => by
      rcases kts_mem hb with rfl | z
      · exact ⟨oL, es, ep, hLg, hLd⟩
      · simp at z) (X₀.keeps st₂) (T.keeps st₂) keep₂) (fun fl s' hl => ?_) fun _ _ y => y
  obtain ⟨g', L2, m2, T', F', k⟩ := hl
  have nL₀ : base.get? L = none := kts_self F
  obtain ⟨sl, hs⟩ := T'.up hLg
  have keep : ∀ b o, s.heap.get? b = some o → b ≠ L → s'.heap.get? b = some o := fun b o e ne => F'.keep b o (T'.other b o e (fun q => by
    rcases kts_mem q with z | z
    · exact ne z
    · simp at z))
  exact hPP _ _ k ⟨hNs sl _ (F'.keep _ _ hs), fun b o e => keep b o (st b o e) (fun q => by rw [q, nL₀] at e; cases e), F.above⟩ keep
end
end Mine

namespace Mine
theorem refused {w : World} {base : Heap} {loose : List Str} {mean : ExcName → Option Value} {mg mb : Str → Option Value} (KX : (hd.heap_39 w.params).In base) (T : Top hd.view_39 loose mean mg mb base) (K0 : Below callerA base [] base)
    (s : Shared) (m : Str → Option Value) (L a x80 x : Addr) (yv ccd : Value) (cn : Str) (cs : Scope) (A e3 b4 p : Int) (t1 t2 t3 t4 tp : Tok) (hck : cs.kind = .function) (hA : A ≠ 0) (F : Fr base L s.heap m) (hT1 : s.heap.IsTuple x80 #[.ref x, yv]) (hT2 : s.heap.IsTuple x #[.int 1 t1, .int A t2, .int e3 t3, .int b4 t4])
    (Q E : Value → Shared → Prop) (hQ : ∀ h'' tk'', Fr base L h'' m → (∀ b o, s.heap.get? b = some o → b ≠ L → h''.get? b = some o) → Q (.bool true) { s with heap := h'', toks := tk'' }) :
    wpAny (model PySem.Challenge.rw_aj5019_01.row.prog w) (callerA.deeper (envOf cn cs L a ccd)) (call (.ref 337) [.ref x80, .int p tp]) Q E s := by
  revert KX
  k_fill
  intro KX
  have ne : ∀ b its, s.heap.IsTuple b its → b ≠ L := by
    rintro b its ⟨o, e, c, n, d⟩ rfl
    obtain ⟨oL, es, ep, hL, hd, _⟩ := F.ns
    rw [hL] at e
    cases e
    rw [hd] at d
    cases d
  have ne1 := ne _ _ hT1
  have ne2 := ne _ _ hT2
  refine wpAny_call (call_turn (PP := fun v s' => v = .bool true ∧ ∃ tk, s' = { s with heap := s'.heap, toks := tk }) (binds := [(Str.ofString "s", .ref x80), (Str.ofString "prec", .int p tp)]) K0 F KX T rfl rfl (by kernel_rfl) (by show 1 + claimMargin + 1 < recursionLimit; decide) (BindsTo.of_eq rfl) (by intro y hy; simp only [List.mem_cons, List.not_mem_nil, or_false] at hy; rcases hy with rfl | rfl <;> rfl) (fun L' h₁ b₂ F' N' B' X' T' D' X₂ T₂ k₂ => ?_) ?_ hck rfl rfl rfl (by decide))
  · have I1 : IsTup b₂ x80 #[.ref x, yv] := let ⟨o, e, r⟩ := hT1; ⟨o, k₂ _ _ e ne1, r⟩
    have I2 : IsTup b₂ x #[.int 1 t1, .int A t2, .int e3 t3, .int b4 t4] := let ⟨o, e, r⟩ := hT2; ⟨o, k₂ _ _ e ne2, r⟩
    have I3 : IsTup s.heap x80 #[.ref x, yv] := hT1
    have I4 : IsTup s.heap x #[.int 1 t1, .int A t2, .int e3 t3, .int b4 t4] := hT2
    clear hT1 hT2 ne1 ne2 ne k₂
    clear hQ F K0 KX T
    k_steps
    exact ⟨_, _, _, by assumption, by assumption, rfl, _, rfl⟩
  · rintro v s' ⟨rfl, tk, e⟩ F'' keep
    rw [e]
    exact hQ _ _ F'' keep
end Mine

namespace Mine
section
variable {prog : Program} {w : World} {base : Heap} {ids : List Str} {gl : Str → Option GI} {C : CallW} {dp : Nat} {env : Env} {ρ : MEnv}
theorem call_custom {f : Str} {a : Addr} {e : Expr} {r : List Expr} {ml : List ME} {p pos : Pos} (G : Gd prog w base gl) (hs : (e :: r).any isStar = false) (hd : (f == ("__debug__" : Str)) = false)
    (hg : glAt gl env.scope f = some (.fn a)) (h : SL prog w base ids C dp env (e :: r) ml ρ) {kk : List PyData → Prop} (hW : Ws C ml ρ kk) {A : Around} {s : Shared} {Q E : Value → Shared → Prop} (hR : Room A dp) (hF : FrE base ids env s.heap ρ)
    (hQ : ∀ vs ds h' tk, kk ds → Kp s.heap h' → RA h' vs ds → wpAny (model prog w) A (call (.ref a) vs) Q E { s with heap := h', toks := tk }) :
    wpAny (model prog w) A (eval (.Call (.Name f p) (e :: r) [] pos) env) Q E s := by
  obtain ⟨hl, hg'⟩ := glAt_some hg
  obtain ⟨hn, o, fd, ho, hdat⟩ := G.fn _ _ hg'
  refine wpAny_Call_Name_kw (glob_name (ρ := ρ) hd hl hn hF ?_)
  have hs' := hs
  rw [List.any_cons, Bool.or_eq_false_iff] at hs'
  refine callWith_def hdat ?_ (star_cons hs'.1)
  refine h _ hW A s pos _ _ hR hF fun vs ds h' tk hk kp r => ⟨kp _ _ (hF.stays _ _ ho), ?_⟩
  exact hQ vs ds h' tk hk kp r
theorem R_sprd {h : Heap} {v : Value} {A D : Nat} {nD : Bool} (hA : A ≠ 0) (r : R h v (sprd true A nD D)) :
    ∃ (x80 x : Addr) (yv : Value) (A2 e3 b4 : Int) (t1 t2 t3 t4 : Tok), v = .ref x80 ∧ A2 ≠ 0 ∧ h.IsTuple x80 #[.ref x, yv] ∧ h.IsTuple x #[.int 1 t1, .int A2 t2, .int e3 t3, .int b4 t4] := by
  unfold sprd at r
  rw [enc_pos hA] at r
  have ho := od_ne hA
  cases r with
  | tup i ra =>
    cases ra with
    | cons r1 ra =>
      cases ra with
      | cons r2 ra =>
        cases ra
        cases r1 with
        | tup i1 ra1 =>
          cases ra1 with
          | cons q1 ra1 =>
            cases ra1 with
            | cons q2 ra1 =>
              cases ra1 with
              | cons q3 ra1 =>
                cases ra1 with
                | cons q4 ra1 =>
                  cases ra1
                  cases q1
                  cases q2
                  cases q3
                  cases q4
                  exact ⟨_, _, _, _, _, _, _, _, _, _, rfl, by omega, i, i1⟩
theorem seq_of_turn {h h' : Heap} {L : Addr} {m : Str → Option Value} (n : h.Ns L m) (k : ∀ b o, h.get? b = some o → b ≠ L → h'.get? b = some o) : SeqKeeps h h' :=
  seq_of_ns n fun b o ne e => k b o e ne
end
theorem law_end {w : World} {base : Heap} {loose : List Str} {mean : ExcName → Option Value} {mg mb : Str → Option Value} {C : CallW} (KX : (hd.heap_39 w.params).In base) (T : Top hd.view_39 loose mean mg mb base) (K0 : Below callerA base [] base)
    (G : Gd PySem.Challenge.rw_aj5019_01.row.prog w base gl) (hC : COk PySem.Challenge.rw_aj5019_01.row.prog w base C 9) (S : Sps C)
    {cn f : Str} {cs : Scope} {a : Addr} {ccd : Value} {e1 e2 e3 e4 : Expr} {p1 p2 pos1 pos2 bpos rpos : Pos} {s : Shared} {Q : Flow → Shared → Prop} {E : Value → Shared → Prop} {ρ : MEnv}
    (hE1 : cE ids gl 12 cs e1 = .v 80) (hE2 : cE ids gl 12 cs e2 = .v 8) (hE4 : cE ids gl 12 cs e4 = .v 8)
    (hE3 : cE ids gl 12 cs e3 = .call 224 [(.tup [(.idx (.v 11) (.k (.int 1))), (.call 283 [(.bin .add (.bin .mul (.k (.int 2)) (.v 59)) (.k (.int 1))), (.v 52)])])])
    (s12 : [e1, e2].any isStar = false) (s34 : [e3, e4].any isStar = false) (hg : glAt gl cs f = some (.fn 337)) (hd' : (f == ("__debug__" : Str)) = false) (hck : cs.kind = .function)
    (hF : FrS base ids base (envOf cn cs base.objs.size a ccd) s.heap ρ)
    {p h a' b A D : Nat} {e : Int} {nD : Bool} (c3 : A ≠ 0) (c4 : h ≤ 2 ^ 25) (c5 : -12 ≤ e) (c6 : e ≤ 12) (c7 : lk ρ 80 = some (sprd true A nD D)) (c8 : lk ρ 8 = some (.int p)) (c9 : lk ρ 11 = some (pr a' b)) (c10 : lk ρ 59 = some (.int h)) (c11 : lk ρ 52 = some (.int e))
    (hQ : ∀ h' tk m, Fr base base.objs.size h' m → Q (.ret (.bool true)) { s with heap := h', toks := tk }) :
    wpAny (model PySem.Challenge.rw_aj5019_01.row.prog w) (callerA.deeper (envOf cn cs base.objs.size a ccd)) (execs [.Return (some (.BoolOp .And [.Call (.Name f p1) [e1, e2] [] pos1, .Call (.Name f p2) [e3, e4] [] pos2] bpos)) rpos] (envOf cn cs base.objs.size a ccd)) Q E s := by
  have hR := room_law (envOf cn cs base.objs.size a ccd)
  have rInt : ∀ {h : Heap} {v : Value} {i : Int}, R h v (.int i) → ∃ t, v = .int i t := by
    intro h v i r
    cases r
    exact ⟨_, rfl⟩
  refine wpAny_execs_cons (wpAny_Return_some (BoolOp_and ?_))
  have sl1 := SL.mk (prog := PySem.Challenge.rw_aj5019_01.row.prog) (w := w) (base := base) (ids := ids) (C := C) (dp := 9) (env := envOf cn cs base.objs.size a ccd) (ρ := ρ) [e1, e2] (cE ids gl 12 cs) s12 (fun x _ => sound_E G hC 12 _ x ρ)
  refine call_custom (kk := fun ds => ds = [sprd true A nD D, .int p]) G s12 hd' hg sl1 ?_ hR hF.f ?_
  · rw [List.map_cons, List.map_cons, List.map_nil, hE1, hE2]
    simp only [Ws, W, c7, c8, v_gv]
  · rintro vs ds h1 tk1 rfl kp1 ra1
    cases ra1 with
    | cons r1 ra1 =>
    cases ra1 with
    | cons r2 ra1 =>
    cases ra1
    obtain ⟨x80, x, yv, A2, e3', b4, t1, t2, t3, t4, rfl, hA2, i1, i2⟩ := R_sprd c3 r1
    obtain ⟨tp, rfl⟩ := rInt r2
    obtain ⟨m, hns, hEnv⟩ := (hF.f.mono kp1).ns
    have F1 : Fr base base.objs.size h1 m := ⟨hns, hF.keep.trans kp1, Nat.le_refl _⟩
    refine refused KX T K0 { s with heap := h1, toks := tk1 } m base.objs.size a x80 x yv ccd cn cs A2 e3' b4 p t1 t2 t3 t4 tp hck hA2 F1 i1 i2 _ _ (fun h2 tk2 F2 keep2 => ?_)
    refine truthy_sound (T := True) (F := False) (.bool true) ⟨fun _ => trivial, fun h => by cases h⟩ (fun _ => ?_) (fun h => h.elim)
    rw [if_pos rfl]
    refine BoolOp_one ?_
    have sq := seq_of_turn hns keep2
    have hF2 : FrE base ids (envOf cn cs base.objs.size a ccd) h2 ρ := ⟨hF.f.kind, hF.f.gl, hF.f.bu, F2.keep, m, F2.ns, hEnv.mono sq⟩
    have sl2 := SL.mk (prog := PySem.Challenge.rw_aj5019_01.row.prog) (w := w) (base := base) (ids := ids) (C := C) (dp := 9) (env := envOf cn cs base.objs.size a ccd) (ρ := ρ) [e3, e4] (cE ids gl 12 cs) s34 (fun x _ => sound_E G hC 12 _ x ρ)
    refine call_custom (kk := fun ds => ∃ A D, A ≠ 0 ∧ ds = [sprd true A true D, .int p]) G s34 hd' hg sl2 ?_ hR hF2 ?_
    · rw [List.map_cons, List.map_cons, List.map_nil, hE3, hE4]
      rw [Ws]
      refine neg_pure C S ρ p h a' b e c4 c5 c6 c9 c10 c11 _ fun A D hA => ?_
      simp only [Ws, W, c8, v_gv]
      exact ⟨A, D, hA, rfl⟩
    · rintro vs ds h3 tk3 ⟨A3, D3, hA3, rfl⟩ kp3 ra3
      cases ra3 with
      | cons r1 ra1 =>
      cases ra1 with
      | cons r2 ra1 =>
      cases ra1
      obtain ⟨y80, y, zv, A4, e5, b5, u1, u2, u3, u4, rfl, hA4, j1, j2⟩ := R_sprd hA3 r1
      obtain ⟨tq, rfl⟩ := rInt r2
      have F3 : Fr base base.objs.size h3 m := ⟨F2.ns.keeps kp3, fun b o e => kp3 b o (F2.keep b o e), Nat.le_refl _⟩
      refine refused KX T K0 { s with heap := h3, toks := tk3 } m base.objs.size a y80 y zv ccd cn cs A4 e5 b5 p u1 u2 u3 u4 tq hck hA4 F3 j1 j2 _ _ (fun h4 tk4 F4 keep4 => ?_)
      exact hQ h4 tk4 m F4
end Mine

namespace Mine
theorem walked : PySem.Challenge.rw_aj5019_01.Holds := hd (by
  k_go0
  have KX := ‹(hd.heap_39 _).In _›
  have T := ‹Top _ _ _ _ _ _›
  have F := ‹Fr _ _ _ _›
  have K0 := ‹Below callerA _ [] _›
  have G := gd (prog := PySem.Challenge.rw_aj5019_01.row.prog) KX T.g T.b T.builtins
  have hC := sound_calls G Mine.T (fnOk KX) T.nolimit (0 + 9)
  refine law_split (ids := ids) (last := ?last) G hC (sps 0) ?hR ?hb ?hm ?k1 ?k2 ?k3 F ?hf ?hs ?hi (by assumption) (by assumption) ?hlen (by assumption) ?K
  case hR => exact room_law _
  case hb => rfl
  case hm => kernel_rfl
  case k1 => rfl
  case k2 => rfl
  case k3 => rfl
  case hf => exact fresh_size _
  case hs => rfl
  case hi => kernel_rfl
  case hlen => omega
  case K =>
    intro ρ p h a b A' D e nD h' tk c1 c2 c3 c4 c5 c6 c7 c8 c9 c10 c11 hF
    refine law_end KX T K0 G hC (sps 0) ?_ ?_ ?_ ?_ ?_ ?_ ?_ ?_ ?_ hF c3 c4 c5 c6 c7 c8 c9 c10 c11 ?_
    · kernel_rfl
    · kernel_rfl
    · kernel_rfl
    · kernel_rfl
    · rfl
    · rfl
    · kernel_rfl
    · rfl
    · rfl
    · clear G hC hF c3 c4 c5 c6 c7 c8 c9 c10 c11 F
      intro h4 tk4 m F4
      k_steps)
end Mine

theorem PySem.Challenge.cw_aj5019_01_holds : PySem.Challenge.rw_aj5019_01.Holds :=
  Mine.walked
